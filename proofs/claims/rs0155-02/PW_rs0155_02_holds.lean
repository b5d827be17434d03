import PyProof.Rows.All
import Wide.All
import OpenK.AllK
import Wide.FinOn
import Lean
import PySem.Challenge.RW_rs0155_02
set_option Elab.async false
set_option maxRecDepth 100000
section
namespace Mine
open PySem

/-- plain data -/
inductive D where
  | none
  | bool (b : Bool)
  | int (i : Int)
  | float (x : UInt64)
  | str (s : Str)
  | list (l : List D)
  | tuple (l : List D)
  | rng (a b : Int)
  | sdict (l : List (Str × Int))
  | isdict (l : List (Int × Str))
  | iidict (l : List (Int × Int))

/-- which float a token stands for -/
abbrev Tm := Tok → Option UInt64
def TLe (T T' : Tm) : Prop := ∀ t x, T t = some x → T' t = some x
def TB (T : Tm) (n : Nat) : Prop := 0 < n ∧ ∀ t x, T t = some x → t ≠ 0 ∧ t < n
theorem TLe.refl (T : Tm) : TLe T T := fun _ _ e => e
theorem TLe.trans {T T' T'' : Tm} (a : TLe T T') (b : TLe T' T'') : TLe T T'' := fun t x e => b t x (a t x e)
theorem TB.mono {T : Tm} {n m : Nat} (a : TB T n) (b : n ≤ m) : TB T m := ⟨Nat.lt_of_lt_of_le a.1 b, fun t x e => ⟨(a.2 t x e).1, Nat.lt_of_lt_of_le (a.2 t x e).2 b⟩⟩

abbrev Kp (h h' : Heap) : Prop := ∀ b o, h.get? b = some o → h'.get? b = some o
/-- all objects but those of W are kept -/
abbrev KpB (W : Addr → Prop) (h h' : Heap) : Prop := ∀ b o, ¬ W b → h.get? b = some o → h'.get? b = some o

section
variable (prog : Program) (w : World) (W : Addr → Prop) (T : Tm) (h : Heap)
mutual
inductive Rep : Value → D → Prop
  | none : Rep .none .none
  | bool (b) : Rep (.bool b) (.bool b)
  | int (i t) : Rep (.int i t) (.int i)
  | float {x t} : T t = some x → Rep (.float x t) (.float x)
  | str (x t) : Rep (.str x t) (.str x)
  | list {a vs ds} : ¬ W a → h.PlainList a vs → Reps vs.toList ds → Rep (.ref a) (.list ds)
  | tuple {a vs ds} : ¬ W a → h.IsTuple a vs → Reps vs.toList ds → Rep (.ref a) (.tuple ds)
  | rng {a x y t u v} : ¬ W a → IsRange h a x y 1 t u v → Rep (.ref a) (.rng x y)
  | sdict {a f l} : ¬ W a → (a == sysModules) = false → h.MapOf (strKind prog w) a f → (∀ k : Str, (l.lookup k = Option.none → f k = Option.none) ∧ ∀ i, l.lookup k = some i → ∃ t, f k = some (.int i t)) → Rep (.ref a) (.sdict l)
  | isdict {a f l} : ¬ W a → (a == sysModules) = false → h.MapOf (intKind prog w) a f → (∀ k : Int, (l.lookup k = Option.none → f k = Option.none) ∧ ∀ i, l.lookup k = some i → ∃ t, f k = some (.str i t)) → Rep (.ref a) (.isdict l)
  | iidict {a kvs l} : ¬ W a → (a == sysModules) = false → h.DictOf (intKind prog w) a kvs → kvs.length = l.length → (∀ k : Int, (l.lookup k = Option.none → valueAt kvs k = Option.none) ∧ ∀ i, l.lookup k = some i → ∃ t, valueAt kvs k = some (.int i t)) → Rep (.ref a) (.iidict l)
inductive Reps : List Value → List D → Prop
  | nil : Reps [] []
  | cons {v vs d ds} : Rep v d → Reps vs ds → Reps (v :: vs) (d :: ds)
end
end

variable {prog : Program} {w : World} {W W' : Addr → Prop} {T T' : Tm} {h h' : Heap}

theorem PlainList.kp {a : Addr} {vs : Array Value} (x : h.PlainList a vs) (k : ∀ o, h.get? a = some o → h'.get? a = some o) : h'.PlainList a vs := x.at k
theorem MapOf.kp {K : Type} [DecidableEq K] {knd : KeyKind prog w K} {a : Addr} {f} (x : h.MapOf knd a f) (k : ∀ o, h.get? a = some o → h'.get? a = some o) : h'.MapOf knd a f :=
  let ⟨o, es, ep, ho, r⟩ := x; ⟨o, es, ep, k o ho, r⟩
theorem DictOf.kp {K : Type} [DecidableEq K] {knd : KeyKind prog w K} {a : Addr} {kvs} (x : h.DictOf knd a kvs) (k : ∀ o, h.get? a = some o → h'.get? a = some o) : h'.DictOf knd a kvs :=
  let ⟨o, es, ep, ho, r⟩ := x; ⟨o, es, ep, k o ho, r⟩

mutual
theorem Rep.kp (k : KpB W h h') : ∀ {v : Value} {d : D}, Rep prog w W T h v d → Rep prog w W T h' v d
  | _, _, .none => .none
  | _, _, .bool b => .bool b
  | _, _, .int i t => .int i t
  | _, _, .float q => .float q
  | _, _, .str i t => .str i t
  | _, _, .list hw hl hr => .list hw (hl.at fun o e => k _ o hw e) (Reps.kp k hr)
  | _, _, .tuple hw hl hr => .tuple hw (let ⟨o, ho, r⟩ := hl; ⟨o, k _ o hw ho, r⟩) (Reps.kp k hr)
  | _, _, .rng hw hl => .rng hw (k _ _ hw hl)
  | _, _, .sdict hw hs hm hf => .sdict hw hs (MapOf.kp hm fun o e => k _ o hw e) hf
  | _, _, .isdict hw hs hm hf => .isdict hw hs (MapOf.kp hm fun o e => k _ o hw e) hf
  | _, _, .iidict hw hs hm hl hf => .iidict hw hs (DictOf.kp hm fun o e => k _ o hw e) hl hf
theorem Reps.kp (k : KpB W h h') : ∀ {vs : List Value} {ds : List D}, Reps prog w W T h vs ds → Reps prog w W T h' vs ds
  | _, _, .nil => .nil
  | _, _, .cons a b => .cons (Rep.kp k a) (Reps.kp k b)
end

mutual
theorem Rep.anti (k : ∀ a, W' a → W a ∨ h.get? a = Option.none) : ∀ {v : Value} {d : D}, Rep prog w W T h v d → Rep prog w W' T h v d
  | _, _, .none => .none
  | _, _, .bool b => .bool b
  | _, _, .int i t => .int i t
  | _, _, .float q => .float q
  | _, _, .str i t => .str i t
  | _, _, .list hw hl hr => .list (fun q => (k _ q).elim hw fun e => by obtain ⟨n, e'⟩ := hl; rw [e] at e'; cases e') hl (Reps.anti k hr)
  | _, _, .tuple hw hl hr => .tuple (fun q => (k _ q).elim hw fun e => by obtain ⟨n, e', _⟩ := hl; rw [e] at e'; cases e') hl (Reps.anti k hr)
  | _, _, .rng hw hl => .rng (fun q => (k _ q).elim hw fun e => by have e' : h.get? _ = some _ := hl; rw [e] at e'; cases e') hl
  | _, _, .sdict hw hs hm hf => .sdict (fun q => (k _ q).elim hw fun e => by obtain ⟨_, _, _, e', _⟩ := hm; rw [e] at e'; cases e') hs hm hf
  | _, _, .isdict hw hs hm hf => .isdict (fun q => (k _ q).elim hw fun e => by obtain ⟨_, _, _, e', _⟩ := hm; rw [e] at e'; cases e') hs hm hf
  | _, _, .iidict hw hs hm hl hf => .iidict (fun q => (k _ q).elim hw fun e => by obtain ⟨_, _, _, e', _⟩ := hm; rw [e] at e'; cases e') hs hm hl hf
theorem Reps.anti (k : ∀ a, W' a → W a ∨ h.get? a = Option.none) : ∀ {vs : List Value} {ds : List D}, Reps prog w W T h vs ds → Reps prog w W' T h vs ds
  | _, _, .nil => .nil
  | _, _, .cons a b => .cons (Rep.anti k a) (Reps.anti k b)
end

mutual
theorem Rep.tm (k : TLe T T') : ∀ {v : Value} {d : D}, Rep prog w W T h v d → Rep prog w W T' h v d
  | _, _, .none => .none
  | _, _, .bool b => .bool b
  | _, _, .int i t => .int i t
  | _, _, .float q => .float (k _ _ q)
  | _, _, .str i t => .str i t
  | _, _, .list hw hl hr => .list hw hl (Reps.tm k hr)
  | _, _, .tuple hw hl hr => .tuple hw hl (Reps.tm k hr)
  | _, _, .rng hw hl => .rng hw hl
  | _, _, .sdict hw hs hm hf => .sdict hw hs hm hf
  | _, _, .isdict hw hs hm hf => .isdict hw hs hm hf
  | _, _, .iidict hw hs hm hl hf => .iidict hw hs hm hl hf
theorem Reps.tm (k : TLe T T') : ∀ {vs : List Value} {ds : List D}, Reps prog w W T h vs ds → Reps prog w W T' h vs ds
  | _, _, .nil => .nil
  | _, _, .cons a b => .cons (Rep.tm k a) (Reps.tm k b)
end

theorem Reps.length : ∀ {vs : List Value} {ds : List D}, Reps prog w W T h vs ds → vs.length = ds.length
  | _, _, .nil => rfl
  | _, _, .cons _ b => by simp [Reps.length b]
theorem Reps.get : ∀ {vs : List Value} {ds : List D}, Reps prog w W T h vs ds → ∀ (i : Nat) (d : D), ds[i]? = some d → ∃ v, vs[i]? = some v ∧ Rep prog w W T h v d
  | _, _, .nil, i, d, e => by simp at e
  | _, _, .cons a b, 0, d, e => by simp at e; subst e; exact ⟨_, rfl, a⟩
  | _, _, .cons a b, i + 1, d, e => by simpa using Reps.get b i d (by simpa using e)
theorem Reps.get' : ∀ {vs : List Value} {ds : List D}, Reps prog w W T h vs ds → ∀ (i : Nat) (v : Value), vs[i]? = some v → ∃ d, ds[i]? = some d ∧ Rep prog w W T h v d
  | _, _, .nil, i, d, e => by simp at e
  | _, _, .cons a b, 0, d, e => by simp at e; subst e; exact ⟨_, rfl, a⟩
  | _, _, .cons a b, i + 1, d, e => by simpa using Reps.get' b i d (by simpa using e)
theorem Reps.append : ∀ {vs vs' : List Value} {ds ds' : List D}, Reps prog w W T h vs ds → Reps prog w W T h vs' ds' → Reps prog w W T h (vs ++ vs') (ds ++ ds')
  | _, _, _, _, .nil, x => x
  | _, _, _, _, .cons a b, x => .cons a (Reps.append b x)
theorem Reps.snoc {vs : List Value} {ds : List D} {v : Value} {d : D} (x : Reps prog w W T h vs ds) (y : Rep prog w W T h v d) : Reps prog w W T h (vs ++ [v]) (ds ++ [d]) := x.append (.cons y .nil)
theorem Reps.drop : ∀ {vs : List Value} {ds : List D} (n : Nat), Reps prog w W T h vs ds → Reps prog w W T h (vs.drop n) (ds.drop n)
  | _, _, 0, x => x
  | _, _, n + 1, .nil => by simpa using Reps.nil
  | _, _, n + 1, .cons a b => by simpa using Reps.drop n b
theorem Reps.take : ∀ {vs : List Value} {ds : List D} (n : Nat), Reps prog w W T h vs ds → Reps prog w W T h (vs.take n) (ds.take n)
  | _, _, 0, x => by simpa using Reps.nil
  | _, _, n + 1, .nil => by simpa using Reps.nil
  | _, _, n + 1, .cons a b => by simpa using Reps.cons a (Reps.take n b)
theorem Reps.reverse : ∀ {vs : List Value} {ds : List D}, Reps prog w W T h vs ds → Reps prog w W T h vs.reverse ds.reverse
  | _, _, .nil => .nil
  | _, _, .cons a b => by simpa using Reps.snoc (Reps.reverse b) a

/-- the dict's facts -/
def IIAt (prog : Program) (w : World) (h : Heap) (a : Addr) (l : List (Int × Int)) : Prop :=
  (a == sysModules) = false ∧ ∃ kvs, h.DictOf (intKind prog w) a kvs ∧ kvs.length = l.length ∧ (∀ k : Int, (l.lookup k = Option.none → valueAt kvs k = Option.none) ∧ ∀ i, l.lookup k = some i → ∃ t, valueAt kvs k = some (.int i t))
theorem IIAt.kp {a : Addr} {l} (x : IIAt prog w h a l) (k : ∀ o, h.get? a = some o → h'.get? a = some o) : IIAt prog w h' a l :=
  let ⟨hs, kvs, hd, r⟩ := x; ⟨hs, kvs, DictOf.kp hd k, r⟩

/-- the top's own place may lie in W -/
inductive RepT (prog : Program) (w : World) (W : Addr → Prop) (T : Tm) (h : Heap) : Value → D → Prop
  | of {v d} : Rep prog w W T h v d → RepT prog w W T h v d
  | list {a vs ds} : h.PlainList a vs → Reps prog w W T h vs.toList ds → RepT prog w W T h (.ref a) (.list ds)
  | iidict {a l} : IIAt prog w h a l → RepT prog w W T h (.ref a) (.iidict l)

theorem RepT.list_inv {v : Value} {ds : List D} (x : RepT prog w W T h v (.list ds)) : ∃ a vs, v = .ref a ∧ h.PlainList a vs ∧ Reps prog w W T h vs.toList ds := by
  cases x with
  | of x => cases x with | list hw hl hr => exact ⟨_, _, rfl, hl, hr⟩
  | list hl hr => exact ⟨_, _, rfl, hl, hr⟩
theorem RepT.iidict_inv {v : Value} {l} (x : RepT prog w W T h v (.iidict l)) : ∃ a, v = .ref a ∧ IIAt prog w h a l := by
  cases x with
  | of x => cases x with | iidict hw hs hm hl hf => exact ⟨_, rfl, hs, _, hm, hl, hf⟩
  | iidict hl => exact ⟨_, rfl, hl⟩
theorem RepT.rest {v : Value} {d : D} (x : RepT prog w W T h v d) (h1 : ∀ l, d ≠ .list l) (h2 : ∀ l, d ≠ .iidict l) : Rep prog w W T h v d := by
  cases x with
  | of x => exact x
  | list _ _ => exact absurd rfl (h1 _)
  | iidict _ => exact absurd rfl (h2 _)

theorem kRefl (s : Shared) : Keeps s s := ⟨s.heap, s.toks, rfl, fun _ _ e => e⟩
theorem kTrans {s s' s'' : Shared} (a : Keeps s s') (b : Keeps s' s'') : Keeps s s'' := by
  obtain ⟨h1, t1, rfl, k1⟩ := a
  obtain ⟨h2, t2, rfl, k2⟩ := b
  exact ⟨h2, t2, rfl, fun b o e => k2 b o (k1 b o e)⟩
theorem kKp {s s' : Shared} (a : Keeps s s') : Kp s.heap s'.heap := by
  obtain ⟨h1, t1, rfl, k1⟩ := a
  exact k1
theorem kTok {s : Shared} {t : Nat} : Keeps s { s with toks := t } := ⟨s.heap, t, rfl, fun _ _ e => e⟩
theorem kPush {s : Shared} {o : Obj} : Keeps s { s with heap := s.heap.push o } := ⟨_, s.toks, rfl, fun _ _ e => Heap.get?_push_of_some _ e⟩
theorem get_size (h : Heap) : h.get? h.objs.size = Option.none := by
  cases e : h.get? h.objs.size with
  | none => rfl
  | some o => exact absurd (Heap.lt_size e) (Nat.lt_irrefl _)

theorem Rep.keeps {s s' : Shared} {v : Value} {d : D} (x : Rep prog w W T s.heap v d) (k : Keeps s s') : Rep prog w W T s'.heap v d := x.kp fun b o _ e => kKp k b o e
theorem Reps.keeps {s s' : Shared} {v : List Value} {d : List D} (x : Reps prog w W T s.heap v d) (k : Keeps s s') : Reps prog w W T s'.heap v d := x.kp fun b o _ e => kKp k b o e
theorem RepT.keeps {s s' : Shared} {v : Value} {d : D} (x : RepT prog w W T s.heap v d) (k : Keeps s s') : RepT prog w W T s'.heap v d := by
  cases x with
  | of x => exact .of (x.keeps k)
  | list a b => exact .list (a.at fun o e => kKp k _ o e) (b.keeps k)
  | iidict a => exact .iidict (a.kp fun o e => kKp k _ o e)
theorem RepT.tm {v : Value} {d : D} (k : TLe T T') (x : RepT prog w W T h v d) : RepT prog w W T' h v d := by
  cases x with
  | of x => exact .of (x.tm k)
  | list a b => exact .list a (b.tm k)
  | iidict a => exact .iidict a

end Mine
end
section
namespace Mine
open PySem

/-- the interpreter's state: the block's table of names, the bound names, the one name whose list or dict the frame may still change -/
structure St where
  names : List (Str × NameKind)
  vars : List (Str × D)
  own : Option Str

structure Fn where
  params : Arguments
  body : List Stmt
  scope : Scope

structure PI where
  fns : Str → Option Fn
  consts : Str → Option D

def put : List (Str × D) → Str → D → List (Str × D)
  | [], x, d => [(x, d)]
  | (y, e) :: r, x, d => if y = x then (x, d) :: r else (y, e) :: put r x d

def mapO {α β : Type} (f : α → Option β) : List α → Option (List β)
  | [] => some []
  | a :: r => (f a).bind fun b => (mapO f r).bind fun bs => some (b :: bs)

def flatO {α β : Type} (f : α → Option (List β)) : List α → Option (List β)
  | [] => some []
  | a :: r => (f a).bind fun b => (flatO f r).bind fun bs => some (b ++ bs)

def truthD : D → Option Bool
  | .bool b => some b
  | .str s => if s.length ≤ 2 ^ 20 then some (s.length != 0) else none
  | _ => none

def constD : Const → Option D
  | .none => some .none
  | .bool b => some (.bool b)
  | .int i => some (.int i)
  | .float x => some (.float x)
  | .str s => some (.str s)
  | _ => none

def intsO : List D → Option (List Int)
  | [] => some []
  | .int i :: r => (intsO r).bind fun is => some (i :: is)
  | _ => none
def strsO : List D → Option (List Str)
  | [] => some []
  | .str i :: r => (strsO r).bind fun is => some (i :: is)
  | _ => none

/-- Python's == on data, to a depth -/
def allPairs (f : D → D → Option Bool) : List D → List D → Option Bool
  | [], [] => some true
  | a :: r, b :: t => (f a b).bind fun x => (allPairs f r t).bind fun y => some (x && y)
  | _, _ => some false

def numEq : D → D → Option Bool
  | .float x, .float y => if Float64.isNaN x then none else some (Float64.cmp x y == some .eq)
  | .float x, .int i => some (Float64.cmpInt x i == some .eq)
  | _, _ => none

def eqD : Nat → D → D → Option Bool
  | 0, _, _ => none
  | n + 1, a, b => match a, b with
    | .none, .none => some true
    | .bool x, .bool y => some (x == y)
    | .int x, .int y => some (x == y)
    | .str x, .str y => some (x == y)
    | .int _, .str _ => some false
    | .str _, .int _ => some false
    | .list xs, .list ys => if xs.length = ys.length then allPairs (eqD n) xs ys else some false
    | .tuple xs, .tuple ys => if xs.length = ys.length then allPairs (eqD n) xs ys else none
    | .float x, .float y => numEq (.float x) (.float y)
    | .float x, .int y => numEq (.float x) (.int y)
    | _, _ => none

def small (i : Int) : Bool := decide (i.natAbs < 2 ^ 62)

def fdivO (a b : UInt64) : Option D := if Float64.isZero b then none else some (.float (Float64.div a b))

def binD (op : Operator) (a b : D) : Option D :=
  match op, a, b with
  | .Add, .int x, .int y => some (.int (x + y))
  | .Sub, .int x, .int y => some (.int (x - y))
  | .Mult, .int x, .int y => if small x && small y then some (.int (x * y)) else none
  | .FloorDiv, .int x, .int y => if y = 0 ∨ small y = false then none else some (.int (x.fdiv y))
  | .Mod, .int x, .int y => if y = 0 then none else some (.int (x.fmod y))
  | .Pow, .int x, .int y => if 0 ≤ y ∧ y ≤ 100 ∧ small x then some (.int (x ^ y.toNat)) else none
  | .LShift, .int x, .int y => if 0 ≤ y ∧ y ≤ 100 ∧ small x then some (.int (x * 2 ^ y.toNat)) else none
  | .BitXor, .int x, .int y => some (.int (Builtin.bitXor x y))
  | .Div, .int x, .int y => if y = 0 then none else if Float64.isInf (Float64.ofFrac (decide (x < 0) != decide (y < 0)) x.natAbs y.natAbs) then none else some (.float (Float64.ofFrac (decide (x < 0) != decide (y < 0)) x.natAbs y.natAbs))
  | .Add, .float x, .float y => some (.float (Float64.add x y))
  | .Sub, .float x, .float y => some (.float (Float64.sub x y))
  | .Mult, .float x, .float y => some (.float (Float64.mul x y))
  | .Div, .float x, .float y => fdivO x y
  | .Mod, .float x, .float y => if Float64.isZero y then none else some (.float ((Float64.divmod x y).2))
  | .Sub, .float x, .int y => if small y then some (.float (Float64.sub x (Float64.ofInt y))) else none
  | .Mult, .int x, .float y => if small x then some (.float (Float64.mul (Float64.ofInt x) y)) else none
  | .Add, .str x, .str y => if x.length + y.length ≤ 2 ^ 20 then some (.str (x ++ y)) else none
  | .Mult, .str x, .int y => if x.length = 1 ∧ 0 ≤ y ∧ y ≤ 100 then some (.str (Txt.mul x y)) else none
  | .Add, .list x, .list y => if x.length + y.length ≤ 2 ^ 20 then some (.list (x ++ y)) else none
  | _, _, _ => none

def cmpN (op : CmpOp) (o : Option Ordering) : Option Bool :=
  match op with
  | .Lt => some (o == some .lt)
  | .Gt => some (o == some .gt)
  | .LtE => some (o == some .lt || o == some .eq)
  | .GtE => some (o == some .gt || o == some .eq)
  | _ => none

def memD (d : D) (l : List D) : Option Bool := (mapO (fun y => eqD 6 y d) l).bind fun bs => some (bs.any id)

def cmpD (op : CmpOp) (a b : D) : Option Bool :=
  match op, a, b with
  | .Eq, a, b => eqD 8 a b
  | .NotEq, a, b => (eqD 8 a b).map (!·)
  | .Lt, .int x, .int y => some (decide (x < y))
  | .Gt, .int x, .int y => some (decide (y < x))
  | .LtE, .int x, .int y => some (decide (x ≤ y))
  | .GtE, .int x, .int y => some (decide (y ≤ x))
  | .Lt, .float x, .float y => cmpN .Lt (Float64.cmp x y)
  | .Gt, .float x, .float y => cmpN .Gt (Float64.cmp x y)
  | .LtE, .float x, .float y => cmpN .LtE (Float64.cmp x y)
  | .Gt, .float x, .int y => cmpN .Gt (Float64.cmpInt x y)
  | .In, .str x, .str y => some (Txt.contains y x)
  | .NotIn, .str x, .str y => some (!Txt.contains y x)
  | .In, .str x, .sdict l => some (l.lookup x).isSome
  | .In, d, .list l => memD d l
  | .In, d, .tuple l => memD d l
  | .NotIn, d, .list l => (memD d l).map (!·)
  | .Is, .bool x, .bool y => some (x == y)
  | .IsNot, .bool x, .bool y => some (!(x == y))
  | _, _, _ => none

def pick {α : Type} (l : List α) (lo hi st : Option Int) : List α :=
  (sliceRange (sliceBounds lo hi st l.length).1 (sliceBounds lo hi st l.length).2.1 (sliceBounds lo hi st l.length).2.2).filterMap (l[·]?)

def itemD (a i : D) : Option D :=
  match a, i with
  | .list l, .int k => if small k then (seqIndex? k l.length).bind (l[·]?) else none
  | .tuple l, .int k => if small k then (seqIndex? k l.length).bind (l[·]?) else none
  | .str x, .int k => if small k ∧ (Txt.charAt x k).isSome then some (.str (Txt.item x k)) else none
  | .sdict l, .str k => (l.lookup k).map .int
  | _, _ => none

def partO : Option D → Option (Option Int)
  | none => some none
  | some (.int i) => if small i then some (some i) else none
  | _ => none

def sliceD (a : D) (lo hi st : Option Int) : Option D :=
  match a with
  | .list l => if l.length ≤ 2 ^ 20 ∧ st ≠ some 0 then some (.list (pick l lo hi st)) else none
  | .str x => if x.length ≤ 2 ^ 20 ∧ st = none then some (.str (Txt.slice x lo hi)) else none
  | _ => none

def max3 (x y z : UInt64) : UInt64 :=
  let m := if Float64.cmp y x == some .gt then y else x
  if Float64.cmp z m == some .gt then z else m
def min3 (x y z : UInt64) : UInt64 :=
  let m := if Float64.cmp y x == some .lt then y else x
  if Float64.cmp z m == some .lt then z else m

def maxL : List Int → Option Int
  | [] => none
  | a :: r => some (r.foldl (fun m x => if m < x then x else m) a)

def intOf (x : UInt64) : Option Int := match Float64.decode x with
  | .fin sg m e => some (Float64.truncOf sg m e)
  | _ => none

/-- a built-in function's value -/
def bltD (f : Str) (as : List D) : Option D :=
  if f = "len" then (match as with
    | [.str x] => if x.length ≤ 2 ^ 20 then some (.int x.length) else none
    | [.list l] => if l.length ≤ 2 ^ 20 then some (.int l.length) else none
    | [.tuple l] => if l.length ≤ 2 ^ 20 then some (.int l.length) else none
    | _ => none)
  else if f = "sum" then (match as with
    | [.list l] => (intsO l).bind fun is => if is.length ≤ 2 ^ 10 ∧ (is.all fun i => decide (i.natAbs < 2 ^ 40)) then some (.int is.sum) else none
    | _ => none)
  else if f = "max" then (match as with
    | [.list l] => (intsO l).bind fun is => if is.length ≤ 2 ^ 10 then (maxL is).map .int else none
    | [.int x, .int y] => some (.int (if x < y then y else x))
    | [.float x, .float y, .float z] => some (.float (max3 x y z))
    | _ => none)
  else if f = "min" then (match as with
    | [.int x, .int y] => some (.int (if y < x then y else x))
    | [.float x, .float y, .float z] => some (.float (min3 x y z))
    | _ => none)
  else if f = "int" then (match as with
    | [.float x] => (intOf x).map .int
    | _ => none)
  else if f = "range" then (match as with
    | [.int b] => if b.natAbs ≤ 2 ^ 20 then some (.rng 0 b) else none
    | [.int a, .int b] => if a.natAbs ≤ 2 ^ 20 ∧ b.natAbs ≤ 2 ^ 20 then some (.rng a b) else none
    | _ => none)
  else if f = "sorted" then (match as with
    | [.list l] => (intsO l).bind fun is => if is.length < 64 then some (.list ((is.mergeSort (· ≤ ·)).map .int)) else none
    | _ => none)
  else none

def bltNames : List Str := ["len", "sum", "max", "min", "int", "range", "sorted"]

def idxD (d : D) (l : List D) : Option Nat := (mapO (fun y => eqD 6 y d) l).bind fun bs => bs.findIdx? id

/-- a method's value -/
def methD (o : D) (m : Str) (as : List D) : Option D :=
  match o with
  | .str x =>
    if m = "startswith" then (match as with | [.str y] => some (.bool (Txt.startswith x y)) | _ => none)
    else if m = "endswith" then (match as with | [.str y] => some (.bool (Txt.endswith x y)) | _ => none)
    else if m = "find" then (match as with
      | [.str y, .int i, .int j] => if 0 ≤ i ∧ 0 ≤ j ∧ small i ∧ small j then some (.int (match Builtin.Str.occurrences x y i.toNat (min j.toNat x.length) 1 with | k :: _ => (k : Int) | [] => -1)) else none
      | _ => none)
    else if m = "split" then (match as with
      | [.str y] => if y.length = 0 ∨ 2 ^ 20 < x.length then none else some (.list ((Txt.split x y).map .str))
      | _ => none)
    else if m = "join" then (match as with
      | [.list l] => (strsO l).bind fun ss => if JoinOk x ss then some (.str (Txt.join x ss)) else none
      | _ => none)
    else if m = "index" then (match as with
      | [.str y] => if Txt.contains x y then some (.int (Txt.find x y)) else none
      | _ => none)
    else none
  | .list l => if m = "index" then (match as with
      | [d] => if l.length ≤ 2 ^ 20 then (idxD d l).map fun (i : Nat) => .int i else none
      | _ => none) else none
  | .sdict l => if m = "get" then (match as with
      | [.str k] => some (match l.lookup k with | some i => .int i | none => .none)
      | _ => none) else none
  | .isdict l => if m = "get" then (match as with
      | [.int k, .str d] => some (match l.lookup k with | some i => .str i | none => .str d)
      | _ => none) else none
  | .iidict l => if m = "get" then (match as with
      | [.int k, .int d] => some (match l.lookup k with | some i => .int i | none => .int d)
      | _ => none) else none
  | _ => none

def isGlob (σ : St) (x : Str) : Bool := σ.names.lookup x == some .globalImplicit

def isCellKind (k : Option NameKind) : Bool := k == some .cell || k == some .free
def isVarKind (k : Option NameKind) : Bool := k == some .local || k == some .cell || k == some .free

/-- a name's value; whether it may be owned is asked elsewhere -/
def nameD (P : PI) (σ : St) (x : Str) : Option D :=
  if isVarKind (σ.names.lookup x) then σ.vars.lookup x
  else if isGlob σ x then P.consts x
  else none

/-- names that a name in the text may not bear here -/
def plainName (x : Str) : Bool := x != ("__debug__" : Str) && x != ("super" : Str)

structure Rc where
  ev : St → Expr → Option D
  tr : St → Expr → Option Bool

/-- what is looked at, not kept: an owned list too -/
def peek (P : PI) (R : Rc) (σ : St) (e : Expr) : Option D :=
  match e with
  | .Name x _ => if plainName x then nameD P σ x else none
  | e => R.ev σ e

def partsD (R : Rc) (σ : St) : Option Expr → Option (Option Int)
  | none => some none
  | some e => (R.ev σ e).bind fun d => partO (some d)

def boolD (R : Rc) (σ : St) (op : BoolOp) : List Expr → Option D
  | [] => none
  | [e] => R.ev σ e
  | e :: r => (R.ev σ e).bind fun d => (truthD d).bind fun t => if (match op with | .And => t | .Or => !t) then boolD R σ op r else some d

def trAll (R : Rc) (σ : St) (op : BoolOp) : List Expr → Option Bool
  | [] => some (match op with | .And => true | .Or => false)
  | e :: r => (R.tr σ e).bind fun t => if (match op with | .And => t | .Or => !t) then trAll R σ op r else some t

def itemsD : D → Option (List D)
  | .list l => if l.length ≤ 2 ^ 20 then some l else none
  | .tuple l => if l.length ≤ 2 ^ 20 then some l else none
  | .str x => if x.length ≤ 2 ^ 20 then some (x.cps.toList.map fun c => .str ⟨#[c]⟩) else none
  | .rng a b => if a.natAbs ≤ 2 ^ 20 ∧ b.natAbs ≤ 2 ^ 20 then some ((List.range (b - a).toNat).map fun (k : Nat) => .int (a + k)) else none
  | _ => none

/-- store a name -/
def setVar (σ : St) (x : Str) (d : D) : Option St :=
  if σ.names.lookup x == some .local || σ.names.lookup x == some .cell then some { σ with vars := put σ.vars x d, own := if σ.own = some x then none else σ.own } else none

def namesOf : List Expr → Option (List Str)
  | [] => some []
  | .Name x _ :: r => (namesOf r).bind fun xs => some (x :: xs)
  | _ => none

def setAll (σ : St) : List Str → List D → Option St
  | [], [] => some σ
  | x :: xs, d :: ds => (setVar σ x d).bind fun σ' => setAll σ' xs ds
  | _, _ => none

/-- bind a target -/
def bindT (σ : St) (t : Expr) (d : D) : Option St :=
  match t, d with
  | .Name x _, d => setVar σ x d
  | .Tuple es _ _, .tuple ds => (namesOf es).bind fun xs => if xs.length = ds.length ∧ xs.length ≤ 8 then setAll σ xs ds else none
  | _, _ => none

def testsD (R : Rc) (σ : St) : List Expr → Option Bool
  | [] => some true
  | e :: r => (R.tr σ e).bind fun b => if b then testsD R σ r else some false

def newN (σ : St) (x : Str) : Bool := (σ.vars.lookup x).isNone && !(σ.own == some x)
def newT (σ : St) : Expr → Bool
  | .Name x _ => newN σ x
  | .Tuple es _ _ => match namesOf es with
    | some xs => xs.all (newN σ)
    | none => false
  | _ => false

/-- the clauses behind the first source -/
def compD (R : Rc) (elt : Expr) : List Comprehension → St → List D → Option (List D)
  | [], _, _ => none
  | g :: gs, σ, items => if newT σ g.target then flatO (fun it => (bindT σ g.target it).bind fun σ' => (testsD R σ' g.ifs).bind fun b =>
      if b then (match gs with
        | [] => (R.ev σ' elt).map fun d => [d]
        | g' :: _ => (R.ev σ' g'.iter).bind fun src => (itemsD src).bind fun its => compD R elt gs σ' its)
      else some []) items else none

def enterC (σ : St) (sc : Scope) : St :=
  { names := sc.names, vars := σ.vars.filter (fun v => sc.names.lookup v.1 == some .free), own := σ.own.bind fun x => if sc.names.lookup x == some .free then some x else none }

/-- the block's table fits the one around it -/
def scopeOk (σ : St) (sc : Scope) : Bool :=
  sc.kind == .function &&
  sc.names.all (fun x => x.2 != .free || isCellKind (σ.names.lookup x.1)) &&
  sc.names.all (fun x => x.2 == .local || x.2 == .cell || x.2 == .free || x.2 == .globalImplicit) &&
  decide ((sc.names.map (·.1)).Nodup) && sc.names.all (fun x => x.1 != ("__classdict__" : Str))

def setIter : Expr → Bool
  | .Set .. => true
  | _ => false

def gensOk : List Comprehension → Bool
  | [] => true
  | g :: gs => g.is_async == 0 && !setIter g.iter && gensOk gs

abbrev CallS := Str → List D → Option D

def intKeys : List (Option Expr) → Option (List Int)
  | [] => some []
  | some (.Constant (.int i) _ _) :: r => (intKeys r).bind fun is => some (i :: is)
  | _ => none
def strConsts : List Expr → Option (List Str)
  | [] => some []
  | .Constant (.str i) _ _ :: r => (strConsts r).bind fun is => some (i :: is)
  | _ => none

def noStar : List Expr → Bool
  | [] => true
  | .Starred .. :: _ => false
  | _ :: r => noStar r

def plainBase : Expr → Bool
  | .Name x _ => plainName x
  | .Constant .. => true
  | _ => false

def evStep (P : PI) (C : CallS) (R : Rc) (σ : St) (e : Expr) : Option D :=
  match e with
  | .Constant c _ _ => constD c
  | .Name x _ => if plainName x ∧ ¬ σ.own = some x then nameD P σ x else none
  | .BoolOp op vs _ => boolD R σ op vs
  | .BinOp l op r _ => (peek P R σ l).bind fun a => (peek P R σ r).bind fun b => binD op a b
  | .UnaryOp .Not x _ => (R.ev σ x).bind fun a => (truthD a).map fun b => .bool (!b)
  | .UnaryOp .USub x _ => (R.ev σ x).bind fun a => match a with | .int i => some (.int (-i)) | _ => none
  | .IfExp t a b _ => (R.tr σ t).bind fun c => if c then R.ev σ a else R.ev σ b
  | .List es _ => (mapO (R.ev σ) es).bind fun ds => if ds.length ≤ 100 ∧ noStar es then some (.list ds) else none
  | .Tuple es _ _ => (mapO (R.ev σ) es).bind fun ds => if ds.length ≤ 100 ∧ noStar es then some (.tuple ds) else none
  | .Dict ks vs _ => (intKeys ks).bind fun is => (strConsts vs).bind fun ss => if is.length = ss.length ∧ 0 < is.length ∧ is.length ≤ 15 ∧ is.Nodup then some (.isdict (is.zip ss)) else none
  | .ListComp elt (g :: gs) sc _ =>
    if scopeOk σ sc && gensOk (g :: gs) then
      (R.ev σ g.iter).bind fun src => (itemsD src).bind fun its => (compD R elt (g :: gs) (enterC σ sc) its).bind fun ds => if ds.length ≤ 2 ^ 20 then some (.list ds) else none
    else none
  | .Compare l [op] [r] _ => if setIter r then none else (peek P R σ l).bind fun a => (peek P R σ r).bind fun b => (cmpD op a b).map .bool
  | .Call (.Attribute o m ap) as [] p => if as.length ≤ 3 ∧ 0 < as.length ∧ noStar as ∧ plainBase o ∧ ap.endLine = p.line then (peek P R σ o).bind fun a => (mapO (peek P R σ) as).bind fun ds => methD a m ds else none
  | .Call (.Name f _) as [] _ =>
    if isGlob σ f && plainName f && noStar as then
      if f = "isinstance" then (match as with
        | [x, .Name t _] => if isGlob σ t ∧ t = "float" then (R.ev σ x).bind fun d => (match d with | .float _ => some (.bool true) | .int _ => some (.bool false) | _ => none) else none
        | _ => none)
      else if bltNames.contains f then (mapO (peek P R σ) as).bind fun ds => bltD f ds
      else (mapO (R.ev σ) as).bind fun ds => C f ds
    else none
  | .Subscript v (.Slice lo hi st _) _ => (peek P R σ v).bind fun a => (partsD R σ lo).bind fun l => (partsD R σ hi).bind fun u => (partsD R σ st).bind fun s => sliceD a l u s
  | .Subscript v i _ => (peek P R σ v).bind fun a => (R.ev σ i).bind fun k => itemD a k
  | _ => none

def trStep (P : PI) (C : CallS) (R : Rc) (σ : St) (e : Expr) : Option Bool :=
  match e with
  | .UnaryOp .Not x _ => (R.tr σ x).map (!·)
  | .BoolOp op vs _ => trAll R σ op vs
  | .IfExp t a b _ => (R.tr σ t).bind fun c => if c then R.tr σ a else R.tr σ b
  | e => (evStep P C R σ e).bind truthD

def stepR (P : PI) (C : CallS) (R : Rc) : Rc := ⟨evStep P C R, trStep P C R⟩

def rc (P : PI) (C : CallS) : Nat → Rc
  | 0 => ⟨fun _ _ => none, fun _ _ => none⟩
  | n + 1 => stepR P C (rc P C n)

inductive Fl where
  | next (σ : St)
  | ret (d : D)

def isName : Expr → Option Str
  | .Name x _ => some x
  | _ => none

/-- take the owned name's list as it stands -/
def freeze (σ : St) (e : Expr) : St := if σ.own.isSome ∧ σ.own = isName e then { σ with own := none } else σ

def ownSet (σ : St) (x : Str) (d : D) : Option St :=
  if σ.names.lookup x == some .local || σ.names.lookup x == some .cell then some { σ with vars := put σ.vars x d, own := some x } else none

structure Rs where
  ex : St → Stmt → Option Fl

def exsD (X : St → Stmt → Option Fl) : St → List Stmt → Option Fl
  | σ, [] => some (.next σ)
  | σ, s :: r => (X σ s).bind fun f => match f with
    | .next σ' => exsD X σ' r
    | .ret d => some (.ret d)

def forD (X : St → Stmt → Option Fl) (t : Expr) (body : List Stmt) : St → List D → Option Fl
  | σ, [] => some (.next σ)
  | σ, d :: ds => (bindT σ t d).bind fun σ' => (exsD X σ' body).bind fun f => match f with
    | .next σ'' => forD X t body σ'' ds
    | .ret r => some (.ret r)

def whileD (T : St → Expr → Option Bool) (X : St → Stmt → Option Fl) (test : Expr) (body : List Stmt) : Nat → St → Option Fl
  | 0, _ => none
  | n + 1, σ => (T σ test).bind fun b => if b then (exsD X σ body).bind fun f => (match f with
    | .next σ' => whileD T X test body n σ'
    | .ret r => some (.ret r)) else some (.next σ)

def delAt (l : List D) (i : Int) : Option (List D) :=
  if l.length ≤ 2 ^ 20 ∧ small i then (seqIndex? i l.length).map fun k => l.eraseIdx k else none

def storeP (l : List (Int × Int)) (k v : Int) : List (Int × Int) :=
  if l.any (fun kv => kv.1 = k) then l.map (fun kv => if kv.1 = k then (kv.1, v) else kv) else l ++ [(k, v)]

def notComp : Expr → Bool
  | .ListComp .. => false
  | .SetComp .. => false
  | .DictComp .. => false
  | _ => true

/-- a display whose stores go as the model tells -/
def tupOk : Expr → Bool
  | .Tuple vs _ _ => vs.all (foldedForSure 8) || !(vs.all (constantsAlone 8))
  | _ => true

def nodupT (ts : List Expr) : Bool := match namesOf ts with
  | some xs => decide xs.Nodup
  | none => false

def exStep (P : PI) (R : Rc) (X : St → Stmt → Option Fl) (σ : St) (s : Stmt) : Option Fl :=
  match s with
  | .Return (some e) _ => (R.ev (freeze σ e) e).map .ret
  | .If t b o _ => (R.tr σ t).bind fun c => exsD X σ (if c then b else o)
  | .Assert t _ _ => (R.tr σ t).bind fun c => if c then some (.next σ) else none
  | .For t it body [] _ => if setIter it then none else (R.ev (freeze σ it) it).bind fun src => (itemsD src).bind fun its => forD X t body (freeze σ it) its
  | .While t body [] _ => whileD R.tr X t body 400 σ
  | .AugAssign (.Name x _) op v _ => if σ.own = some x ∨ ¬ plainName x then none else (nameD P σ x).bind fun a => (R.ev σ v).bind fun b => match op, a, b with
    | .Add, .int p, .int q => (setVar σ x (.int (p + q))).map .next
    | .Sub, .int p, .int q => (setVar σ x (.int (p - q))).map .next
    | _, _, _ => none
  | .Delete [.Subscript (.Name x _) i _] _ => if σ.own = some x ∧ plainName x then (nameD P σ x).bind fun a => (R.ev σ i).bind fun k => match a, k with
    | .list l, .int j => (delAt l j).bind fun l' => (ownSet σ x (.list l')).map .next
    | _, _ => none else none
  | .Expr (.Call (.Attribute (.Name x _) m ap) [e] [] p) _ => if m = "append" ∧ σ.own = some x ∧ plainName x ∧ noStar [e] ∧ ap.endLine = p.line then (nameD P σ x).bind fun a => (R.ev σ e).bind fun d => match a with
    | .list l => if l.length ≤ 2 ^ 20 then (ownSet σ x (.list (l ++ [d]))).map .next else none
    | _ => none else none
  | .Assign [.Subscript (.Name x _) i _] v _ => if σ.own = some x ∧ plainName x ∧ notComp v then (R.ev σ v).bind fun d => (nameD P σ x).bind fun a => (R.ev σ i).bind fun k => match a, k, d with
    | .iidict l, .int k, .int d => if l.length ≤ 2 ^ 20 then (ownSet σ x (.iidict (storeP l k d))).map .next else none
    | _, _, _ => none else none
  | .Assign [.Name x _] v _ => match v with
    | .List [] _ => (ownSet σ x (.list [])).map .next
    | .Dict [] [] _ => (ownSet σ x (.iidict [])).map .next
    | .Call (.Attribute (.Name y _) m ap) [e] [] p =>
      if m = "split" ∧ plainName y ∧ ¬ σ.own = some y ∧ noStar [e] ∧ ap.endLine = p.line then (nameD P σ y).bind fun a => (R.ev σ e).bind fun b => match a, b with
        | .str p, .str q => (methD (.str p) "split" [.str q]).bind fun d => (ownSet σ x d).map .next
        | _, _ => none
      else (R.ev σ v).bind fun d => (setVar σ x d).map .next
    | v => (R.ev σ v).bind fun d => (setVar σ x d).map .next
  | .Assign [.Tuple ts k p] v _ => if tupOk v && nodupT ts then (R.ev σ v).bind fun d => (bindT σ (.Tuple ts k p) d).map .next else none
  | _ => none

def xs (P : PI) (R : Rc) : Nat → St → Stmt → Option Fl
  | 0 => fun _ _ => none
  | n + 1 => exStep P R (xs P R n)

def fnOk (f : Fn) : Bool :=
  f.scope.kind == .function && !f.scope.isCoroutine && !f.scope.isGenerator && f.params.posonlyargs.isEmpty && f.params.vararg.isNone && f.params.kwonlyargs.isEmpty && f.params.kwarg.isNone &&
  decide ((f.scope.names.map (·.1)).Nodup) && f.scope.names.all (fun x => x.2 == .local || x.2 == .cell || x.2 == .globalImplicit) && f.scope.names.all (fun x => x.1 != ("__classdict__" : Str)) &&
  f.params.args.all (fun a => isVarKind (f.scope.names.lookup a.arg)) && decide ((f.params.args.map (·.arg)).Nodup)

/-- the state a call begins with -/
def startSt (f : Fn) (as : List D) : St := ⟨f.scope.names, (f.params.args.map (·.arg)).zip as, none⟩

def callN (P : PI) : Nat → CallS
  | 0 => fun _ _ => none
  | n + 1 => fun f as => (P.fns f).bind fun fn =>
    if fnOk fn && fn.params.args.length == as.length then
      (exsD (xs P (rc P (callN P n) 40) 20) (startSt fn as) fn.body).bind fun r => match r with
        | .ret d => some d
        | .next _ => none
    else none

/-- the program's table -/
def fnsOf (body : List Stmt) (x : Str) : Option Fn :=
  match body.find? (fun s => match s with | .FunctionDef n .. => n == x | _ => false) with
  | some (.FunctionDef _ a b _ _ _ sc _ _ _) => some ⟨a, b, sc⟩
  | _ => none

def litOf (body : List Stmt) (x : Str) : Option D :=
  match body.find? (fun s => match s with | .Assign [.Name n _] (.Constant _ _ _) _ => n == x | _ => false) with
  | some (.Assign _ (.Constant c _ _) _) => constD c
  | _ => none

def tabOf (body : List Stmt) (x : Str) : Option D :=
  match body.find? (fun s => match s with | .Assign [.Name n _] (.Dict _ _ _) _ => n == x | _ => false) with
  | some (.Assign _ (.Dict ks vs _) _) => (mapO (fun kv => match kv with
      | (some (.Constant (.str k) _ _), .Name n _) => (litOf body n).bind fun d => (match d with | .int i => some (k, i) | _ => none)
      | _ => none) (ks.zip vs)).map .sdict
  | _ => none

def constsOf (body : List Stmt) (x : Str) : Option D := (litOf body x).orElse fun _ => tabOf body x

def piOf (p : Program) : PI := ⟨fnsOf p.main.body, constsOf p.main.body⟩

end Mine
end
section
namespace Mine
open PySem PyProof.Rows

variable {prog : Program} {w : World} {A : Around} {E : Value → Shared → Prop} {W : Addr → Prop} {T : Tm} {s : Shared}

/-- W's places stand -/
def WB (n0 : Nat) (W : Addr → Prop) (h : Heap) : Prop := ∀ a, W a → n0 ≤ a ∧ ∃ o, h.get? a = some o

theorem WB.fresh {n0 : Nat} {W : Addr → Prop} {h : Heap} (x : WB n0 W h) : ¬ W h.objs.size := fun q => by
  obtain ⟨_, o, e⟩ := x _ q
  rw [get_size] at e; cases e
theorem WB.fresh' {n0 : Nat} {W : Addr → Prop} {h : Heap} {a : Addr} (x : WB n0 W h) (e : h.get? a = none) : ¬ W a := fun q => by
  obtain ⟨_, o, e'⟩ := x _ q
  rw [e] at e'; cases e'
theorem WB.kp {n0 : Nat} {W : Addr → Prop} {h h' : Heap} (x : WB n0 W h) (k : Kp h h') : WB n0 W h' := fun a q =>
  let ⟨h1, o, e⟩ := x a q; ⟨h1, o, k a o e⟩

/-- what an expression's end says -/
def post (prog : Program) (w : World) (W : Addr → Prop) (T : Tm) (s : Shared) (d : D) : Value → Shared → Prop := fun v s' => ∃ T', TLe T T' ∧ TB T' s'.toks ∧ Keeps s s' ∧ Rep prog w W T' s'.heap v d
/-- the same where no float is made -/
def post0 (prog : Program) (w : World) (W : Addr → Prop) (T : Tm) (s : Shared) (d : D) : Value → Shared → Prop := fun v s' => Keeps s s' ∧ Rep prog w W T s'.heap v d

theorem lift {t : Sem Value} {d : D} (tb : TB T s.toks) (h : wpAny (model prog w) A t (post0 prog w W T s d) E s) : wpAny (model prog w) A t (post prog w W T s d) E s :=
  wpAny_mono (wpAny_toks_of (Nat.le_refl _) h) (fun _ _ q => ⟨T, TLe.refl _, tb.mono q.1, q.2.1, q.2.2⟩) fun _ _ q => q.2

theorem post_int {i : Int} {t k : Nat} : post0 prog w W T s (.int i) (.int i t) { s with toks := k } := ⟨kTok, .int _ _⟩
theorem post_bool {b : Bool} {k : Nat} : post0 prog w W T s (.bool b) (.bool b) { s with toks := k } := ⟨kTok, .bool _⟩
theorem post_bool' {b : Bool} : post0 prog w W T s (.bool b) (.bool b) s := ⟨kRefl _, .bool _⟩
theorem post_str {b : Str} {t k : Nat} : post0 prog w W T s (.str b) (.str b t) { s with toks := k } := ⟨kTok, .str _ _⟩
theorem post_float (tb : TB T s.toks) {b : UInt64} : post prog w W T s (.float b) (.float b s.toks) { s with toks := s.toks + 1 } := by
  refine ⟨fun t => if t = s.toks then some b else T t, fun t x e => ?_, ⟨Nat.succ_pos _, fun t x e => ?_⟩, kTok, .float (by simp)⟩
  · have := (tb.2 t x e).2
    show (if t = s.toks then some b else T t) = some x
    rw [if_neg (Nat.ne_of_lt this)]; exact e
  · have e' : (if t = s.toks then some b else T t) = some x := e
    by_cases h : t = s.toks
    · subst h; exact ⟨Nat.ne_of_gt tb.1, Nat.lt_succ_self _⟩
    · rw [if_neg h] at e'
      exact ⟨(tb.2 t x e').1, Nat.lt_succ_of_lt (tb.2 t x e').2⟩

theorem made_float (tb : TB T s.toks) {x : UInt64} : (Made.float x).post (post prog w W T s (.float x)) s := post_float tb

theorem new_list {n0 : Nat} (wb : WB n0 W s.heap) {vs : Array Value} {ds : List D} (r : Reps prog w W T s.heap vs.toList ds) {tk : Nat} :
    post0 prog w W T s (.list ds) (.ref s.heap.objs.size) { s with heap := s.heap.push { cls := .type "list", data := .seq vs }, toks := tk } :=
  ⟨⟨_, _, rfl, fun _ _ e => Heap.get?_push_of_some _ e⟩, .list wb.fresh ⟨_, Heap.get?_push_size _ rfl⟩ (r.kp fun _ _ _ e => Heap.get?_push_of_some _ e)⟩
theorem new_tuple {n0 : Nat} (wb : WB n0 W s.heap) {vs : Array Value} {ds : List D} (r : Reps prog w W T s.heap vs.toList ds) {tk : Nat} :
    post0 prog w W T s (.tuple ds) (.ref s.heap.objs.size) { s with heap := s.heap.push { cls := .type "tuple", data := .seq vs }, toks := tk } :=
  ⟨⟨_, _, rfl, fun _ _ e => Heap.get?_push_of_some _ e⟩, .tuple wb.fresh ⟨_, Heap.get?_push_size _ rfl, rfl, _, rfl⟩ (r.kp fun _ _ _ e => Heap.get?_push_of_some _ e)⟩

theorem small_lt {i : Int} (h : small i = true) : i.natAbs < 2 ^ 62 := of_decide_eq_true h

theorem RepT.int_inv {h : Heap} {v : Value} {i : Int} (x : RepT prog w W T h v (.int i)) : ∃ t, v = .int i t := by
  cases x with | of x => cases x; exact ⟨_, rfl⟩
theorem RepT.float_inv {h : Heap} {v : Value} {i : UInt64} (x : RepT prog w W T h v (.float i)) : ∃ t, v = .float i t ∧ T t = some i := by
  cases x with | of x => cases x with | float q => exact ⟨_, rfl, q⟩
theorem RepT.str_inv {h : Heap} {v : Value} {i : Str} (x : RepT prog w W T h v (.str i)) : ∃ t, v = .str i t := by
  cases x with | of x => cases x; exact ⟨_, rfl⟩
theorem RepT.bool_inv {h : Heap} {v : Value} {i : Bool} (x : RepT prog w W T h v (.bool i)) : v = .bool i := by
  cases x with | of x => cases x; rfl
theorem RepT.none_inv {h : Heap} {v : Value} (x : RepT prog w W T h v .none) : v = .none := by
  cases x with | of x => cases x; rfl
theorem RepT.tuple_inv {h : Heap} {v : Value} {ds : List D} (x : RepT prog w W T h v (.tuple ds)) : ∃ a vs, v = .ref a ∧ h.IsTuple a vs ∧ Reps prog w W T h vs.toList ds := by
  cases x with | of x => cases x with | tuple _ h1 h2 => exact ⟨_, _, rfl, h1, h2⟩

theorem mul_ok {a b : Int} (ha : small a = true) : IntMulOk a b := by
  refine IntMulOk.of_left ?_
  have h := small_lt ha
  by_cases h0 : a = 0
  · subst h0; decide
  · have : a.natAbs.log2 < 62 := (Nat.log2_lt (by omega)).mpr h
    unfold Builtin.Int.intBits
    split <;> omega

theorem div_ok {a b : Int} (hb : small b = true) : Builtin.divisionGoesByPylong a b = false := by
  unfold Builtin.divisionGoesByPylong
  have h := small_lt hb
  by_cases h0 : b = 0
  · subst h0; simp
  · have h1 : b.natAbs.log2 < 62 := (Nat.log2_lt (by omega)).mpr h
    have h2 : (b == 0) = false := by simpa using h0
    simp only [h2, Bool.false_eq_true, if_false, Bool.and_eq_false_iff, decide_eq_false_iff_not]
    left; omega

set_option exponentiation.threshold 2000 in
theorem lt1023 {n : Int} (h : small n = true) : n.natAbs < 2 ^ 1023 :=
  Nat.lt_of_lt_of_le (small_lt h) (Nat.pow_le_pow_right (by decide) (by decide))

theorem strMul_ok {x : Str} {y : Int} (h1 : x.length = 1) (h2 : 0 ≤ y) (h3 : y ≤ 100) : MulOk x y := by
  refine ⟨by simp; omega, fun hy _ => ?_, fun _ _ => ?_⟩
  · rw [h1]
    have : (1 : Int) ≤ (2 ^ 63 - 1) / y := by
      rw [Int.le_ediv_iff_mul_le (by omega)]; omega
    omega
  · rw [h1]; unfold Builtin.Str.tooLong sizeLine; simp; omega

theorem binD_ok {n0 : Nat} (wb : WB n0 W s.heap) (tb : TB T s.toks) {op : Operator} {a b d : D} {va vb : Value} (e : binD op a b = some d) (ra : RepT prog w W T s.heap va a) (rb : RepT prog w W T s.heap vb b) :
    wpAny (model prog w) A (binaryOp op va vb) (post prog w W T s d) E s := by
  unfold binD at e
  split at e
  · obtain ⟨t, rfl⟩ := ra.int_inv; obtain ⟨u, rfl⟩ := rb.int_inv; cases e; exact lift tb (PyProof.Rows.add_int post_int)
  · obtain ⟨t, rfl⟩ := ra.int_inv; obtain ⟨u, rfl⟩ := rb.int_inv; cases e; exact lift tb (PyProof.Rows.sub_int post_int)
  · obtain ⟨t, rfl⟩ := ra.int_inv; obtain ⟨u, rfl⟩ := rb.int_inv
    split at e
    · rename_i h; cases e; exact lift tb (PyProof.Rows.mul_int post_int (mul_ok (Bool.and_eq_true_iff.mp h).1))
    · cases e
  · obtain ⟨t, rfl⟩ := ra.int_inv; obtain ⟨u, rfl⟩ := rb.int_inv
    split at e
    · cases e
    · rename_i h; cases e
      exact lift tb (PyProof.Rows.floordiv_int (fun q => h (.inl q)) post_int (.inl (div_ok (by cases hs : small _ with | true => rfl | false => exact absurd (.inr hs) h))))
  · obtain ⟨t, rfl⟩ := ra.int_inv; obtain ⟨u, rfl⟩ := rb.int_inv
    split at e
    · cases e
    · rename_i h; cases e; exact lift tb (PyProof.Rows.mod_int' h post_int)
  · obtain ⟨t, rfl⟩ := ra.int_inv; obtain ⟨u, rfl⟩ := rb.int_inv
    split at e
    · rename_i h; cases e
      exact lift tb (PyProof.Rows.pow_int_small h.1 (by omega) (by have := small_lt h.2.2; omega) post_int)
    · cases e
  · obtain ⟨t, rfl⟩ := ra.int_inv; obtain ⟨u, rfl⟩ := rb.int_inv
    split at e
    · rename_i h; cases e
      exact lift tb (PyProof.Rows.lshift_int_small h.1 (by omega) (by have := small_lt h.2.2; omega) post_int)
    · cases e
  · obtain ⟨t, rfl⟩ := ra.int_inv; obtain ⟨u, rfl⟩ := rb.int_inv; cases e; exact lift tb (PyProof.Rows.xor_int post_int)
  · obtain ⟨t, rfl⟩ := ra.int_inv; obtain ⟨u, rfl⟩ := rb.int_inv
    split at e
    · cases e
    · split at e
      · cases e
      · rename_i h1 h2; cases e
        exact AutoIntOps.truediv_2 (by simpa using h1) h2 (made_float tb)
  · obtain ⟨t, rfl, qt⟩ := ra.float_inv; obtain ⟨u, rfl, qu⟩ := rb.float_inv; cases e; exact PyProof.Rows.add_float (post_float tb)
  · obtain ⟨t, rfl, qt⟩ := ra.float_inv; obtain ⟨u, rfl, qu⟩ := rb.float_inv; cases e; exact PyProof.Rows.sub_float (post_float tb)
  · obtain ⟨t, rfl, qt⟩ := ra.float_inv; obtain ⟨u, rfl, qu⟩ := rb.float_inv; cases e; exact PyProof.Rows.mul_float (post_float tb)
  · obtain ⟨t, rfl, qt⟩ := ra.float_inv; obtain ⟨u, rfl, qu⟩ := rb.float_inv
    unfold fdivO at e
    split at e
    · cases e
    · rename_i h; cases e; exact AutoFloatOps.truediv_1 h (made_float tb)
  · obtain ⟨t, rfl, qt⟩ := ra.float_inv; obtain ⟨u, rfl, qu⟩ := rb.float_inv
    split at e
    · cases e
    · rename_i h; cases e; exact AutoFloatOps.mod_1 h (made_float tb)
  · obtain ⟨t, rfl, qt⟩ := ra.float_inv; obtain ⟨u, rfl⟩ := rb.int_inv
    split at e
    · rename_i h; cases e; exact PyProof.Rows.sub_fi_fits (lt1023 h) (post_float tb)
    · cases e
  · obtain ⟨t, rfl⟩ := ra.int_inv; obtain ⟨u, rfl, qu⟩ := rb.float_inv
    split at e
    · rename_i h; cases e; exact PyProof.Rows.mul_if_fits (lt1023 h) (post_float tb)
    · cases e
  · obtain ⟨t, rfl⟩ := ra.str_inv; obtain ⟨u, rfl⟩ := rb.str_inv
    split at e
    · rename_i h; cases e; exact lift tb (PyProof.Rows.add_str (fun _ _ => post_str) (by unfold sizeLine; omega))
    · cases e
  · obtain ⟨t, rfl⟩ := ra.str_inv; obtain ⟨u, rfl⟩ := rb.int_inv
    split at e
    · rename_i h; cases e
      obtain ⟨h1, h2, h3⟩ := h
      exact lift tb (SB.mul (strMul_ok h1 h2 h3) fun _ _ => post_str)
    · cases e
  · obtain ⟨la, va, rfl, ⟨n1, hla⟩, rra⟩ := ra.list_inv
    obtain ⟨lb, vb, rfl, ⟨n2, hlb⟩, rrb⟩ := rb.list_inv
    split at e
    · rename_i h; cases e
      refine lift tb (P.add_list hla hlb (new_list wb (by simpa using rra.append rrb)) ?_)
      have e1 := rra.length; have e2 := rrb.length
      simp only [Array.length_toList] at e1 e2
      unfold sizeLine; omega
    · cases e
  · cases e
end Mine
end
section
namespace Mine
open PySem PyProof.Rows PySem.SeqAt

variable {prog : Program} {w : World} {A : Around} {E : Value → Shared → Prop} {W : Addr → Prop} {T : Tm} {s : Shared}

theorem eqAt_of {a b : Value} {k : Bool} (hs : a = b → k = true) (hf : ∀ x t y u, a = .float x t → b ≠ .float y u) (h : RcAt A s a b k) : EqAt A s a b k := fun prog w E Q hq => by
  unfold eqBool
  refine wpAny_holding ?_
  refine wpAny_ite_split (fun hab => ?_) (fun _ => ?_)
  · rw [hs (eq_of_beq hab)] at hq
    exact wpAny_bind (wpAny_rule (wpAny_pure hq))
  · split
    · rename_i h1
      cases h1
      exact absurd rfl (hf _ _ _ _ rfl)
    · exact wpAny_bind (h prog w E _ (wpAny_truthy_bool hq))

theorem eqAt_float {x y : UInt64} {t u : Tok} (hb : NoneBooked s.heap) (ht : t ≠ 0) (hu : u ≠ 0) (htu : t = u → x = y) (hn : Float64.isNaN x = false) : EqAt A s (.float x t) (.float y u) (Float64.cmp x y == some .eq) := fun prog w E Q hq => by
  have key : x = y → Q true s := fun e => by
    subst e
    rw [PySem.Flt.cmp_self, hn] at hq; exact hq
  unfold eqBool
  refine wpAny_holding ?_
  refine wpAny_ite_split (fun hab => ?_) (fun _ => ?_)
  · exact wpAny_bind (wpAny_rule (wpAny_pure (key (by have := eq_of_beq hab; injection this))))
  · have last : wpAny (model prog w) A (richCompare CmpOp.Eq (.float x t) (.float y u) >>= truthOfDropped) Q E s := wpAny_bind (AutoFloatOps.eq_0 (wpAny_truthy_bool hq))
    show wpAny (model prog w) A (isSame (.float x t) (.float y u) >>= fun c => if c = true then pure true else (richCompare CmpOp.Eq (.float x t) (.float y u) >>= truthOfDropped)) Q E s
    refine wpAny_bind ?_
    have fin : ∀ b : Bool, (b = true → x = y) → wpAny (model prog w) A (if b = true then pure true else (richCompare CmpOp.Eq (.float x t) (.float y u) >>= truthOfDropped)) Q E s := fun b hb => by
      cases b with
      | true => exact wpAny_pure (key (hb rfl))
      | false => exact last
    show wpAny (model prog w) A (isSame.created (x == y && !Float64.isNaN x) t u) _ E s
    unfold isSame.created
    refine wpAny_ite ?_
    split
    · rename_i h; simp [ht, hu] at h
    refine wpAny_ite ?_
    split
    · rename_i h; exact wpAny_pure (fin true fun _ => htu (eq_of_beq h))
    refine wpAny_ite ?_
    split
    · exact wpAny_pure (fin false fun h => nomatch h)
    rename_i h
    have hxy : x = y := by
      by_cases e : x = y
      · exact e
      · exact absurd (by simp [e]) h
    refine wpAny_bind (wpAny_sharingNotTold_none hb ?_)
    simp only [Bool.false_eq_true, if_false]
    refine wpAny_bind (wpAny_sharingNotTold_none hb ?_)
    simp only [Bool.false_eq_true, if_false]
    exact wpAny_bind (wpAny_rule (wpAny_bind (wpAny_askSetting (wpAny_pure (fin _ fun _ => hxy)))))

theorem allPairs_length {f : D → D → Option Bool} : ∀ {xs ys : List D} {k : Bool}, allPairs f xs ys = some k → xs.length = ys.length → ∃ ks : List Bool, ks.length = xs.length ∧ k = ks.all id ∧
    ∀ (i : Nat) (x y : D), xs[i]? = some x → ys[i]? = some y → ∃ b, ks[i]? = some b ∧ f x y = some b
  | [], [], k, e, _ => ⟨[], rfl, by simp [allPairs] at e; simp [e], fun i x y h => by simp at h⟩
  | [], _ :: _, _, _, h => by simp at h
  | _ :: _, [], _, _, h => by simp at h
  | x :: xs, y :: ys, k, e, h => by
    simp only [allPairs, Option.bind_eq_some_iff] at e
    obtain ⟨b, hb, c, hc, e⟩ := e
    obtain ⟨ks, h1, h2, h3⟩ := allPairs_length hc (by simpa using h)
    refine ⟨b :: ks, by simp [h1], ?_, ?_⟩
    · simp only [Option.some.injEq] at e; rw [← e, h2]; simp
    · intro i x' y' hx hy
      cases i with
      | zero => simp at hx hy; subst hx hy; exact ⟨b, rfl, hb⟩
      | succ i => simp at hx hy; simpa using h3 i x' y' hx hy

theorem range_all {ks : List Bool} {n : Nat} (h : ks.length = n) : (List.range n).all (fun i => (ks[i]?).getD true) = ks.all id := by
  subst h
  rw [Bool.eq_iff_iff]
  simp only [List.all_eq_true, List.mem_range, id]
  constructor
  · intro h x hx
    obtain ⟨i, hi, rfl⟩ := List.mem_iff_getElem.mp hx
    have := h i hi
    simpa [hi] using this
  · intro h i hi
    simp [hi, h _ (List.getElem_mem hi)]

/-- of one thing with itself -/
theorem eq_same {h : Heap} : ∀ (n : Nat) {a b : D} {k : Bool} {v : Value}, eqD n a b = some k → RepT prog w W T h v a → RepT prog w W T h v b → k = true
  | 0, _, _, _, _, e, _, _ => by simp [eqD] at e
  | n + 1, a, b, k, v, e, ra, rb => by
    unfold eqD at e
    split at e
    · simpa using e.symm
    · have h1 := ra.bool_inv; have h2 := rb.bool_inv; rw [h1] at h2; cases h2; simpa using e.symm
    · obtain ⟨_, h1⟩ := ra.int_inv; obtain ⟨_, h2⟩ := rb.int_inv; rw [h1] at h2; cases h2; simpa using e.symm
    · obtain ⟨_, h1⟩ := ra.str_inv; obtain ⟨_, h2⟩ := rb.str_inv; rw [h1] at h2; cases h2; simpa using e.symm
    · obtain ⟨_, h1⟩ := ra.int_inv; obtain ⟨_, h2⟩ := rb.str_inv; rw [h1] at h2; cases h2
    · obtain ⟨_, h1⟩ := ra.str_inv; obtain ⟨_, h2⟩ := rb.int_inv; rw [h1] at h2; cases h2
    · obtain ⟨a1, vs1, h1, ⟨m1, p1⟩, r1⟩ := ra.list_inv
      obtain ⟨a2, vs2, h2, ⟨m2, p2⟩, r2⟩ := rb.list_inv
      rw [h1] at h2; cases h2
      rw [p1] at p2
      obtain ⟨rfl, -⟩ : vs1 = vs2 ∧ m1 = m2 := by cases p2; exact ⟨rfl, rfl⟩
      have l1 := r1.length; have l2 := r2.length
      rw [if_pos (by rw [← l1, ← l2])] at e
      obtain ⟨ks, h3, rfl, h4⟩ := allPairs_length e (by rw [← l1, ← l2])
      rw [List.all_eq_true]
      intro b hb
      obtain ⟨i, hi, rfl⟩ := List.mem_iff_getElem.mp hb
      rename_i xs ys
      have hx : i < xs.length := by omega
      have hy : i < ys.length := by omega
      obtain ⟨b', hb', hf⟩ := h4 i xs[i] ys[i] (by simp [hx]) (by simp [hy])
      obtain ⟨v1, q1, s1⟩ := r1.get i xs[i] (by simp [hx])
      obtain ⟨v2, q2, s2⟩ := r2.get i ys[i] (by simp [hy])
      rw [q1] at q2; cases q2
      have := eq_same n hf (.of s1) (.of s2)
      simp [hi] at hb'
      simp [hb', this]
    · obtain ⟨a1, vs1, h1, ⟨o1, p1, c1, m1, d1⟩, r1⟩ := ra.tuple_inv
      obtain ⟨a2, vs2, h2, ⟨o2, p2, c2, m2, d2⟩, r2⟩ := rb.tuple_inv
      rw [h1] at h2; cases h2
      rw [p1] at p2; cases p2
      rw [d1] at d2
      obtain ⟨rfl, -⟩ : vs1 = vs2 ∧ m1 = m2 := by cases d2; exact ⟨rfl, rfl⟩
      have l1 := r1.length; have l2 := r2.length
      rw [if_pos (by rw [← l1, ← l2])] at e
      obtain ⟨ks, h3, rfl, h4⟩ := allPairs_length e (by rw [← l1, ← l2])
      rw [List.all_eq_true]
      intro b hb
      obtain ⟨i, hi, rfl⟩ := List.mem_iff_getElem.mp hb
      rename_i xs ys
      have hx : i < xs.length := by omega
      have hy : i < ys.length := by omega
      obtain ⟨b', hb', hf⟩ := h4 i xs[i] ys[i] (by simp [hx]) (by simp [hy])
      obtain ⟨v1, q1, s1⟩ := r1.get i xs[i] (by simp [hx])
      obtain ⟨v2, q2, s2⟩ := r2.get i ys[i] (by simp [hy])
      rw [q1] at q2; cases q2
      have := eq_same n hf (.of s1) (.of s2)
      simp [hi] at hb'
      simp [hb', this]
    · obtain ⟨_, h1, _⟩ := ra.float_inv; obtain ⟨_, h2, _⟩ := rb.float_inv; rw [h1] at h2; cases h2
      simp only [numEq] at e
      split at e
      · cases e
      · rename_i hn
        simp only [Option.some.injEq] at e
        rw [← e, PySem.Flt.cmp_self]; simpa using hn
    · obtain ⟨_, h1, _⟩ := ra.float_inv; obtain ⟨_, h2⟩ := rb.int_inv; rw [h1] at h2; cases h2
    · cases e
end Mine
end
section
namespace Mine
open PySem PyProof.Rows PySem.SeqAt

variable {prog : Program} {w : World} {A : Around} {E : Value → Shared → Prop} {W : Addr → Prop} {T : Tm} {s : Shared}

theorem pairs_at {n : Nat} {xs ys : List D} {k : Bool} {A : Around} {vs1 vs2 : Array Value} (e : allPairs (eqD n) xs ys = some k) (hl : xs.length = ys.length)
    (r1 : Reps prog w W T s.heap vs1.toList xs) (r2 : Reps prog w W T s.heap vs2.toList ys)
    (ih : ∀ {a b : D} {k : Bool} {va vb : Value}, eqD n a b = some k → RepT prog w W T s.heap va a → RepT prog w W T s.heap vb b → EqAt A.in1 s va vb k) :
    ∃ f : Nat → Bool, (List.range vs1.size).all f = k ∧ ∀ j (h1 : j < vs1.size) (h2 : j < vs2.size), EqAt A.in1 s vs1[j] vs2[j] (f j) := by
  obtain ⟨ks, h3, rfl, h4⟩ := allPairs_length e hl
  have l1 : vs1.size = xs.length := by simpa using r1.length
  have l2 : vs2.size = ys.length := by simpa using r2.length
  refine ⟨fun i => (ks[i]?).getD true, by rw [l1]; exact range_all h3, fun j h1 h2 => ?_⟩
  have hx : j < xs.length := by omega
  have hy : j < ys.length := by omega
  obtain ⟨b', hb', hf⟩ := h4 j xs[j] ys[j] (by simp [hx]) (by simp [hy])
  obtain ⟨v1, q1, s1⟩ := r1.get j xs[j] (by simp [hx])
  obtain ⟨v2, q2, s2⟩ := r2.get j ys[j] (by simp [hy])
  have e1 : vs1[j] = v1 := by simpa [h1] using q1
  have e2 : vs2[j] = v2 := by simpa [h2] using q2
  show EqAt A.in1 s vs1[j] vs2[j] ((ks[j]?).getD true)
  rw [e1, e2, hb']
  exact ih hf (.of s1) (.of s2)

theorem eq_main (hb : NoneBooked s.heap) (tb : TB T s.toks) : ∀ (n : Nat) (A : Around), A.units + n < cLine → ∀ {a b : D} {k : Bool} {va vb : Value}, eqD n a b = some k → RepT prog w W T s.heap va a → RepT prog w W T s.heap vb b →
    RcAt A s va vb k ∧ RcNeAt A s va vb (!k) ∧ EqAt A s va vb k
  | 0, _, _, _, _, _, _, _, e, _, _ => by simp [eqD] at e
  | n + 1, A, hu, a, b, k, va, vb, e, ra, rb => by
    have same := fun (q : va = vb) => eq_same (n + 1) e ra (q ▸ rb)
    have ih : ∀ {a b : D} {k : Bool} {va vb : Value}, eqD n a b = some k → RepT prog w W T s.heap va a → RepT prog w W T s.heap vb b → EqAt A.in1 s va vb k :=
      fun e1 r1 r2 => (eq_main hb tb n A.in1 (by show A.units + 1 + n < cLine; omega) e1 r1 r2).2.2
    have hu' : A.units < cLine := by omega
    unfold eqD at e
    split at e
    · have h1 := ra.none_inv; have h2 := rb.none_inv; subst h1 h2
      cases e
      exact ⟨.none_none, .none_none, EqAt.same _⟩
    · have h1 := ra.bool_inv; have h2 := rb.bool_inv; subst h1 h2
      cases e
      exact ⟨.bool_bool _ _, .bool_bool _ _, .bool_bool _ _⟩
    · obtain ⟨_, h1⟩ := ra.int_inv; obtain ⟨_, h2⟩ := rb.int_inv; subst h1 h2; cases e
      exact ⟨.int_int _ _ _ _, .int_int _ _ _ _, .int_int _ _ _ _⟩
    · obtain ⟨_, h1⟩ := ra.str_inv; obtain ⟨_, h2⟩ := rb.str_inv; subst h1 h2; cases e
      exact ⟨.str_str _ _ _ _, .str_str _ _ _ _, .str_str _ _ _ _⟩
    · obtain ⟨_, h1⟩ := ra.int_inv; obtain ⟨_, h2⟩ := rb.str_inv; subst h1 h2; cases e
      exact ⟨.int_str _ _ _ _, .int_str _ _ _ _, .int_str _ _ _ _⟩
    · obtain ⟨_, h1⟩ := ra.str_inv; obtain ⟨_, h2⟩ := rb.int_inv; subst h1 h2; cases e
      exact ⟨.str_int _ _ _ _, .str_int _ _ _ _, .str_int _ _ _ _⟩
    · obtain ⟨a1, vs1, rfl, p1, r1⟩ := ra.list_inv
      obtain ⟨a2, vs2, rfl, p2, r2⟩ := rb.list_inv
      have l1 := r1.length; simp only [Array.length_toList] at l1
      have l2 := r2.length; simp only [Array.length_toList] at l2
      split at e
      · rename_i hl
        obtain ⟨f, hf, he⟩ := pairs_at e hl r1 r2 ih
        have q1 : RcAt A s (.ref a1) (.ref a2) k := hf ▸ RcAt.lists p1.isList p2.isList (by omega) hu' he
        exact ⟨q1, hf ▸ RcNeAt.lists p1.isList p2.isList (by omega) hu' he, eqAt_of same (fun _ _ _ _ h => nomatch h) q1⟩
      · rename_i hl
        cases e
        have hz : (vs1.size != vs2.size) = true := by simp; omega
        have q1 : RcAt A s (.ref a1) (.ref a2) false := RcAt.lists_lengths p1.isList p2.isList hz hu'
        exact ⟨q1, RcNeAt.lists_lengths p1.isList p2.isList hz hu', eqAt_of same (fun _ _ _ _ h => nomatch h) q1⟩
    · obtain ⟨a1, vs1, rfl, p1, r1⟩ := ra.tuple_inv
      obtain ⟨a2, vs2, rfl, p2, r2⟩ := rb.tuple_inv
      have l1 := r1.length; simp only [Array.length_toList] at l1
      have l2 := r2.length; simp only [Array.length_toList] at l2
      split at e
      · rename_i hl
        obtain ⟨f, hf, he⟩ := pairs_at e hl r1 r2 ih
        have hz : vs1.size = vs2.size := by omega
        have hk : ((List.range (min vs1.size vs2.size)).all f && vs1.size == vs2.size) = k := by rw [← hz, Nat.min_self, hf]; simp
        have q1 : RcAt A s (.ref a1) (.ref a2) k := hk ▸ RcAt.tuples p1 p2 hu' he
        exact ⟨q1, hk ▸ RcNeAt.tuples p1 p2 hu' he, eqAt_of same (fun _ _ _ _ h => nomatch h) q1⟩
      · cases e
    · obtain ⟨t, h1, qt⟩ := ra.float_inv; obtain ⟨u, h2, qu⟩ := rb.float_inv; subst h1 h2
      simp only [numEq] at e
      split at e
      · cases e
      · rename_i hn
        cases e
        refine ⟨fun prog w E Q h => AutoFloatOps.eq_0 h, fun prog w E Q h => AutoFloatOps.ne_0 h, eqAt_float hb (tb.2 _ _ qt).1 (tb.2 _ _ qu).1 (fun h => ?_) (by simpa using hn)⟩
        subst h; rw [qt] at qu; exact Option.some.inj qu
    · obtain ⟨t, h1, qt⟩ := ra.float_inv; obtain ⟨u, h2⟩ := rb.int_inv; subst h1 h2
      simp only [numEq] at e
      cases e
      exact ⟨fun prog w E Q h => PyProof.Rows.eq_fi h, fun prog w E Q h => PyProof.Rows.ne_fi h, eqAt_of same (fun _ _ _ _ _ h => nomatch h) (fun prog w E Q h => PyProof.Rows.eq_fi h)⟩
    · cases e
end Mine
end
section
namespace Mine
open PySem PyProof.Rows PySem.SeqAt

variable {prog : Program} {w : World} {A : Around} {E : Value → Shared → Prop} {W : Addr → Prop} {T : Tm} {s : Shared}

theorem mapO_some {α β : Type} {f : α → Option β} : ∀ {l : List α} {r : List β}, mapO f l = some r → r.length = l.length ∧ ∀ (i : Nat) (a : α), l[i]? = some a → ∃ b, r[i]? = some b ∧ f a = some b
  | [], r, e => by simp [mapO] at e; subst e; exact ⟨rfl, fun i a h => by simp at h⟩
  | a :: l, r, e => by
    simp only [mapO, Option.bind_eq_some_iff] at e
    obtain ⟨b, hb, bs, hbs, e⟩ := e
    cases e
    obtain ⟨h1, h2⟩ := mapO_some hbs
    refine ⟨by simp [h1], fun i x hx => ?_⟩
    cases i with
    | zero => simp at hx; subst hx; exact ⟨b, rfl, hb⟩
    | succ i => simpa using h2 i x (by simpa using hx)

theorem allPairs_eq {f g : D → D → Option Bool} {xs xs' ys : List D} {k k' : Bool} (e : allPairs f xs ys = some k) (e' : allPairs g xs' ys = some k') (h : xs.length = ys.length) (h' : xs'.length = ys.length)
    (he : ∀ (i : Nat) (x x' y : D) (b c : Bool), xs[i]? = some x → xs'[i]? = some x' → ys[i]? = some y → f x y = some b → g x' y = some c → b = c) : k = k' := by
  obtain ⟨ks, h1, rfl, h2⟩ := allPairs_length e h
  obtain ⟨ks', h1', rfl, h2'⟩ := allPairs_length e' h'
  have : ks = ks' := by
    apply List.ext_getElem (by omega)
    intro i hi hi'
    obtain ⟨b, hb, hf⟩ := h2 i (xs[i]'(by omega)) (ys[i]'(by omega)) (by simp) (by simp)
    obtain ⟨c, hc, hg⟩ := h2' i (xs'[i]'(by omega)) (ys[i]'(by omega)) (by simp) (by simp)
    have := he i _ _ _ b c (by simp) (by simp) (by simp) hf hg
    simp [hi] at hb; simp [hi'] at hc
    rw [hb, hc, this]
  rw [this]

theorem eqD_rng {n : Nat} {a b : Int} {d : D} : eqD n (.rng a b) d = none := by cases n <;> cases d <;> rfl
theorem eqD_sdict {n : Nat} {l} {d : D} : eqD n (.sdict l) d = none := by cases n <;> cases d <;> rfl
theorem eqD_isdict {n : Nat} {l} {d : D} : eqD n (.isdict l) d = none := by cases n <;> cases d <;> rfl
theorem eqD_iidict {n : Nat} {l} {d : D} : eqD n (.iidict l) d = none := by cases n <;> cases d <;> rfl

/-- a value decides what it is like -/
theorem eq_det {h : Heap} : ∀ (n : Nat) {a a' b : D} {k k' : Bool} {v : Value}, eqD n a b = some k → eqD n a' b = some k' → Rep prog w W T h v a → Rep prog w W T h v a' → k = k'
  | 0, _, _, _, _, _, _, e, _, _, _ => by simp [eqD] at e
  | n + 1, a, a', b, k, k', v, e, e', ra, ra' => by
    cases ra with
    | none => cases ra'; rw [e] at e'; exact Option.some.inj e'
    | bool => cases ra'; rw [e] at e'; exact Option.some.inj e'
    | int => cases ra'; rw [e] at e'; exact Option.some.inj e'
    | str => cases ra'; rw [e] at e'; exact Option.some.inj e'
    | float => cases ra'; rw [e] at e'; exact Option.some.inj e'
    | rng => rw [eqD_rng] at e; cases e
    | sdict => rw [eqD_sdict] at e; cases e
    | isdict => rw [eqD_isdict] at e; cases e
    | iidict => rw [eqD_iidict] at e; cases e
    | list hw hl hr =>
      cases ra' with
      | rng => rw [eqD_rng] at e'; cases e'
      | sdict => rw [eqD_sdict] at e'; cases e'
      | isdict => rw [eqD_isdict] at e'; cases e'
      | iidict => rw [eqD_iidict] at e'; cases e'
      | tuple hw' hl' hr' =>
        obtain ⟨m, p⟩ := hl; obtain ⟨o, p', c, _⟩ := hl'
        rw [p] at p'; cases p'; simp at c
      | list hw' hl' hr' =>
        obtain ⟨m, p⟩ := hl; obtain ⟨m', p'⟩ := hl'
        rw [p] at p'; cases p'
        have l1 := hr.length; have l2 := hr'.length
        cases b with
        | list ys =>
          simp only [eqD] at e e'
          split at e
          · rename_i hl
            rw [if_pos (by omega)] at e'
            refine allPairs_eq e e' hl (by omega) fun i x x' y b c hx hx' hy hf hg => ?_
            obtain ⟨v1, q1, s1⟩ := hr.get i x hx
            obtain ⟨v2, q2, s2⟩ := hr'.get i x' hx'
            rw [q1] at q2; cases q2
            exact eq_det n hf hg s1 s2
          · rw [if_neg (by omega)] at e'
            rw [e] at e'; exact Option.some.inj e'
        | _ => simp [eqD] at e
    | tuple hw hl hr =>
      cases ra' with
      | rng => rw [eqD_rng] at e'; cases e'
      | sdict => rw [eqD_sdict] at e'; cases e'
      | isdict => rw [eqD_isdict] at e'; cases e'
      | iidict => rw [eqD_iidict] at e'; cases e'
      | list hw' hl' hr' =>
        obtain ⟨m, p⟩ := hl'; obtain ⟨o, p', c, _⟩ := hl
        rw [p] at p'; cases p'; simp at c
      | tuple hw' hl' hr' =>
        obtain ⟨o, p, c, m, q⟩ := hl; obtain ⟨o', p', c', m', q'⟩ := hl'
        rw [p] at p'; cases p'
        rw [q] at q'; cases q'
        have l1 := hr.length; have l2 := hr'.length
        cases b with
        | tuple ys =>
          simp only [eqD] at e e'
          split at e
          · rename_i hl
            rw [if_pos (by omega)] at e'
            refine allPairs_eq e e' hl (by omega) fun i x x' y b c hx hx' hy hf hg => ?_
            obtain ⟨v1, q1, s1⟩ := hr.get i x hx
            obtain ⟨v2, q2, s2⟩ := hr'.get i x' hx'
            rw [q1] at q2; cases q2
            exact eq_det n hf hg s1 s2
          · cases e
        | _ => simp [eqD] at e

/-- the bools that the items have, by value -/
theorem by_value {α : Type} {vs : List Value} {l : List α} {bs : List Bool} {R : Value → α → Prop} {q : α → Option Bool} (hv : ∀ (i : Nat) v, vs[i]? = some v → ∃ a, l[i]? = some a ∧ R v a)
    (hq : ∀ (i : Nat) a, l[i]? = some a → ∃ b, bs[i]? = some b ∧ q a = some b) (hd : ∀ v a a' b b', R v a → R v a' → q a = some b → q a' = some b' → b = b') :
    ∃ f : Value → Bool, ∀ (i : Nat) v, vs[i]? = some v → bs[i]? = some (f v) ∧ ∃ a, R v a ∧ q a = some (f v) := by
  classical
  refine ⟨fun v => if h : ∃ b a, R v a ∧ q a = some b then h.choose else false, fun i v e => ?_⟩
  obtain ⟨a, ha, r⟩ := hv i v e
  obtain ⟨b, hb, hqa⟩ := hq i a ha
  have hex : ∃ b a, R v a ∧ q a = some b := ⟨b, a, r, hqa⟩
  have hc : hex.choose = b := by
    obtain ⟨a', r', q'⟩ := hex.choose_spec
    exact hd v a' a _ _ r' r q' hqa
  simp only [dif_pos hex, hc]
  exact ⟨hb, a, r, hqa⟩

/-- whether an item of a list or tuple is like x -/
theorem mem_main (hb : NoneBooked s.heap) (tb : TB T s.toks) {A : Around} (hu : A.units + 6 < cLine) {d : D} {l : List D} {k : Bool} {vs : Array Value} {x : Value} (e : memD d l = some k)
    (rs : Reps prog w W T s.heap vs.toList l) (rx : RepT prog w W T s.heap x d) : ∃ f : Value → Bool, vs.any f = k ∧ ∀ y, y ∈ vs → EqAt A s y x (f y) := by
  simp only [memD, Option.bind_eq_some_iff] at e
  obtain ⟨bs, hbs, e⟩ := e
  cases e
  obtain ⟨h1, h2⟩ := mapO_some hbs
  have l1 := rs.length; simp only [Array.length_toList] at l1
  obtain ⟨f, hf⟩ := by_value (R := fun v a => Rep prog w W T s.heap v a) (q := fun y => eqD 6 y d) (fun i v e => rs.get' i v e) h2 (fun v a a' b b' r r' e e' => eq_det 6 e e' r r')
  refine ⟨f, ?_, fun y hy => ?_⟩
  · have : bs = vs.toList.map f := by
      apply List.ext_getElem (by simp; omega)
      intro i hi hi'
      have hi2 : i < vs.toList.length := by simpa using hi'
      have := (hf i vs.toList[i] (by simp [hi2])).1
      simp [hi] at this
      simp [this]
    rw [this]
    simp [List.any_map, Array.any_toList]
  · obtain ⟨i, hi, rfl⟩ := Array.mem_iff_getElem.mp hy
    obtain ⟨_, a, ra, qa⟩ := hf i vs[i] (by simp [hi])
    exact (eq_main hb tb 6 A hu qa (.of ra) rx).2.2

theorem cmpD_ok (hb : NoneBooked s.heap) (hu : A.units + 10 < cLine) (tb : TB T s.toks) {op : CmpOp} {a b : D} {k : Bool} {va vb : Value} (e : cmpD op a b = some k)
    (ra : RepT prog w W T s.heap va a) (rb : RepT prog w W T s.heap vb b) : wpAny (model prog w) A (compareOp op va vb) (post0 prog w W T s (.bool k)) E s := by
  unfold cmpD at e
  split at e
  · exact (eq_main hb tb 8 A (by omega) e ra rb).1 prog w E _ post_bool'
  · rw [Option.map_eq_some_iff] at e
    obtain ⟨k', e, rfl⟩ := e
    exact (eq_main hb tb 8 A (by omega) e ra rb).2.1 prog w E _ post_bool'
  · obtain ⟨t, rfl⟩ := ra.int_inv; obtain ⟨u, rfl⟩ := rb.int_inv; cases e; exact PyProof.Rows.lt_int post_bool'
  · obtain ⟨t, rfl⟩ := ra.int_inv; obtain ⟨u, rfl⟩ := rb.int_inv; cases e; exact PyProof.Rows.gt_int post_bool'
  · obtain ⟨t, rfl⟩ := ra.int_inv; obtain ⟨u, rfl⟩ := rb.int_inv; cases e; exact PyProof.Rows.le_int post_bool'
  · obtain ⟨t, rfl⟩ := ra.int_inv; obtain ⟨u, rfl⟩ := rb.int_inv; cases e; exact PyProof.Rows.ge_int post_bool'
  · obtain ⟨t, rfl, _⟩ := ra.float_inv; obtain ⟨u, rfl, _⟩ := rb.float_inv; cases e; exact AutoFloatOps.lt_0 post_bool'
  · obtain ⟨t, rfl, _⟩ := ra.float_inv; obtain ⟨u, rfl, _⟩ := rb.float_inv; cases e; exact AutoFloatOps.gt_0 post_bool'
  · obtain ⟨t, rfl, _⟩ := ra.float_inv; obtain ⟨u, rfl, _⟩ := rb.float_inv; cases e; exact AutoFloatOps.le_0 post_bool'
  · obtain ⟨t, rfl, _⟩ := ra.float_inv; obtain ⟨u, rfl⟩ := rb.int_inv; cases e; exact PyProof.Rows.gt_fi post_bool'
  · obtain ⟨t, rfl⟩ := ra.str_inv; obtain ⟨u, rfl⟩ := rb.str_inv; cases e; exact SB.contains post_bool'
  · obtain ⟨t, rfl⟩ := ra.str_inv; obtain ⟨u, rfl⟩ := rb.str_inv; cases e; exact SB.notContains post_bool'
  · obtain ⟨t, rfl⟩ := ra.str_inv
    cases rb with
    | of rb => cases rb with
      | sdict hw hs hm hf =>
        rename_i x l a f
        cases e
        have : (l.lookup x).isSome = (f x).isSome := by
          cases h : l.lookup x with
          | none => rw [(hf x).1 h]; rfl
          | some i => obtain ⟨t, e⟩ := (hf x).2 i h; rw [e]; rfl
        rw [this]
        exact wpAny_in_of (knd := PySem.strKind prog w) (by simp [PySem.strKind, Value.isStrOf]) hs hm post_bool
  · obtain ⟨a1, vs1, rfl, p1, r1⟩ := rb.list_inv
    obtain ⟨f, hf, he⟩ := mem_main hb tb (A := A.in1) (by show A.units + 1 + 6 < cLine; omega) e r1 ra
    exact in_listAt f p1.isList he (hf ▸ post_bool')
  · obtain ⟨a1, vs1, rfl, p1, r1⟩ := rb.tuple_inv
    obtain ⟨f, hf, he⟩ := mem_main hb tb (A := A.in1) (by show A.units + 1 + 6 < cLine; omega) e r1 ra
    exact in_tupleAt f p1 he (hf ▸ post_bool')
  · rw [Option.map_eq_some_iff] at e
    obtain ⟨k', e, rfl⟩ := e
    obtain ⟨a1, vs1, rfl, p1, r1⟩ := rb.list_inv
    obtain ⟨f, hf, he⟩ := mem_main hb tb (A := A.in1) (by show A.units + 1 + 6 < cLine; omega) e r1 ra
    exact notIn_listAt f p1.isList he (hf ▸ post_bool')
  · have h1 := ra.bool_inv; have h2 := rb.bool_inv; subst h1 h2; cases e
    rename_i x y
    have : (x == y) = (Value.bool x == Value.bool y) := by cases x <;> cases y <;> rfl
    rw [this]
    exact wpAny_is_plain rfl post_bool'
  · have h1 := ra.bool_inv; have h2 := rb.bool_inv; subst h1 h2; cases e
    rename_i x y
    have : (x == y) = (Value.bool x == Value.bool y) := by cases x <;> cases y <;> rfl
    rw [this]
    exact wpAny_isNot_plain rfl post_bool'
  · cases e
end Mine
end
section
namespace Mine
open PySem PyProof.Rows PySem.SeqAt

variable {prog : Program} {w : World} {A : Around} {E : Value → Shared → Prop} {W : Addr → Prop} {T : Tm} {s : Shared}

theorem subscripted_ops (slice : Expr) (o i : Value) : ∃ ops, subscripted slice false o i = operate ops (getItem o i) := by
  unfold subscripted
  split
  · exact ⟨_, rfl⟩
  · rename_i h; exact nomatch h
  · exact ⟨_, rfl⟩

theorem seqIndex_spec {k : Int} {n j : Nat} (h : seqIndex? k n = some j) : (0 ≤ k ∧ j = k.toNat ∨ k < 0 ∧ j = (k + n).toNat ∧ 0 ≤ k + n) ∧ j < n := by
  unfold seqIndex? at h
  by_cases hk : k < 0
  · simp only [hk, if_true] at h
    split at h
    · rename_i h'; simp at h'; cases h; exact ⟨.inr ⟨hk, rfl, h'.1⟩, by omega⟩
    · cases h
  · simp only [hk, if_false] at h
    split at h
    · rename_i h'; simp at h'; cases h; exact ⟨.inl ⟨by omega, rfl⟩, by omega⟩
    · cases h

theorem getItem_list_at {l : Addr} {items : Array Value} {k : Int} {t : Tok} {j : Nat} {x : Value} {Q : Value → Shared → Prop} (hl : s.heap.IsList l items) (hk : small k = true) (hj : seqIndex? k items.size = some j)
    (hx : items[j]? = some x) (h : Q x s) : wpAny (model prog w) A (getItem (.ref l) (.int k t)) Q E s := by
  have hs := small_lt hk
  obtain ⟨h1 | h1, h2⟩ := seqIndex_spec hj
  · exact wpAny_getItem_list hl h1.1 (by omega) (h1.2 ▸ hx) h
  · exact wpAny_getItem_list_neg hl h1.1 (by omega) (by omega) (h1.2.1 ▸ hx) h

theorem itemD_ok {value slice : Expr} {a i d : D} {va vi : Value} (e : itemD a i = some d) (ra : RepT prog w W T s.heap va a) (ri : RepT prog w W T s.heap vi i) :
    wpAny (model prog w) A (subscriptTail value slice va vi) (post0 prog w W T s d) E s := by
  unfold itemD at e
  obtain ⟨ops, hops⟩ := subscripted_ops slice va vi
  split at e
  · obtain ⟨a1, vs1, rfl, p1, r1⟩ := ra.list_inv
    obtain ⟨t, rfl⟩ := ri.int_inv
    split at e
    · rename_i hk
      simp only [Option.bind_eq_some_iff] at e
      obtain ⟨j, hj, e⟩ := e
      have l1 := r1.length; simp only [Array.length_toList] at l1
      obtain ⟨v, hv, rv⟩ := r1.get j d e
      exact tail_any p1.isList.typeIs slot_list_getitem.lookup (getItem_list_at p1.isList hk (l1 ▸ hj) (by simpa using hv) ⟨kRefl _, rv⟩) hops
    · cases e
  · obtain ⟨a1, vs1, rfl, p1, r1⟩ := ra.tuple_inv
    obtain ⟨t, rfl⟩ := ri.int_inv
    split at e
    · rename_i hk
      have hs := small_lt hk
      simp only [Option.bind_eq_some_iff] at e
      obtain ⟨j, hj, e⟩ := e
      have l1 := r1.length; simp only [Array.length_toList] at l1
      obtain ⟨v, hv, rv⟩ := r1.get j d e
      have ht : IsTup s.heap a1 vs1 := p1
      exact tail_any ht.typeIs slot_tuple_getitem.lookup (PyProof.Rows.getItem_tuple ht (by omega) (by omega) (l1 ▸ hj) (by simpa using hv) ⟨kRefl _, rv⟩) hops
    · cases e
  · obtain ⟨t, rfl⟩ := ra.str_inv; obtain ⟨u, rfl⟩ := ri.int_inv
    split at e
    · rename_i hk
      cases e
      exact tail_any (typeIs_str s _ t) F.slot_str_getitem.lookup (SB.getItem (by have := small_lt hk.1; simp [fitsSsize]; omega) hk.2 post_str) hops
    · cases e
  · obtain ⟨u, rfl⟩ := ri.str_inv
    rw [Option.map_eq_some_iff] at e
    obtain ⟨i, hi, rfl⟩ := e
    cases ra with
    | of ra => cases ra with
      | sdict hw hs hm hf =>
        obtain ⟨t, ht⟩ := (hf _).2 i hi
        exact tail_any hm.typeIs slot_dict_getitem.lookup (wpAny_getItem_of (knd := PySem.strKind prog w) (by simp [PySem.strKind, Value.isStrOf]) hm ht post_int) hops
  · cases e

/-! slices -/
theorem pick_reps {vs : Array Value} {ds : List D} {h : Heap} (r : Reps prog w W T h vs.toList ds) (lo hi st : Option Int) : Reps prog w W T h (slicePick vs lo hi st).toList (pick ds lo hi st) := by
  have l1 := r.length; simp only [Array.length_toList] at l1
  unfold slicePick pick
  rw [l1]
  generalize sliceRange _ _ _ = is
  show Reps prog w W T h (is.filterMap (vs[·]?)) (is.filterMap (ds[·]?))
  induction is with
  | nil => exact .nil
  | cons i is ih =>
    simp only [List.filterMap_cons]
    cases e : ds[i]? with
    | none =>
      have : vs[i]? = none := by
        simp only [List.getElem?_eq_none_iff] at e
        simp; omega
      rw [this]; exact ih
    | some d =>
      obtain ⟨v, hv, rv⟩ := r.get i d e
      have : vs[i]? = some v := by simpa using hv
      rw [this]; exact .cons rv ih

theorem sliceD_ok {value slice : Expr} {n0 : Nat} (wb : WB n0 W s.heap) {a d : D} {va : Value} {sl : Addr} {vl vu vs : Value} {lo hi st : Option Int} (e : sliceD a lo hi st = some d) (ra : RepT prog w W T s.heap va a)
    (hs : s.heap.IsSliceOf sl vl vu vs) (pl : IsPart vl lo) (pu : IsPart vu hi) (ps : IsPart vs st) :
    wpAny (model prog w) A (subscriptTail value slice va (.ref sl)) (post0 prog w W T s d) E s := by
  unfold sliceD at e
  obtain ⟨ops, hops⟩ := subscripted_ops slice va (.ref sl)
  split at e
  · obtain ⟨a1, vs1, rfl, p1, r1⟩ := ra.list_inv
    split at e
    · rename_i h
      cases e
      have l1 := r1.length; simp only [Array.length_toList] at l1
      exact tail_any p1.isList.typeIs slot_list_getitem.lookup (wpAny_getItem_list_slice p1.isList hs pl pu ps h.2 (new_list wb (pick_reps r1 lo hi st)) (by unfold sizeLine; omega)) hops
    · cases e
  · obtain ⟨t, rfl⟩ := ra.str_inv
    split at e
    · rename_i x h
      obtain ⟨hx, rfl⟩ := h
      cases e
      cases ps
      have hz : (Txt.slice x lo hi).length ≤ sizeLine := Nat.le_trans (Txt.slice_le x lo hi) (by unfold sizeLine; omega)
      refine tail_any (typeIs_str s _ t) F.slot_str_getitem.lookup ?_ hops
      have key : ∀ l u : Option (Int × Tok), vl = partValue l → vu = partValue u → l.map (·.1) = lo → u.map (·.1) = hi → wpAny (model prog w) A (getItem (.str x t) (.ref sl)) (post0 prog w W T s (.str (Txt.slice x lo hi))) E s := by
        intro l u e1 e2 e3 e4
        refine wpAny_getItem_str_slice (l := l) (u := u) (st := none) (by obtain ⟨o, h1, h2, h3⟩ := hs; exact ⟨o, h1, h2, by rw [h3, e1, e2]; rfl⟩) rfl ?_
        unfold sliceMade slicePicked
        unfold Txt.slice at hz ⊢
        rw [e3, e4]
        simp only [Option.map_none, Option.getD_none] at hz ⊢
        split
        · exact ⟨kRefl _, .str _ _⟩
        · rename_i hc
          rw [if_neg hc] at hz
          exact ⟨hz, post_str⟩
      cases pl with
      | none => cases pu with
        | none => exact key none none rfl rfl rfl rfl
        | int j v => exact key none (some (j, v)) rfl rfl rfl rfl
      | int i u => cases pu with
        | none => exact key (some (i, u)) none rfl rfl rfl rfl
        | int j v => exact key (some (i, u)) (some (j, v)) rfl rfl rfl rfl
    · cases e
  · cases e
end Mine
end
section
namespace Mine
open PySem PyProof.Rows PySem.SeqAt

variable {prog : Program} {w : World} {A : Around} {E : Value → Shared → Prop} {W : Addr → Prop} {T : Tm} {s : Shared}

theorem ints_of : ∀ {vs : List Value} {ds : List D} {is : List Int} {h : Heap}, Reps prog w W T h vs ds → intsO ds = some is → ds = is.map .int ∧ IntsAre vs is
  | _, _, is, _, .nil, e => by simp [intsO] at e; subst e; exact ⟨rfl, .nil⟩
  | _, _, is, _, .cons (d := d) a b, e => by
    cases d with
    | int i =>
      simp only [intsO, Option.bind_eq_some_iff] at e
      obtain ⟨js, hj, e⟩ := e
      cases e
      obtain ⟨h1, h2⟩ := ints_of b hj
      cases a
      exact ⟨by rw [h1]; rfl, .cons _ _ h2⟩
    | _ => simp [intsO] at e

theorem intsAre_items : ∀ {vs : List Value} {is : List Int}, IntsAre vs is → ∃ xs : Array (Int × Tok), intItems xs = vs.toArray ∧ xs.toList.map (·.1) = is
  | _, _, .nil => ⟨#[], by simp [intItems], rfl⟩
  | _, _, .cons n t r => by
    obtain ⟨xs, h1, h2⟩ := intsAre_items r
    refine ⟨((n, t) :: xs.toList).toArray, ?_, by simp [h2]⟩
    apply Array.toList_inj.mp
    have := congrArg Array.toList h1
    simp only [intItems, Array.toList_map] at this
    simp [intItems, this]

theorem intsAre_reps : ∀ {vs : List Value} {is : List Int} {h : Heap}, IntsAre vs is → Reps prog w W T h vs (is.map .int)
  | _, _, _, .nil => .nil
  | _, _, _, .cons n t r => .cons (.int _ _) (intsAre_reps r)

theorem numAt_eq {xs : Array (Int × Tok)} {is : List Int} (h : xs.toList.map (·.1) = is) (i : Nat) : numAt xs i = (is[i]?).getD 0 := by
  subst h; simp [numAt]

theorem preSum_eq {is : List Int} : ∀ (n : Nat), n ≤ is.length → preSum (fun i => (is[i]?).getD 0) n = (is.take n).sum
  | 0, _ => by simp [preSum]
  | n + 1, h => by
    have hn : n < is.length := h
    rw [preSum, preSum_eq n (by omega), List.take_succ_eq_append_getElem hn, List.sum_append]
    simp [hn]

theorem sum_bound {is : List Int} {B : Nat} (h : ∀ i ∈ is, i.natAbs < B) : ∀ (n : Nat), (is.take n).sum.natAbs ≤ n * B
  | 0 => by simp
  | n + 1 => by
    have ih := sum_bound h n
    by_cases hn : n < is.length
    · rw [List.take_succ_eq_append_getElem hn, List.sum_append]
      have h1 := h _ (List.getElem_mem hn)
      have h2 := Int.natAbs_add_le (List.take n is).sum [is[n]].sum
      have h3 : [is[n]].sum = is[n] := by simp
      rw [h3] at h2 ⊢
      rw [Nat.add_mul, Nat.one_mul]
      omega
    · rw [List.take_of_length_le (by omega)]
      rw [List.take_of_length_le (by omega)] at ih
      rw [Nat.add_mul]
      omega

theorem maxL_eq {is : List Int} (bt : Nat → Nat → Bool) (hbt : ∀ i j, bt i j = decide ((is[i]?).getD 0 > (is[j]?).getD 0)) (a : Int) (r : List Int) (e : is = a :: r) :
    ∀ n, n < is.length → (is[argBest bt n]?).getD 0 = (r.take n).foldl (fun m x => if m < x then x else m) a ∧ argBest bt n < is.length
  | 0, h => by subst e; simp [argBest]
  | n + 1, h => by
    obtain ⟨h1, h2⟩ := maxL_eq bt hbt a r e n (by omega)
    have hr : n < r.length := by rw [e] at h; simpa using h
    rw [List.take_succ_eq_append_getElem hr, List.foldl_append, ← h1]
    have hx : (is[n + 1]?).getD 0 = r[n] := by rw [e]; simp [hr]
    simp only [argBest, hbt, hx, List.foldl_cons, List.foldl_nil]
    by_cases hc : r[n] > (is[argBest bt n]?).getD 0
    · simp only [hc, decide_true, if_true]; exact ⟨hx, h⟩
    · simp only [hc, decide_false, if_false]; exact ⟨rfl, h2⟩

theorem float_gt {vs : Array Value} {fs : Nat → UInt64} (hP : ∀ (i : Nat) (v : Value), vs[i]? = some v → ∃ t : Tok, v = Value.float (fs i) t) : CmpOf prog w A .Gt (fun i v => vs[i]? = some v) (fun i j => Float64.cmp (fs i) (fs j) == some .gt) :=
  fun i j vi vj s Q E hi hj hQ => by
    obtain ⟨t, rfl⟩ := hP i vi hi
    obtain ⟨u, rfl⟩ := hP j vj hj
    exact AutoFloatOps.gt_0 hQ
theorem float_lt {vs : Array Value} {fs : Nat → UInt64} (hP : ∀ (i : Nat) (v : Value), vs[i]? = some v → ∃ t : Tok, v = Value.float (fs i) t) : CmpOf prog w A .Lt (fun i v => vs[i]? = some v) (fun i j => Float64.cmp (fs i) (fs j) == some .lt) :=
  fun i j vi vj s Q E hi hj hQ => by
    obtain ⟨t, rfl⟩ := hP i vi hi
    obtain ⟨u, rfl⟩ := hP j vj hj
    exact AutoFloatOps.lt_0 hQ

def fAt (x y z : UInt64) : Nat → UInt64
  | 0 => x
  | 1 => y
  | _ => z

theorem three_at {x y z : UInt64} {t u v : Tok} : ∀ (i : Nat) (c : Value), (#[Value.float x t, Value.float y u, Value.float z v] : Array Value)[i]? = some c → ∃ k : Tok, c = Value.float (fAt x y z i) k
  | 0, c, h => ⟨t, by simpa [fAt] using h.symm⟩
  | 1, c, h => ⟨u, by simpa [fAt] using h.symm⟩
  | 2, c, h => ⟨v, by simpa [fAt] using h.symm⟩
  | n + 3, c, h => by simp at h

theorem three_val {x y z : UInt64} {t u v : Tok} {T : Tm} (q1 : T t = some x) (q2 : T u = some y) (q3 : T v = some z) {bt : Nat → Nat → Bool} {c : Value} {h : Heap}
    (hP : (#[Value.float x t, Value.float y u, Value.float z v] : Array Value)[argBest bt 2]? = some c) :
    Rep prog w W T h c (.float (if bt 2 (if bt 1 0 then 1 else 0) then z else if bt 1 0 then y else x)) := by
  simp only [argBest] at hP
  cases h1 : bt 1 0 with
  | true =>
    simp only [h1, if_true] at hP ⊢
    cases h2 : bt 2 1 with
    | true => simp [h2] at hP; subst hP; simpa using Rep.float q3
    | false => simp [h2] at hP; subst hP; simpa using Rep.float q2
  | false =>
    simp only [h1, Bool.false_eq_true, if_false] at hP ⊢
    cases h2 : bt 2 0 with
    | true => simp [h2] at hP; subst hP; simpa using Rep.float q3
    | false => simp [h2] at hP; subst hP; simpa using Rep.float q1

theorem kOf {h' : Heap} {tk : Nat} (hk : Kp s.heap h') : Keeps s { s with heap := h', toks := tk } := ⟨h', tk, rfl, hk⟩

theorem call_max3 {x y z : UInt64} {t u v : Tok} (hh : A.handled = none) (q1 : T t = some x) (q2 : T u = some y) (q3 : T v = some z) :
    wpAny (model prog w) A (call (.builtin "max") [.float x t, .float y u, .float z v]) (post0 prog w W T s (.float (max3 x y z))) E s := by
  have hT : (s.heap.push { cls := .type "tuple", data := .seq #[.float x t, .float y u, .float z v] }).IsTuple s.heap.objs.size #[.float x t, .float y u, .float z v] := ⟨_, Heap.get?_push_size _ rfl, rfl, 0, rfl⟩
  refine call_max_three (wpAny_pyIter_tuple hT ?_)
  have hsz : (s.heap.push { cls := .type "tuple", data := .seq #[.float x t, .float y u, .float z v] }).objs.size = s.heap.objs.size + 1 := Heap.size_push ..
  refine ⟨_, [_, s.heap.objs.size], [_], _, _, _, _, rfl, Walks.tuple (A := A.in1) hh _ s.heap.objs.size (by rw [hsz]; exact Nat.ne_of_lt (Nat.lt_succ_self _)) #[.float x t, .float y u, .float z v],
    ⟨⟨_, Heap.get?_push_size _ rfl, rfl, rfl⟩, hT.push _⟩, fun d hd => ?_, by simp, float_gt (fs := fAt x y z) three_at, fun c h' tk hP hk => ?_⟩
  · show d < ((s.heap.push _).push _).objs.size
    rw [Heap.size_push, hsz]
    rcases List.mem_cons.mp hd with rfl | hd
    · rw [hsz]; exact Nat.lt_succ_self _
    · rcases List.mem_cons.mp hd with rfl | hd
      · exact Nat.lt_succ_of_lt (Nat.lt_succ_self _)
      · cases hd
  · have hold : ∀ d o, s.heap.get? d = some o → h'.get? d = some o := fun d o e => by
      refine hk d o (fun hm => ?_) (Heap.get?_push_of_some _ (Heap.get?_push_of_some _ e))
      rcases List.mem_cons.mp hm with e1 | hm
      · have := Heap.lt_size e; rw [e1, hsz] at this; exact Nat.lt_irrefl _ (Nat.lt_of_succ_lt this)
      · cases hm
    refine ⟨⟨h', tk, rfl, hold⟩, ?_⟩
    have := three_val (prog := prog) (w := w) (W := W) (h := h') q1 q2 q3 hP
    unfold max3
    cases h1 : (Float64.cmp y x == some .gt) with
    | true => simpa [fAt, h1] using this
    | false => simpa [fAt, h1] using this

theorem call_min3 {x y z : UInt64} {t u v : Tok} (hh : A.handled = none) (q1 : T t = some x) (q2 : T u = some y) (q3 : T v = some z) :
    wpAny (model prog w) A (call (.builtin "min") [.float x t, .float y u, .float z v]) (post0 prog w W T s (.float (min3 x y z))) E s := by
  have hT : (s.heap.push { cls := .type "tuple", data := .seq #[.float x t, .float y u, .float z v] }).IsTuple s.heap.objs.size #[.float x t, .float y u, .float z v] := ⟨_, Heap.get?_push_size _ rfl, rfl, 0, rfl⟩
  refine call_min_three (wpAny_pyIter_tuple hT ?_)
  have hsz : (s.heap.push { cls := .type "tuple", data := .seq #[.float x t, .float y u, .float z v] }).objs.size = s.heap.objs.size + 1 := Heap.size_push ..
  refine ⟨_, [_, s.heap.objs.size], [_], _, _, _, _, rfl, Walks.tuple (A := A.in1) hh _ s.heap.objs.size (by rw [hsz]; exact Nat.ne_of_lt (Nat.lt_succ_self _)) #[.float x t, .float y u, .float z v],
    ⟨⟨_, Heap.get?_push_size _ rfl, rfl, rfl⟩, hT.push _⟩, fun d hd => ?_, by simp, float_lt (fs := fAt x y z) three_at, fun c h' tk hP hk => ?_⟩
  · show d < ((s.heap.push _).push _).objs.size
    rw [Heap.size_push, hsz]
    rcases List.mem_cons.mp hd with rfl | hd
    · rw [hsz]; exact Nat.lt_succ_self _
    · rcases List.mem_cons.mp hd with rfl | hd
      · exact Nat.lt_succ_of_lt (Nat.lt_succ_self _)
      · cases hd
  · have hold : ∀ d o, s.heap.get? d = some o → h'.get? d = some o := fun d o e => by
      refine hk d o (fun hm => ?_) (Heap.get?_push_of_some _ (Heap.get?_push_of_some _ e))
      rcases List.mem_cons.mp hm with e1 | hm
      · have := Heap.lt_size e; rw [e1, hsz] at this; exact Nat.lt_irrefl _ (Nat.lt_of_succ_lt this)
      · cases hm
    refine ⟨⟨h', tk, rfl, hold⟩, ?_⟩
    have := three_val (prog := prog) (w := w) (W := W) (h := h') q1 q2 q3 hP
    unfold min3
    cases h1 : (Float64.cmp y x == some .lt) with
    | true => simpa [fAt, h1] using this
    | false => simpa [fAt, h1] using this
end Mine
end
section
namespace Mine
open PySem PyProof.Rows PySem.SeqAt

variable {prog : Program} {w : World} {A : Around} {E : Value → Shared → Prop} {W : Addr → Prop} {T T' : Tm} {s : Shared}

inductive RepTs (prog : Program) (w : World) (W : Addr → Prop) (T : Tm) (h : Heap) : List Value → List D → Prop
  | nil : RepTs prog w W T h [] []
  | cons {v vs d ds} : RepT prog w W T h v d → RepTs prog w W T h vs ds → RepTs prog w W T h (v :: vs) (d :: ds)
theorem RepTs.keeps {s s' : Shared} {vs : List Value} {ds : List D} (x : RepTs prog w W T s.heap vs ds) (k : Keeps s s') : RepTs prog w W T s'.heap vs ds := by
  induction x with
  | nil => exact .nil
  | cons a _ ih => exact .cons (a.keeps k) ih
theorem RepTs.tm {h : Heap} {vs : List Value} {ds : List D} (k : TLe T T') (x : RepTs prog w W T h vs ds) : RepTs prog w W T' h vs ds := by
  induction x with
  | nil => exact .nil
  | cons a _ ih => exact .cons (a.tm k) ih

/-- the value under a built-in's name -/
def bltV (f : Str) : Option Value :=
  if f = "len" then some (.builtin "len") else if f = "sum" then some (.builtin "sum") else if f = "max" then some (.builtin "max") else if f = "min" then some (.builtin "min")
  else if f = "int" then some (.type "int") else if f = "range" then some (.type "range") else if f = "sorted" then some (.builtin "sorted") else none

theorem mergeSort_eq {ns ns' : List Int} (hp : ns'.Perm ns) (hs : ns'.Pairwise (· ≤ ·)) : ns.mergeSort (· ≤ ·) = ns' := by
  have h1 : (ns.mergeSort (fun a b => decide (a ≤ b))).Pairwise (· ≤ ·) := by
    have := List.pairwise_mergeSort (le := fun (a b : Int) => decide (a ≤ b)) (fun a b c => by simp; omega) (fun a b => by simp; omega) ns
    exact this.imp (by simp)
  have h2 : (ns.mergeSort (fun a b => decide (a ≤ b))).Perm ns' := (List.mergeSort_perm ns _).trans hp.symm
  exact List.Perm.eq_of_pairwise (fun a b _ _ h1 h2 => Int.le_antisymm h1 h2) h1 hs h2

theorem inLong_one {i : Int} (h : i.natAbs < 2 ^ 40) : InLong i := by unfold InLong; omega
theorem inLong_sum {S : Int} {j : Nat} (h : S.natAbs ≤ (j + 1) * 2 ^ 40) (hj : j + 1 ≤ 1024) : InLong S := by
  have h2 : S.natAbs ≤ 1024 * 2 ^ 40 := Nat.le_trans h (Nat.mul_le_mul_right _ hj)
  unfold InLong; omega

theorem bltD_ok {n0 : Nat} (wb : WB n0 W s.heap) (hh : A.handled = none) {f : Str} {fv : Value} {as : List D} {vs : List Value} {d : D} (hf : bltV f = some fv) (e : bltD f as = some d) (r : RepTs prog w W T s.heap vs as) :
    wpAny (model prog w) A (call fv vs) (post0 prog w W T s d) E s := by
  unfold bltD at e
  unfold bltV at hf
  split at e
  · rw [if_pos (by assumption)] at hf
    cases hf
    split at e
    · cases r with | cons a b => ?_
      cases b
      obtain ⟨t, rfl⟩ := a.str_inv
      split at e
      · cases e; exact PyProof.Rows.len_str (by omega) post_int
      · cases e
    · cases r with | cons a b => ?_
      cases b
      obtain ⟨l1, vs1, rfl, p1, r1⟩ := a.list_inv
      have l1 := r1.length; simp only [Array.length_toList] at l1
      split at e
      · cases e; rw [← l1]; exact PyProof.Rows.len_list p1.isList (by omega) post_int
      · cases e
    · cases r with | cons a b => ?_
      cases b
      obtain ⟨l1, vs1, rfl, p1, r1⟩ := a.tuple_inv
      have l1 := r1.length; simp only [Array.length_toList] at l1
      split at e
      · cases e; rw [← l1]; exact PyProof.Rows.len_tuple p1 (by omega) post_int
      · cases e
    · cases e
  · rw [if_neg (by assumption)] at hf
    split at e
    · rw [if_pos (by assumption)] at hf
      cases hf
      split at e
      · cases r with | cons a b => ?_
        cases b
        obtain ⟨l1, vs1, rfl, p1, r1⟩ := a.list_inv
        simp only [Option.bind_eq_some_iff] at e
        obtain ⟨is, hi, e⟩ := e
        obtain ⟨rfl, hI⟩ := ints_of r1 hi
        obtain ⟨xs, hx1, hx2⟩ := intsAre_items hI
        split at e
        · rename_i h
          cases e
          have hsz : xs.size = is.length := by rw [← hx2]; simp
          have hn : numAt xs = fun i => (is[i]?).getD 0 := funext fun i => numAt_eq hx2 i
          have hb : ∀ i ∈ is, i.natAbs < 2 ^ 40 := fun i hi => by have := List.all_eq_true.mp h.2 i hi; simpa using this
          refine sum_intList (xs := xs) hh (by rw [hx1]; exact p1.isList) (fun j hj => ?_) fun h' tk t' hk => ?_
          · rw [hn, preSum_eq _ (by omega)]
            have hj' : j < is.length := by omega
            have h3 : (is[j]?).getD 0 = is[j] := by simp [hj']
            show InLong ((is[j]?).getD 0) ∧ _
            rw [h3]
            exact ⟨inLong_one (hb _ (List.getElem_mem hj')), inLong_sum (sum_bound hb (j + 1)) (by omega)⟩
          · rw [hn, hsz, preSum_eq _ (Nat.le_refl _), List.take_length]
            exact ⟨kOf hk, .int _ _⟩
        · cases e
      · cases e
    · rw [if_neg (by assumption)] at hf
      split at e
      · rw [if_pos (by assumption)] at hf
        cases hf
        split at e
        · cases r with | cons a b => ?_
          cases b
          obtain ⟨l1, vs1, rfl, p1, r1⟩ := a.list_inv
          simp only [Option.bind_eq_some_iff] at e
          obtain ⟨is, hi, e⟩ := e
          obtain ⟨rfl, hI⟩ := ints_of r1 hi
          obtain ⟨xs, hx1, hx2⟩ := intsAre_items hI
          split at e
          · rename_i h
            cases is with
            | nil => simp [maxL] at e
            | cons a0 r0 =>
              simp only [maxL, Option.map_some, Option.some.injEq] at e
              subst e
              have hsz : xs.size = (a0 :: r0).length := by rw [← hx2]; simp
              have hn : ∀ i, numAt xs i = ((a0 :: r0)[i]?).getD 0 := fun i => numAt_eq hx2 i
              refine max_intList (xs := xs) hh (by rw [hx1]; exact p1.isList) (by simp at hsz; omega) fun v h' tk hv hk => ⟨kOf hk, ?_⟩
              obtain ⟨t, rfl⟩ := intItems_at hv
              obtain ⟨h1, h2⟩ := maxL_eq (is := a0 :: r0) (fun i j => decide (numAt xs i > numAt xs j)) (fun i j => by simp only [hn]) a0 r0 rfl (xs.size - 1) (by simp at hsz ⊢; omega)
              rw [hn, h1, List.take_of_length_le (by simp at hsz; omega)]
              exact .int _ _
          · cases e
        · cases r with | cons a b => ?_
          cases b with | cons b c => ?_
          cases c
          obtain ⟨t, rfl⟩ := a.int_inv; obtain ⟨u, rfl⟩ := b.int_inv
          cases e
          refine max_two_ints hh fun h' tk hk => ⟨kOf hk, ?_⟩
          split
          · exact .int _ _
          · exact .int _ _
        · cases r with | cons a b => ?_
          cases b with | cons b c => ?_
          cases c with | cons c d => ?_
          cases d
          obtain ⟨t, rfl, q1⟩ := a.float_inv; obtain ⟨u, rfl, q2⟩ := b.float_inv; obtain ⟨v, rfl, q3⟩ := c.float_inv
          cases e
          exact call_max3 hh q1 q2 q3
        · cases e
      · rw [if_neg (by assumption)] at hf
        split at e
        · rw [if_pos (by assumption)] at hf
          cases hf
          split at e
          · cases r with | cons a b => ?_
            cases b with | cons b c => ?_
            cases c
            obtain ⟨t, rfl⟩ := a.int_inv; obtain ⟨u, rfl⟩ := b.int_inv
            cases e
            refine min_two_ints hh fun h' tk hk => ⟨kOf hk, ?_⟩
            split
            · exact .int _ _
            · exact .int _ _
          · cases r with | cons a b => ?_
            cases b with | cons b c => ?_
            cases c with | cons c d => ?_
            cases d
            obtain ⟨t, rfl, q1⟩ := a.float_inv; obtain ⟨u, rfl, q2⟩ := b.float_inv; obtain ⟨v, rfl, q3⟩ := c.float_inv
            cases e
            exact call_min3 hh q1 q2 q3
          · cases e
        · rw [if_neg (by assumption)] at hf
          split at e
          · rw [if_pos (by assumption)] at hf
            cases hf
            split at e
            · cases r with | cons a b => ?_
              cases b
              obtain ⟨t, rfl, q1⟩ := a.float_inv
              rw [Option.map_eq_some_iff] at e
              obtain ⟨i, hi, rfl⟩ := e
              unfold intOf at hi
              split at hi
              · rename_i hd
                cases hi
                exact call_int_float hd post_int
              · cases hi
            · cases e
          · rw [if_neg (by assumption)] at hf
            split at e
            · rw [if_pos (by assumption)] at hf
              cases hf
              split at e
              · cases r with | cons a b => ?_
                cases b
                obtain ⟨t, rfl⟩ := a.int_inv
                split at e
                · cases e
                  exact call_range_1 ⟨⟨_, _, rfl, fun _ _ e => Heap.get?_push_of_some _ e⟩, .rng wb.fresh (IsRange.new _ _ _ _ _ _ _)⟩
                · cases e
              · cases r with | cons a b => ?_
                cases b with | cons b c => ?_
                cases c
                obtain ⟨t, rfl⟩ := a.int_inv; obtain ⟨u, rfl⟩ := b.int_inv
                split at e
                · cases e
                  exact call_range_2 ⟨⟨_, _, rfl, fun _ _ e => Heap.get?_push_of_some _ e⟩, .rng wb.fresh (IsRange.new _ _ _ _ _ _ _)⟩
                · cases e
              · cases e
            · rw [if_neg (by assumption)] at hf
              split at e
              · rw [if_pos (by assumption)] at hf
                cases hf
                split at e
                · cases r with | cons a b => ?_
                  cases b
                  obtain ⟨l1, vs1, rfl, p1, r1⟩ := a.list_inv
                  simp only [Option.bind_eq_some_iff] at e
                  obtain ⟨is, hi, e⟩ := e
                  obtain ⟨rfl, hI⟩ := ints_of r1 hi
                  split at e
                  · rename_i h
                    cases e
                    have hl := hI.length
                    refine PyProof.Rows.sorted_ints (vs := vs1.toList) (by simpa using p1.isList) hI (by omega) fun out ns' h1 h2 h3 => ?_
                    obtain ⟨e, he⟩ := sortedAll_at s.heap vs1.toList out
                    rw [mergeSort_eq h2 h3]
                    refine ⟨⟨_, _, rfl, fun _ _ e => sortedAll_old e⟩, .list (fun q => ?_) ⟨e, he⟩ (intsAre_reps h1)⟩
                    obtain ⟨_, o, ho⟩ := wb _ q
                    exact Nat.lt_irrefl _ (Nat.lt_of_succ_lt (Heap.lt_size ho))
                  · cases e
                · cases e
              · cases e
end Mine
end
section
namespace Mine
open PySem PyProof.Rows PySem.SeqAt PySem.Builtin PySem.Builtin.Str

variable {prog : Program} {w : World} {A : Around} {E : Value → Shared → Prop} {W : Addr → Prop} {T T' : Tm} {s : Shared}

theorem gives_find4 (x y : Str) (i j : Int) (t u v v' : Tok) : Gives («str.find» ⟨[.str x t, .str y u, .int i v, .int j v'], []⟩)
    (.int (match occurrences x y (fromIndex x.length i) (min (max 0 (if j < 0 then j + x.length else j)).toNat x.length) 1 with | k :: _ => (k : Int) | [] => -1)) := by
  show Gives (match occurrences x y (fromIndex x.length i) (min (max 0 (if j < 0 then j + x.length else j)).toNat x.length) 1 with | k :: _ => retInt k | [] => (do rule "str.find.not-found"; retInt (-1))) _
  cases occurrences x y (fromIndex x.length i) (min (max 0 (if j < 0 then j + x.length else j)).toNat x.length) 1 with
  | nil => exact .rule (.of_eq rfl)
  | cons k _ => exact .of_eq rfl

/-- split, with the new list's place -/
theorem split_at {x y : Str} {t u : Tok} {Q : Value → Shared → Prop} (hy : (y.length == 0) = false)
    (hq : ∀ (l : List (Str × Tok)) tk, l.map (·.1) = Txt.split x y → Q (.ref s.heap.objs.size) { s with heap := s.heap.push { cls := .type "list", data := .seq (strValues l).toArray }, toks := tk })
    (hsz : x.length ≤ sizeLine) (hsz2 : (partsBetween x (occurrences x y 0 x.length (x.length + 1)) y.length).length ≤ sizeLine) :
    wpAny (model prog w) A (call (.builtin "str.split") [.str x t, .str y u]) Q E s := by
  cases h1 : (decide (x.length < y.length) || decide (strKind x < strKind y))
  · cases hf : (occurrences x y 0 x.length (x.length + 1)).isEmpty
    · refine call_meets F.slot_str_split (typeIs_str _ _ _) F.entry_str_split (F.args_str_split_2 _ _) (meets_str_split_sep x y t u h1 hy hf hsz hsz2) ?_
      show wants Q E _ { s with toks := _, heap := s.heap.push { cls := .type "list", data := .seq (strsFrom s.toks (partsBetween x (occurrences x y 0 x.length (x.length + 1)) y.length)).toArray } }
      rw [strsFrom_eq]
      exact hq (numbered s.toks _) _ ((numbered_texts _ _).trans ((if_neg (ne_true_of_eq_false h1)).trans (if_neg (ne_true_of_eq_false hf))).symm)
    · exact call_meets F.slot_str_split (typeIs_str _ _ _) F.entry_str_split (F.args_str_split_2 _ _) (meets_str_split_not_found x y t u h1 hy hf)
        (hq [(x, t)] s.toks ((if_neg (ne_true_of_eq_false h1)).trans (if_pos hf)).symm)
  · exact call_meets F.slot_str_split (typeIs_str _ _ _) F.entry_str_split (F.args_str_split_2 _ _) (meets_str_split_cannot_occur x y t u h1)
      (hq [(x, t)] s.toks (if_pos h1).symm)

theorem reps_strValues : ∀ (l : List (Str × Tok)) {h : Heap}, Reps prog w W T h (strValues l) ((l.map (·.1)).map .str)
  | [], _ => .nil
  | (x, t) :: r, _ => .cons (.str _ _) (reps_strValues r)

theorem strs_of : ∀ {vs : List Value} {ds : List D} {is : List Str} {h : Heap}, Reps prog w W T h vs ds → strsO ds = some is → ds = is.map .str ∧ ∃ l : List (Str × Tok), vs = strValues l ∧ l.map (·.1) = is
  | _, _, is, _, .nil, e => by simp [strsO] at e; subst e; exact ⟨rfl, [], rfl, rfl⟩
  | _, _, is, _, .cons (d := d) a b, e => by
    cases d with
    | str i =>
      simp only [strsO, Option.bind_eq_some_iff] at e
      obtain ⟨js, hj, e⟩ := e
      cases e
      obtain ⟨h1, l, h2, h3⟩ := strs_of b hj
      cases a with | str _ t => exact ⟨by rw [h1]; rfl, (i, t) :: l, by rw [h2]; rfl, by simp [h3]⟩
    | _ => simp [strsO] at e

theorem parts_len (x y : Str) : (partsBetween x (occurrences x y 0 x.length (x.length + 1)) y.length).length ≤ x.length + 2 := by
  have h : (occurrences x y 0 x.length (x.length + 1)).length ≤ x.length + 1 := StrLaws.occ_length_le x y 0 x.length (x.length + 1)
  unfold partsBetween
  simp
  omega

theorem noDict_str {x : Str} {t : Tok} : ∀ a, Value.str x t = .ref a → ∃ ob, s.heap.get? a = some ob ∧ ob.dict = Option.none := fun a e => nomatch e
theorem noDict_list {l : Addr} {items : Array Value} (p : s.heap.PlainList l items) : ∀ a, Value.ref l = .ref a → ∃ ob, s.heap.get? a = some ob ∧ ob.dict = Option.none := fun a e => by
  cases e; obtain ⟨n, h⟩ := p; exact ⟨_, h, rfl⟩

theorem lk_getD {α : Type} {l : List (Str × α)} {f : Str → Option Value} {mk : α → Tok → Value} (hf : ∀ k : Str, (l.lookup k = Option.none → f k = Option.none) ∧ ∀ i, l.lookup k = some i → ∃ t, f k = some (mk i t)) (k : Str) (dv : Value) :
    (f k).getD dv = (match l.lookup k with | some i => (f k).getD dv | Option.none => dv) := by
  cases h : l.lookup k with
  | none => rw [(hf k).1 h]; rfl
  | some i => rfl

/-- what a method's call needs -/
structure MethOk (prog : Program) (w : World) (A : Around) (a : D) (m : Str) (as : List D) (d : D) (Ty id : String) : Prop where
  pa : PlainAttrs Ty
  slot : Slot Ty m id
  ty : typeOf (.builtin id) = pure (.type "method_descriptor")
  self : ∀ {W : Addr → Prop} {T : Tm} {s : Shared} {va : Value}, RepT prog w W T s.heap va a → s.TypeIs va Ty ∧ ∀ b, va = .ref b → ∃ ob, s.heap.get? b = some ob ∧ ob.dict = Option.none
  call : ∀ {n0 : Nat} {W : Addr → Prop} {T : Tm} {s : Shared} {va : Value} {vs : List Value} {E : Value → Shared → Prop}, WB n0 W s.heap → NoneBooked s.heap → TB T s.toks → RepT prog w W T s.heap va a → RepTs prog w W T s.heap vs as →
    wpAny (model prog w) A (PySem.call (.builtin id) (va :: vs)) (post0 prog w W T s d) E s

theorem strSelf' {x : Str} {W : Addr → Prop} {T : Tm} {s : Shared} {va : Value} (r : RepT prog w W T s.heap va (.str x)) : s.TypeIs va "str" ∧ ∀ b, va = .ref b → ∃ ob, s.heap.get? b = some ob ∧ ob.dict = Option.none := by
  obtain ⟨t, rfl⟩ := r.str_inv
  exact ⟨typeIs_str _ _ _, fun a e => nomatch e⟩

theorem methD_ok (hh : A.handled = none) (hu : A.units + 10 < cLine) {a d : D} {m : Str} {as : List D} (e : methD a m as = some d) : ∃ Ty id, MethOk prog w A a m as d Ty id := by
  unfold methD at e
  split at e
  · rename_i x
    split at e
    · rename_i hm; subst hm
      split at e
      · rename_i y
        cases e
        refine ⟨"str", "str.startswith", F.plainAttrs_str, F.slot_str_startswith, F.type_str_startswith, strSelf', fun wb hb tb ra rs => ?_⟩
        obtain ⟨t, rfl⟩ := ra.str_inv
        cases rs with | cons r1 r2 => ?_
        cases r2
        obtain ⟨u, rfl⟩ := r1.str_inv
        exact SC.startswith post_bool'
      · cases e
    · split at e
      · rename_i hm; subst hm
        split at e
        · rename_i y
          cases e
          refine ⟨"str", "str.endswith", F.plainAttrs_str, F.slot_str_endswith, F.type_str_endswith, strSelf', fun wb hb tb ra rs => ?_⟩
          obtain ⟨t, rfl⟩ := ra.str_inv
          cases rs with | cons r1 r2 => ?_
          cases r2
          obtain ⟨u, rfl⟩ := r1.str_inv
          exact SC.endswith post_bool'
        · cases e
      · split at e
        · rename_i hm; subst hm
          split at e
          · rename_i y i j
            split at e
            · rename_i h
              cases e
              refine ⟨"str", "str.find", F.plainAttrs_str, F.slot_str_find, F.type_str_find, strSelf', fun wb hb tb ra rs => ?_⟩
              obtain ⟨t, rfl⟩ := ra.str_inv
              cases rs with | cons r1 r2 => ?_
              cases r2 with | cons r2 r3 => ?_
              cases r3 with | cons r3 r4 => ?_
              cases r4
              obtain ⟨u, rfl⟩ := r1.str_inv; obtain ⟨u2, rfl⟩ := r2.int_inv; obtain ⟨u3, rfl⟩ := r3.int_inv
              have h1 : fromIndex x.length i = i.toNat := by unfold fromIndex; rw [if_neg (by omega), Int.max_eq_right h.1]
              have h2 : (max 0 (if j < 0 then j + (x.length : Int) else j)).toNat = j.toNat := by rw [if_neg (by omega), Int.max_eq_right h.2.1]
              have g := gives_find4 x y i j t u u2 u3
              rw [h1, h2] at g
              exact call_gives F.slot_str_find (typeIs_str _ _ _) F.entry_str_find (F.args_str_find_4 _ _ _ _) g post_int
            · cases e
          · cases e
        · split at e
          · rename_i hm; subst hm
            split at e
            · rename_i y
              split at e
              · cases e
              · rename_i h
                cases e
                refine ⟨"str", "str.split", F.plainAttrs_str, F.slot_str_split, F.type_str_split, strSelf', fun wb hb tb ra rs => ?_⟩
                obtain ⟨t, rfl⟩ := ra.str_inv
                cases rs with | cons r1 r2 => ?_
                cases r2
                obtain ⟨u, rfl⟩ := r1.str_inv
                have hx : x.length ≤ 2 ^ 20 := by omega
                have hp := parts_len x y
                refine split_at (by simp; omega) (fun l tk hl => ?_) (by unfold sizeLine; omega) (by unfold sizeLine; omega)
                rw [← hl]
                exact new_list wb (by simpa using reps_strValues l)
            · cases e
          · split at e
            · rename_i hm; subst hm
              split at e
              · rename_i l
                simp only [Option.bind_eq_some_iff] at e
                obtain ⟨ss, hs, e⟩ := e
                split at e
                · rename_i h
                  cases e
                  refine ⟨"str", "str.join", F.plainAttrs_str, F.slot_str_join, F.type_str_join, strSelf', fun wb hb tb ra rs => ?_⟩
                  obtain ⟨t, rfl⟩ := ra.str_inv
                  cases rs with | cons r1 r2 => ?_
                  cases r2
                  obtain ⟨a1, vs1, rfl, p1, q1⟩ := r1.list_inv
                  obtain ⟨_, l', h1, h2⟩ := strs_of q1 hs
                  refine SC.join (l := l') (by rw [← h1]; simpa using p1.isList) h2 h fun _ _ => post_str
                · cases e
              · cases e
            · split at e
              · rename_i hm; subst hm
                split at e
                · rename_i y
                  split at e
                  · rename_i h
                    cases e
                    refine ⟨"str", "str.index", F.plainAttrs_str, F.slot_str_index, F.type_str_index, strSelf', fun wb hb tb ra rs => ?_⟩
                    obtain ⟨t, rfl⟩ := ra.str_inv
                    cases rs with | cons r1 r2 => ?_
                    cases r2
                    obtain ⟨u, rfl⟩ := r1.str_inv
                    refine PyProof.Rows.index_or hh (fun h1 h2 => ?_) fun _ _ => post_int
                    unfold Txt.contains at h
                    rw [h2] at h; cases h
                  · cases e
                · cases e
              · cases e
  · rename_i l
    split at e
    · rename_i hm; subst hm
      split at e
      · rename_i x
        split at e
        · rename_i hl
          rw [Option.map_eq_some_iff] at e
          obtain ⟨j, hj, rfl⟩ := e
          refine ⟨"list", "list.index", F.plainAttrs_list, F.slot_list_index, F.type_list_index, fun ra => ?_, fun wb hb tb ra rs => ?_⟩
          · obtain ⟨a1, vs1, rfl, p1, q1⟩ := ra.list_inv
            exact ⟨p1.isList.typeIs, noDict_list p1⟩
          · obtain ⟨a1, vs1, rfl, ⟨n1, p1⟩, q1⟩ := ra.list_inv
            cases rs with | cons r1 r2 => ?_
            cases r2
            simp only [idxD, Option.bind_eq_some_iff] at hj
            obtain ⟨bs, hbs, hj⟩ := hj
            obtain ⟨h1, h2⟩ := mapO_some hbs
            have l1 := q1.length; simp only [Array.length_toList] at l1
            obtain ⟨f, hf⟩ := by_value (R := fun v a => Rep prog w _ _ _ v a) (q := fun y => eqD 6 y x) (fun i v e => q1.get' i v e) h2 (fun v a a' b b' r r' e e' => eq_det 6 e e' r r')
            rw [List.findIdx?_eq_some_iff_getElem] at hj
            obtain ⟨hj1, hj2, hj3⟩ := hj
            have hjs : j < vs1.size := by omega
            refine call_meets F.slot_list_index ⟨_, p1, rfl⟩ F.entry_list_index (F.args_list_index_2 _ _) (list_indexAt a1 vs1 n1 Option.none #[] _ f j hjs (by omega) ?_ ?_) ⟨p1, fun y hy => ?_, post_int⟩
            · have := (hf j vs1[j] (by simp [hjs])).1
              rw [List.getElem?_eq_getElem hj1, Option.some.injEq] at this
              rw [← this]; exact hj2
            · intro m hm hmj
              have hm' : m < bs.length := by omega
              have := (hf m vs1[m] (by simp [hm])).1
              rw [List.getElem?_eq_getElem hm', Option.some.injEq] at this
              rw [← this]
              have := hj3 m hmj
              simpa using this
            · obtain ⟨i, hi, rfl⟩ := Array.mem_iff_getElem.mp hy
              obtain ⟨_, a, ra', qa⟩ := hf i vs1[i] (by simp [hi])
              exact (eq_main hb tb 6 _ (by show A.units + 1 + 6 < cLine; omega) qa (.of ra') r1).2.2
        · cases e
      · cases e
    · cases e
  · rename_i l
    split at e
    · rename_i hm; subst hm
      split at e
      · rename_i k
        cases e
        refine ⟨"dict", "dict.get", F.plainAttrs_dict, F.slot_dict_get, F.type_dict_get, fun ra => ?_, fun wb hb tb ra rs => ?_⟩
        · cases ra with | of ra => cases ra with | sdict hw hs hm hf => exact ⟨hm.typeIs, hm.noDict⟩
        · cases ra with | of ra => ?_
          cases ra with | sdict hw hs hm hf => ?_
          rename_i a f
          cases rs with | cons r1 r2 => ?_
          cases r2
          obtain ⟨u, rfl⟩ := r1.str_inv
          refine call_meetsIn F.slot_dict_get hm.typeIs F.entry_dict_get (F.args_dict_get_2 _ _) (meets_dict_get (PySem.strKind prog w) a (k := k) (by simp [PySem.strKind, Value.isStrOf]) hs) ⟨_, hm, ?_⟩
          cases h : l.lookup k with
          | none => rw [(hf k).1 h]; exact ⟨kTok, .none⟩
          | some i => obtain ⟨t, ht⟩ := (hf k).2 i h; rw [ht]; exact ⟨kTok, .int _ _⟩
      · cases e
    · cases e
  · rename_i l
    split at e
    · rename_i hm; subst hm
      split at e
      · rename_i k dv
        cases e
        refine ⟨"dict", "dict.get", F.plainAttrs_dict, F.slot_dict_get, F.type_dict_get, fun ra => ?_, fun wb hb tb ra rs => ?_⟩
        · cases ra with | of ra => cases ra with | isdict hw hs hm hf => exact ⟨hm.typeIs, hm.noDict⟩
        · cases ra with | of ra => ?_
          cases ra with | isdict hw hs hm hf => ?_
          rename_i a f
          cases rs with | cons r1 r2 => ?_
          cases r2 with | cons r2 r3 => ?_
          cases r3
          obtain ⟨u, rfl⟩ := r1.int_inv; obtain ⟨u2, rfl⟩ := r2.str_inv
          refine call_meetsIn F.slot_dict_get hm.typeIs F.entry_dict_get (F.args_dict_get_3 _ _ _) (meets_dict_get_default (intKind prog w) a (k := k) (by simp [intKind, Value.isInt]) hs _) ⟨_, hm, ?_⟩
          cases h : l.lookup k with
          | none => rw [(hf k).1 h]; exact ⟨kTok, .str _ _⟩
          | some i => obtain ⟨t, ht⟩ := (hf k).2 i h; rw [ht]; exact ⟨kTok, .str _ _⟩
      · cases e
    · cases e
  · rename_i l
    split at e
    · rename_i hm; subst hm
      split at e
      · rename_i k dv
        cases e
        refine ⟨"dict", "dict.get", F.plainAttrs_dict, F.slot_dict_get, F.type_dict_get, fun ra => ?_, fun wb hb tb ra rs => ?_⟩
        · obtain ⟨a, rfl, hs, kvs, hd, _⟩ := ra.iidict_inv
          exact ⟨hd.mapOf.typeIs, hd.mapOf.noDict⟩
        · obtain ⟨a, rfl, hs, kvs, hd, _, hf⟩ := ra.iidict_inv
          cases rs with | cons r1 r2 => ?_
          cases r2 with | cons r2 r3 => ?_
          cases r3
          obtain ⟨u, rfl⟩ := r1.int_inv; obtain ⟨u2, rfl⟩ := r2.int_inv
          refine call_meetsIn F.slot_dict_get hd.mapOf.typeIs F.entry_dict_get (F.args_dict_get_3 _ _ _) (meets_dict_get_default (intKind prog w) a (k := k) (by simp [intKind, Value.isInt]) hs _) ⟨_, hd.mapOf, ?_⟩
          cases h : l.lookup k with
          | none => rw [(hf k).1 h]; exact ⟨kTok, .int _ _⟩
          | some i => obtain ⟨t, ht⟩ := (hf k).2 i h; rw [ht]; exact ⟨kTok, .int _ _⟩
      · cases e
    · cases e
  · cases e
end Mine
end
section
namespace Mine
open PySem PyProof.Rows PySem.SeqAt

variable {prog : Program} {w : World} {A : Around} {E : Value → Shared → Prop} {W : Addr → Prop} {T T' : Tm} {s s' : Shared} {P : PI} {n0 : Nat} {h0 : Heap} {mg mb : Str → Option Value} {O : Addr → Prop} {env : Env} {σ : St}

structure GF0 (prog : Program) (w : World) (P : PI) (n0 : Nat) (mg mb : Str → Option Value) (h : Heap) : Prop where
  g : h.Ns mainGlobals mg
  b : h.Ns builtinsNs mb
  lim : h.NoLimit
  nb : NoneBooked h
  fn : ∀ f i, P.fns f = some i → ∃ a o pm cd doc, mg f = some (.ref a) ∧ h.get? a = some o ∧ o.data = .func (PySem.Calls.docDef f i.params i.body i.scope pm cd doc) ∧ h.CodeRec cd f
  const : ∀ x d, P.consts x = some d → ∃ v, mg x = some v ∧ Rep prog w (fun a => n0 ≤ a) (fun _ => none) h v d
  blt : ∀ f fv, bltV f = some fv → mg f = none ∧ mb f = some fv
  isi : mg "isinstance" = none ∧ mb "isinstance" = some (.builtin "isinstance")
  flt : mg "float" = none ∧ mb "float" = some (.type "float")

theorem NoneBooked.kp {h h' : Heap} (x : NoneBooked h) (k : Kp h h') : NoneBooked h' := let ⟨m, h1, h2⟩ := x; ⟨m, h1.keeps k, h2⟩

theorem GF0.kp {h h' : Heap} (x : GF0 prog w P n0 mg mb h) (k : Kp h h') : GF0 prog w P n0 mg mb h' where
  g := x.g.keeps k
  b := x.b.keeps k
  lim := x.lim.keeps k
  nb := NoneBooked.kp x.nb k
  fn := fun f i e => let ⟨a, o, pm, cd, doc, h1, h2, h3, h4⟩ := x.fn f i e; ⟨a, o, pm, cd, doc, h1, k _ _ h2, h3, h4.keeps k⟩
  const := fun f i e => let ⟨v, h1, h2⟩ := x.const f i e; ⟨v, h1, h2.kp fun b o _ e => k b o e⟩
  blt := x.blt
  isi := x.isi
  flt := x.flt

structure GF (prog : Program) (w : World) (P : PI) (h0 : Heap) (mg mb : Str → Option Value) (h : Heap) : Prop where
  base : GF0 prog w P h0.objs.size mg mb h0
  keep : Kp h0 h

theorem GF.now {h0 h : Heap} (x : GF prog w P h0 mg mb h) : GF0 prog w P h0.objs.size mg mb h := x.base.kp x.keep
theorem GF.kp {h0 h h' : Heap} (x : GF prog w P h0 mg mb h) (k : Kp h h') : GF prog w P h0 mg mb h' := ⟨x.base, fun b o e => k b o (x.keep b o e)⟩
theorem GF.kpB {h0 h h' : Heap} (x : GF prog w P h0 mg mb h) (wb : WB h0.objs.size W h) (k : KpB W h h') : GF prog w P h0 mg mb h' :=
  ⟨x.base, fun b o e => k b o (fun q => Nat.lt_irrefl _ (Nat.lt_of_lt_of_le (Heap.lt_size e) (wb b q).1)) (x.keep b o e)⟩

/-- what an owned place holds -/
inductive OwnAt (prog : Program) (w : World) (W : Addr → Prop) (T : Tm) (h : Heap) (a : Addr) : D → Prop
  | list {vs ds} : h.PlainList a vs → Reps prog w W T h vs.toList ds → OwnAt prog w W T h a (.list ds)
  | iidict {l} : IIAt prog w h a l → OwnAt prog w W T h a (.iidict l)

theorem OwnAt.kp {h h' : Heap} {a : Addr} {d : D} (x : OwnAt prog w W T h a d) (k : KpB W h h') (ka : ∀ o, h.get? a = some o → h'.get? a = some o) : OwnAt prog w W T h' a d := by
  cases x with
  | list h1 h2 => exact .list (h1.at ka) (h2.kp k)
  | iidict h1 => exact .iidict (h1.kp ka)
theorem OwnAt.tm {h : Heap} {a : Addr} {d : D} (k : TLe T T') (x : OwnAt prog w W T h a d) : OwnAt prog w W T' h a d := by
  cases x with
  | list h1 h2 => exact .list h1 (h2.tm k)
  | iidict h1 => exact .iidict h1
theorem OwnAt.some {h : Heap} {a : Addr} {d : D} (x : OwnAt prog w W T h a d) : ∃ o, h.get? a = some o ∧ (∀ v, o.data ≠ .cell v) := by
  cases x with
  | list h1 h2 => obtain ⟨n, e⟩ := h1; exact ⟨_, e, fun v q => nomatch q⟩
  | iidict h1 => obtain ⟨_, kvs, ⟨o, es, ep, e, _, hd, _⟩, _⟩ := h1; exact ⟨o, e, fun v q => by rw [hd] at q; cases q⟩

/-- a name's value stands for its data -/
def VRep (prog : Program) (w : World) (W : Addr → Prop) (T : Tm) (h : Heap) (O : Addr → Prop) (L : Addr) (own : Option Str) (x : Str) (v : Value) (d : D) : Prop :=
  if own = some x then ∃ a, v = .ref a ∧ O a ∧ a ≠ L ∧ OwnAt prog w W T h a d else Rep prog w W T h v d

theorem VRep.toT {h : Heap} {O : Addr → Prop} {L : Addr} {own : Option Str} {x : Str} {v : Value} {d : D} (r : VRep prog w W T h O L own x v d) : RepT prog w W T h v d := by
  unfold VRep at r
  split at r
  · obtain ⟨a, rfl, _, _, o⟩ := r
    cases o with
    | list h1 h2 => exact .list h1 h2
    | iidict h1 => exact .iidict h1
  · exact .of r
theorem VRep.kp {h h' : Heap} {O : Addr → Prop} {L : Addr} {own : Option Str} {x : Str} {v : Value} {d : D} (r : VRep prog w W T h O L own x v d) (k : KpB W h h') (ka : ∀ a, own = some x → v = .ref a → a ≠ L → OwnAt prog w W T h a d → ∀ o, h.get? a = some o → h'.get? a = some o) :
    VRep prog w W T h' O L own x v d := by
  unfold VRep at r ⊢
  split at r
  · rename_i ho
    obtain ⟨a, rfl, h1, h2, o⟩ := r
    rw [if_pos ho]
    exact ⟨a, rfl, h1, h2, o.kp k (ka a ho rfl h2 o)⟩
  · rename_i ho
    rw [if_neg ho]
    exact r.kp k
theorem VRep.tm {h : Heap} {O : Addr → Prop} {L : Addr} {own : Option Str} {x : Str} {v : Value} {d : D} (k : TLe T T') (r : VRep prog w W T h O L own x v d) : VRep prog w W T' h O L own x v d := by
  unfold VRep at r ⊢
  split at r
  · rename_i ho
    obtain ⟨a, rfl, h1, h2, o⟩ := r
    rw [if_pos ho]
    exact ⟨a, rfl, h1, h2, o.tm k⟩
  · rename_i ho
    rw [if_neg ho]
    exact r.tm k

structure EnvOk (prog : Program) (w : World) (W : Addr → Prop) (T : Tm) (h : Heap) (O : Addr → Prop) (env : Env) (σ : St) : Prop where
  kind : env.scope.kind = .function
  gl : env.globals = mainGlobals
  bl : env.builtins = builtinsNs
  nm : ∀ x k, σ.names.lookup x = some k → env.kindOf x = some k ∨ (k = .free ∧ env.kindOf x = some .cell)
  cd : ∀ x k, σ.names.lookup x = some k → (x == ("__classdict__" : Str)) = false
  loc : W env.locals
  ns : ∃ l, h.Ns env.locals l ∧ ∀ x d, σ.names.lookup x = some .local → σ.vars.lookup x = some d → ∃ v, l x = some v ∧ VRep prog w W T h O env.locals σ.own x v d
  cell : ∀ x, isCellKind (σ.names.lookup x) = true → ∃ a v, env.cells.lookup x = some a ∧ W a ∧ h.IsCell a v ∧ ∀ d, σ.vars.lookup x = some d → ∃ u, v = some u ∧ VRep prog w W T h O env.locals σ.own x u d
  apart : ∀ x y a, env.cells.lookup x = some a → env.cells.lookup y = some a → x = y

theorem EnvOk.kp {h h' : Heap} (x : EnvOk prog w W T h O env σ) (t : TLe T T') (k : Kp h h') : EnvOk prog w W T' h' O env σ where
  kind := x.kind
  gl := x.gl
  bl := x.bl
  nm := x.nm
  cd := x.cd
  loc := x.loc
  ns := let ⟨m, h1, h2⟩ := x.ns; ⟨m, h1.keeps k, fun y d e1 e2 => let ⟨v, e3, r⟩ := h2 y d e1 e2; ⟨v, e3, (r.tm t).kp (fun b o _ e => k b o e) fun a _ _ _ _ o e => k a o e⟩⟩
  cell := fun y e => let ⟨a, v, h1, h2, h3, h4⟩ := x.cell y e; ⟨a, v, h1, h2, h3.keeps k, fun d e => let ⟨u, e3, r⟩ := h4 d e; ⟨u, e3, (r.tm t).kp (fun b o _ e => k b o e) fun a _ _ _ _ o e => k a o e⟩⟩
  apart := x.apart

structure Sit (prog : Program) (w : World) (P : PI) (h0 : Heap) (mg mb : Str → Option Value) (W : Addr → Prop) (T : Tm) (O : Addr → Prop) (env : Env) (σ : St) (s : Shared) : Prop where
  gf : GF prog w P h0 mg mb s.heap
  wb : WB h0.objs.size W s.heap
  en : EnvOk prog w W T s.heap O env σ
  tb : TB T s.toks
  ow : ∀ a, O a → W a

theorem Sit.step (x : Sit prog w P h0 mg mb W T O env σ s) (t : TLe T T') (tb : TB T' s'.toks) (k : Keeps s s') : Sit prog w P h0 mg mb W T' O env σ s' :=
  ⟨x.gf.kp (kKp k), x.wb.kp (kKp k), x.en.kp t (kKp k), tb, x.ow⟩

def postT (prog : Program) (w : World) (W : Addr → Prop) (T : Tm) (s : Shared) (d : D) : Value → Shared → Prop := fun v s' => ∃ T', TLe T T' ∧ TB T' s'.toks ∧ Keeps s s' ∧ RepT prog w W T' s'.heap v d
def postTs (prog : Program) (w : World) (W : Addr → Prop) (T : Tm) (s : Shared) (ds : List D) : List Value → Shared → Prop := fun vs s' => ∃ T', TLe T T' ∧ TB T' s'.toks ∧ Keeps s s' ∧ RepTs prog w W T' s'.heap vs ds
def postS (prog : Program) (w : World) (W : Addr → Prop) (T : Tm) (s : Shared) (ds : List D) : List Value → Shared → Prop := fun vs s' => ∃ T', TLe T T' ∧ TB T' s'.toks ∧ Keeps s s' ∧ Reps prog w W T' s'.heap vs ds
def postB (T : Tm) (s : Shared) (b : Bool) : Bool → Shared → Prop := fun b' s' => b' = b ∧ ∃ T', TLe T T' ∧ TB T' s'.toks ∧ Keeps s s'

theorem postT_of {d : D} {v : Value} {s' : Shared} (h : post prog w W T s d v s') : postT prog w W T s d v s' := let ⟨T', h1, h2, h3, h4⟩ := h; ⟨T', h1, h2, h3, .of h4⟩

/-- the expression reader's words are so -/
structure RcOk (prog : Program) (w : World) (P : PI) (h0 : Heap) (mg mb : Str → Option Value) (A : Around) (R : Rc) : Prop where
  ev : ∀ {W T O env σ e d}, R.ev σ e = some d → ∀ {s E}, Sit prog w P h0 mg mb W T O env σ s → wpAny (model prog w) A (eval e env) (post prog w W T s d) E s
  tr : ∀ {W T O env σ e b}, R.tr σ e = some b → ∀ {s E}, Sit prog w P h0 mg mb W T O env σ s → wpAny (model prog w) A (isTrue e env (eval e env)) (postB T s b) E s

structure CallOk (prog : Program) (w : World) (P : PI) (h0 : Heap) (mg mb : Str → Option Value) (A : Around) (C : CallS) : Prop where
  fn : ∀ {f ds d}, C f ds = some d → ∃ i, P.fns f = some i
  call : ∀ {f ds d}, C f ds = some d → ∀ {W T s E vs a}, GF prog w P h0 mg mb s.heap → h0.objs.size ≤ s.heap.objs.size → WB h0.objs.size W s.heap → TB T s.toks → mg f = some (.ref a) → Reps prog w W T s.heap vs ds →
    wpAny (model prog w) A (call (.ref a) vs) (post prog w W T s d) E s

theorem kindOf_local (x : EnvOk prog w W T s.heap O env σ) {n : Str} (h : σ.names.lookup n = some .local) : env.kindOf n = some .local := by
  rcases x.nm n _ h with h | ⟨h, _⟩
  · exact h
  · cases h

theorem name_ok {x : Str} {pos : Pos} {d : D} (e : nameD P σ x = some d) (hp : plainName x = true) (S : Sit prog w P h0 mg mb W T O env σ s) {Q : Value → Shared → Prop}
    (hQ : ∀ v, RepT prog w W T s.heap v d → (¬ σ.own = some x → Rep prog w W T s.heap v d) → Q v s) : wpAny (model prog w) A (eval (.Name x pos) env) Q E s := by
  have hdeb : (x == ("__debug__" : Str)) = false := by
    simp only [plainName, Bool.and_eq_true, bne_iff_ne, ne_eq] at hp
    simpa using hp.1
  have fin : ∀ v, VRep prog w W T s.heap O env.locals σ.own x v d → Q v s := fun v r => hQ v r.toT fun ho => by unfold VRep at r; rwa [if_neg ho] at r
  unfold nameD at e
  split at e
  · rename_i hk
    refine wpAny_Name ?_ hdeb
    by_cases hl : σ.names.lookup x = some .local
    · obtain ⟨m, h1, h2⟩ := S.en.ns
      obtain ⟨v, h3, r⟩ := h2 x d hl e
      exact wpAny_loadName_local S.en.kind (kindOf_local S.en hl) h1 h3 (fin v r)
    · have hc : isCellKind (σ.names.lookup x) = true := by
        unfold isVarKind at hk; unfold isCellKind
        simp only [Bool.or_eq_true, beq_iff_eq] at hk ⊢
        rcases hk with (hk | hk) | hk
        · exact absurd hk hl
        · exact .inl hk
        · exact .inr hk
      obtain ⟨a, v, h1, h2, h3, h4⟩ := S.en.cell x hc
      obtain ⟨u, rfl, r⟩ := h4 d e
      unfold isCellKind at hc
      simp only [Bool.or_eq_true, beq_iff_eq] at hc
      rcases hc with hc | hc
      · rcases S.en.nm x _ hc with h | ⟨h, _⟩
        · exact wpAny_loadName_cell S.en.kind h h1 h3 (fin u r)
        · cases h
      · rcases S.en.nm x _ hc with h | ⟨_, h⟩
        · exact wpAny_loadName_free S.en.kind h h1 h3 (fin u r) (S.en.cd x _ hc)
        · exact wpAny_loadName_cell S.en.kind h h1 h3 (fin u r)
  · split at e
    · rename_i hg
      unfold isGlob at hg
      have hg' : σ.names.lookup x = some .globalImplicit := by simpa using hg
      have hk : env.kindOf x = some .globalImplicit := by
        rcases S.en.nm x _ hg' with h | ⟨h, _⟩
        · exact h
        · cases h
      obtain ⟨v, h1, r⟩ := S.gf.now.const x d e
      have r' : Rep prog w W T s.heap v d := (r.anti fun a q => .inl (S.wb a q).1).tm fun _ _ q => by simp at q
      refine PySem.Calls.Name_function_global S.en.kind hk (PySem.Calls.loadGlobal_global (mg := mg) (by rw [S.en.gl]; exact S.gf.now.g) h1 (hQ v (.of r') fun _ => r')) hdeb
    · cases e

theorem peek_ok {R : Rc} {e : Expr} {d : D} (RO : RcOk prog w P h0 mg mb A R) (h : peek P R σ e = some d) (S : Sit prog w P h0 mg mb W T O env σ s) : wpAny (model prog w) A (eval e env) (postT prog w W T s d) E s := by
  unfold peek at h
  split at h
  · split at h
    · rename_i hp
      exact name_ok h hp S fun v r _ => ⟨T, TLe.refl _, S.tb, kRefl _, r⟩
    · cases h
  · exact wpAny_mono (RO.ev h S) (fun v s' q => postT_of q) fun _ _ q => q

theorem starEach_cons {e : Expr} {r : List Expr} (h : noStar (e :: r) = true) : starEach (e :: r) env = (false, eval e env) :: starEach r env ∧ noStar r = true := by
  cases e <;> first | exact ⟨rfl, h⟩ | (simp [noStar] at h)

theorem args_ok {R : Rc} (RO : RcOk prog w P h0 mg mb A R) {pos : Pos} : ∀ {as : List Expr} {ds : List D} {s : Shared} {T : Tm}, mapO (peek P R σ) as = some ds → noStar as = true → Sit prog w P h0 mg mb W T O env σ s →
    wpAny (model prog w) A (spliced (backTo pos (starEach as env))) (postTs prog w W T s ds) E s
  | [], ds, s, T, h, _, S => by
    simp [mapO] at h; subst h
    exact PySem.Calls.spliced_nil ⟨T, TLe.refl _, S.tb, kRefl _, .nil⟩
  | a :: r, ds, s, T, h, hs, S => by
    simp only [mapO, Option.bind_eq_some_iff] at h
    obtain ⟨b, hb, bs, hbs, h⟩ := h
    cases h
    obtain ⟨e1, e2⟩ := starEach_cons (env := env) hs
    rw [e1]
    show wpAny (model prog w) A (spliced ((false, eval a env) :: backTo pos (starEach r env))) _ E s
    refine PySem.Calls.spliced_cons (wpAny_mono (peek_ok RO hb S) (fun v s₁ h₁ => ?_) fun _ _ q => q)
    obtain ⟨T₁, t1, tb1, k1, r1⟩ := h₁
    refine wpAny_mono (args_ok RO hbs e2 (S.step t1 tb1 k1)) (fun vs s₂ h₂ => ?_) fun _ _ q => q
    obtain ⟨T₂, t2, tb2, k2, r2⟩ := h₂
    exact ⟨T₂, t1.trans t2, tb2, kTrans k1 k2, .cons ((r1.keeps k2).tm t2) r2⟩

theorem items_ok {R : Rc} (RO : RcOk prog w P h0 mg mb A R) {pos : Pos} : ∀ {as : List Expr} {ds : List D} {s : Shared} {T : Tm}, mapO (R.ev σ) as = some ds → noStar as = true → Sit prog w P h0 mg mb W T O env σ s →
    wpAny (model prog w) A (spliced (backTo pos (starEach as env))) (postS prog w W T s ds) E s
  | [], ds, s, T, h, _, S => by
    simp [mapO] at h; subst h
    exact PySem.Calls.spliced_nil ⟨T, TLe.refl _, S.tb, kRefl _, .nil⟩
  | a :: r, ds, s, T, h, hs, S => by
    simp only [mapO, Option.bind_eq_some_iff] at h
    obtain ⟨b, hb, bs, hbs, h⟩ := h
    cases h
    obtain ⟨e1, e2⟩ := starEach_cons (env := env) hs
    rw [e1]
    show wpAny (model prog w) A (spliced ((false, eval a env) :: backTo pos (starEach r env))) _ E s
    refine PySem.Calls.spliced_cons (wpAny_mono (RO.ev hb S) (fun v s₁ h₁ => ?_) fun _ _ q => q)
    obtain ⟨T₁, t1, tb1, k1, r1⟩ := h₁
    refine wpAny_mono (items_ok RO hbs e2 (S.step t1 tb1 k1)) (fun vs s₂ h₂ => ?_) fun _ _ q => q
    obtain ⟨T₂, t2, tb2, k2, r2⟩ := h₂
    exact ⟨T₂, t1.trans t2, tb2, kTrans k1 k2, .cons ((r1.keeps k2).tm t2) r2⟩
end Mine
end
section
namespace Mine
open PySem PyProof.Rows PySem.SeqAt

variable {prog : Program} {w : World} {A : Around} {E : Value → Shared → Prop} {W : Addr → Prop} {T T' : Tm} {s s' : Shared} {P : PI} {n0 : Nat} {h0 : Heap} {mg mb : Str → Option Value} {O : Addr → Prop} {env : Env} {σ σ' : St}

/-- the places that a frame's own stores change -/
def Mut0 (env : Env) (ns : List (Str × NameKind)) (a : Addr) : Prop := a = env.locals ∨ ∃ x, ns.lookup x = some .cell ∧ env.cells.lookup x = some a

def KeepsB (W : Addr → Prop) (s s' : Shared) : Prop := ∃ h' tk, s' = { s with heap := h', toks := tk } ∧ KpB W s.heap h'
theorem KeepsB.of (k : Keeps s s') : KeepsB W s s' := let ⟨h', tk, e, k⟩ := k; ⟨h', tk, e, fun b o _ q => k b o q⟩
theorem KeepsB.refl : KeepsB W s s := ⟨s.heap, s.toks, rfl, fun _ _ _ q => q⟩
theorem KeepsB.trans {s'' : Shared} (a : KeepsB W s s') (b : KeepsB W s' s'') : KeepsB W s s'' := by
  obtain ⟨h1, t1, rfl, k1⟩ := a
  obtain ⟨h2, t2, rfl, k2⟩ := b
  exact ⟨h2, t2, rfl, fun b o w q => k2 b o w (k1 b o w q)⟩
theorem KeepsB.kp (a : KeepsB W s s') : KpB W s.heap s'.heap := by
  obtain ⟨h1, t1, rfl, k1⟩ := a
  exact k1

theorem put_lookup : ∀ (l : List (Str × D)) (x y : Str) (d : D), (put l x d).lookup y = if y = x then some d else l.lookup y
  | [], x, y, d => by
    by_cases h : y = x
    · subst h; simp [put]
    · have : (y == x) = false := by simpa using h
      simp [put, List.lookup, h, this]
  | (z, e) :: r, x, y, d => by
    unfold put
    split
    · rename_i hz
      subst hz
      by_cases h : y = z
      · subst h; simp
      · have : (y == z) = false := by simpa using h
        simp [List.lookup, this, h]
    · rename_i hz
      by_cases h : y = z
      · subst h; simp [List.lookup, hz]
      · have : (y == z) = false := by simpa using h
        simp only [List.lookup, this]
        exact put_lookup r x y d

theorem cell_ne {h : Heap} {a L : Addr} {v : Option Value} {l} (hc : h.IsCell a v) (hn : h.Ns L l) : a ≠ L := fun e => by
  subst e
  obtain ⟨o, h1, h2⟩ := hc
  obtain ⟨o', es, ep, h3, h4, _⟩ := hn
  rw [h1] at h3; cases h3
  rw [h2] at h4; cases h4

theorem VRep.own_congr {h : Heap} {L : Addr} {own own' : Option Str} {y : Str} {v : Value} {d : D} (e : own' = some y ↔ own = some y) (r : VRep prog w W T h O L own y v d) : VRep prog w W T h O L own' y v d := by
  unfold VRep at r ⊢
  by_cases h : own = some y
  · rw [if_pos h] at r; rw [if_pos (e.mpr h)]; exact r
  · rw [if_neg h] at r; rw [if_neg (fun q => h (e.mp q))]; exact r

theorem Mut0.sub (x : EnvOk prog w W T s.heap O env σ) {a : Addr} (h : Mut0 env σ.names a) : W a := by
  rcases h with rfl | ⟨y, h1, h2⟩
  · exact x.loc
  · obtain ⟨b, _, h3, h4, _⟩ := x.cell y (by rw [h1]; rfl)
    rw [h2] at h3; cases h3; exact h4
theorem KeepsB.sub {M M' : Addr → Prop} (h : ∀ a, M a → M' a) (k : KeepsB M s s') : KeepsB M' s s' := let ⟨h', tk, e, k⟩ := k; ⟨h', tk, e, fun b o hb q => k b o (fun q' => hb (h b q')) q⟩

theorem setVar_names {x : Str} {d : D} (e : setVar σ x d = some σ') : σ'.names = σ.names := by
  unfold setVar at e
  split at e
  · cases e; rfl
  · cases e
theorem setAll_names : ∀ {xs : List Str} {ds : List D} {σ σ' : St}, setAll σ xs ds = some σ' → σ'.names = σ.names
  | [], [], σ, σ', e => by simp [setAll] at e; rw [e]
  | [], _ :: _, σ, σ', e => by simp [setAll] at e
  | _ :: _, [], σ, σ', e => by simp [setAll] at e
  | x :: xs, d :: ds, σ, σ', e => by
    simp only [setAll, Option.bind_eq_some_iff] at e
    obtain ⟨σ₁, h1, h2⟩ := e
    rw [setAll_names h2, setVar_names h1]
theorem bindT_names {t : Expr} {d : D} (e : bindT σ t d = some σ') : σ'.names = σ.names := by
  unfold bindT at e
  split at e
  · exact setVar_names e
  · simp only [Option.bind_eq_some_iff] at e
    obtain ⟨xs, _, e⟩ := e
    split at e
    · exact setAll_names e
    · cases e
  · cases e

/-- store a name -/
theorem store_gen {own' : Option Str} {x : Str} {v : Value} {d : D} {Q : Unit → Shared → Prop} (S : Sit prog w P h0 mg mb W T O env σ s) (hx : (σ.names.lookup x == some .local || σ.names.lookup x == some .cell) = true)
    (hv : VRep prog w W T s.heap O env.locals own' x v d) (ho : ∀ y, y ≠ x → (own' = some y ↔ σ.own = some y))
    (hQ : ∀ s', Sit prog w P h0 mg mb W T O env { σ with vars := put σ.vars x d, own := own' } s' → KeepsB (Mut0 env σ.names) s s' → Q () s') : wpAny (model prog w) A (storeName env x v) Q E s := by
  obtain ⟨l, hn, hl⟩ := S.en.ns
  simp only [Bool.or_eq_true, beq_iff_eq] at hx
  rcases hx with hx | hx
  · refine wpAny_storeName_local (kindOf_local S.en hx) hn (fun h' hn' hs' => ?_) (by rw [S.en.kind]; rfl)
    have kb : KpB W s.heap h' := fun b o hb e => hs'.extBut b o (fun q => hb (q ▸ S.en.loc)) e
    have up : ∀ y u d', VRep prog w W T s.heap O env.locals own' y u d' → VRep prog w W T h' O env.locals own' y u d' := fun y u d' r => r.kp kb fun a _ _ ha _ o e => hs'.extBut a o ha e
    refine hQ _ ⟨S.gf.kpB S.wb kb, fun a q => ⟨(S.wb a q).1, ?_⟩, ?_, S.tb.mono (Nat.le_succ _), S.ow⟩ ⟨h', _, rfl, fun b o hb e => hs'.extBut b o (fun q => hb (.inl q)) e⟩
    · by_cases ha : a = env.locals
      · obtain ⟨o, _, _, e, _⟩ := hn'
        exact ⟨o, ha ▸ e⟩
      · obtain ⟨_, o, e⟩ := S.wb a q
        exact ⟨o, hs'.extBut a o ha e⟩
    · refine ⟨S.en.kind, S.en.gl, S.en.bl, S.en.nm, S.en.cd, S.en.loc, ⟨_, hn', fun y d' h1 h2 => ?_⟩, fun y hc => ?_, S.en.apart⟩
      · have h2' : (put σ.vars x d).lookup y = some d' := h2
        rw [put_lookup] at h2'
        by_cases hy : y = x
        · subst hy
          rw [if_pos rfl] at h2'; cases h2'
          exact ⟨v, by simp, up _ _ _ hv⟩
        · rw [if_neg hy] at h2'
          obtain ⟨u, h3, r⟩ := hl y d' h1 h2'
          exact ⟨u, by simp [hy, h3], up _ _ _ (r.own_congr (ho y hy))⟩
      · obtain ⟨a, u, h1, h2, h3, h4⟩ := S.en.cell y hc
        have hy : y ≠ x := fun q => by
          subst q
          have hc' : isCellKind (σ.names.lookup y) = true := hc
          rw [hx] at hc'; cases hc'
        refine ⟨a, u, h1, h2, h3.sameBut hs' (cell_ne h3 hn), fun d' h5 => ?_⟩
        have h5' : (put σ.vars x d).lookup y = some d' := h5
        rw [put_lookup, if_neg hy] at h5'
        obtain ⟨u', h6, r⟩ := h4 d' h5'
        exact ⟨u', h6, up _ _ _ (r.own_congr (ho y hy))⟩
  · have hk : env.kindOf x = some .cell := by
      rcases S.en.nm x _ hx with h | ⟨h, _⟩
      · exact h
      · cases h
    obtain ⟨c, u, h1, h2, h3, h4⟩ := S.en.cell x (by rw [hx]; rfl)
    have hcL : env.locals ≠ c := Ne.symm (cell_ne h3 hn)
    refine wpAny_storeName_cell S.en.kind hk h1 h3 fun h' hc' hs' => ?_
    have kb : KpB W s.heap h' := fun b o hb e => hs'.extBut b o (fun q => hb (q ▸ h2)) e
    have up : ∀ y u d', VRep prog w W T s.heap O env.locals own' y u d' → VRep prog w W T h' O env.locals own' y u d' := fun y u d' r => r.kp kb fun a _ _ ha oa o e => by
      refine hs'.extBut a o (fun q => ?_) e
      subst q
      obtain ⟨o', e', nc⟩ := oa.some
      obtain ⟨o'', e'', dc⟩ := h3
      rw [e'] at e''; cases e''
      exact nc _ dc
    refine hQ _ ⟨S.gf.kpB S.wb kb, fun a q => ⟨(S.wb a q).1, ?_⟩, ?_, S.tb, S.ow⟩ ⟨h', _, rfl, fun b o hb e => hs'.extBut b o (fun q => hb (.inr ⟨x, hx, q ▸ h1⟩)) e⟩
    · by_cases ha : a = c
      · obtain ⟨o, e, _⟩ := hc'
        exact ⟨o, ha ▸ e⟩
      · obtain ⟨_, o, e⟩ := S.wb a q
        exact ⟨o, hs'.extBut a o ha e⟩
    · refine ⟨S.en.kind, S.en.gl, S.en.bl, S.en.nm, S.en.cd, S.en.loc, ⟨l, hn.sameBut hs' hcL, fun y d' g1 g2 => ?_⟩, fun y hc => ?_, S.en.apart⟩
      · have g2' : (put σ.vars x d).lookup y = some d' := g2
        have hy : y ≠ x := fun q => by
          subst q
          have g1' : σ.names.lookup y = some .local := g1
          rw [hx] at g1'; cases g1'
        rw [put_lookup, if_neg hy] at g2'
        obtain ⟨u', g3, r⟩ := hl y d' g1 g2'
        exact ⟨u', g3, up _ _ _ (r.own_congr (ho y hy))⟩
      · by_cases hy : y = x
        · subst hy
          refine ⟨c, some v, h1, h2, hc', fun d' h5 => ?_⟩
          have h5' : (put σ.vars y d).lookup y = some d' := h5
          rw [put_lookup, if_pos rfl] at h5'; cases h5'
          exact ⟨v, rfl, up _ _ _ hv⟩
        · obtain ⟨a, u', g1, g2, g3, g4⟩ := S.en.cell y hc
          refine ⟨a, u', g1, g2, g3.sameBut hs' (fun q => hy (S.en.apart y x c (q ▸ g1) h1)), fun d' h5 => ?_⟩
          have h5' : (put σ.vars x d).lookup y = some d' := h5
          rw [put_lookup, if_neg hy] at h5'
          obtain ⟨u'', h6, r⟩ := g4 d' h5'
          exact ⟨u'', h6, up _ _ _ (r.own_congr (ho y hy))⟩

theorem store_ok {x : Str} {v : Value} {d : D} {Q : Unit → Shared → Prop} (S : Sit prog w P h0 mg mb W T O env σ s) (e : setVar σ x d = some σ') (r : Rep prog w W T s.heap v d)
    (hQ : ∀ s', Sit prog w P h0 mg mb W T O env σ' s' → KeepsB (Mut0 env σ.names) s s' → Q () s') : wpAny (model prog w) A (storeName env x v) Q E s := by
  unfold setVar at e
  split at e
  · rename_i hx
    cases e
    refine store_gen S hx ?_ (fun y hy => ?_) hQ
    · unfold VRep
      rw [if_neg ?_]
      · exact r
      · split
        · exact fun q => nomatch q
        · assumption
    · split
      · rename_i ho
        rw [ho]
        constructor
        · intro q; cases q
        · intro q; cases q; exact absurd rfl hy
      · exact Iff.rfl
  · cases e

theorem assign_name_ok {x : Str} {pos : Pos} {v : Value} {d : D} {Q : Unit → Shared → Prop} (S : Sit prog w P h0 mg mb W T O env σ s) (e : setVar σ x d = some σ') (r : Rep prog w W T s.heap v d)
    (hQ : ∀ s', Sit prog w P h0 mg mb W T O env σ' s' → KeepsB (Mut0 env σ.names) s s' → Q () s') : wpAny (model prog w) A (assign (.Name x pos) env v) Q E s := wpAny_assign_Name (store_ok S e r hQ)

theorem assignEach_names : ∀ {es : List Expr} {xs : List Str}, namesOf es = some xs → (assignEach es env).length = xs.length ∧ (assignEach es env).findIdx? (·.1) = none ∧ (assignEach es env).map (·.2) = es.map (fun t => assign t env) ∧ es.length = xs.length
  | [], xs, h => by simp [namesOf] at h; subst h; exact ⟨rfl, rfl, rfl, rfl⟩
  | e :: r, xs, h => by
    cases e with
    | Name x p =>
      simp only [namesOf, Option.bind_eq_some_iff] at h
      obtain ⟨ys, hy, h⟩ := h
      cases h
      obtain ⟨h1, h2, h3, h4⟩ := assignEach_names hy
      refine ⟨by simp [assignEach, h1], ?_, by simp [assignEach, h3], by simp [h4]⟩
      simp [assignEach, List.findIdx?_cons, h2]
    | _ => simp [namesOf] at h

theorem inOrder_ok : ∀ {es : List Expr} {xs : List Str} {ds : List D} {vs : List Value} {s : Shared} {σ σ' : St} {Q : Unit → Shared → Prop}, namesOf es = some xs → setAll σ xs ds = some σ' → Sit prog w P h0 mg mb W T O env σ s → Reps prog w W T s.heap vs ds →
    (∀ s', Sit prog w P h0 mg mb W T O env σ' s' → KeepsB (Mut0 env σ.names) s s' → Q () s') → wpAny (model prog w) A (assignInOrder (es.map (fun t => assign t env)) vs) Q E s
  | [], xs, ds, vs, s, σ, σ', Q, h1, h2, S, r, hQ => by
    simp [namesOf] at h1; subst h1
    cases ds with
    | cons => simp [setAll] at h2
    | nil => simp [setAll] at h2; subst h2; cases r; exact wpAny_assignInOrder_none (hQ s S .refl)
  | e :: es, xs, ds, vs, s, σ, σ', Q, h1, h2, S, r, hQ => by
    cases e with
    | Name x p =>
      simp only [namesOf, Option.bind_eq_some_iff] at h1
      obtain ⟨ys, hy, h1⟩ := h1
      cases h1
      cases ds with
      | nil => simp [setAll] at h2
      | cons d ds =>
        simp only [setAll, Option.bind_eq_some_iff] at h2
        obtain ⟨σ₁, h3, h4⟩ := h2
        cases r with | cons r1 r2 => ?_
        refine wpAny_assignInOrder_more (assign_name_ok S h3 r1 fun s₁ S₁ k₁ => ?_)
        exact inOrder_ok hy h4 S₁ (r2.kp (k₁.sub fun a q => Mut0.sub S.en q).kp) fun s₂ S₂ k₂ => hQ s₂ S₂ (k₁.trans (setVar_names h3 ▸ k₂))
    | _ => simp [namesOf] at h1

/-- bind a target -/
theorem assign_ok {t : Expr} {v : Value} {d : D} {Q : Unit → Shared → Prop} (hh : A.handled = none) (S : Sit prog w P h0 mg mb W T O env σ s) (e : bindT σ t d = some σ') (r : Rep prog w W T s.heap v d)
    (hQ : ∀ s', Sit prog w P h0 mg mb W T O env σ' s' → KeepsB (Mut0 env σ.names) s s' → Q () s') : wpAny (model prog w) A (assign t env v) Q E s := by
  unfold bindT at e
  split at e
  · exact assign_name_ok S e r hQ
  · rename_i es _ pos ds
    simp only [Option.bind_eq_some_iff] at e
    obtain ⟨xs, h1, e⟩ := e
    split at e
    · rename_i hl
      cases r with | tuple hw ht hr => ?_
      rename_i a vs
      obtain ⟨g1, g2, g3, g4⟩ := assignEach_names (env := env) h1
      have l1 := hr.length; simp only [Array.length_toList] at l1
      refine wpAny_assign_Tuple hh ht (by omega) g2 fun h' he' => ?_
      rw [g3]
      have k : Keeps s { s with heap := h' } := ⟨h', s.toks, rfl, fun b o q => he' b o (Nat.ne_of_lt (Heap.lt_size q)) q⟩
      exact inOrder_ok h1 e (S.step (TLe.refl _) S.tb k) (hr.keeps k) fun s₂ S₂ k₂ => hQ s₂ S₂ ((KeepsB.of k).trans k₂)
    · cases e
  · cases e
end Mine
end
section
namespace Mine
open PySem PyProof.Rows PySem.SeqAt

variable {prog : Program} {w : World} {A : Around} {E : Value → Shared → Prop} {W W' : Addr → Prop} {T T' : Tm} {s s' : Shared} {P : PI} {n0 : Nat} {h0 : Heap} {mg mb : Str → Option Value} {O : Addr → Prop} {env : Env} {σ σ' : St}

def plainIter (n : String) : Bool := !["enumerate", "zip", "dict_itemiterator", "dict_reverseitemiterator", "odict_iterator", "itertools.zip_longest", "itertools.pairwise"].contains n

/-- an iterator over items -/
structure IsIter (prog : Program) (w : World) (A : Around) (W : Addr → Prop) (T : Tm) (h : Heap) (I : Addr) (ds : List D) (fp : List Addr) (PP : Nat → Value → Prop) (St : Nat → Heap → Prop) : Prop where
  walks : Walks prog w A I fp [I] ds.length PP St
  fps : ∀ b ∈ fp, b ≠ I → ¬ W b
  ex : ∀ b ∈ fp, b ≠ I → ∃ o, h.get? b = some o
  item : ∀ i v, PP i v → ∃ d, ds[i]? = some d ∧ Rep prog w W T h v d
  cls : ∀ i h', St i h' → ∃ o n vs, h'.get? I = some o ∧ o.cls = .type n ∧ plainIter n = true ∧ o.data = .fields vs

theorem iter_ok {d : D} {ds : List D} {v : Value} {Q : Value → Shared → Prop} (hh : A.handled = none) (e : itemsD d = some ds) (r : Rep prog w W T s.heap v d) (hW : ∀ a, W' a → W a ∨ s.heap.get? a = none)
    (hQ : ∀ o fp PP St, IsIter prog w A W' T s.heap s.heap.objs.size ds fp PP St → St 0 (s.heap.push o) → o.isFreed = false → Q (.ref s.heap.objs.size) { s with heap := s.heap.push o }) : wpAny (model prog w) A (pyIter v) Q E s := by
  unfold itemsD at e
  split at e
  · split at e
    · cases e
      have r' := r.anti hW
      cases r' with | list hw hl hr => ?_
      rename_i a vs
      have hne : a ≠ s.heap.objs.size := fun q => by obtain ⟨n, e⟩ := hl; exact absurd (q ▸ Heap.lt_size e) (Nat.lt_irrefl _)
      have l1 := hr.length; simp only [Array.length_toList] at l1
      refine wpAny_pyIter_list hl.isList (hQ _ _ _ _ ⟨l1 ▸ Walks.list hh _ a hne vs, fun b hb hb' => ?_, fun b hb hb' => ?_, fun i v hv => ?_, fun i h' st => ?_⟩ ⟨⟨_, Heap.get?_push_size _ rfl, rfl, rfl⟩, hl.isList.push _⟩ rfl)
      · simp at hb
        rcases hb with rfl | rfl
        · exact absurd rfl hb'
        · exact hw
      · simp at hb
        rcases hb with rfl | rfl
        · exact absurd rfl hb'
        · obtain ⟨n, e⟩ := hl; exact ⟨_, e⟩
      · obtain ⟨d, h1, h2⟩ := hr.get' i v (by simpa using hv)
        exact ⟨d, h1, h2⟩
      · obtain ⟨⟨o, h1, h2, h3⟩, _⟩ := st
        exact ⟨o, _, _, h1, h2, by decide, h3⟩
    · cases e
  · split at e
    · cases e
      have r' := r.anti hW
      cases r' with | tuple hw hl hr => ?_
      rename_i a vs
      have hne : a ≠ s.heap.objs.size := fun q => by obtain ⟨o, e, _⟩ := hl; exact absurd (q ▸ Heap.lt_size e) (Nat.lt_irrefl _)
      have l1 := hr.length; simp only [Array.length_toList] at l1
      refine wpAny_pyIter_tuple hl (hQ _ _ _ _ ⟨l1 ▸ Walks.tuple hh _ a hne vs, fun b hb hb' => ?_, fun b hb hb' => ?_, fun i v hv => ?_, fun i h' st => ?_⟩ ⟨⟨_, Heap.get?_push_size _ rfl, rfl, rfl⟩, hl.push _⟩ rfl)
      · simp at hb
        rcases hb with rfl | rfl
        · exact absurd rfl hb'
        · exact hw
      · simp at hb
        rcases hb with rfl | rfl
        · exact absurd rfl hb'
        · obtain ⟨o, e, _⟩ := hl; exact ⟨_, e⟩
      · obtain ⟨d, h1, h2⟩ := hr.get' i v (by simpa using hv)
        exact ⟨d, h1, h2⟩
      · obtain ⟨⟨o, h1, h2, h3⟩, _⟩ := st
        exact ⟨o, _, _, h1, h2, by decide, h3⟩
    · cases e
  · rename_i x
    split at e
    · cases e
      cases r with | str _ t => ?_
      have hl : x.cps.size = (x.cps.toList.map fun c => D.str ⟨#[c]⟩).length := by simp
      have hit : ∀ i v, SignAt x i v → ∃ d, (x.cps.toList.map fun c => D.str ⟨#[c]⟩)[i]? = some d ∧ Rep prog w W' T s.heap v d := fun i v ⟨c, u, h1, h2⟩ => by
        subst h2
        exact ⟨.str ⟨#[c]⟩, by simp [h1], .str _ _⟩
      cases ha : x.cps.all (· < 128)
      · refine wpAny_pyIter_wide ha (hQ _ _ _ _ ⟨hl ▸ Walks.strWide hh _ x t, fun b hb hb' => absurd (by simpa using hb) hb', fun b hb hb' => absurd (by simpa using hb) hb', hit, fun i h' st => ?_⟩ ⟨_, Heap.get?_push_size _ rfl, rfl, rfl⟩ rfl)
        obtain ⟨o, h1, h2, h3⟩ := st
        exact ⟨o, _, _, h1, h2, by decide, h3⟩
      · refine wpAny_pyIter_ascii ha (hQ _ _ _ _ ⟨hl ▸ Walks.strAscii hh _ x t, fun b hb hb' => absurd (by simpa using hb) hb', fun b hb hb' => absurd (by simpa using hb) hb', hit, fun i h' st => ?_⟩ ⟨_, Heap.get?_push_size _ rfl, rfl, rfl⟩ rfl)
        obtain ⟨o, h1, h2, h3⟩ := st
        exact ⟨o, _, _, h1, h2, by decide, h3⟩
    · cases e
  · rename_i a b
    split at e
    · rename_i hs
      cases e
      cases r with | rng hw hr => ?_
      rename_i ad t u v
      have hn : Builtin.Range.rangeSize a b 1 = (((b - a).toNat : Nat) : Int) := by rw [rangeSize_one]; split <;> omega
      have hl : (b - a).toNat = ((List.range (b - a).toNat).map fun (k : Nat) => D.int (a + k)).length := by simp
      refine wpAny_pyIter_range hr (small_one (by omega) (by omega) (by omega) (by omega)) (hQ _ [_] (fun i v => i < (b - a).toNat ∧ ∃ t, v = .int (a + i * 1) t) (fun i h => IsRangeIter h s.heap.objs.size (a + (i : Nat) * 1) (((b - a).toNat : Int) - (i : Nat)) 1) ⟨by rw [← hl]; exact (Walks.range hh _ a 1 (b - a).toNat).bound, fun b hb hb' => absurd (by simpa using hb) hb', fun b hb hb' => absurd (by simpa using hb) hb', fun i v hv => ?_, fun i h' st => ?_⟩ ?_ rfl)
      · obtain ⟨h1, t, rfl⟩ := hv
        exact ⟨.int (a + i), by simp [h1], by rw [Int.mul_one]; exact .int _ _⟩
      · exact ⟨_, _, _, st, rfl, by decide, rfl⟩
      · show IsRangeIter _ _ (a + ((0 : Nat) : Int) * 1) (((b - a).toNat : Int) - ((0 : Nat) : Int)) 1
        rw [hn]
        have e1 : a + ((0 : Nat) : Int) * 1 = a := by simp
        have e2 : (((b - a).toNat : Nat) : Int) - ((0 : Nat) : Int) = ((b - a).toNat : Int) := by simp
        rw [e1, e2]
        exact Heap.get?_push_size _ rfl
    · cases e
  · cases e
end Mine
end
section
namespace Mine
open PySem PyProof.Rows PySem.SeqAt

variable {prog : Program} {w : World} {A : Around} {E : Value → Shared → Prop} {W W' : Addr → Prop} {T T' : Tm} {s s' : Shared} {P : PI} {n0 : Nat} {h0 : Heap} {mg mb : Str → Option Value} {O : Addr → Prop} {env : Env} {σ σ' : St}

theorem letOwned_ok {target : Expr} {I : Addr} {v : Value} {Q : Unit → Shared → Prop} (hc : ∃ o n vs, s.heap.get? I = some o ∧ o.cls = .type n ∧ plainIter n = true ∧ o.data = .fields vs) (h : Q () s) :
    wpAny (model prog w) A (letOwnedTupleGo target (.ref I) v) Q E s := by
  obtain ⟨o, n, vs, h1, h2, h3, h4⟩ := hc
  have key : wpAny (model prog w) A (match (Value.ref I, v) with
      | (.ref r, .ref a) => do
        let o ← load r
        match o.cls, o.data with
        | .type n, .fields vs =>
          if ["enumerate", "zip", "dict_itemiterator", "dict_reverseitemiterator", "odict_iterator", "itertools.zip_longest", "itertools.pairwise"].contains n && vs[0]? == some (rawInt a) then do
            rule "for.unpacks-the-owned-tuple"
            updateField r 0 .none
          else pure ()
        | _, _ => pure ()
      | _ => pure () : Sem Unit) Q E s := by
    cases v with
    | ref a =>
      refine wpAny_bind (wpAny_load h1 ?_)
      rw [h2, h4]
      dsimp only
      unfold plainIter at h3
      simp only [Bool.not_eq_true'] at h3
      rw [h3]
      exact wpAny_pure h
    | _ => exact wpAny_pure h
  unfold letOwnedTupleGo
  split
  · exact key
  · exact key
  · exact wpAny_pure h

theorem tests_ok {R : Rc} (RO : RcOk prog w P h0 mg mb A R) : ∀ {ifs : List Expr} {b : Bool} {s : Shared} {T : Tm}, testsD R σ ifs = some b → Sit prog w P h0 mg mb W T O env σ s →
    wpAny (model prog w) A (forIn ifs true fun c r => if r = true then do let ok ← isTrue c env (eval c env); pure (ForInStep.yield ok) else pure (ForInStep.yield r)) (postB T s b) E s
  | [], b, s, T, h, S => by
    simp [testsD] at h; subst h
    exact wpAny_pure ⟨rfl, T, TLe.refl _, S.tb, kRefl _⟩
  | c :: r, b, s, T, h, S => by
    simp only [testsD, Option.bind_eq_some_iff] at h
    obtain ⟨b1, hb1, h⟩ := h
    rw [List.forIn_cons]
    simp only [if_true]
    refine wpAny_bind (wpAny_bind (wpAny_mono (RO.tr hb1 S) (fun b' s₁ h₁ => ?_) fun _ _ q => q))
    obtain ⟨rfl, T₁, t1, tb1, k1⟩ := h₁
    refine wpAny_pure ?_
    show wpAny (model prog w) A (forIn r b' _) _ _ s₁
    cases b' with
    | true =>
      simp only [if_true] at h
      refine wpAny_mono (tests_ok RO h (S.step t1 tb1 k1)) (fun b2 s₂ h₂ => ?_) fun _ _ q => q
      obtain ⟨rfl, T₂, t2, tb2, k2⟩ := h₂
      exact ⟨rfl, T₂, t1.trans t2, tb2, kTrans k1 k2⟩
    | false =>
      simp only [Bool.false_eq_true, if_false, Option.some.injEq] at h
      subst h
      have stay : ∀ (r : List Expr), wpAny (model prog w) A (forIn r false fun c r => if r = true then do let ok ← isTrue c env (eval c env); pure (ForInStep.yield ok) else pure (ForInStep.yield r)) (postB T s false) E s₁ := by
        intro r
        induction r with
        | nil => exact wpAny_pure ⟨rfl, T₁, t1, tb1, k1⟩
        | cons c r ih =>
          rw [List.forIn_cons]
          simp only [Bool.false_eq_true, if_false]
          exact wpAny_bind (wpAny_pure ih)
      exact stay r

theorem folded_pure {e : Expr} (h : setIter e = false) (x : Value) : foldedSetIterable e env x = pure x := by
  cases e <;> first | rfl | (simp [setIter] at h)

theorem codeAny_compLoop_gen {R : Result → Shared → Prop} {elt : Expr} {gens : List Comprehension} {scope : Scope} {pos : Pos} {depth : Nat} {g : Comprehension} {it acc : Value} (hg : gens[depth]? = some g) (ha : g.is_async = 0)
    (ha' : ∀ g', gens[depth + 1]? = some g' → g'.is_async = 0 ∧ setIter g'.iter = false) (I : Nat → Shared → Prop)
    (turn : ∀ n s, I n s → wpAny (model prog w) A (pyNext it) (fun r s₁ => match r with
      | none => R (.ok .next) s₁
      | some v => wpAny (model prog w) A (letOwnedTupleGo g.target it v) (fun _ s₁' => wpAny (model prog w) A (assign g.target env v) (fun _ s₂ =>
          wpAny (model prog w) A (forIn g.ifs true fun c r => if r = true then do let ok ← isTrue c env (eval c env); pure (ForInStep.yield ok) else pure (ForInStep.yield r)) (fun ok s₃ =>
            if ok = true then (match gens[depth + 1]? with
              | some g' => wpAny (model prog w) A (eval g'.iter env) (fun x s₄ => wpAny (model prog w) A (pyIter x) (fun it' s₅ =>
                  codeAny (model prog w) A (.compStart (.ListComp elt gens scope pos) (depth + 1) it' acc env) (fun r s₆ => match r with | .ok _ => ∃ m, m < n ∧ I m s₆ | .error _ => False) s₅) (fun _ _ => False) s₄) (fun _ _ => False) s₃
              | none => wpAny (model prog w) A (eval elt env) (fun x s₄ => wpAny (model prog w) A (call (.builtin "list.append") [acc, x]) (fun _ s₅ => ∃ m, m < n ∧ I m s₅) (fun _ _ => False) s₄) (fun _ _ => False) s₃)
            else ∃ m, m < n ∧ I m s₃) (fun _ _ => False) s₂) (fun _ _ => False) s₁') (fun _ _ => False) s₁) (fun _ _ => False) s)
    (n : Nat) (h : I n s) : codeAny (model prog w) A (.compLoop (.ListComp elt gens scope pos) depth it acc env) R s := by
  refine codeAny_loop rfl I (fun n s hI => ?_) n h
  show wpAny _ A ((compTurn (.ListComp elt gens scope pos) depth it acc env).onRaise (fun x => do noteFrame x env; theTreesLotGoes x)) _ _ s
  refine wpAny_noted ?_
  refine wpAny_mono (E := fun _ _ => False) ?_ (fun _ _ q => q) (fun _ _ q => q.elim)
  unfold compTurn
  simp only [hg]
  rw [ha]
  simp only [bne_self_eq_false, Bool.false_eq_true, if_false]
  refine wpAny_bind (wpAny_standAt (wpAny_bind (wpAny_mono (turn n s hI) (fun r s₁ h₁ => ?_) fun _ _ q => q)))
  cases r with
  | none => exact wpAny_pure h₁
  | some v =>
    refine wpAny_bind (wpAny_mono h₁ (fun _ s₁' h₁' => wpAny_bind (wpAny_mono h₁' (fun _ s₂ h₂ => wpAny_bind (wpAny_mono h₂ (fun ok s₃ h₃ => ?_) fun _ _ q => q)) fun _ _ q => q)) fun _ _ q => q)
    cases ok with
    | false => exact wpAny_pure ⟨rfl, h₃⟩
    | true =>
      simp only [if_true] at h₃ ⊢
      cases hg' : gens[depth + 1]? with
      | none =>
        rw [hg'] at h₃
        simp only at h₃ ⊢
        exact wpAny_bind (wpAny_bind (wpAny_mono h₃ (fun x s₄ h₄ => wpAny_bind (wpAny_mono h₄ (fun _ s₅ h₅ => wpAny_pure (wpAny_pure ⟨rfl, h₅⟩)) fun _ _ q => q)) fun _ _ q => q))
      | some g' =>
        rw [hg'] at h₃
        simp only at h₃ ⊢
        obtain ⟨b1, b2⟩ := ha' g' hg'
        simp only [b1, bne_self_eq_false, Bool.false_eq_true, if_false]
        refine wpAny_bind (wpAny_mono h₃ (fun x s₄ h₄ => wpAny_bind (wpAny_standAt (wpAny_bind (wpAny_of_eq (folded_pure b2 x) (wpAny_bind (wpAny_holding (wpAny_mono h₄ (fun it' s₅ h₅ => ?_) fun _ _ q => q))))))) fun _ _ q => q)
        refine wpAny_bind (wpAny_runOwn (h := none) (codeAny_mono h₅ fun r s₆ h₆ => ?_))
        cases r with
        | ok f => exact wpAny_pure ⟨rfl, h₆⟩
        | error e => exact h₆.elim

theorem codeAny_compStart_gen {R : Result → Shared → Prop} {elt : Expr} {gens : List Comprehension} {scope : Scope} {pos : Pos} {depth : Nat} {g : Comprehension} {it acc : Value} (hg : gens[depth]? = some g) (ha : g.is_async = 0)
    (hl : codeAny (model prog w) A (.compLoop (.ListComp elt gens scope pos) depth it acc env) R s)
    (hself : ∀ (Q : Value → Shared → Prop), Q it s → wpAny (model prog w) A (pyIter it) Q (fun _ _ => False) s) :
    codeAny (model prog w) A (.compStart (.ListComp elt gens scope pos) depth it acc env) R s := by
  refine codeAny_of_tree ?_
  show wpAny _ A ((compStart (.ListComp elt gens scope pos) depth it acc env).onRaise (fun x => do noteFrame x env; standAt theWindowsPlace)) _ _ s
  refine wpAny_notedAt ?_
  refine wpAny_mono (E := fun _ _ => False) ?_ (fun _ _ q => q) (fun _ _ q => q.elim)
  unfold compStart
  have hc : (clausesOf (.ListComp elt gens scope pos))[depth]? = some g := hg
  simp only [hc, Option.elim_some, ha, bne_self_eq_false, Bool.false_eq_true, if_false]
  refine wpAny_bind (wpAny_askSetting (wpAny_ite ?_))
  split
  · first
      | exact wpAny_bind (wpAny_pure (wpAny_pure (And.intro rfl hl)))
      | exact wpAny_pure (And.intro rfl hl)
  · exact wpAny_bind (wpAny_rule (wpAny_bind (wpAny_standAt (wpAny_bind (hself _ (wpAny_pure (And.intro rfl hl)))))))
end Mine
end
section
namespace Mine
open PySem PyProof.Rows PySem.SeqAt

variable {prog : Program} {w : World} {A : Around} {E : Value → Shared → Prop} {W W' : Addr → Prop} {T T' : Tm} {s s' : Shared} {P : PI} {n0 : Nat} {h0 : Heap} {mg mb : Str → Option Value} {O : Addr → Prop} {env : Env} {σ σ' : St}

theorem OwnAt.anti {h : Heap} {a : Addr} {d : D} (k : ∀ a, W' a → W a ∨ h.get? a = none) (x : OwnAt prog w W T h a d) : OwnAt prog w W' T h a d := by
  cases x with
  | list h1 h2 => exact .list h1 (h2.anti k)
  | iidict h1 => exact .iidict h1
theorem VRep.anti {h : Heap} {L : Addr} {own : Option Str} {x : Str} {v : Value} {d : D} (k : ∀ a, W' a → W a ∨ h.get? a = none) (r : VRep prog w W T h O L own x v d) : VRep prog w W' T h O L own x v d := by
  unfold VRep at r ⊢
  split at r
  · rename_i ho
    obtain ⟨a, rfl, h1, h2, o⟩ := r
    rw [if_pos ho]
    exact ⟨a, rfl, h1, h2, o.anti k⟩
  · rename_i ho
    rw [if_neg ho]
    exact r.anti k

/-- back to fewer places -/
theorem EnvOk.shrink {h h1 : Heap} {T0 : Tm} {σ1 : St} (x : EnvOk prog w W' T h O env σ) (y : EnvOk prog w W T0 h1 O env σ1) (hn : σ1.names = σ.names) (hw : ∀ a, W a → W' a) : EnvOk prog w W T h O env σ where
  kind := x.kind
  gl := x.gl
  bl := x.bl
  nm := x.nm
  cd := x.cd
  loc := y.loc
  ns := let ⟨l, g1, g2⟩ := x.ns; ⟨l, g1, fun z d e1 e2 => let ⟨v, e3, r⟩ := g2 z d e1 e2; ⟨v, e3, r.anti fun a q => .inl (hw a q)⟩⟩
  cell := fun z e => by
    obtain ⟨a, v, g1, g2, g3, g4⟩ := x.cell z e
    obtain ⟨a', v', g1', g2', _⟩ := y.cell z (by rw [hn]; exact e)
    rw [g1] at g1'; cases g1'
    exact ⟨a, v, g1, g2', g3, fun d e => let ⟨u, e3, r⟩ := g4 d e; ⟨u, e3, r.anti fun a q => .inl (hw a q)⟩⟩
  apart := x.apart

/-- more places, new ones -/
theorem EnvOk.grow {h : Heap} (x : EnvOk prog w W T h O env σ) (k : ∀ a, W' a → W a ∨ h.get? a = none) (hw : ∀ a, W a → W' a) : EnvOk prog w W' T h O env σ where
  kind := x.kind
  gl := x.gl
  bl := x.bl
  nm := x.nm
  cd := x.cd
  loc := hw _ x.loc
  ns := let ⟨l, g1, g2⟩ := x.ns; ⟨l, g1, fun z d e1 e2 => let ⟨v, e3, r⟩ := g2 z d e1 e2; ⟨v, e3, r.anti k⟩⟩
  cell := fun z e => let ⟨a, v, g1, g2, g3, g4⟩ := x.cell z e; ⟨a, v, g1, hw _ g2, g3, fun d e => let ⟨u, e3, r⟩ := g4 d e; ⟨u, e3, r.anti k⟩⟩
  apart := x.apart

/-- forget names -/
theorem EnvOk.weaken {h : Heap} (x : EnvOk prog w W T h O env σ') (hn : σ'.names = σ.names) (ho : σ'.own = σ.own) (hv : ∀ x d, σ.vars.lookup x = some d → σ'.vars.lookup x = some d) : EnvOk prog w W T h O env σ where
  kind := x.kind
  gl := x.gl
  bl := x.bl
  nm := by rw [← hn]; exact x.nm
  cd := by rw [← hn]; exact x.cd
  loc := x.loc
  ns := let ⟨l, g1, g2⟩ := x.ns; ⟨l, g1, fun z d e1 e2 => let ⟨v, e3, r⟩ := g2 z d (by rw [hn]; exact e1) (hv z d e2); ⟨v, e3, ho ▸ r⟩⟩
  cell := fun z e => let ⟨a, v, g1, g2, g3, g4⟩ := x.cell z (by rw [hn]; exact e); ⟨a, v, g1, g2, g3, fun d e => let ⟨u, e3, r⟩ := g4 d (hv z d e); ⟨u, e3, ho ▸ r⟩⟩
  apart := x.apart

/-- one place of W that is none of the frame's changes -/
theorem EnvOk.other {h h' : Heap} {X : Addr} (x : EnvOk prog w W T h O env σ) (wX : W X) (hL : X ≠ env.locals) (hC : ∀ v, ¬ h.IsCell X v) (hO : ¬ O X) (k : ∀ b o, b ≠ X → h.get? b = some o → h'.get? b = some o) : EnvOk prog w W T h' O env σ := by
  have kb : KpB W h h' := fun b o hb e => k b o (fun q => hb (q ▸ wX)) e
  have up : ∀ y u d, VRep prog w W T h O env.locals σ.own y u d → VRep prog w W T h' O env.locals σ.own y u d := fun y u d r => by
    unfold VRep at r ⊢
    split at r
    · rename_i ho
      obtain ⟨a, rfl, h1, h2, o⟩ := r
      rw [if_pos ho]
      exact ⟨a, rfl, h1, h2, o.kp kb fun o e => k a o (fun q => hO (q ▸ h1)) e⟩
    · rename_i ho
      rw [if_neg ho]; exact r.kp kb
  refine ⟨x.kind, x.gl, x.bl, x.nm, x.cd, x.loc, ?_, fun z e => ?_, x.apart⟩
  · obtain ⟨l, ⟨o, es, ep, g1, g⟩, g2⟩ := x.ns
    exact ⟨l, ⟨o, es, ep, k _ o (Ne.symm hL) g1, g⟩, fun z d e1 e2 => let ⟨v, e3, r⟩ := g2 z d e1 e2; ⟨v, e3, up _ _ _ r⟩⟩
  · obtain ⟨a, v, g1, g2, g3, g4⟩ := x.cell z e
    have ha : a ≠ X := fun q => hC v (q ▸ g3)
    obtain ⟨o, g5, g6⟩ := g3
    exact ⟨a, v, g1, g2, ⟨o, k a o ha g5, g6⟩, fun d e => let ⟨u, e3, r⟩ := g4 d e; ⟨u, e3, up _ _ _ r⟩⟩

theorem Sit.other {X : Addr} {h' : Heap} {tk : Nat} (S : Sit prog w P h0 mg mb W T O env σ s) (wX : W X) (hL : X ≠ env.locals) (hC : ∀ v, ¬ s.heap.IsCell X v) (hO : ¬ O X) (k : ∀ b o, b ≠ X → s.heap.get? b = some o → h'.get? b = some o)
    (hX : ∃ o, h'.get? X = some o) (tb : TB T tk) : Sit prog w P h0 mg mb W T O env σ { s with heap := h', toks := tk } :=
  ⟨S.gf.kpB S.wb fun b o hb e => k b o (fun q => hb (q ▸ wX)) e, fun a q => ⟨(S.wb a q).1, by
    by_cases ha : a = X
    · exact ha ▸ hX
    · obtain ⟨_, o, e⟩ := S.wb a q
      exact ⟨o, k a o ha e⟩⟩, S.en.other wX hL hC hO k, tb, S.ow⟩

/-- names kept by binding a new target -/
def Ext1 (σ σ' : St) : Prop := σ'.names = σ.names ∧ σ'.own = σ.own ∧ ∀ x d, σ.vars.lookup x = some d → σ'.vars.lookup x = some d

theorem setVar_ext {σ₀ : St} {x : Str} {d : D} (hx : newN σ₀ x = true) (e : setVar σ x d = some σ') (h : Ext1 σ₀ σ) : Ext1 σ₀ σ' := by
  obtain ⟨h1, h2, h3⟩ := h
  unfold newN at hx
  simp only [Bool.and_eq_true, Option.isNone_iff_eq_none, Bool.not_eq_true', beq_eq_false_iff_ne, ne_eq] at hx
  unfold setVar at e
  split at e
  · cases e
    refine ⟨h1, ?_, fun y d' hy => ?_⟩
    · show (if σ.own = some x then none else σ.own) = σ₀.own
      rw [if_neg (by rw [h2]; exact hx.2), h2]
    · show (put σ.vars x d).lookup y = some d'
      rw [put_lookup]
      by_cases hyx : y = x
      · subst hyx; rw [hx.1] at hy; cases hy
      · rw [if_neg hyx]; exact h3 y d' hy
  · cases e
theorem setAll_ext {σ₀ : St} : ∀ {xs : List Str} {ds : List D} {σ σ' : St}, xs.all (newN σ₀) = true → setAll σ xs ds = some σ' → Ext1 σ₀ σ → Ext1 σ₀ σ'
  | [], [], σ, σ', _, e, h => by simp [setAll] at e; rw [← e]; exact h
  | [], _ :: _, σ, σ', _, e, _ => by simp [setAll] at e
  | _ :: _, [], σ, σ', _, e, _ => by simp [setAll] at e
  | x :: xs, d :: ds, σ, σ', hx, e, h => by
    simp only [setAll, Option.bind_eq_some_iff] at e
    obtain ⟨σ₁, h1, h2⟩ := e
    simp only [List.all_cons, Bool.and_eq_true] at hx
    exact setAll_ext hx.2 h2 (setVar_ext hx.1 h1 h)
theorem bindT_ext {t : Expr} {d : D} (ht : newT σ t = true) (e : bindT σ t d = some σ') : Ext1 σ σ' := by
  unfold bindT at e
  split at e
  · exact setVar_ext ht e ⟨rfl, rfl, fun _ _ q => q⟩
  · rename_i es _ _ ds
    simp only [Option.bind_eq_some_iff] at e
    obtain ⟨xs, hx, e⟩ := e
    split at e
    · simp only [newT, hx] at ht
      exact setAll_ext ht e ⟨rfl, rfl, fun _ _ q => q⟩
    · cases e
  · cases e

theorem flatO_append {α β : Type} {f : α → Option (List β)} : ∀ {l : List α} {r : List β}, flatO f l = some r → ∀ (i : Nat) (a : α), l[i]? = some a → ∃ b, f a = some b
  | [], _, _, i, a, h => by simp at h
  | x :: l, r, e, i, a, h => by
    simp only [flatO, Option.bind_eq_some_iff] at e
    obtain ⟨b, hb, bs, hbs, e⟩ := e
    cases i with
    | zero => simp at h; subst h; exact ⟨b, hb⟩
    | succ i => exact flatO_append hbs i a (by simpa using h)
theorem flatO_drop {α β : Type} {f : α → Option (List β)} {a : α} {l : List α} {r : List β} (e : flatO f (a :: l) = some r) : ∃ b bs, f a = some b ∧ flatO f l = some bs ∧ r = b ++ bs := by
  simp only [flatO, Option.bind_eq_some_iff] at e
  obtain ⟨b, hb, bs, hbs, e⟩ := e
  cases e
  exact ⟨b, bs, hb, hbs, rfl⟩

/-- what one item of a clause gives -/
def turnD (R : Rc) (elt : Expr) (g : Comprehension) (gs : List Comprehension) (σ : St) (it : D) : Option (List D) :=
  (bindT σ g.target it).bind fun σ' => (testsD R σ' g.ifs).bind fun b =>
      if b then (match gs with
        | [] => (R.ev σ' elt).map fun d => [d]
        | g' :: _ => (R.ev σ' g'.iter).bind fun src => (itemsD src).bind fun its => compD R elt gs σ' its)
      else some []

theorem compD_cons {R : Rc} {elt : Expr} {g : Comprehension} {gs : List Comprehension} {items : List D} : compD R elt (g :: gs) σ items = if newT σ g.target then flatO (turnD R elt g gs σ) items else none := rfl
end Mine
end
section
namespace Mine
open PySem PyProof.Rows PySem.SeqAt

variable {prog : Program} {w : World} {A : Around} {E : Value → Shared → Prop} {W W' : Addr → Prop} {T T' : Tm} {s s' : Shared} {P : PI} {n0 : Nat} {h0 : Heap} {mg mb : Str → Option Value} {O : Addr → Prop} {env : Env} {σ σ' : St}

theorem notCell_of {h : Heap} {I : Addr} {o : Obj} (h1 : h.get? I = some o) (h2 : ∀ v, o.data ≠ .cell v) : ∀ v, ¬ h.IsCell I v := fun v ⟨o', e, d⟩ => by
  rw [h1] at e; cases e; exact h2 v d

theorem gensOk_at {gens : List Comprehension} (h : gensOk gens = true) : ∀ (k : Nat) (c : Comprehension), gens[k]? = some c → c.is_async = 0 ∧ setIter c.iter = false := by
  intro k c
  induction gens generalizing k with
  | nil => intro h; simp at h
  | cons c0 gens ihg =>
    simp only [gensOk, Bool.and_eq_true, beq_iff_eq, Bool.not_eq_true'] at h
    intro e
    cases k with
    | zero => simp at e; subst e; exact ⟨h.1.1, h.1.2⟩
    | succ k => exact ihg h.2 k (by simpa using e)

/-- what comes behind the tests -/
def tailD (R : Rc) (elt : Expr) (gs : List Comprehension) (σ' : St) : Option (List D) := match gs with
  | [] => (R.ev σ' elt).map fun d => [d]
  | g' :: _ => (R.ev σ' g'.iter).bind fun src => (itemsD src).bind fun its => compD R elt gs σ' its

def TailGoal (prog : Program) (w : World) (A : Around) (env : Env) (elt : Expr) (gens : List Comprehension) (scope : Scope) (pos : Pos) (depth : Nat) (D₀ : Addr) (Fin : Shared → Prop) (s₃ : Shared) : Prop := match gens[depth + 1]? with
  | some g' => wpAny (model prog w) A (eval g'.iter env) (fun x s₄ => wpAny (model prog w) A (pyIter x) (fun it' s₅ =>
      codeAny (model prog w) A (.compStart (.ListComp elt gens scope pos) (depth + 1) it' (.ref D₀) env) (fun r s₆ => match r with | .ok _ => Fin s₆ | .error _ => False) s₅) (fun _ _ => False) s₄) (fun _ _ => False) s₃
  | none => wpAny (model prog w) A (eval elt env) (fun x s₄ => wpAny (model prog w) A (call (.builtin "list.append") [.ref D₀, x]) (fun _ s₅ => Fin s₅) (fun _ _ => False) s₄) (fun _ _ => False) s₃

/-- what the tail of a turn does -/
def TailOk (prog : Program) (w : World) (P : PI) (h0 : Heap) (mg mb : Str → Option Value) (A : Around) (O : Addr → Prop) (env : Env) (R : Rc) (elt : Expr) (gens : List Comprehension) (scope : Scope) (pos : Pos) (depth : Nat) (gs : List Comprehension) (D₀ : Addr) (ns : List (Str × NameKind)) (W : Addr → Prop) : Prop :=
  ∀ (σ₁ : St) (b o : List D) (ys : Array Value) (s₃ : Shared) (T₃ : Tm) (Fin : Shared → Prop), σ₁.names = ns → tailD R elt gs σ₁ = some b → Sit prog w P h0 mg mb W T₃ O env σ₁ s₃ → s₃.heap.PlainList D₀ ys → Reps prog w W T₃ s₃.heap ys.toList o → o.length + b.length ≤ 2 ^ 21 →
    (∀ s₄ T₄ ys', Sit prog w P h0 mg mb W T₄ O env σ₁ s₄ → TLe T₃ T₄ → KeepsB (fun a => Mut0 env ns a ∨ a = D₀) s₃ s₄ → s₄.heap.PlainList D₀ ys' → Reps prog w W T₄ s₄.heap ys'.toList (o ++ b) → Fin s₄) →
    TailGoal prog w A env elt gens scope pos depth D₀ Fin s₃

/-- a place less -/
theorem EnvOk.drop {h : Heap} {X : Addr} (x : EnvOk prog w W T h O env σ) (hW : ∀ a, W' a → W a) (hW0 : ∀ a, W a → W' a ∨ a = X) (hL : X ≠ env.locals) (hC : ∀ v, ¬ h.IsCell X v) : EnvOk prog w W' T h O env σ where
  kind := x.kind
  gl := x.gl
  bl := x.bl
  nm := x.nm
  cd := x.cd
  loc := (hW0 _ x.loc).elim id fun q => absurd q.symm hL
  ns := let ⟨l, g1, g2⟩ := x.ns; ⟨l, g1, fun z d e1 e2 => let ⟨v, e3, r⟩ := g2 z d e1 e2; ⟨v, e3, r.anti fun a q => .inl (hW a q)⟩⟩
  cell := fun z e => let ⟨a, v, g1, g2, g3, g4⟩ := x.cell z e; ⟨a, v, g1, (hW0 _ g2).elim id fun q => absurd (q ▸ g3) (hC v), g3, fun d e => let ⟨u, e3, r⟩ := g4 d e; ⟨u, e3, r.anti fun a q => .inl (hW a q)⟩⟩
  apart := x.apart

theorem comp_turns {R : Rc} (RO : RcOk prog w P h0 mg mb A R) (hh : A.handled = none) {elt : Expr} {gens : List Comprehension} {scope : Scope} {pos : Pos} {D₀ : Addr} (hgens : gensOk gens = true)
    {gs : List Comprehension} {depth : Nat} {g : Comprehension} (hg : gens[depth]? = some g)
    {W W0 : Addr → Prop} {σ : St} {items outs out0 : List D} {s : Shared} {T Ti : Tm} {hs : Heap} {I : Addr} {fp : List Addr} {PP : Nat → Value → Prop} {Sti : Nat → Heap → Prop} {ys : Array Value} {Rk : Result → Shared → Prop}
    (tail : TailOk prog w P h0 mg mb A O env R elt gens scope pos depth gs D₀ σ.names W)
    (hnew : newT σ g.target = true) (hflat : flatO (turnD R elt g gs σ) items = some outs) (S : Sit prog w P h0 mg mb W T O env σ s) (It : IsIter prog w A W Ti hs I items fp PP Sti) (hTi : TLe Ti T) (hkp : KpB W hs s.heap) (hst : Sti 0 s.heap)
    (hWI : W I) (hWD : W D₀) (hMI : ¬ Mut0 env σ.names I) (hMD : ¬ Mut0 env σ.names D₀) (hID : I ≠ D₀) (hOI : ¬ O I) (hOD : ¬ O D₀) (hpl : s.heap.PlainList D₀ ys) (hrep : Reps prog w W T s.heap ys.toList out0) (hlen : out0.length + outs.length ≤ 2 ^ 21)
    (hW0 : ∀ a, W0 a → W a ∧ a ≠ I) (hW1 : ∀ a, W a → W0 a ∨ a = I)
    (hR : ∀ s' T' ys', Sit prog w P h0 mg mb W0 T' O env σ s' → TLe T T' → KeepsB (fun a => Mut0 env σ.names a ∨ a = D₀ ∨ a = I) s s' → s'.heap.PlainList D₀ ys' → Reps prog w W0 T' s'.heap ys'.toList (out0 ++ outs) → Rk (.ok .next) s') :
    codeAny (model prog w) A (.compLoop (.ListComp elt gens scope pos) depth (.ref I) (.ref D₀) env) Rk s := by
  have hIL : I ≠ env.locals := fun q => hMI (.inl q)
  have hMW : ∀ a, (Mut0 env σ.names a ∨ a = D₀ ∨ a = I) → W a := fun a q => by
    rcases q with q | rfl | rfl
    · exact Mut0.sub S.en q
    · exact hWD
    · exact hWI
  refine codeAny_compLoop_gen hg (gensOk_at hgens depth g hg).1 (fun c hc => gensOk_at hgens _ c hc)
    (fun n s' => ∃ (i : Nat) (T' : Tm) (ys' : Array Value) (outs1 outs2 : List D), n = items.length + 1 - i ∧ i ≤ items.length ∧ flatO (turnD R elt g gs σ) (items.drop i) = some outs2 ∧ outs = outs1 ++ outs2 ∧
      Sit prog w P h0 mg mb W T' O env σ s' ∧ TLe T T' ∧ KeepsB (fun a => Mut0 env σ.names a ∨ a = D₀ ∨ a = I) s s' ∧ Sti i s'.heap ∧ s'.heap.PlainList D₀ ys' ∧ Reps prog w W T' s'.heap ys'.toList (out0 ++ outs1))
    ?_ (items.length + 1) ⟨0, T, ys, [], outs, rfl, Nat.zero_le _, by simpa using hflat, rfl, S, TLe.refl _, .refl, hst, hpl, by simpa using hrep⟩
  rintro n s' ⟨i, T', ys', outs1, outs2, rfl, hi, hf2, rfl, S', ht', hk', hst', hpl', hrep'⟩
  by_cases hlt : i < items.length
  · have hd : items.drop i = items[i] :: items.drop (i + 1) := List.drop_eq_getElem_cons hlt
    rw [hd] at hf2
    obtain ⟨b, bs, hb, hbs, rfl⟩ := flatO_drop hf2
    refine wpAny_with_toks (n := s'.toks) (Nat.le_refl _) (It.walks.item i _ _ _ hlt hst' fun v h₁ tk₁ hP hst₁ hk₁ htk₁ => ?_)
    obtain ⟨o₁, n₁, vs₁, c1, c2, c3, c4⟩ := It.cls _ _ hst'
    obtain ⟨o₂, n₂, vs₂, e1, e2, e3, e4⟩ := It.cls _ _ hst₁
    have k1 : ∀ b o, b ≠ I → s'.heap.get? b = some o → h₁.get? b = some o := fun b o hb e => hk₁ b o (by simpa using hb) e
    have S₁ : Sit prog w P h0 mg mb W T' O env σ { s' with heap := h₁, toks := tk₁ } := S'.other hWI hIL (notCell_of c1 (by rw [c4]; exact fun v q => nomatch q)) hOI k1 ⟨o₂, e1⟩ (S'.tb.mono htk₁)
    have hpl₁ : h₁.PlainList D₀ ys' := hpl'.at fun o e => k1 _ o (Ne.symm hID) e
    have kb₁ : KpB W s'.heap h₁ := fun b o hb e => k1 b o (fun q => hb (q ▸ hWI)) e
    obtain ⟨d, hd1, hd2⟩ := It.item i v hP
    have hdi : d = items[i] := by simpa [hlt] using hd1.symm
    subst hdi
    have rv : Rep prog w W T' h₁ v items[i] := ((hd2.tm (hTi.trans ht')).kp hkp).kp fun b o hb e => kb₁ b o hb ((hk'.sub hMW).kp b o hb e)
    refine letOwned_ok ⟨o₂, n₂, vs₂, e1, e2, e3, e4⟩ ?_
    unfold turnD at hb
    simp only [Option.bind_eq_some_iff] at hb
    obtain ⟨σ₁, hσ, b1, hb1, hb⟩ := hb
    refine assign_ok hh S₁ hσ rv fun s₂ S₂ k₂ => ?_
    have ext := bindT_ext hnew hσ
    refine wpAny_mono (tests_ok RO hb1 S₂) (fun ok s₃ h₃ => ?_) fun _ _ q => q
    obtain ⟨rfl, T₃, t3, tb3, k3⟩ := h₃
    have S₃ := S₂.step t3 tb3 k3
    have kall : KeepsB (fun a => Mut0 env σ.names a ∨ a = D₀ ∨ a = I) s' s₃ := by
      have a1 : KeepsB (fun a => Mut0 env σ.names a ∨ a = D₀ ∨ a = I) s' { s' with heap := h₁, toks := tk₁ } := ⟨h₁, tk₁, rfl, fun b o hb e => k1 b o (fun q => hb (.inr (.inr q))) e⟩
      exact (a1.trans (k₂.sub fun a q => .inl q)).trans (.of k3)
    have kI : ∀ o, h₁.get? I = some o → s₃.heap.get? I = some o := fun o e => kKp k3 I o (k₂.kp I o hMI e)
    have kW : KpB W h₁ s₃.heap := fun b o hb e => kKp k3 b o ((k₂.sub fun a q => Mut0.sub S.en q).kp b o hb e)
    have st3 : Sti (i + 1) s₃.heap := It.walks.frame _ _ _ hst₁ fun b hb o e => by
      by_cases hbI : b = I
      · subst hbI; exact kI o e
      · exact kW b o (It.fps b hb hbI) e
    have hpl₃ : s₃.heap.PlainList D₀ ys' := hpl₁.at fun o e => kKp k3 D₀ o (k₂.kp D₀ o hMD e)
    have hrep₃ : Reps prog w W T₃ s₃.heap ys'.toList (out0 ++ outs1) := (hrep'.tm t3).kp fun b o hb e => kW b o hb (kb₁ b o hb e)
    have back : ∀ {s₄ : Shared} {T₄ : Tm}, Sit prog w P h0 mg mb W T₄ O env σ₁ s₄ → Sit prog w P h0 mg mb W T₄ O env σ s₄ := fun S₄ => ⟨S₄.gf, S₄.wb, S₄.en.weaken ext.1 ext.2.1 ext.2.2, S₄.tb, S₄.ow⟩
    cases ok with
    | false =>
      simp only [Bool.false_eq_true, if_false, Option.some.injEq] at hb ⊢
      subst hb
      exact ⟨items.length + 1 - (i + 1), by omega, i + 1, T₃, ys', outs1, bs, rfl, hlt, hbs, by simp, back S₃, ht'.trans t3, hk'.trans kall, st3, hpl₃, hrep₃⟩
    | true =>
      simp only [if_true] at hb ⊢
      refine tail σ₁ b (out0 ++ outs1) ys' s₃ T₃ _ ext.1 hb S₃ hpl₃ hrep₃ (by simp at hlen ⊢; omega) fun s₄ T₄ ys₄ S₄ t4 k4 hpl₄ hrep₄ => ?_
      refine ⟨items.length + 1 - (i + 1), by omega, i + 1, T₄, ys₄, outs1 ++ b, bs, rfl, hlt, hbs, by simp, back S₄, (ht'.trans t3).trans t4, (hk'.trans kall).trans (k4.sub fun a q => q.elim .inl fun q => .inr (.inl q)), ?_, hpl₄, by simpa using hrep₄⟩
      refine It.walks.frame _ _ _ st3 fun b hb o e => ?_
      by_cases hbI : b = I
      · subst hbI
        exact k4.kp b o (fun q => q.elim hMI hID) e
      · exact k4.kp b o (fun q => It.fps b hb hbI (q.elim (fun q => Mut0.sub S.en q) fun q => q ▸ hWD)) e
  · have hin : i = items.length := by omega
    subst hin
    simp [flatO] at hf2
    subst hf2
    refine wpAny_with_toks (n := s'.toks) (Nat.le_refl _) (It.walks.done _ _ _ hst' fun h₁ tk₁ hk₁ htk₁ => ?_)
    obtain ⟨o₁, n₁, vs₁, c1, c2, c3, c4⟩ := It.cls _ _ hst'
    have k1 : ∀ b o, b ≠ I → s'.heap.get? b = some o → h₁.get? b = some o := fun b o hb e => hk₁ b o (by simpa using hb) e
    have kb : KpB W s'.heap h₁ := fun b o hb e => k1 b o (fun q => hb (q ▸ hWI)) e
    have nc := notCell_of c1 (by rw [c4]; exact fun v q => nomatch q)
    have a0 : ∀ a, W0 a → W a ∨ h₁.get? a = none := fun a q => .inl (hW0 a q).1
    refine hR _ T' ys' ⟨S'.gf.kpB S'.wb kb, fun a q => ⟨(S'.wb a (hW0 a q).1).1, ?_⟩, ?_, S'.tb.mono htk₁, fun a q => (hW1 a (S'.ow a q)).elim id fun q' => absurd (q' ▸ q) hOI⟩ ht' (hk'.trans ⟨h₁, tk₁, rfl, fun b o hb e => k1 b o (fun q => hb (.inr (.inr q))) e⟩) (hpl'.at fun o e => k1 _ o (Ne.symm hID) e) (by simpa using (hrep'.kp kb).anti a0)
    · obtain ⟨_, o, e⟩ := S'.wb a (hW0 a q).1
      exact ⟨o, k1 a o (hW0 a q).2 e⟩
    · exact (S'.en.other hWI hIL nc hOI k1).shrink (S'.en.drop (fun a q => (hW0 a q).1) hW1 hIL nc) rfl fun a q => (hW0 a q).1

end Mine
end
section
namespace Mine
open PySem PyProof.Rows PySem.SeqAt

variable {prog : Program} {w : World} {A : Around} {E : Value → Shared → Prop} {W W' : Addr → Prop} {T T' : Tm} {s s' : Shared} {P : PI} {n0 : Nat} {h0 : Heap} {mg mb : Str → Option Value} {O : Addr → Prop} {env : Env} {σ σ' : St}

theorem plain_notCell {h : Heap} {a : Addr} {ys : Array Value} (x : h.PlainList a ys) : ∀ v, ¬ h.IsCell a v := by
  obtain ⟨n, e⟩ := x
  exact notCell_of e fun v q => nomatch q

theorem tail_nil {R : Rc} (RO : RcOk prog w P h0 mg mb A R) {elt : Expr} {gens : List Comprehension} {scope : Scope} {pos : Pos} {D₀ : Addr} {depth : Nat} {ns : List (Str × NameKind)} (hd : gens[depth + 1]? = none)
    (hMD : ¬ Mut0 env ns D₀) (hWD : W D₀) (hOD : ¬ O D₀) : TailOk prog w P h0 mg mb A O env R elt gens scope pos depth [] D₀ ns W := by
  intro σ₁ b o ys s₃ T₃ Fin hn hb S hpl hrep hlen hF
  unfold TailGoal
  rw [hd]
  simp only [tailD, Option.map_eq_some_iff] at hb
  obtain ⟨d, hd', rfl⟩ := hb
  refine wpAny_mono (RO.ev hd' S) (fun v s₄ h₄ => ?_) fun _ _ q => q
  obtain ⟨T₄, t4, tb4, k4, r4⟩ := h₄
  have S₄ := S.step t4 tb4 k4
  have hpl₄ := hpl.at fun o e => kKp k4 _ o e
  have l1 := hrep.length
  simp only [Array.length_toList] at l1
  refine wpAny_list_append_plain hpl₄ (fun h' hpl' hsb => ?_) (by
    have : ys.size ≤ 2 ^ 21 := by simp at hlen; omega
    unfold sizeLine; omega)
  have k1 : ∀ b o, b ≠ D₀ → s₄.heap.get? b = some o → h'.get? b = some o := fun b o hb e => hsb.extBut b o hb e
  have kb : KpB W s₄.heap h' := fun b o hb e => k1 b o (fun q => hb (q ▸ hWD)) e
  have hL : D₀ ≠ env.locals := fun q => hMD (.inl q)
  obtain ⟨n', e'⟩ := hpl'
  refine hF _ T₄ _ (S₄.other hWD hL (plain_notCell hpl₄) hOD k1 ⟨_, e'⟩ tb4) t4 ?_ ⟨n', e'⟩ ?_
  · obtain ⟨h4, tk4, rfl, k4'⟩ := k4
    exact ⟨h', tk4, rfl, fun b o hb e => k1 b o (fun q => hb (.inr q)) (k4' b o e)⟩
  · have := ((hrep.keeps k4).tm t4).snoc r4
    simpa using this.kp kb

def LoopOk (prog : Program) (w : World) (P : PI) (h0 : Heap) (mg mb : Str → Option Value) (A : Around) (O : Addr → Prop) (env : Env) (R : Rc) (elt : Expr) (gens : List Comprehension) (scope : Scope) (pos : Pos) (D₀ : Addr) (depth : Nat) (g : Comprehension) (gs : List Comprehension) : Prop :=
  ∀ {W W0 : Addr → Prop} {σ : St} {items outs out0 : List D} {s : Shared} {T Ti : Tm} {hs : Heap} {I : Addr} {fp : List Addr} {PP : Nat → Value → Prop} {Sti : Nat → Heap → Prop} {ys : Array Value} {Rk : Result → Shared → Prop},
    newT σ g.target = true → flatO (turnD R elt g gs σ) items = some outs → Sit prog w P h0 mg mb W T O env σ s → IsIter prog w A W Ti hs I items fp PP Sti → TLe Ti T → KpB W hs s.heap → Sti 0 s.heap →
    W I → W D₀ → ¬ Mut0 env σ.names I → ¬ Mut0 env σ.names D₀ → I ≠ D₀ → ¬ O I → ¬ O D₀ → s.heap.PlainList D₀ ys → Reps prog w W T s.heap ys.toList out0 → out0.length + outs.length ≤ 2 ^ 21 →
    (∀ a, W0 a → W a ∧ a ≠ I) → (∀ a, W a → W0 a ∨ a = I) →
    (∀ s' T' ys', Sit prog w P h0 mg mb W0 T' O env σ s' → TLe T T' → KeepsB (fun a => Mut0 env σ.names a ∨ a = D₀ ∨ a = I) s s' → s'.heap.PlainList D₀ ys' → Reps prog w W0 T' s'.heap ys'.toList (out0 ++ outs) → Rk (.ok .next) s') →
    codeAny (model prog w) A (.compLoop (.ListComp elt gens scope pos) depth (.ref I) (.ref D₀) env) Rk s

theorem size_le (S : Sit prog w P h0 mg mb W T O env σ s) : h0.objs.size ≤ s.heap.objs.size := by
  obtain ⟨h1, o, e⟩ := S.wb _ S.en.loc
  exact Nat.le_of_lt (Nat.lt_of_le_of_lt h1 (Heap.lt_size e))

/-- a new object whose place joins W -/
theorem Sit.pushW (S : Sit prog w P h0 mg mb W T O env σ s) {o : Obj} (ho : o.isFreed = false) : Sit prog w P h0 mg mb (fun a => W a ∨ a = s.heap.objs.size) T O env σ { s with heap := s.heap.push o } := by
  have k : Kp s.heap (s.heap.push o) := fun _ _ e => Heap.get?_push_of_some _ e
  refine ⟨S.gf.kp k, fun a q => ?_, (S.en.grow (fun a q => q.elim .inl fun q => .inr (q ▸ get_size _)) fun a q => .inl q).kp (TLe.refl _) k, S.tb, fun a q => .inl (S.ow a q)⟩
  rcases q with q | rfl
  · obtain ⟨h1, o, e⟩ := S.wb a q
    exact ⟨h1, o, k _ _ e⟩
  · exact ⟨size_le S, o, Heap.get?_push_size _ ho⟩

theorem tail_cons {R : Rc} (RO : RcOk prog w P h0 mg mb A R) (hh : A.handled = none) {elt : Expr} {gens : List Comprehension} {scope : Scope} {pos : Pos} {D₀ : Addr} {depth : Nat} {ns : List (Str × NameKind)} (hgens : gensOk gens = true) {g' : Comprehension} {gs' : List Comprehension}
    (hd : gens[depth + 1]? = some g') (ih : LoopOk prog w P h0 mg mb A O env R elt gens scope pos D₀ (depth + 1) g' gs')
    (hMD : ¬ Mut0 env ns D₀) (hWD : W D₀) (hOD : ¬ O D₀) : TailOk prog w P h0 mg mb A O env R elt gens scope pos depth (g' :: gs') D₀ ns W := by
  intro σ₁ b o ys s₃ T₃ Fin hn hb S hpl hrep hlen hF
  unfold TailGoal
  rw [hd]
  simp only [tailD, Option.bind_eq_some_iff] at hb
  obtain ⟨src, hsrc, its, hits, hb⟩ := hb
  rw [compD_cons] at hb
  split at hb
  · rename_i hnew
    refine wpAny_mono (RO.ev hsrc S) (fun v s₄ h₄ => ?_) fun _ _ q => q
    obtain ⟨T₄, t4, tb4, k4, r4⟩ := h₄
    have S₄ := S.step t4 tb4 k4
    refine iter_ok (W' := fun a => W a ∨ a = s₄.heap.objs.size) hh hits r4 (fun a q => q.elim .inl fun q => .inr (q ▸ get_size _)) fun ob fp PP St It st0 hfr => ?_
    have hg := gensOk_at hgens _ _ hd
    refine codeAny_compStart_gen hd hg.1 ?_ fun Q hQ => It.walks.self 0 _ Q _ st0 hQ
    have nW : ∀ a, W a → a ≠ s₄.heap.objs.size := fun a q e => by
      obtain ⟨_, o, e'⟩ := S₄.wb a q
      exact absurd (e ▸ Heap.lt_size e') (Nat.lt_irrefl _)
    have kp : Kp s₄.heap (s₄.heap.push ob) := fun _ _ e => Heap.get?_push_of_some _ e
    have r3 := (hrep.keeps k4).tm t4
    have hDI : s₄.heap.objs.size ≠ D₀ := fun q => nW _ hWD q.symm
    have hMI : ¬ Mut0 env σ₁.names s₄.heap.objs.size := fun q => nW _ (Mut0.sub S₄.en q) rfl
    refine ih (W := fun a => W a ∨ a = s₄.heap.objs.size) (W0 := W) (out0 := o) hnew hb (S₄.pushW hfr) It (TLe.refl _) (fun b o _ e => kp b o e) st0 (.inr rfl) (.inl hWD) hMI (hn ▸ hMD) hDI (fun q => nW _ (S₄.ow _ q) rfl) hOD
      (hpl.at fun o e => kp _ o (kKp k4 _ o e)) ((r3.anti fun a q => q.elim .inl fun q => .inr (q ▸ get_size _)).kp fun b o _ e => kp b o e) hlen (fun a q => ⟨.inl q, nW a q⟩) (fun a q => q) ?_
    intro s' T' ys' S' t' k' hpl' hrep'
    refine hF s' T' ys' S' (t4.trans t') ?_ hpl' hrep'
    obtain ⟨h4, tk4, rfl, k4'⟩ := k4
    obtain ⟨h5, tk5, rfl, k5'⟩ := k'
    refine ⟨h5, tk5, rfl, fun b o hb e => ?_⟩
    have e4 := k4' b o e
    refine k5' b o (fun q => ?_) (kp b o e4)
    rcases q with q | q | q
    · exact hb (.inl (hn ▸ q))
    · exact hb (.inr q)
    · exact absurd (q ▸ Heap.lt_size e4) (Nat.lt_irrefl _)
  · cases hb

theorem loop_all {R : Rc} (RO : RcOk prog w P h0 mg mb A R) (hh : A.handled = none) {elt : Expr} {gens : List Comprehension} {scope : Scope} {pos : Pos} {D₀ : Addr} (hgens : gensOk gens = true) :
    ∀ (gs : List Comprehension) (g : Comprehension) (depth : Nat), gens.drop depth = g :: gs → LoopOk prog w P h0 mg mb A O env R elt gens scope pos D₀ depth g gs := by
  intro gs
  induction gs with
  | nil =>
    intro g depth hd
    have h1 : gens[depth]? = some g := by
      have := congrArg (·[0]?) hd
      simpa using this
    have h2 : gens[depth + 1]? = none := by
      have := congrArg (·[1]?) hd
      simpa using this
    intro W W0 σ items outs out0 s T Ti hs I fp PP Sti ys Rk a1 a2 a3 a4 a5 a6 a7 a8 a9 a10 a11 a12 a13 a14 a15 a16 a17 a18 a19 a20
    exact comp_turns RO hh hgens h1 (tail_nil RO h2 a11 a9 a14) a1 a2 a3 a4 a5 a6 a7 a8 a9 a10 a11 a12 a13 a14 a15 a16 a17 a18 a19 a20
  | cons g' gs' ih =>
    intro g depth hd
    have h1 : gens[depth]? = some g := by
      have := congrArg (·[0]?) hd
      simpa using this
    have h2 : gens[depth + 1]? = some g' := by
      have := congrArg (·[1]?) hd
      simpa using this
    have h3 : gens.drop (depth + 1) = g' :: gs' := by
      rw [← List.drop_drop (i := 1), hd]
      rfl
    intro W W0 σ items outs out0 s T Ti hs I fp PP Sti ys Rk a1 a2 a3 a4 a5 a6 a7 a8 a9 a10 a11 a12 a13 a14 a15 a16 a17 a18 a19 a20
    exact comp_turns RO hh hgens h1 (tail_cons RO hh hgens h2 (ih g' (depth + 1) h3) a11 a9 a14) a1 a2 a3 a4 a5 a6 a7 a8 a9 a10 a11 a12 a13 a14 a15 a16 a17 a18 a19 a20
end Mine
end
section
namespace Mine
open PySem PyProof.Rows PySem.SeqAt

variable {prog : Program} {w : World} {A : Around} {E : Value → Shared → Prop} {W W' : Addr → Prop} {T T' : Tm} {s s' : Shared} {P : PI} {n0 : Nat} {h0 : Heap} {mg mb : Str → Option Value} {O : Addr → Prop} {env : Env} {σ σ' : St}

theorem cellsFrom_append : ∀ (names : List (Str × NameKind)) (n : Nat) (acc : List (Str × Addr)), cellsFrom n names acc = cellsFrom n names [] ++ acc
  | [], n, acc => rfl
  | (x, k) :: r, n, acc => by
    unfold cellsFrom
    split
    · rw [cellsFrom_append r (n + 1) ((x, n) :: acc), cellsFrom_append r (n + 1) [(x, n)]]
      simp
    · exact cellsFrom_append r n acc

theorem cellsFrom_mem : ∀ {names : List (Str × NameKind)} {n : Nat} {x : Str} {a : Addr}, (x, a) ∈ cellsFrom n names [] → (x, NameKind.cell) ∈ names
  | (y, k) :: r, n, x, a, h => by
    unfold cellsFrom at h
    split at h
    · rename_i hk
      rw [cellsFrom_append] at h
      have hk' : k = .cell := by simpa using hk
      rcases List.mem_append.mp h with h | h
      · exact List.mem_cons_of_mem _ (cellsFrom_mem h)
      · simp at h
        rw [h.1, hk']; exact List.mem_cons_self
    · exact List.mem_cons_of_mem _ (cellsFrom_mem h)
theorem cellsFrom_has : ∀ {names : List (Str × NameKind)} {n : Nat} {x : Str}, (x, NameKind.cell) ∈ names → ∃ a, (x, a) ∈ cellsFrom n names []
  | (y, k) :: r, n, x, h => by
    unfold cellsFrom
    rcases List.mem_cons.mp h with h | h
    · cases h
      rw [if_pos (by decide), cellsFrom_append]
      exact ⟨n, by simp⟩
    · split
      · rw [cellsFrom_append]
        obtain ⟨a, ha⟩ := cellsFrom_has (n := n + 1) h
        exact ⟨a, List.mem_append.mpr (.inl ha)⟩
      · exact cellsFrom_has h

theorem lookup_of_mem {α : Type} : ∀ {l : List (Str × α)} {x : Str} {a : α}, (x, a) ∈ l → ∃ b, l.lookup x = some b
  | (y, b) :: r, x, a, h => by
    by_cases hx : x = y
    · subst hx; exact ⟨b, by simp⟩
    · have hx' : (x == y) = false := by simpa using hx
      simp only [List.lookup, hx']
      rcases List.mem_cons.mp h with h | h
      · cases h; exact absurd rfl hx
      · exact lookup_of_mem h
theorem lookup_nodup {α : Type} : ∀ {l : List (Str × α)} {x : Str} {a : α}, (l.map (·.1)).Nodup → (x, a) ∈ l → l.lookup x = some a
  | (y, b) :: r, x, a, hn, h => by
    simp only [List.map_cons, List.nodup_cons] at hn
    rcases List.mem_cons.mp h with h | h
    · cases h; simp
    · have hx : (x == y) = false := by
        have : x ≠ y := fun q => hn.1 (by rw [← q]; exact List.mem_map.mpr ⟨_, h, rfl⟩)
        simpa using this
      simp only [List.lookup, hx]
      exact lookup_nodup hn.2 h

theorem pushCells_some : ∀ (names : List (Str × NameKind)) (h : Heap) (a : Addr), h.objs.size ≤ a → a < (pushCells h names).objs.size → ∃ o, (pushCells h names).get? a = some o
  | [], h, a, h1, h2 => absurd h2 (Nat.not_lt.mpr h1)
  | (x, k) :: r, h, a, h1, h2 => by
    unfold pushCells at h2 ⊢
    split at h2
    · rename_i hk
      rw [if_pos hk]
      by_cases ha : a = h.objs.size
      · subst ha
        exact ⟨_, pushCells_keeps _ _ _ _ (Heap.get?_push_size _ rfl)⟩
      · exact pushCells_some r _ a (by rw [Heap.size_push]; exact Nat.lt_of_le_of_ne h1 (Ne.symm ha)) h2
    · rename_i hk
      rw [if_neg hk]
      exact pushCells_some r h a h1 h2

/-- the cells that a block takes over -/
def cloFrom (env : Env) : List (Str × NameKind) → List (Str × Addr) → List (Str × Addr)
  | [], acc => acc
  | (x, k) :: r, acc => if k == .free then cloFrom env r ((x, (env.cells.lookup x).getD 0) :: acc) else cloFrom env r acc

theorem cloFrom_mem : ∀ {names : List (Str × NameKind)} {acc : List (Str × Addr)} {x : Str} {a : Addr}, (x, a) ∈ cloFrom env names acc → (x, a) ∈ acc ∨ ((x, NameKind.free) ∈ names ∧ a = (env.cells.lookup x).getD 0)
  | [], acc, x, a, h => .inl h
  | (y, k) :: r, acc, x, a, h => by
    unfold cloFrom at h
    split at h
    · rename_i hk
      have hk' : k = .free := by simpa using hk
      rcases cloFrom_mem h with h | h
      · rcases List.mem_cons.mp h with h | h
        · cases h; exact .inr ⟨by rw [hk']; exact List.mem_cons_self, rfl⟩
        · exact .inl h
      · exact .inr ⟨List.mem_cons_of_mem _ h.1, h.2⟩
    · rcases cloFrom_mem h with h | h
      · exact .inl h
      · exact .inr ⟨List.mem_cons_of_mem _ h.1, h.2⟩
theorem cloFrom_old : ∀ {names : List (Str × NameKind)} {acc : List (Str × Addr)} {p : Str × Addr}, p ∈ acc → p ∈ cloFrom env names acc
  | [], acc, p, h => h
  | (y, k) :: r, acc, p, h => by
    unfold cloFrom
    split
    · exact cloFrom_old (List.mem_cons_of_mem _ h)
    · exact cloFrom_old h
theorem cloFrom_has : ∀ {names : List (Str × NameKind)} {acc : List (Str × Addr)} {x : Str}, (x, NameKind.free) ∈ names → (x, (env.cells.lookup x).getD 0) ∈ cloFrom env names acc
  | (y, k) :: r, acc, x, h => by
    unfold cloFrom
    rcases List.mem_cons.mp h with h | h
    · cases h
      rw [if_pos (by decide)]
      exact cloFrom_old List.mem_cons_self
    · split
      · exact cloFrom_has h
      · exact cloFrom_has h

theorem closureFor_eq {scope : Scope} (h : ∀ x, (x, NameKind.free) ∈ scope.names → ∃ a, env.cells.lookup x = some a) : closureFor scope env = pure (cloFrom env scope.names []) := by
  have key : ∀ (names : List (Str × NameKind)) (acc : List (Str × Addr)), (∀ x, (x, NameKind.free) ∈ names → ∃ a, env.cells.lookup x = some a) →
      (forIn names acc (fun x r => match x with | (name, kind) => if (kind == .free) = true then do let a ← cellOf env name; pure (ForInStep.yield ((name, a) :: r)) else pure (ForInStep.yield r)) : Sem (List (Str × Addr))) = pure (cloFrom env names acc) := by
    intro names
    induction names with
    | nil => intro acc _; rfl
    | cons p r ih =>
      intro acc h
      obtain ⟨x, k⟩ := p
      rw [List.forIn_cons]
      have ih' := fun acc => ih acc fun y hy => h y (List.mem_cons_of_mem _ hy)
      cases hk : k == NameKind.free with
      | true =>
        have hk' : k = .free := by simpa using hk
        subst hk'
        obtain ⟨a, ha⟩ := h x List.mem_cons_self
        have : cellOf env x = pure a := by unfold cellOf; rw [ha]
        simp only [if_true, this, cloFrom, hk, ha, Option.getD_some]
        exact ih' ((x, a) :: acc)
      | false =>
        simp only [cloFrom, hk]
        exact ih' acc
  have := key scope.names [] h
  show ((forIn scope.names [] (fun x r => match x with | (name, kind) => if (kind == .free) = true then do let a ← cellOf env name; pure (ForInStep.yield ((name, a) :: r)) else pure (ForInStep.yield r)) : Sem (List (Str × Addr))) >>= fun cs => pure cs) = _
  rw [this]
  rfl

theorem relabel_lookup (env : Env) : ∀ (names : List (Str × NameKind)) (x : Str) (k : NameKind), names.lookup x = some k →
    (names.map fun (n, k) => if (k == NameKind.free && env.scope.kind == .function && env.kindOf n == some .cell) then (n, NameKind.cell) else (n, k)).lookup x = some (if (k == NameKind.free && env.scope.kind == .function && env.kindOf x == some .cell) then .cell else k)
  | [], x, k, h => by simp at h
  | (y, j) :: r, x, k, h => by
    have ih := relabel_lookup env r x k
    show List.lookup x ((if (j == NameKind.free && env.scope.kind == .function && env.kindOf y == some .cell) = true then (y, NameKind.cell) else (y, j)) :: _) = _
    cases hx : x == y with
    | true =>
      have : x = y := by simpa using hx
      subst this
      simp only [List.lookup_cons, hx] at h
      cases h
      split <;> simp [List.lookup_cons]
    | false =>
      simp only [List.lookup_cons, hx] at h
      split <;> (simp only [List.lookup_cons, hx]; exact ih h)

theorem filter_lookup {p : Str × D → Bool} {q : Str → Bool} (hp : ∀ v, p v = q v.1) : ∀ {l : List (Str × D)} {x : Str}, (l.filter p).lookup x = if q x then l.lookup x else none
  | [], x => by simp
  | (y, d) :: r, x => by
    have ih := filter_lookup hp (l := r) (x := x)
    rw [List.filter_cons]
    cases hx : x == y with
    | true =>
      have : x = y := by simpa using hx
      subst this
      cases hq : q x with
      | true => rw [hp, if_pos hq]; simp
      | false => rw [hp, if_neg (by rw [hq]; decide), ih, hq]; simp
    | false =>
      split
      · simp only [List.lookup_cons, hx]; exact ih
      · simp only [List.lookup_cons, hx]; exact ih

theorem closure_ok {sc : Scope} (S : Sit prog w P h0 mg mb W T O env σ s) (hsc : scopeOk σ sc = true) : closureFor sc env = pure (cloFrom env sc.names []) := by
  unfold scopeOk at hsc
  simp only [Bool.and_eq_true, List.all_eq_true, decide_eq_true_eq, beq_iff_eq, Bool.or_eq_true, bne_iff_ne, ne_eq] at hsc
  obtain ⟨⟨⟨⟨hkind, hfree⟩, hks⟩, hnd⟩, hcdn⟩ := hsc
  refine closureFor_eq fun x hx => ?_
  obtain ⟨a, v, h1, _⟩ := S.en.cell x ((hfree _ hx).elim (fun q => absurd rfl q) id)
  exact ⟨a, h1⟩

theorem enter_ok {sc : Scope} {Q : Env → Shared → Prop} (S : Sit prog w P h0 mg mb W T O env σ s) (hsc : scopeOk σ sc = true)
    (hQ : ∀ (cenv : Env) (h' : Heap), cenv.locals = s.heap.objs.size → Kp s.heap h' → (∀ a, Mut0 { cenv with scope := relabel sc env } sc.names a → s.heap.objs.size ≤ a) →
      Sit prog w P h0 mg mb (fun a => W a ∨ (s.heap.objs.size ≤ a ∧ a < h'.objs.size)) T O { cenv with scope := relabel sc env } (enterC σ sc) { s with heap := h' } → Q cenv { s with heap := h' }) :
    wpAny (model prog w) A (newFunctionEnv sc env.globals (cloFrom env sc.names []) [] env.qual none .none (some env)) Q E s := by
  unfold scopeOk at hsc
  simp only [Bool.and_eq_true, List.all_eq_true, decide_eq_true_eq, beq_iff_eq, Bool.or_eq_true, bne_iff_ne, ne_eq] at hsc
  obtain ⟨⟨⟨⟨hkind, hfree⟩, hks⟩, hnd⟩, hcdn⟩ := hsc
  have hfr : ∀ x, (x, NameKind.free) ∈ sc.names → isCellKind (σ.names.lookup x) = true := fun x hx => (hfree _ hx).elim (fun q => absurd rfl q) id
  have fl : ∀ x, sc.names.lookup x = some .free → ∃ a, env.cells.lookup x = some a ∧ (cloFrom env sc.names []).lookup x = some a := fun x hx => by
    have hm := mem_of_lookup hx
    obtain ⟨a, v, h1, _⟩ := S.en.cell x (hfr x hm)
    obtain ⟨b, hb⟩ := lookup_of_mem (cloFrom_has (env := env) (acc := []) hm)
    rcases cloFrom_mem (mem_of_lookup hb) with q | ⟨_, q⟩
    · cases q
    · rw [h1] at q; simp at q; subst q; exact ⟨b, h1, hb⟩
  have cm : ∀ x a, (cloFrom env sc.names []).lookup x = some a → sc.names.lookup x = some .free ∧ env.cells.lookup x = some a ∧ W a := fun x a hx => by
    rcases cloFrom_mem (mem_of_lookup hx) with q | ⟨q, qa⟩
    · cases q
    · obtain ⟨b, v, h1, h2, _⟩ := S.en.cell x (hfr x q)
      rw [h1] at qa; simp at qa; subst qa
      exact ⟨lookup_nodup hnd q, h1, h2⟩
  simp only [newFunctionEnv, Option.isSome_some, if_true]
  refine wpAny_bind (wpAny_alloc ?_)
  refine wpAny_bind (wpAny_layCells _ (fun name kind cells => by cases hkc : kind == NameKind.cell <;> simp [hkc]) _ _ _ _ ?_)
  have ok := cellsFrom_ok sc.names (s.heap.push { cls := .type "dict", data := .dict #[] }) (s.heap.objs.size + 1) [] ⟨fun _ _ hm => (nomatch hm), List.Pairwise.nil⟩ (by rw [Heap.size_push]; exact Nat.le_refl _)
  rw [Heap.size_push] at ok
  rw [show ({ s with heap := s.heap.push { cls := .type "dict", data := .dict #[] } } : Shared).heap.objs.size = s.heap.objs.size + 1 from Heap.size_push .., cellsFrom_append]
  refine wpAny_bind (wpAny_pure ?_)
  refine wpAny_pure (hQ _ _ rfl (fun b o e => pushCells_keeps _ _ b o (Heap.get?_push_of_some _ e)) ?_ ?_)
  · rintro a (rfl | ⟨x, hx, ha⟩)
    · exact Nat.le_refl _
    · have ha' : (cellsFrom (s.heap.objs.size + 1) sc.names [] ++ cloFrom env sc.names []).lookup x = some a := ha
      rw [List.lookup_append] at ha'
      cases e1 : (cellsFrom (s.heap.objs.size + 1) sc.names []).lookup x with
      | some b =>
        rw [e1] at ha'; simp at ha'; subst ha'
        have := (ok.empty x b (mem_of_lookup e1)).2
        omega
      | none =>
        obtain ⟨b, hb⟩ := cellsFrom_has (n := s.heap.objs.size + 1) (mem_of_lookup hx)
        obtain ⟨c, hc⟩ := lookup_of_mem hb
        rw [e1] at hc; cases hc
  · generalize hH : pushCells (s.heap.push { cls := .type "dict", data := .dict #[] }) sc.names = H at ok ⊢
    have kp : Kp s.heap H := fun b o e => hH ▸ pushCells_keeps _ _ b o (Heap.get?_push_of_some _ e)
    have hns : H.Ns s.heap.objs.size fun _ => none := hH ▸ (Heap.Ns.new s.heap (.type "dict")).keeps (pushCells_keeps _ _)
    have hlt : s.heap.objs.size < H.objs.size := hns.lt
    have a0 : ∀ a, (W a ∨ (s.heap.objs.size ≤ a ∧ a < H.objs.size)) → W a ∨ s.heap.get? a = none := fun a q => q.elim .inl fun q => .inr (by
      cases e : s.heap.get? a with
      | none => rfl
      | some o => exact absurd (Heap.lt_size e) (Nat.not_lt.mpr q.1))
    have up : ∀ x v d, sc.names.lookup x = some .free → VRep prog w W T s.heap O env.locals σ.own x v d →
        VRep prog w (fun a => W a ∨ (s.heap.objs.size ≤ a ∧ a < H.objs.size)) T H O s.heap.objs.size (enterC σ sc).own x v d := fun x v d hx r => by
      have e1 : (enterC σ sc).own = some x ↔ σ.own = some x := by
        unfold enterC
        cases ho : σ.own with
        | none => simp
        | some y =>
          simp only [Option.bind_some, Option.some.injEq]
          constructor
          · intro q
            split at q
            · cases q; rfl
            · cases q
          · rintro rfl
            rw [hx]; simp
      have r := r.own_congr e1
      have r := r.anti a0
      unfold VRep at r ⊢
      split at r
      · rename_i ho
        obtain ⟨a, rfl, g1, g2, o⟩ := r
        rw [if_pos ho]
        refine ⟨a, rfl, g1, fun q => ?_, o.kp (fun b o _ e => kp b o e) fun o e => kp a o e⟩
        obtain ⟨o', e', _⟩ := o.some
        exact absurd (q ▸ Heap.lt_size e') (Nat.lt_irrefl _)
      · rename_i ho
        rw [if_neg ho]
        exact r.kp fun b o _ e => kp b o e
    have hv : ∀ x, (enterC σ sc).vars.lookup x = if sc.names.lookup x == some .free then σ.vars.lookup x else none := fun x => filter_lookup (q := fun x => sc.names.lookup x == some .free) (fun v => rfl)
    refine ⟨S.gf.kp kp, fun a q => ?_, ?_, S.tb, fun a q => .inl (S.ow a q)⟩
    · rcases q with q | q
      · obtain ⟨h1, o, e⟩ := S.wb a q
        exact ⟨h1, o, kp a o e⟩
      · refine ⟨Nat.le_trans (size_le S) q.1, ?_⟩
        have := pushCells_some sc.names (s.heap.push { cls := .type "dict", data := .dict #[] }) a
        rw [hH] at this
        by_cases ha : a = s.heap.objs.size
        · obtain ⟨o, _, _, e, _⟩ := hns
          exact ⟨o, ha ▸ e⟩
        · exact this (by rw [Heap.size_push]; exact Nat.lt_of_le_of_ne q.1 (Ne.symm ha)) q.2
    · refine ⟨by simp [relabel, hkind], S.en.gl, S.en.bl, fun x k hx => ?_, fun x k hx => ?_, .inr ⟨Nat.le_refl _, hlt⟩, ⟨_, hns, fun x d h1 h2 => ?_⟩, fun x hx => ?_, fun x y a h1 h2 => ?_⟩
      · have := relabel_lookup env sc.names x k hx
        have e : Env.kindOf { scope := relabel sc env, locals := s.heap.objs.size, globals := env.globals, cells := cellsFrom (s.heap.objs.size + 1) sc.names [] ++ cloFrom env sc.names [], qual := env.qual, func := none, code := env.code, frame := env.frame, builtins := env.builtins } x = _ := this
        split at e
        · rename_i hc
          simp only [Bool.and_eq_true, beq_iff_eq] at hc
          exact .inr ⟨hc.1.1, e⟩
        · exact .inl e
      · have := hcdn _ (mem_of_lookup hx)
        simpa using this
      · have h1' : sc.names.lookup x = some .local := h1
        rw [hv, h1'] at h2
        simp at h2
      · have hx' : isCellKind (sc.names.lookup x) = true := hx
        show ∃ a v, (cellsFrom (s.heap.objs.size + 1) sc.names [] ++ cloFrom env sc.names []).lookup x = some a ∧ _
        unfold isCellKind at hx'
        simp only [Bool.or_eq_true, beq_iff_eq] at hx'
        rcases hx' with hx' | hx'
        · obtain ⟨b, hb⟩ := cellsFrom_has (n := s.heap.objs.size + 1) (mem_of_lookup hx')
          obtain ⟨c, hc⟩ := lookup_of_mem hb
          obtain ⟨o1, o2⟩ := ok.empty x c (mem_of_lookup hc)
          refine ⟨c, none, by rw [List.lookup_append, hc]; rfl, .inr ⟨by omega, o1.lt⟩, o1, fun d h2 => ?_⟩
          rw [hv, hx'] at h2
          simp at h2
        · obtain ⟨a, h1, h2⟩ := fl x hx'
          obtain ⟨a', v, g1, g2, g3, g4⟩ := S.en.cell x (hfr x (mem_of_lookup hx'))
          rw [h1] at g1; cases g1
          have hnone : (cellsFrom (s.heap.objs.size + 1) sc.names []).lookup x = none := by
            cases e1 : (cellsFrom (s.heap.objs.size + 1) sc.names []).lookup x with
            | none => rfl
            | some b =>
              have := lookup_nodup hnd (cellsFrom_mem (mem_of_lookup e1))
              rw [hx'] at this; cases this
          refine ⟨a, v, by rw [List.lookup_append, hnone]; exact h2, .inl g2, g3.keeps kp, fun d hd => ?_⟩
          rw [hv, hx'] at hd
          obtain ⟨u, g5, r⟩ := g4 d (by simpa using hd)
          exact ⟨u, g5, up x u d hx' r⟩
      · have h1' : (cellsFrom (s.heap.objs.size + 1) sc.names [] ++ cloFrom env sc.names []).lookup x = some a := h1
        have h2' : (cellsFrom (s.heap.objs.size + 1) sc.names [] ++ cloFrom env sc.names []).lookup y = some a := h2
        rw [List.lookup_append] at h1' h2'
        have old : ∀ z, (cloFrom env sc.names []).lookup z = some a → a < s.heap.objs.size := fun z hz => by
          obtain ⟨_, o, e⟩ := S.wb a (cm z a hz).2.2
          exact Heap.lt_size e
        cases e1 : (cellsFrom (s.heap.objs.size + 1) sc.names []).lookup x with
        | some b =>
          rw [e1] at h1'; simp at h1'; subst h1'
          have g1 := (ok.empty x b (mem_of_lookup e1)).2
          cases e2 : (cellsFrom (s.heap.objs.size + 1) sc.names []).lookup y with
          | some c =>
            rw [e2] at h2'; simp at h2'; subst h2'
            exact name_of_addr ok.apart (mem_of_lookup e1) (mem_of_lookup e2)
          | none =>
            rw [e2] at h2'; simp at h2'
            exact absurd (Nat.lt_of_lt_of_le (old y h2') (Nat.le_of_succ_le g1)) (Nat.lt_irrefl _)
        | none =>
          rw [e1] at h1'; simp at h1'
          have l1 := old x h1'
          cases e2 : (cellsFrom (s.heap.objs.size + 1) sc.names []).lookup y with
          | some c =>
            rw [e2] at h2'; simp at h2'; subst h2'
            have g1 := (ok.empty y c (mem_of_lookup e2)).2
            exact absurd (Nat.lt_of_lt_of_le l1 (Nat.le_of_succ_le g1)) (Nat.lt_irrefl _)
          | none =>
            rw [e2] at h2'; simp at h2'
            exact S.en.apart x y a (cm x a h1').2.1 (cm y a h2').2.1
end Mine
end
section
namespace Mine
open PySem PyProof.Rows PySem.SeqAt

variable {prog : Program} {w : World} {A : Around} {E : Value → Shared → Prop} {W W' : Addr → Prop} {T T' : Tm} {s s' : Shared} {P : PI} {n0 : Nat} {h0 : Heap} {mg mb : Str → Option Value} {O : Addr → Prop} {env : Env} {σ σ' : St}

theorem lookup_local_of {sc : Scope} (hsc : scopeOk σ sc = true) : ∀ x ∈ sc.names, x.2 = .local → sc.names.lookup x.1 = some .local := by
  unfold scopeOk at hsc
  simp only [Bool.and_eq_true, decide_eq_true_eq] at hsc
  rintro ⟨x, k⟩ hx rfl
  exact lookup_nodup hsc.1.2 hx

theorem IsIter.anti {h : Heap} {I : Addr} {ds : List D} {fp : List Addr} {PP : Nat → Value → Prop} {St : Nat → Heap → Prop} (x : IsIter prog w A W' T h I ds fp PP St) (hw : ∀ a, W a → W' a) : IsIter prog w A W T h I ds fp PP St :=
  ⟨x.walks, fun b hb hb' q => x.fps b hb hb' (hw b q), x.ex, fun i v hv => let ⟨d, h1, h2⟩ := x.item i v hv; ⟨d, h1, h2.anti fun a q => .inl (hw a q)⟩, x.cls⟩

theorem none_of_ge {h : Heap} {a : Addr} (q : h.objs.size ≤ a) : h.get? a = none := by
  cases e : h.get? a with
  | none => rfl
  | some o => exact absurd (Heap.lt_size e) (Nat.not_lt.mpr q)

/-- a list comprehension, whatever its list is for -/
theorem comp_gen {R : Rc} (RO : RcOk prog w P h0 mg mb A R) (hh : A.handled = none) {elt : Expr} {g : Comprehension} {gs : List Comprehension} {sc : Scope} {pos : Pos} {src : D} {its ds : List D} {use : Option (Value → Sem Unit)} {Q : Value → Shared → Prop}
    (hsc : scopeOk σ sc = true) (hgens : gensOk (g :: gs) = true) (h1 : R.ev σ g.iter = some src) (h2 : itemsD src = some its) (h3 : compD R elt (g :: gs) (enterC σ sc) its = some ds) (h4 : ds.length ≤ 2 ^ 20)
    (S : Sit prog w P h0 mg mb W T O env σ s)
    (hQ : ∀ (D₀ C : Addr) s' T', Keeps s s' → TLe T T' → TB T' s'.toks → s.heap.get? C = none → h0.objs.size ≤ C → (∃ m, s'.heap.Ns C m) → Rep prog w (fun a => W a ∨ a = C) T' s'.heap (.ref D₀) (.list ds) → s.heap.get? D₀ = none → h0.objs.size ≤ D₀ → compPost (model prog w) A E use Q (.ref D₀) C (.ok .next) s') :
    wpAny (model prog w) A (comprehension (.ListComp elt (g :: gs) sc pos) sc env (firstIterPos (g :: gs) pos) (newList []) (firstAsync (g :: gs)) (firstIter (g :: gs) env) use) Q E s := by
  have hg := gensOk_at hgens 0 g rfl
  have hasync : firstAsync (g :: gs) = false := by
    obtain ⟨tg, it, ifs, a⟩ := g
    have : a = 0 := hg.1
    subst this
    rfl
  have hfirst : firstIter (g :: gs) env = eval g.iter env := by
    obtain ⟨tg, it, ifs, a⟩ := g
    rfl
  rw [hasync, hfirst]
  have hkind : sc.kind = .function := by
    unfold scopeOk at hsc
    simp only [Bool.and_eq_true, beq_iff_eq] at hsc
    exact hsc.1.1.1.1
  refine wpAny_comprehension_free rfl (fun x => folded_pure hg.2 x) (closure_ok S hsc) hkind (lookup_local_of hsc) ?_
  refine wpAny_mono (RO.ev h1 S) (fun v s₁ q₁ => ?_) fun _ _ q => q
  obtain ⟨T₁, t1, tb1, k1, r1⟩ := q₁
  have S₁ := S.step t1 tb1 k1
  rw [compD_cons] at h3
  split at h3
  · rename_i hnew
    refine iter_ok (W' := fun a => W a ∨ s₁.heap.objs.size ≤ a) hh h2 r1 (fun a q => q.elim .inl fun q => .inr (none_of_ge q)) fun ob fp PP St It st0 hfr => ?_
    have S₂ := S₁.pushW (o := ob) hfr
    refine wpAny_newObj_type (hd := by size_fits) ?_
    dsimp only
    generalize hs2 : ({ s₁ with heap := s₁.heap.push ob } : Shared) = s₂ at S₂
    have e2 : s₁.heap.push ob = s₂.heap := by rw [← hs2]
    have hs3a : ({ s₁ with heap := (s₁.heap.push ob).push { cls := .type "list", dict := none, data := .seq ([] : List Value).toArray } } : Shared) = { s₂ with heap := s₂.heap.push { cls := .type "list", dict := none, data := .seq ([] : List Value).toArray } } := by rw [← hs2]
    rw [hs3a, e2]
    clear hs3a
    rw [e2] at st0
    have z2 : s₂.heap.objs.size = s₁.heap.objs.size + 1 := by rw [← e2, Heap.size_push]
    have S₃ := S₂.pushW (o := { cls := .type "list", dict := none, data := .seq ([] : List Value).toArray }) rfl
    generalize hs3 : ({ s₂ with heap := s₂.heap.push { cls := .type "list", dict := none, data := .seq ([] : List Value).toArray } } : Shared) = s₃ at S₃ ⊢
    have e3 : s₂.heap.push { cls := .type "list", dict := none, data := .seq ([] : List Value).toArray } = s₃.heap := by rw [← hs3]
    have z3 : s₃.heap.objs.size = s₁.heap.objs.size + 2 := by rw [← e3, Heap.size_push, z2]
    have hpl : s₃.heap.PlainList s₂.heap.objs.size #[] := ⟨_, e3 ▸ Heap.get?_push_size _ rfl⟩
    have kp12 : Kp s₁.heap s₂.heap := fun _ _ e => e2 ▸ Heap.get?_push_of_some _ e
    have kp23 : Kp s₂.heap s₃.heap := fun _ _ e => e3 ▸ Heap.get?_push_of_some _ e
    refine enter_ok S₃ hsc fun cenv h' hC kp3 hM S₄ => ?_
    have nW : ∀ a, W a → a < s₁.heap.objs.size := fun a q => by
      obtain ⟨_, o, e⟩ := S₁.wb a q
      exact Heap.lt_size e
    have hI3 : s₁.heap.objs.size < s₃.heap.objs.size := by omega
    have hD3 : s₂.heap.objs.size < s₃.heap.objs.size := by omega
    have hMI : ¬ Mut0 { cenv with scope := relabel sc env } (enterC σ sc).names s₁.heap.objs.size := fun q => absurd hI3 (Nat.not_lt.mpr (hM _ q))
    have hMD : ¬ Mut0 { cenv with scope := relabel sc env } (enterC σ sc).names s₂.heap.objs.size := fun q => absurd hD3 (Nat.not_lt.mpr (hM _ q))
    have st4 : St 0 h' := It.walks.frame _ _ _ st0 fun b _ o e => kp3 b o (kp23 b o e)
    refine codeAny_compStart_gen rfl hg.1 ?_ fun Q hQ => It.walks.self 0 _ Q _ st4 hQ
    have hID : s₁.heap.objs.size ≠ s₂.heap.objs.size := by omega
    refine loop_all RO hh hgens gs g 0 rfl (W0 := fun a => (((W a ∨ a = s₁.heap.objs.size) ∨ a = s₂.heap.objs.size) ∨ (s₃.heap.objs.size ≤ a ∧ a < h'.objs.size)) ∧ a ≠ s₁.heap.objs.size) (out0 := []) (ys := #[]) hnew h3 S₄ (It.anti fun a q => ?_) (TLe.refl _) (fun b o _ e => kp3 b o (kp23 b o (kp12 b o e))) st4
      (.inl (.inl (.inr rfl))) (.inl (.inr rfl)) hMI hMD hID (fun q => absurd (nW _ (S₁.ow _ q)) (Nat.lt_irrefl _)) (fun q => absurd (nW _ (S₁.ow _ q)) (Nat.not_lt.mpr (by omega))) (hpl.at fun o e => kp3 _ o e) .nil (by simp; omega) (fun a q => q) (fun a q => ?_) ?_
    · rcases q with ((q | q) | q) | q
      · exact .inl q
      · exact .inr (Nat.le_of_eq q.symm)
      · exact .inr (by rw [q]; omega)
      · exact .inr (by have := q.1; omega)
    · by_cases ha : a = s₁.heap.objs.size
      · exact .inr ha
      · exact .inl ⟨q, ha⟩
    · intro s' T' ys' S' t' k' hpl' hrep'
      have hs3' : ∃ h3 tk3, s₃ = { s with heap := h3, toks := tk3 } := by
        obtain ⟨a1, a2, rfl, _⟩ := k1
        refine ⟨s₃.heap, s₃.toks, ?_⟩
        subst hs2
        subst hs3
        rfl
      have hCn : s.heap.get? s₃.heap.objs.size = none := by
        cases e : s.heap.get? s₃.heap.objs.size with
        | none => rfl
        | some o => exact absurd (Heap.lt_size (kKp k1 _ _ e)) (Nat.not_lt.mpr (by omega))
      have hDn : s.heap.get? s₂.heap.objs.size = none := by
        cases e : s.heap.get? s₂.heap.objs.size with
        | none => rfl
        | some o => exact absurd (Heap.lt_size (kKp k1 _ _ e)) (Nat.not_lt.mpr (by omega))
      have z0 := size_le S₁
      rw [hC]
      refine hQ _ s₃.heap.objs.size s' T' ?_ (t1.trans t') S'.tb hCn (by omega) ?_ (.list (fun q => ?_) hpl' ((by simpa using hrep' : Reps _ _ _ _ _ _ ds).anti fun a q => .inl ?_)) hDn (by omega)
      · obtain ⟨h3', tk3', e3'⟩ := hs3'
        obtain ⟨h5, tk5, rfl, k5⟩ := k'
        refine ⟨h5, tk5, by rw [e3'], fun b o e => ?_⟩
        have eb := kKp k1 b o e
        have lb := Heap.lt_size eb
        refine k5 b o (fun q => ?_) (kp3 b o (kp23 b o (kp12 b o eb)))
        rcases q with q | q | q
        · exact absurd lb (Nat.not_lt.mpr (Nat.le_trans (by omega) (hM _ q)))
        · exact absurd (q ▸ lb) (Nat.not_lt.mpr (by omega))
        · exact absurd (q ▸ lb) (Nat.lt_irrefl _)
      · obtain ⟨l, g1, _⟩ := S'.en.ns
        have g1' : s'.heap.Ns cenv.locals l := g1
        rw [hC] at g1'
        exact ⟨l, g1'⟩
      · rcases q with q | q
        · exact absurd (nW _ q) (Nat.not_lt.mpr (by omega))
        · exact absurd (show @Eq Nat _ _ from q) (by omega)
      · rcases q with q | q
        · refine ⟨.inl (.inl (.inl q)), fun q' => ?_⟩
          have := nW _ q
          rw [q'] at this
          exact absurd this (Nat.lt_irrefl _)
        · refine ⟨.inr ?_, fun q' => ?_⟩
          · have hl := S₄.en.loc
            rw [q]
            refine ⟨Nat.le_refl _, ?_⟩
            obtain ⟨l, g1, _⟩ := S₄.en.ns
            have g1' : h'.Ns cenv.locals l := g1
            rw [hC] at g1'
            exact g1'.lt
          · rw [q] at q'; exact absurd (show @Eq Nat _ _ from q') (by omega)
  · cases h3
end Mine
end
section
namespace Mine
open PySem PyProof.Rows PySem.SeqAt

variable {prog : Program} {w : World} {A : Around} {E : Value → Shared → Prop} {W W' : Addr → Prop} {T T' : Tm} {s s' : Shared} {P : PI} {n0 : Nat} {h0 : Heap} {mg mb : Str → Option Value} {O : Addr → Prop} {env : Env} {σ σ' : St} {R : Rc} {C : CallS}

theorem truth_ok {d : D} {b : Bool} {v : Value} (e : truthD d = some b) (tb : TB T s.toks) (r : Rep prog w W T s.heap v d) : wpAny (model prog w) A (truthy v) (postB T s b) E s := by
  unfold truthD at e
  split at e
  · cases e; cases r
    exact wpAny_truthy_bool ⟨rfl, T, TLe.refl _, tb, kRefl _⟩
  · split at e
    · rename_i x hx
      cases e; cases r
      refine PySem.P.truthy_str (by omega) ⟨?_, T, TLe.refl _, tb.mono (by show s.toks ≤ s.toks + 1 + 1; omega), kTok⟩
      rw [Bool.eq_iff_iff]
      simp
    · cases e
  · cases e

theorem bool_ok (RO : RcOk prog w P h0 mg mb A R) {op : BoolOp} {pos : Pos} : ∀ {es : List Expr} {d : D} {s : Shared} {T : Tm}, boolD R σ op es = some d → Sit prog w P h0 mg mb W T O env σ s → wpAny (model prog w) A (boolOp pos op (evalEach es env)) (post prog w W T s d) E s
  | [], d, s, T, e, S => by simp [boolD] at e
  | [x], d, s, T, e, S => RO.ev e S
  | x :: y :: r, d, s, T, e, S => by
    simp only [boolD, Option.bind_eq_some_iff] at e
    obtain ⟨d1, h1, t, h2, e⟩ := e
    show wpAny (model prog w) A (do
      let v ← eval x env
      standAt pos
      let t ← holding [v] (truthy v)
      match op, t with
      | .And, false | .Or, true => pure v
      | _, _ => boolOp pos op (evalEach (y :: r) env)) _ E s
    refine wpAny_bind (wpAny_mono (RO.ev h1 S) (fun v s₁ q₁ => ?_) fun _ _ q => q)
    obtain ⟨T₁, t1, tb1, k1, r1⟩ := q₁
    refine wpAny_bind (wpAny_standAt (wpAny_bind (wpAny_holding (wpAny_mono (truth_ok h2 tb1 r1) (fun t' s₂ q₂ => ?_) fun _ _ q => q))))
    obtain ⟨rfl, T₂, t2, tb2, k2⟩ := q₂
    have S₂ := (S.step t1 tb1 k1).step t2 tb2 k2
    have fin : wpAny (model prog w) A (pure v) (post prog w W T s d1) E s₂ := wpAny_pure ⟨T₂, t1.trans t2, tb2, kTrans k1 k2, (r1.keeps k2).tm t2⟩
    have more : boolD R σ op (y :: r) = some d → wpAny (model prog w) A (boolOp pos op (evalEach (y :: r) env)) (post prog w W T s d) E s₂ := fun e' =>
      wpAny_mono (bool_ok RO e' S₂) (fun v' s₃ q => let ⟨T₃, a, b, c, r⟩ := q; ⟨T₃, (t1.trans t2).trans a, b, kTrans (kTrans k1 k2) c, r⟩) fun _ _ q => q
    cases op <;> cases t' <;> simp only [if_true, Bool.not_true, Bool.not_false, Bool.false_eq_true, if_false] at e ⊢ <;> first
      | (cases e; exact fin)
      | exact more e

theorem allTrue_ok (RO : RcOk prog w P h0 mg mb A R) {op : BoolOp} : ∀ {es : List Expr} {b : Bool} {s : Shared} {T : Tm}, trAll R σ op es = some b → Sit prog w P h0 mg mb W T O env σ s → wpAny (model prog w) A (allTrue op es env) (postB T s b) E s
  | [], b, s, T, e, S => by
    simp only [trAll, Option.some.injEq] at e
    refine wpAny_pure ⟨?_, T, TLe.refl _, S.tb, kRefl _⟩
    rw [← e]
    cases op <;> rfl
  | x :: r, b, s, T, e, S => by
    simp only [trAll, Option.bind_eq_some_iff] at e
    obtain ⟨t, h1, e⟩ := e
    show wpAny (model prog w) A (do
      match op, ← isTrue x env (eval x env) with
      | .And, false => pure false
      | .Or, true => pure true
      | _, _ => allTrue op r env) _ E s
    refine wpAny_bind (wpAny_mono (RO.tr h1 S) (fun t' s₁ q₁ => ?_) fun _ _ q => q)
    obtain ⟨rfl, T₁, t1, tb1, k1⟩ := q₁
    have more : trAll R σ op r = some b → wpAny (model prog w) A (allTrue op r env) (postB T s b) E s₁ := fun e' =>
      wpAny_mono (allTrue_ok RO e' (S.step t1 tb1 k1)) (fun v' s₃ q => let ⟨z, T₃, a, b, c⟩ := q; ⟨z, T₃, t1.trans a, b, kTrans k1 c⟩) fun _ _ q => q
    cases op <;> cases t' <;> simp only [if_true, Bool.not_true, Bool.not_false, Bool.false_eq_true, if_false] at e ⊢ <;> first
      | (cases e; exact wpAny_pure ⟨rfl, T₁, t1, tb1, k1⟩)
      | exact more e

theorem const_ok {c : Const} {d : D} {k : Nat} {pos : Pos} (e : constD c = some d) (tb : TB T s.toks) : wpAny (model prog w) A (eval (.Constant c k pos) env) (post prog w W T s d) E s := by
  unfold constD at e
  split at e <;> try cases e
  · exact wpAny_Constant_none ⟨T, TLe.refl _, tb, kRefl _, .none⟩
  · exact wpAny_Constant_bool ⟨T, TLe.refl _, tb, kRefl _, .bool _⟩
  · exact lift tb (wpAny_Constant_int post_int)
  · exact PySem.wpAny_Constant_float (post_float tb)
  · exact lift tb (wpAny_Constant_str post_str)

/-- two looks -/
theorem peek2_ok (RO : RcOk prog w P h0 mg mb A R) {l r : Expr} {a b : D} {Q : Value → Shared → Prop} (h1 : peek P R σ l = some a) (h2 : peek P R σ r = some b) (S : Sit prog w P h0 mg mb W T O env σ s) {t : Value → Value → Sem Value}
    (h : ∀ va vb s₁ T₁, TLe T T₁ → Keeps s s₁ → Sit prog w P h0 mg mb W T₁ O env σ s₁ → RepT prog w W T₁ s₁.heap va a → RepT prog w W T₁ s₁.heap vb b → wpAny (model prog w) A (t va vb) Q E s₁) :
    wpAny (model prog w) A (eval l env) (fun va s₁ => wpAny (model prog w) A (eval r env) (fun vb s₂ => wpAny (model prog w) A (t va vb) Q E s₂) E s₁) E s := by
  refine wpAny_mono (peek_ok RO h1 S) (fun va s₁ q₁ => ?_) fun _ _ q => q
  obtain ⟨T₁, t1, tb1, k1, r1⟩ := q₁
  have S₁ := S.step t1 tb1 k1
  refine wpAny_mono (peek_ok RO h2 S₁) (fun vb s₂ q₂ => ?_) fun _ _ q => q
  obtain ⟨T₂, t2, tb2, k2, r2⟩ := q₂
  exact h va vb s₂ T₂ (t1.trans t2) (kTrans k1 k2) (S₁.step t2 tb2 k2) ((r1.keeps k2).tm t2) r2

theorem post_up {d : D} {s₁ : Shared} {T₁ : Tm} (t1 : TLe T T₁) (k1 : Keeps s s₁) {v : Value} {s₂ : Shared} (q : post prog w W T₁ s₁ d v s₂) : post prog w W T s d v s₂ :=
  let ⟨T₂, a, b, c, r⟩ := q; ⟨T₂, t1.trans a, b, kTrans k1 c, r⟩
theorem wp_up {d : D} {s₁ : Shared} {T₁ : Tm} {t : Sem Value} (t1 : TLe T T₁) (k1 : Keeps s s₁) (h : wpAny (model prog w) A t (post prog w W T₁ s₁ d) E s₁) : wpAny (model prog w) A t (post prog w W T s d) E s₁ :=
  wpAny_mono h (fun _ _ q => post_up t1 k1 q) fun _ _ q => q

theorem bin_ok (RO : RcOk prog w P h0 mg mb A R) {l r : Expr} {op : Operator} {pos : Pos} {a b d : D} (h1 : peek P R σ l = some a) (h2 : peek P R σ r = some b) (e : binD op a b = some d) (S : Sit prog w P h0 mg mb W T O env σ s) :
    wpAny (model prog w) A (eval (.BinOp l op r pos) env) (post prog w W T s d) E s :=
  wpAny_BinOp (peek2_ok RO h1 h2 S fun va vb s₁ T₁ t1 k1 S₁ r1 r2 => wp_up t1 k1 (binD_ok S₁.wb S₁.tb e r1 r2))

theorem notMarks {op : CmpOp} {r : Expr} (h : setIter r = false) : behindInMarks op r = false := by
  cases r <;> first | rfl | (simp [setIter] at h)

theorem cmp_ok (RO : RcOk prog w P h0 mg mb A R) (hu : A.units + 10 < cLine) {l r : Expr} {op : CmpOp} {pos : Pos} {a b : D} {k : Bool} (hs : setIter r = false) (h1 : peek P R σ l = some a) (h2 : peek P R σ r = some b) (e : cmpD op a b = some k) (S : Sit prog w P h0 mg mb W T O env σ s) :
    wpAny (model prog w) A (eval (.Compare l [op] [r] pos) env) (post prog w W T s (.bool k)) E s :=
  wpAny_Compare1 (peek2_ok RO h1 h2 S fun va vb s₁ T₁ t1 k1 S₁ r1 r2 => wp_up t1 k1 (lift S₁.tb (cmpD_ok S₁.gf.now.nb hu S₁.tb e r1 r2))) (notMarks hs)

theorem cmpT_ok (RO : RcOk prog w P h0 mg mb A R) (hu : A.units + 10 < cLine) {l r : Expr} {op : CmpOp} {pos : Pos} {a b : D} {k : Bool} {whole : Sem Value} (hs : setIter r = false) (h1 : peek P R σ l = some a) (h2 : peek P R σ r = some b) (e : cmpD op a b = some k) (S : Sit prog w P h0 mg mb W T O env σ s) :
    wpAny (model prog w) A (isTrue (.Compare l [op] [r] pos) env whole) (postB T s k) E s := by
  refine wpAny_isTrue_Compare1 ?_ (notMarks hs)
  refine wpAny_mono (peek_ok RO h1 S) (fun va s₁ q₁ => ?_) fun _ _ q => q
  obtain ⟨T₁, t1, tb1, k1, r1⟩ := q₁
  have S₁ := S.step t1 tb1 k1
  refine wpAny_mono (peek_ok RO h2 S₁) (fun vb s₂ q₂ => ?_) fun _ _ q => q
  obtain ⟨T₂, t2, tb2, k2, r2⟩ := q₂
  have S₂ := S₁.step t2 tb2 k2
  refine wpAny_mono (lift S₂.tb (cmpD_ok S₂.gf.now.nb hu S₂.tb e ((r1.keeps k2).tm t2) r2)) (fun v s₃ q₃ => ?_) fun _ _ q => q
  obtain ⟨T₃, t3, tb3, k3, r3⟩ := q₃
  cases r3
  exact wpAny_truthy_bool ⟨rfl, T₃, (t1.trans t2).trans t3, tb3, kTrans (kTrans k1 k2) k3⟩

theorem disp_ok (RO : RcOk prog w P h0 mg mb A R) {es : List Expr} {ds : List D} {pos : Pos} {Q : List Value → Shared → Prop} (h : mapO (R.ev σ) es = some ds) (hs : noStar es = true) (S : Sit prog w P h0 mg mb W T O env σ s)
    (hQ : ∀ vs s₁ T₁, TLe T T₁ → Keeps s s₁ → Sit prog w P h0 mg mb W T₁ O env σ s₁ → Reps prog w W T₁ s₁.heap vs ds → Q vs s₁) : wpAny (model prog w) A (spliced (backTo pos (starEach es env))) Q E s :=
  wpAny_mono (items_ok RO h hs S) (fun vs s₁ q => let ⟨T₁, t1, tb1, k1, r⟩ := q; hQ vs s₁ T₁ t1 k1 (S.step t1 tb1 k1) r) fun _ _ q => q

theorem list_ok (RO : RcOk prog w P h0 mg mb A R) {es : List Expr} {ds : List D} {pos : Pos} (h : mapO (R.ev σ) es = some ds) (hl : ds.length ≤ 100) (hs : noStar es = true) (S : Sit prog w P h0 mg mb W T O env σ s) :
    wpAny (model prog w) A (eval (.List es pos) env) (post prog w W T s (.list ds)) E s := by
  refine wpAny_List (disp_ok RO h hs S fun vs s₁ T₁ t1 k1 S₁ r => ⟨?_, ?_⟩)
  · rw [r.length]; unfold sizeLine; omega
  · refine post_up t1 k1 ⟨T₁, TLe.refl _, S₁.tb, kPush, .list (vs := vs.toArray) (fun q => S₁.wb.fresh q) ⟨_, Heap.get?_push_size _ rfl⟩ ?_⟩
    exact r.keeps kPush
theorem tuple_ok (RO : RcOk prog w P h0 mg mb A R) {es : List Expr} {ds : List D} {k : Nat} {pos : Pos} (h : mapO (R.ev σ) es = some ds) (hl : ds.length ≤ 100) (hs : noStar es = true) (S : Sit prog w P h0 mg mb W T O env σ s) :
    wpAny (model prog w) A (eval (.Tuple es k pos) env) (post prog w W T s (.tuple ds)) E s := by
  refine wpAny_Tuple (disp_ok RO h hs S fun vs s₁ T₁ t1 k1 S₁ r => ⟨?_, ?_⟩)
  · rw [r.length]; unfold sizeLine; omega
  · refine post_up t1 k1 ⟨T₁, TLe.refl _, S₁.tb, kPush, .tuple (vs := vs.toArray) (fun q => S₁.wb.fresh q) ⟨_, Heap.get?_push_size _ rfl, rfl, ⟨_, rfl⟩⟩ ?_⟩
    exact r.keeps kPush

theorem comp_ok (RO : RcOk prog w P h0 mg mb A R) (hh : A.handled = none) {elt : Expr} {g : Comprehension} {gs : List Comprehension} {sc : Scope} {pos : Pos} {src : D} {its ds : List D}
    (hsc : scopeOk σ sc = true) (hgens : gensOk (g :: gs) = true) (h1 : R.ev σ g.iter = some src) (h2 : itemsD src = some its) (h3 : compD R elt (g :: gs) (enterC σ sc) its = some ds) (h4 : ds.length ≤ 2 ^ 20)
    (S : Sit prog w P h0 mg mb W T O env σ s) : wpAny (model prog w) A (eval (.ListComp elt (g :: gs) sc pos) env) (post prog w W T s (.list ds)) E s := by
  rw [eval_ListComp]
  refine comp_gen RO hh hsc hgens h1 h2 h3 h4 S fun D₀ C s' T' k t tb hC _ hn r hD _ => ?_
  obtain ⟨m, hn⟩ := hn
  refine ⟨m, hn, fun h' hs' => ?_⟩
  have hCW : ¬ W C := fun q => by
    obtain ⟨_, o, e⟩ := S.wb C q
    rw [hC] at e; cases e
  refine ⟨T', t, tb, ?_, ?_⟩
  · obtain ⟨h1, tk1, rfl, k1⟩ := k
    refine ⟨h', tk1, rfl, fun b o e => hs'.extBut b o (fun q => ?_) (k1 b o e)⟩
    rw [q, hC] at e; cases e
  · have := r.kp (h' := h') fun b o hb e => hs'.extBut b o (fun q => hb (.inr q)) e
    exact this.anti fun a q => .inl (.inl q)

theorem part_ok (RO : RcOk prog w P h0 mg mb A R) {e : Option Expr} {o : Option Int} (h : partsD R σ e = some o) (S : Sit prog w P h0 mg mb W T O env σ s) :
    wpAny (model prog w) A (evalPart e env) (fun v s₁ => IsPart v o ∧ ∃ T₁, TLe T T₁ ∧ TB T₁ s₁.toks ∧ Keeps s s₁) E s := by
  cases e with
  | none =>
    simp only [partsD, Option.some.injEq] at h
    subst h
    exact wpAny_pure ⟨.none, T, TLe.refl _, S.tb, kRefl _⟩
  | some e =>
    simp only [partsD, Option.bind_eq_some_iff] at h
    obtain ⟨d, h1, h2⟩ := h
    refine wpAny_mono (RO.ev h1 S) (fun v s₁ q₁ => ?_) fun _ _ q => q
    obtain ⟨T₁, t1, tb1, k1, r1⟩ := q₁
    refine ⟨?_, T₁, t1, tb1, k1⟩
    unfold partO at h2
    split at h2
    · rename_i hx; cases hx
    · rename_i hx
      cases hx
      split at h2
      · rename_i hsm
        cases h2; cases r1
        exact .int _ _
      · cases h2
    · cases h2
end Mine
end
section
namespace Mine
open PySem PyProof.Rows PySem.SeqAt

variable {prog : Program} {w : World} {A : Around} {E : Value → Shared → Prop} {W W' : Addr → Prop} {T T' : Tm} {s s' : Shared} {P : PI} {n0 : Nat} {h0 : Heap} {mg mb : Str → Option Value} {O : Addr → Prop} {env : Env} {σ σ' : St} {R : Rc} {C : CallS}

theorem item_ok (RO : RcOk prog w P h0 mg mb A R) {v i : Expr} {pos : Pos} {a k d : D} (h1 : peek P R σ v = some a) (h2 : R.ev σ i = some k) (e : itemD a k = some d) (S : Sit prog w P h0 mg mb W T O env σ s) :
    wpAny (model prog w) A (eval (.Subscript v i pos) env) (post prog w W T s d) E s := by
  refine Subscript_ (wpAny_mono (peek_ok RO h1 S) (fun va s₁ q₁ => ?_) fun _ _ q => q)
  obtain ⟨T₁, t1, tb1, k1, r1⟩ := q₁
  have S₁ := S.step t1 tb1 k1
  refine wpAny_mono (RO.ev h2 S₁) (fun vi s₂ q₂ => ?_) fun _ _ q => q
  obtain ⟨T₂, t2, tb2, k2, r2⟩ := q₂
  exact wp_up (t1.trans t2) (kTrans k1 k2) (lift tb2 (itemD_ok e ((r1.keeps k2).tm t2) (.of r2)))

theorem slice_ok (RO : RcOk prog w P h0 mg mb A R) {v : Expr} {lo hi st : Option Expr} {p pos : Pos} {a d : D} {l u x : Option Int} (h1 : peek P R σ v = some a) (h2 : partsD R σ lo = some l) (h3 : partsD R σ hi = some u) (h4 : partsD R σ st = some x) (e : sliceD a l u x = some d)
    (S : Sit prog w P h0 mg mb W T O env σ s) : wpAny (model prog w) A (eval (.Subscript v (.Slice lo hi st p) pos) env) (post prog w W T s d) E s := by
  refine Subscript_ (wpAny_mono (peek_ok RO h1 S) (fun va s₁ q₁ => ?_) fun _ _ q => q)
  obtain ⟨T₁, t1, tb1, k1, r1⟩ := q₁
  have S₁ := S.step t1 tb1 k1
  refine wpAny_Slice (wpAny_mono (part_ok RO h2 S₁) (fun vl s₂ q₂ => ?_) fun _ _ q => q)
  obtain ⟨p2, T₂, t2, tb2, k2⟩ := q₂
  have S₂ := S₁.step t2 tb2 k2
  refine wpAny_mono (part_ok RO h3 S₂) (fun vu s₃ q₃ => ?_) fun _ _ q => q
  obtain ⟨p3, T₃, t3, tb3, k3⟩ := q₃
  have S₃ := S₂.step t3 tb3 k3
  refine wpAny_mono (part_ok RO h4 S₃) (fun vx s₄ q₄ => ?_) fun _ _ q => q
  obtain ⟨p4, T₄, t4, tb4, k4⟩ := q₄
  have S₄ := S₃.step t4 tb4 k4
  have r4 := ((((((r1.keeps k2).tm t2).keeps k3).tm t3).keeps k4).tm t4).keeps (kPush (o := { cls := .type "slice", data := .fields #[vl, vu, vx] }))
  have S₅ := S₄.step (s' := { s₄ with heap := s₄.heap.push { cls := .type "slice", data := .fields #[vl, vu, vx] } }) (TLe.refl _) tb4 kPush
  exact wp_up (((t1.trans t2).trans t3).trans t4) (kTrans (kTrans (kTrans (kTrans k1 k2) k3) k4) kPush) (lift tb4 (sliceD_ok S₅.wb e r4 (Heap.IsSliceOf.new ..) p2 p3 p4))

theorem noStar_plain : ∀ {as : List Expr} {pos : Pos}, noStar as = true → (backTo pos (starEach as env)).any (·.1) = false ∧ (backTo pos (starEach as env)).all (fun x => !x.1) = true
  | [], pos, _ => ⟨rfl, rfl⟩
  | a :: r, pos, h => by
    obtain ⟨e1, e2⟩ := starEach_cons (env := env) h
    obtain ⟨g1, g2⟩ := noStar_plain (pos := pos) e2
    rw [e1]
    unfold backTo at g1 g2 ⊢
    exact ⟨by simpa using g1, by simpa using g2⟩

theorem evalArgs_ok {f : Value} {as : List Expr} {pos : Pos} {Q : Args → Shared → Prop} (hs : noStar as = true) (h : wpAny (model prog w) A (spliced (backTo pos (starEach as env))) (fun vs s' => Q ⟨vs, []⟩ s') E s) :
    wpAny (model prog w) A (evalArgs f true (backTo pos (starEach as env)) []) Q E s := by
  cases as with
  | nil =>
    unfold evalArgs
    show wpAny (model prog w) A (spliced [] >>= _) Q E s
    refine wpAny_bind (wpAny_mono h (fun vs s' h' => ?_) fun _ _ x => x)
    refine wpAny_holding ?_
    exact wpAny_bind (wpAny_pure (wpAny_bind (wpAny_pure (wpAny_pure h'))))
  | cons a r =>
    rw [(starEach_cons (env := env) hs).1] at h ⊢
    exact PySem.Calls.evalArgs_plain h

theorem base_ok {o : Expr} {m : Str} (h : plainBase o = true) : attributeBase o m env (eval o env) = eval o env := by
  cases o <;> first | rfl | (simp [plainBase] at h)

theorem meth_ok (RO : RcOk prog w P h0 mg mb A R) (hh : A.handled = none) (hu : A.units + 10 < cLine) {o : Expr} {m : Str} {as : List Expr} {ap p : Pos} {a d : D} {ds : List D} (hl : as.length ≤ 3) (hs : noStar as = true) (hb : plainBase o = true) (hline : ap.endLine = p.line)
    (h1 : peek P R σ o = some a) (h2 : mapO (peek P R σ) as = some ds) (e : methD a m ds = some d) (S : Sit prog w P h0 mg mb W T O env σ s) :
    wpAny (model prog w) A (eval (.Call (.Attribute o m ap) as [] p) env) (post prog w W T s d) E s := by
  obtain ⟨Ty, id, mo⟩ := methD_ok (prog := prog) (w := w) hh hu e
  obtain ⟨g1, g2⟩ := noStar_plain (env := env) (pos := p) hs
  refine wpAny_Call_method (T := Ty) (id := id) (base_ok hb) ?_ (by rw [hline]; simp) mo.pa mo.slot mo.ty ?_
  · rw [g2]
    simp [backToKw, keywordEach]
    omega
  refine wpAny_mono (peek_ok RO h1 S) (fun va s₁ q₁ => ?_) fun _ _ q => q
  obtain ⟨T₁, t1, tb1, k1, r1⟩ := q₁
  have S₁ := S.step t1 tb1 k1
  obtain ⟨c1, c2⟩ := mo.self r1
  refine ⟨c1, c2, PySem.Calls.callWith_builtin g1 (evalArgs_ok hs ?_)⟩
  refine wpAny_mono (args_ok RO h2 hs S₁) (fun vs s₂ q₂ => ?_) fun _ _ q => q
  obtain ⟨T₂, t2, tb2, k2, r2⟩ := q₂
  have S₂ := S₁.step t2 tb2 k2
  exact wp_up (t1.trans t2) (kTrans k1 k2) (lift tb2 (mo.call S₂.wb S₂.gf.now.nb S₂.tb ((r1.keeps k2).tm t2) r2))

theorem glob_kind {x : Str} (hg : isGlob σ x = true) (S : Sit prog w P h0 mg mb W T O env σ s) : env.kindOf x = some .globalImplicit := by
  unfold isGlob at hg
  have hg' : σ.names.lookup x = some .globalImplicit := by simpa using hg
  rcases S.en.nm x _ hg' with h | ⟨h, _⟩
  · exact h
  · cases h

theorem plain_debug {x : Str} (hp : plainName x = true) : (x == ("__debug__" : Str)) = false := by
  simp only [plainName, Bool.and_eq_true, bne_iff_ne, ne_eq] at hp
  simpa using hp.1

/-- a built-in's name -/
theorem bname_ok {x : Str} {v : Value} {pos : Pos} {Q : Value → Shared → Prop} (hg : isGlob σ x = true) (hp : plainName x = true) (h1 : mg x = none) (h2 : mb x = some v) (S : Sit prog w P h0 mg mb W T O env σ s) (h : Q v s) :
    wpAny (model prog w) A (eval (.Name x pos) env) Q E s :=
  PySem.Calls.Name_function_global S.en.kind (glob_kind hg S) (PySem.Calls.loadGlobal_builtin (mg := mg) (mb := mb) (by rw [S.en.gl]; exact S.gf.now.g) h1 (by rw [S.en.bl]; exact S.gf.now.b) h2 h) (plain_debug hp)

theorem blt_shape {f : Str} {fv : Value} (hf : bltV f = some fv) : (∃ id, fv = .builtin id) ∨ ∃ id, fv = .type id := by
  unfold bltV at hf
  repeat' split at hf
  all_goals first
    | exact .inl ⟨_, (Option.some.inj hf).symm⟩
    | exact .inr ⟨_, (Option.some.inj hf).symm⟩
    | cases hf

theorem callWith_blt {f : Str} {fv : Value} {pos : Pos} {first : List Value} {args : List (Bool × Sem Value)} {Q : Value → Shared → Prop} (hf : bltV f = some fv) (hp : args.any (·.1) = false)
    (h : wpAny (model prog w) A (evalArgs fv true args []) (fun a s₁ => wpAny (model prog w) A (call fv (first ++ a.pos) a.kw) Q E s₁) E s) : wpAny (model prog w) A (callWith pos fv first args []) Q E s := by
  rcases blt_shape hf with ⟨id, rfl⟩ | ⟨id, rfl⟩
  · exact PySem.Calls.callWith_builtin hp h
  · exact PySem.callWith_type hp h

theorem blt_some {f : Str} (h : bltNames.contains f = true) : ∃ fv, bltV f = some fv := by
  simp only [bltNames, List.contains_eq_mem, List.mem_cons, List.not_mem_nil, or_false, decide_eq_true_eq] at h
  rcases h with rfl | rfl | rfl | rfl | rfl | rfl | rfl <;> exact ⟨_, rfl⟩

theorem blt_ok (RO : RcOk prog w P h0 mg mb A R) (hh : A.handled = none) {f : Str} {as : List Expr} {ds : List D} {d : D} {q p : Pos} (hg : isGlob σ f = true) (hp : plainName f = true) (hs : noStar as = true) (hb : bltNames.contains f = true)
    (h2 : mapO (peek P R σ) as = some ds) (e : bltD f ds = some d) (S : Sit prog w P h0 mg mb W T O env σ s) : wpAny (model prog w) A (eval (.Call (.Name f q) as [] p) env) (post prog w W T s d) E s := by
  obtain ⟨fv, hf⟩ := blt_some hb
  obtain ⟨m1, m2⟩ := S.gf.base.blt f fv hf
  refine wpAny_Call_NameR (bname_ok hg hp m1 m2 S ?_)
  refine callWith_blt hf (noStar_plain hs).1 (evalArgs_ok hs ?_)
  refine wpAny_mono (args_ok RO h2 hs S) (fun vs s₂ q₂ => ?_) fun _ _ q => q
  obtain ⟨T₂, t2, tb2, k2, r2⟩ := q₂
  have S₂ := S.step t2 tb2 k2
  exact wp_up t2 k2 (lift tb2 (bltD_ok S₂.wb hh hf e r2))

theorem fcall_ok (RO : RcOk prog w P h0 mg mb A R) (CO : CallOk prog w P h0 mg mb A C) {f : Str} {as : List Expr} {ds : List D} {d : D} {q p : Pos} (hg : isGlob σ f = true) (hp : plainName f = true) (hs : noStar as = true)
    (h2 : mapO (R.ev σ) as = some ds) (e : C f ds = some d) (S : Sit prog w P h0 mg mb W T O env σ s) : wpAny (model prog w) A (eval (.Call (.Name f q) as [] p) env) (post prog w W T s d) E s := by
  obtain ⟨i, hi⟩ := CO.fn e
  obtain ⟨a, o, pm, cd, doc, m1, m2, m3, m4⟩ := S.gf.now.fn f i hi
  refine wpAny_Call_NameR (PySem.Calls.Name_function_global S.en.kind (glob_kind hg S) (PySem.Calls.loadGlobal_global (mg := mg) (by rw [S.en.gl]; exact S.gf.now.g) m1 ?_) (plain_debug hp))
  refine PySem.Calls.callWith_function (o := o) (fd := PySem.Calls.docDef f i.params i.body i.scope pm cd doc) (evalArgs_ok hs ?_)
  refine wpAny_mono (items_ok RO h2 hs S) (fun vs s₂ q₂ => ?_) fun _ _ q => q
  obtain ⟨T₂, t2, tb2, k2, r2⟩ := q₂
  have S₂ := S.step t2 tb2 k2
  exact ⟨⟨kKp k2 _ _ m2, m3⟩, wp_up t2 k2 (CO.call e S₂.gf (size_le S₂) S₂.wb S₂.tb m1 r2)⟩

def isiD : D → Option D
  | .float _ => some (.bool true)
  | .int _ => some (.bool false)
  | _ => none

theorem isi_ok (RO : RcOk prog w P h0 mg mb A R) {x : Expr} {d dr : D} {q tp p : Pos} (hg : isGlob σ "isinstance" = true) (hgt : isGlob σ "float" = true) (hs : noStar [x, .Name "float" tp] = true)
    (h2 : R.ev σ x = some d) (e : isiD d = some dr) (S : Sit prog w P h0 mg mb W T O env σ s) :
    wpAny (model prog w) A (eval (.Call (.Name "isinstance" q) [x, .Name "float" tp] [] p) env) (post prog w W T s dr) E s := by
  obtain ⟨m1, m2⟩ := S.gf.base.isi
  refine wpAny_Call_NameR (bname_ok hg (by decide) m1 m2 S ?_)
  refine PySem.Calls.callWith_builtin (noStar_plain hs).1 (evalArgs_ok hs ?_)
  rw [(starEach_cons (env := env) hs).1]
  show wpAny (model prog w) A (spliced ((false, eval x env) :: (false, eval (.Name "float" tp) env) :: [])) _ E s
  refine PySem.Calls.spliced_cons (wpAny_mono (RO.ev h2 S) (fun v s₁ h₁ => ?_) fun _ _ q => q)
  obtain ⟨T₁, t1, tb1, k1, r1⟩ := h₁
  have S₁ := S.step t1 tb1 k1
  obtain ⟨f1, f2⟩ := S.gf.base.flt
  refine PySem.Calls.spliced_cons (bname_ok hgt (by decide) f1 f2 S₁ (PySem.Calls.spliced_nil ?_))
  refine wp_up t1 k1 (lift tb1 ?_)
  show wpAny (model prog w) A (call (.builtin "isinstance") [v, .type "float"]) _ E s₁
  cases r1 <;> simp only [isiD] at e <;> cases e
  · exact PySem.IsiPair.int_float post_bool
  · exact PySem.IsiPair.float_float post_bool'
end Mine
end
section
namespace Mine
open PySem PyProof.Rows PySem.SeqAt

variable {prog : Program} {w : World} {A : Around} {E : Value → Shared → Prop} {W W' : Addr → Prop} {T T' : Tm} {s s' : Shared} {P : PI} {n0 : Nat} {h0 : Heap} {mg mb : Str → Option Value} {O : Addr → Prop} {env : Env} {σ σ' : St} {R : Rc} {C : CallS}

def dPairs (env : Env) (pos : Pos) : List (Option Expr) → List Expr → List (Sem Value × Sem Value)
  | some k :: ks, v :: vs => (eval k env, do let x ← eval v env; standAt pos; pure x) :: dPairs env pos ks vs
  | _, _ => []

theorem dPairs_shape {pos : Pos} : ∀ {ks : List (Option Expr)} {vs : List Expr} {is : List Int} {ss : List Str}, intKeys ks = some is → strConsts vs = some ss → is.length = ss.length →
    (evalEachOpt ks env).zip ((evalEach vs env).map fun v => do let x ← v; standAt pos; pure x) = (dPairs env pos ks vs).map (fun p => (some p.1, p.2)) ∧ (dPairs env pos ks vs).length = is.length
  | [], [], is, ss, h1, h2, _ => by simp [intKeys] at h1; subst h1; exact ⟨rfl, rfl⟩
  | [], v :: vs, is, ss, h1, h2, hl => by
    simp [intKeys] at h1; subst h1
    cases v with
    | Constant c _ _ =>
      cases c with
      | str x => simp only [strConsts, Option.bind_eq_some_iff] at h2; obtain ⟨_, _, h2⟩ := h2; cases h2; simp at hl
      | _ => simp [strConsts] at h2
    | _ => simp [strConsts] at h2
  | k :: ks, [], is, ss, h1, h2, hl => by
    simp [strConsts] at h2; subst h2
    cases k with
    | none => simp [intKeys] at h1
    | some k =>
      cases k with
      | Constant c _ _ =>
        cases c with
        | int i => simp only [intKeys, Option.bind_eq_some_iff] at h1; obtain ⟨_, _, h1⟩ := h1; cases h1; simp at hl
        | _ => simp [intKeys] at h1
      | _ => simp [intKeys] at h1
  | k :: ks, v :: vs, is, ss, h1, h2, hl => by
    cases k with
    | none => simp [intKeys] at h1
    | some k =>
      cases k with
      | Constant c _ _ =>
        cases c with
        | int i =>
          cases v with
          | Constant c' _ _ =>
            cases c' with
            | str x =>
              simp only [intKeys, Option.bind_eq_some_iff] at h1; obtain ⟨is', h1', h1⟩ := h1; cases h1
              simp only [strConsts, Option.bind_eq_some_iff] at h2; obtain ⟨ss', h2', h2⟩ := h2; cases h2
              obtain ⟨g1, g2⟩ := dPairs_shape (pos := pos) h1' h2' (by simpa using hl)
              exact ⟨by simp only [evalEachOpt, evalOpt, evalEach, List.map_cons, List.zip_cons_cons, dPairs, g1], by simp [dPairs, g2]⟩
            | _ => simp [strConsts] at h2
          | _ => simp [strConsts] at h2
        | _ => simp [intKeys] at h1
      | _ => simp [intKeys] at h1

/-- keys and texts as they lie -/
inductive KV : List (Int × Value) → List Int → List Str → Prop
  | nil : KV [] [] []
  | cons {i x t kvs is ss} : KV kvs is ss → KV ((i, .str x t) :: kvs) (i :: is) (x :: ss)
theorem KV.keys {kvs : List (Int × Value)} {is : List Int} {ss : List Str} (h : KV kvs is ss) : kvs.map (·.1) = is := by
  induction h with
  | nil => rfl
  | cons _ ih => simp [ih]
theorem KV.at {kvs : List (Int × Value)} {is : List Int} {ss : List Str} (h : KV kvs is ss) (k : Int) : ((is.zip ss).lookup k = none → valueAt kvs k = none) ∧ ∀ x, (is.zip ss).lookup k = some x → ∃ t, valueAt kvs k = some (.str x t) := by
  induction h with
  | nil => exact ⟨fun _ => rfl, fun x e => by simp at e⟩
  | @cons i x t kvs is ss _ ih =>
    by_cases hk : k = i
    · subst hk
      refine ⟨fun e => by simp [List.lookup] at e, fun y e => ?_⟩
      simp [List.lookup] at e
      subst e
      exact ⟨t, by simp [valueAt]⟩
    · have hk' : (k == i) = false := by simpa using hk
      have hk2 : ¬ i = k := fun e => hk e.symm
      simp only [List.zip_cons_cons, List.lookup, hk']
      have : valueAt ((i, Value.str x t) :: kvs) k = valueAt kvs k := by simp [valueAt, List.find?_cons, hk2]
      rw [this]
      exact ih

theorem pairs_ok {pos : Pos} : ∀ {ks : List (Option Expr)} {vs : List Expr} {is : List Int} {ss : List Str} {s : Shared} {Q : List (Value × Value) → Shared → Prop}, intKeys ks = some is → strConsts vs = some ss → is.length = ss.length →
    (∀ vals kvs tk, Carries (intKind prog w) vals kvs → KV kvs is ss → s.toks ≤ tk → Q vals { s with toks := tk }) → wpAny (model prog w) A (evalPairs (dPairs env pos ks vs)) Q E s
  | [], [], is, ss, s, Q, h1, h2, _, hQ => by
    simp [intKeys] at h1; subst h1
    simp [strConsts] at h2; subst h2
    exact evalPairs_nil (hQ [] [] s.toks trivial .nil (Nat.le_refl _))
  | [], v :: vs, is, ss, s, Q, h1, h2, hl, hQ => by
    simp [intKeys] at h1; subst h1
    cases v with
    | Constant c _ _ =>
      cases c with
      | str x => simp only [strConsts, Option.bind_eq_some_iff] at h2; obtain ⟨_, _, h2⟩ := h2; cases h2; simp at hl
      | _ => simp [strConsts] at h2
    | _ => simp [strConsts] at h2
  | k :: ks, [], is, ss, s, Q, h1, h2, hl, hQ => by
    simp [strConsts] at h2; subst h2
    cases k with
    | none => simp [intKeys] at h1
    | some k =>
      cases k with
      | Constant c _ _ =>
        cases c with
        | int i => simp only [intKeys, Option.bind_eq_some_iff] at h1; obtain ⟨_, _, h1⟩ := h1; cases h1; simp at hl
        | _ => simp [intKeys] at h1
      | _ => simp [intKeys] at h1
  | k :: ks, v :: vs, is, ss, s, Q, h1, h2, hl, hQ => by
    cases k with
    | none => simp [intKeys] at h1
    | some k =>
      cases k with
      | Constant c _ _ =>
        cases c with
        | int i =>
          cases v with
          | Constant c' _ _ =>
            cases c' with
            | str x =>
              simp only [intKeys, Option.bind_eq_some_iff] at h1; obtain ⟨is', h1', h1⟩ := h1; cases h1
              simp only [strConsts, Option.bind_eq_some_iff] at h2; obtain ⟨ss', h2', h2⟩ := h2; cases h2
              refine evalPairs_cons (wpAny_Constant_int (wpAny_bind (wpAny_Constant_str (wpAny_bind (wpAny_standAt (wpAny_pure ?_))))))
              refine pairs_ok h1' h2' (by simpa using hl) fun vals kvs tk hc hk ht => ?_
              exact hQ _ ((i, .str x _) :: kvs) tk ⟨intKind_is .., rfl, hc⟩ (.cons hk) (Nat.le_trans (by show s.toks ≤ s.toks + 1 + 1; omega) ht)
            | _ => simp [strConsts] at h2
          | _ => simp [strConsts] at h2
        | _ => simp [intKeys] at h1
      | _ => simp [intKeys] at h1

theorem base_two (S : Sit prog w P h0 mg mb W T O env σ s) : 2 < h0.objs.size := by
  obtain ⟨m, h1, _⟩ := S.gf.base.nb
  exact h1.lt

theorem dict_ok {ks : List (Option Expr)} {vs : List Expr} {is : List Int} {ss : List Str} {pos : Pos} (h1 : intKeys ks = some is) (h2 : strConsts vs = some ss) (hl : is.length = ss.length) (h0' : 0 < is.length) (h15 : is.length ≤ 15) (hn : is.Nodup)
    (S : Sit prog w P h0 mg mb W T O env σ s) : wpAny (model prog w) A (eval (.Dict ks vs pos) env) (post prog w W T s (.isdict (is.zip ss))) E s := by
  obtain ⟨g1, g2⟩ := dPairs_shape (env := env) (pos := pos) h1 h2 hl
  refine wpAny_Dict_pairs (knd := intKind prog w) g1 (fun e => by rw [e] at g2; simp at g2; omega) (by omega) ?_
  refine pairs_ok h1 h2 hl fun vals kvs tk hc hk ht => ⟨kvs, hc, ?_, fun h' hd hs' => ?_⟩
  · refine ⟨_, #[], 0, Heap.get?_push_size _ rfl, ⟨rfl, rfl, rfl⟩, rfl, ?_, .nil, List.nodup_nil⟩
    intro e he; simp at he
  · rw [merged_nil_of_nodup kvs (by rw [hk.keys]; exact hn)] at hd
    have kp : Kp s.heap h' := fun b o e => hs'.extBut b o (Nat.ne_of_lt (Heap.lt_size e)) (Heap.get?_push_of_some _ e)
    refine ⟨T, TLe.refl _, S.tb.mono (Nat.le_trans ht (Nat.le_add_right _ _)), ⟨h', _, rfl, kp⟩, .isdict (fun q => S.wb.fresh q) ?_ hd.mapOf hk.at⟩
    have z := size_le S
    have z2 := base_two S
    have : ¬ s.heap.objs.size = sysModules := fun e => by
      have e' : s.heap.objs.size = 1 := e
      omega
    simpa using this

theorem evStep_ok (RO : RcOk prog w P h0 mg mb A R) (CO : CallOk prog w P h0 mg mb A C) (hh : A.handled = none) (hu : A.units + 10 < cLine) {e : Expr} {d : D} (h : evStep P C R σ e = some d) (S : Sit prog w P h0 mg mb W T O env σ s) :
    wpAny (model prog w) A (eval e env) (post prog w W T s d) E s := by
  unfold evStep at h
  split at h
  · exact const_ok h S.tb
  · split at h
    · rename_i x pos hp
      refine name_ok h hp.1 S fun v _ r => ⟨T, TLe.refl _, S.tb, kRefl _, r hp.2⟩
    · cases h
  · exact bool_ok RO h S
  · simp only [Option.bind_eq_some_iff] at h
    obtain ⟨a, h1, b, h2, h3⟩ := h
    exact bin_ok RO h1 h2 h3 S
  · simp only [Option.bind_eq_some_iff, Option.map_eq_some_iff] at h
    obtain ⟨a, h1, b, h2, rfl⟩ := h
    refine wpAny_UnaryOp (wpAny_mono (RO.ev h1 S) (fun v s₁ q₁ => ?_) fun _ _ q => q)
    obtain ⟨T₁, t1, tb1, k1, r1⟩ := q₁
    refine PySem.not_value (wpAny_mono (truth_ok h2 tb1 r1) (fun t' s₂ q₂ => ?_) fun _ _ q => q)
    obtain ⟨rfl, T₂, t2, tb2, k2⟩ := q₂
    exact ⟨T₂, t1.trans t2, tb2, kTrans k1 k2, .bool _⟩
  · simp only [Option.bind_eq_some_iff] at h
    obtain ⟨a, h1, h2⟩ := h
    refine wpAny_UnaryOp (wpAny_mono (RO.ev h1 S) (fun v s₁ q₁ => ?_) fun _ _ q => q)
    obtain ⟨T₁, t1, tb1, k1, r1⟩ := q₁
    split at h2
    · cases h2
      cases r1
      exact wp_up t1 k1 (lift tb1 (PySem.P.neg_int post_int))
    · cases h2
  · simp only [Option.bind_eq_some_iff] at h
    obtain ⟨c, h1, h2⟩ := h
    refine wpAny_IfExp (wpAny_mono (RO.tr h1 S) (fun b s₁ q₁ => ?_) fun _ _ q => q)
    obtain ⟨rfl, T₁, t1, tb1, k1⟩ := q₁
    have S₁ := S.step t1 tb1 k1
    cases b <;> simp only [if_true, Bool.false_eq_true, if_false] at h2 ⊢ <;> exact wp_up t1 k1 (RO.ev h2 S₁)
  · simp only [Option.bind_eq_some_iff] at h
    obtain ⟨ds, h1, h2⟩ := h
    split at h2
    · rename_i hc; cases h2; exact list_ok RO h1 hc.1 hc.2 S
    · cases h2
  · simp only [Option.bind_eq_some_iff] at h
    obtain ⟨ds, h1, h2⟩ := h
    split at h2
    · rename_i hc; cases h2; exact tuple_ok RO h1 hc.1 hc.2 S
    · cases h2
  · simp only [Option.bind_eq_some_iff] at h
    obtain ⟨is, h1, ss, h2, h3⟩ := h
    split at h3
    · rename_i hc; cases h3; exact dict_ok h1 h2 hc.1 hc.2.1 hc.2.2.1 hc.2.2.2 S
    · cases h3
  · split at h
    · rename_i hc
      simp only [Bool.and_eq_true] at hc
      simp only [Option.bind_eq_some_iff] at h
      obtain ⟨src, h1, its, h2, ds, h3, h4⟩ := h
      split at h4
      · rename_i hl; cases h4; exact comp_ok RO hh hc.1 hc.2 h1 h2 h3 hl S
      · cases h4
    · cases h
  · split at h
    · cases h
    · rename_i hs
      simp only [Option.bind_eq_some_iff, Option.map_eq_some_iff] at h
      obtain ⟨a, h1, b, h2, k, h3, rfl⟩ := h
      exact cmp_ok RO hu (by simpa using hs) h1 h2 h3 S
  · split at h
    · rename_i hc
      simp only [Option.bind_eq_some_iff] at h
      obtain ⟨a, h1, ds, h2, h3⟩ := h
      exact meth_ok RO hh hu hc.1 hc.2.2.1 hc.2.2.2.1 hc.2.2.2.2 h1 h2 h3 S
    · cases h
  · split at h
    · rename_i hc
      simp only [Bool.and_eq_true] at hc
      split at h
      · rename_i hf
        subst hf
        split at h
        · split at h
          · rename_i hi
            obtain ⟨hi1, rfl⟩ := hi
            simp only [Option.bind_eq_some_iff] at h
            obtain ⟨dx, h1, h2⟩ := h
            exact isi_ok RO hc.1.1 hi1 hc.2 h1 (by cases dx <;> exact h2) S
          · cases h
        · cases h
      · split at h
        · rename_i hb
          simp only [Option.bind_eq_some_iff] at h
          obtain ⟨ds, h1, h2⟩ := h
          exact blt_ok RO hh hc.1.1 hc.1.2 hc.2 hb h1 h2 S
        · simp only [Option.bind_eq_some_iff] at h
          obtain ⟨ds, h1, h2⟩ := h
          exact fcall_ok RO CO hc.1.1 hc.1.2 hc.2 h1 h2 S
    · cases h
  · simp only [Option.bind_eq_some_iff] at h
    obtain ⟨a, h1, l, h2, u, h3, x, h4, h5⟩ := h
    exact slice_ok RO h1 h2 h3 h4 h5 S
  · simp only [Option.bind_eq_some_iff] at h
    obtain ⟨a, h1, k, h2, h3⟩ := h
    exact item_ok RO h1 h2 h3 S
  · cases h

theorem tr_plain (RO : RcOk prog w P h0 mg mb A R) (CO : CallOk prog w P h0 mg mb A C) (hh : A.handled = none) (hu : A.units + 10 < cLine) {e : Expr} {b : Bool} (h : (evStep P C R σ e).bind truthD = some b) (S : Sit prog w P h0 mg mb W T O env σ s)
    (he : isTrue e env (eval e env) = (do let v ← eval e env; standAt e.pos; holding [v] (truthy v))) : wpAny (model prog w) A (isTrue e env (eval e env)) (postB T s b) E s := by
  simp only [Option.bind_eq_some_iff] at h
  obtain ⟨d, h1, h2⟩ := h
  refine isTrue_plain (wpAny_mono (evStep_ok RO CO hh hu h1 S) (fun v s₁ q₁ => ?_) fun _ _ q => q) he
  obtain ⟨T₁, t1, tb1, k1, r1⟩ := q₁
  refine wpAny_mono (truth_ok h2 tb1 r1) (fun t' s₂ q₂ => ?_) fun _ _ q => q
  obtain ⟨rfl, T₂, t2, tb2, k2⟩ := q₂
  exact ⟨rfl, T₂, t1.trans t2, tb2, kTrans k1 k2⟩

theorem trStep_ok (RO : RcOk prog w P h0 mg mb A R) (CO : CallOk prog w P h0 mg mb A C) (hh : A.handled = none) (hu : A.units + 10 < cLine) {e : Expr} {b : Bool} (h : trStep P C R σ e = some b) (S : Sit prog w P h0 mg mb W T O env σ s) :
    wpAny (model prog w) A (isTrue e env (eval e env)) (postB T s b) E s := by
  unfold trStep at h
  split at h
  · simp only [Option.map_eq_some_iff] at h
    obtain ⟨b', h1, rfl⟩ := h
    refine PyProof.Rows.isTrue_not (wpAny_mono (RO.tr h1 S) (fun c s₁ q₁ => ?_) fun _ _ q => q)
    obtain ⟨rfl, q⟩ := q₁
    exact ⟨rfl, q⟩
  · exact allTrue_ok RO h S
  · simp only [Option.bind_eq_some_iff] at h
    obtain ⟨c, h1, h2⟩ := h
    refine PyProof.Rows.isTrue_IfExp (wpAny_mono (RO.tr h1 S) (fun b' s₁ q₁ => ?_) fun _ _ q => q)
    obtain ⟨rfl, T₁, t1, tb1, k1⟩ := q₁
    have S₁ := S.step t1 tb1 k1
    have up : ∀ {x : Expr}, R.tr σ x = some b → wpAny (model prog w) A (isTrue x env (eval x env)) (postB T s b) E s₁ := fun hx => wpAny_mono (RO.tr hx S₁) (fun _ _ q => let ⟨z, T₂, a, b, c⟩ := q; ⟨z, T₂, t1.trans a, b, kTrans k1 c⟩) fun _ _ q => q
    cases b' <;> simp only [if_true, Bool.false_eq_true, if_false] at h2 ⊢ <;> exact up h2
  · rename_i e' n1 n2 n3
    cases e with
    | Compare l ops rs pos =>
      have h' := h
      simp only [Option.bind_eq_some_iff] at h'
      obtain ⟨d, h1, h2⟩ := h'
      unfold evStep at h1
      split at h1 <;> try (rename_i hx; cases hx)
      all_goals first
        | (split at h1
           · cases h1
           · rename_i hs
             simp only [Option.bind_eq_some_iff, Option.map_eq_some_iff] at h1
             obtain ⟨a, h1, b', h2', k, h3, rfl⟩ := h1
             simp only [truthD, Option.some.injEq] at h2
             subst h2
             exact cmpT_ok RO hu (by simpa using hs) h1 h2' h3 S)
        | cases h1
    | BoolOp op vs p => exact absurd rfl (n2 op vs p)
    | IfExp a b c p => exact absurd rfl (n3 a b c p)
    | UnaryOp op x p =>
      cases op with
      | Not => exact absurd rfl (n1 x p)
      | _ => exact tr_plain RO CO hh hu h S rfl
    | _ => exact tr_plain RO CO hh hu h S rfl

theorem rc_ok (CO : CallOk prog w P h0 mg mb A C) (hh : A.handled = none) (hu : A.units + 10 < cLine) : ∀ n, RcOk prog w P h0 mg mb A (rc P C n)
  | 0 => ⟨fun h => (by simp [rc] at h), fun h => (by simp [rc] at h)⟩
  | n + 1 => ⟨fun h _ _ S => evStep_ok (rc_ok CO hh hu n) CO hh hu h S, fun h _ _ S => trStep_ok (rc_ok CO hh hu n) CO hh hu h S⟩
end Mine
end
section
namespace Mine
open PySem PyProof.Rows PySem.SeqAt

variable {prog : Program} {w : World} {A : Around} {E : Value → Shared → Prop} {W W' : Addr → Prop} {T T' : Tm} {s s' : Shared} {P : PI} {n0 : Nat} {h0 : Heap} {mg mb : Str → Option Value} {O : Addr → Prop} {env : Env} {σ σ' : St} {R : Rc} {C : CallS}

/-- what statements may do to the places -/
structure Stp (env : Env) (ns : List (Str × NameKind)) (W O : Addr → Prop) (s : Shared) (W' O' : Addr → Prop) (s' : Shared) : Prop where
  keep : KeepsB (fun a => Mut0 env ns a ∨ O a) s s'
  wn : ∀ a, W' a → W a ∨ s.heap.get? a = none
  on : ∀ a, O' a → O a ∨ s.heap.get? a = none
  wo : ∀ a, W a → W' a ∨ O a

theorem Stp.refl {ns : List (Str × NameKind)} : Stp env ns W O s W O s := ⟨.refl, fun _ q => .inl q, fun _ q => .inl q, fun _ q => .inl q⟩
theorem Stp.keeps {ns : List (Str × NameKind)} (k : Keeps s s') : Stp env ns W O s W O s' := ⟨.of k, fun _ q => .inl q, fun _ q => .inl q, fun _ q => .inl q⟩
theorem Stp.mut {ns : List (Str × NameKind)} (k : KeepsB (Mut0 env ns) s s') : Stp env ns W O s W O s' := ⟨k.sub fun _ q => .inl q, fun _ q => .inl q, fun _ q => .inl q, fun _ q => .inl q⟩

theorem Stp.trans {ns : List (Str × NameKind)} {O' W'' O'' : Addr → Prop} {s'' : Shared} (S : Sit prog w P h0 mg mb W T O env σ s) (hn : σ.names = ns) (S' : Sit prog w P h0 mg mb W' T' O' env σ' s') (hn' : σ'.names = ns) (a : Stp env ns W O s W' O' s') (b : Stp env ns W' O' s' W'' O'' s'') : Stp env ns W O s W'' O'' s'' := by
  have none_of : ∀ x, s'.heap.get? x = none → W x ∨ s.heap.get? x = none := fun x e => by
    cases e' : s.heap.get? x with
    | none => exact .inr rfl
    | some o =>
      by_cases q : Mut0 env ns x ∨ O x
      · exact .inl (q.elim (fun q => Mut0.sub S.en (hn ▸ q)) fun q => S.ow x q)
      · have := a.keep.kp x o q e'
        rw [e] at this; cases this
  refine ⟨?_, fun x q => ?_, fun x q => ?_, fun x q => ?_⟩
  · obtain ⟨h1, t1, rfl, k1⟩ := a.keep
    obtain ⟨h2, t2, rfl, k2⟩ := b.keep
    refine ⟨h2, t2, rfl, fun x o hx e => k2 x o (fun q => ?_) (k1 x o hx e)⟩
    rcases q with q | q
    · exact hx (.inl q)
    · rcases a.on x q with q | q
      · exact hx (.inr q)
      · rw [e] at q; cases q
  · rcases b.wn x q with q | q
    · exact a.wn x q
    · exact none_of x q
  · rcases b.on x q with q | q
    · exact a.on x q
    · cases e' : s.heap.get? x with
      | none => exact .inr rfl
      | some o =>
        by_cases q' : Mut0 env ns x ∨ O x
        · rcases q' with q' | q'
          · obtain ⟨_, o', e3⟩ := S'.wb x (Mut0.sub S'.en (hn' ▸ q'))
            rw [q] at e3; cases e3
          · exact .inl q'
        · have := a.keep.kp x o q' e'
          rw [q] at this; cases this
  · rcases a.wo x q with q' | q'
    · rcases b.wo x q' with q'' | q''
      · exact .inl q''
      · rcases a.on x q'' with q3 | q3
        · exact .inr q3
        · obtain ⟨_, o, e⟩ := S.wb x q
          rw [e] at q3; cases q3
    · exact .inr q'

/-- behind a statement that goes on -/
def Aft (prog : Program) (w : World) (P : PI) (h0 : Heap) (mg mb : Str → Option Value) (W : Addr → Prop) (T : Tm) (O : Addr → Prop) (env : Env) (σ : St) (s : Shared) (σ' : St) (s' : Shared) : Prop :=
  σ'.names = σ.names ∧ ∃ W' O' T', Sit prog w P h0 mg mb W' T' O' env σ' s' ∧ TLe T T' ∧ Stp env σ.names W O s W' O' s'

/-- behind a statement that returns -/
def RetD (prog : Program) (w : World) (W : Addr → Prop) (T : Tm) (O : Addr → Prop) (env : Env) (σ : St) (s : Shared) (d : D) (v : Value) (s' : Shared) : Prop :=
  ∃ W' O' T', TLe T T' ∧ TB T' s'.toks ∧ Stp env σ.names W O s W' O' s' ∧ Rep prog w W' T' s'.heap v d

def flPost (prog : Program) (w : World) (P : PI) (h0 : Heap) (mg mb : Str → Option Value) (W : Addr → Prop) (T : Tm) (O : Addr → Prop) (env : Env) (σ : St) (s : Shared) : Fl → Flow → Shared → Prop
  | .next σ', fl, s' => fl = .next ∧ Aft prog w P h0 mg mb W T O env σ s σ' s'
  | .ret d, fl, s' => ∃ v, fl = .ret v ∧ RetD prog w W T O env σ s d v s'

/-- the statement reader's words are so -/
def XOk (prog : Program) (w : World) (P : PI) (h0 : Heap) (mg mb : Str → Option Value) (A : Around) (X : St → Stmt → Option Fl) : Prop :=
  ∀ {W T O env σ st f}, X σ st = some f → ∀ {s E}, Sit prog w P h0 mg mb W T O env σ s → wpAny (model prog w) A (exec st env) (flPost prog w P h0 mg mb W T O env σ s f) E s

theorem flPost.step {f : Fl} {s₁ : Shared} {σ₁ : St} (S : Sit prog w P h0 mg mb W T O env σ s) (h : Aft prog w P h0 mg mb W T O env σ s σ₁ s₁)
    {Q : Flow → Shared → Prop} {t : Sem Flow} (k : ∀ {W₁ T₁ O₁}, Sit prog w P h0 mg mb W₁ T₁ O₁ env σ₁ s₁ → wpAny (model prog w) A t (flPost prog w P h0 mg mb W₁ T₁ O₁ env σ₁ s₁ f) E s₁)
    (hQ : ∀ fl s', flPost prog w P h0 mg mb W T O env σ s f fl s' → Q fl s') : wpAny (model prog w) A t Q E s₁ := by
  obtain ⟨hn, W₁, O₁, T₁, S₁, t1, st1⟩ := h
  refine wpAny_mono (k S₁) (fun fl s' q => hQ fl s' ?_) fun _ _ q => q
  cases f with
  | next σ' =>
    obtain ⟨rfl, hn', W₂, O₂, T₂, S₂, t2, st2⟩ := q
    exact ⟨rfl, hn'.trans hn, W₂, O₂, T₂, S₂, t1.trans t2, Stp.trans S rfl S₁ hn st1 (hn ▸ st2)⟩
  | ret d =>
    obtain ⟨v, rfl, W₂, O₂, T₂, t2, tb2, st2, r⟩ := q
    exact ⟨v, rfl, W₂, O₂, T₂, t1.trans t2, tb2, Stp.trans S rfl S₁ hn st1 (hn ▸ st2), r⟩

theorem execs_ok {X : St → Stmt → Option Fl} (XO : XOk prog w P h0 mg mb A X) : ∀ {body : List Stmt} {f : Fl} {σ : St} {s : Shared} {W : Addr → Prop} {T : Tm} {O : Addr → Prop}, exsD X σ body = some f → Sit prog w P h0 mg mb W T O env σ s →
    wpAny (model prog w) A (execs body env) (flPost prog w P h0 mg mb W T O env σ s f) E s
  | [], f, σ, s, W, T, O, h, S => by
    simp only [exsD, Option.some.injEq] at h
    subst h
    exact wpAny_execs_nil ⟨rfl, rfl, W, O, T, S, TLe.refl _, .refl⟩
  | st :: r, f, σ, s, W, T, O, h, S => by
    simp only [exsD, Option.bind_eq_some_iff] at h
    obtain ⟨f1, h1, h2⟩ := h
    refine wpAny_execs_cons (wpAny_mono (XO h1 S) (fun fl s₁ q => ?_) fun _ _ q => q)
    cases f1 with
    | next σ₁ =>
      obtain ⟨rfl, q⟩ := q
      exact flPost.step S q (fun S₁ => execs_ok XO h2 S₁) fun _ _ q => q
    | ret d =>
      obtain ⟨v, rfl, q⟩ := q
      simp only [Option.some.injEq] at h2
      subst h2
      exact ⟨v, rfl, q⟩
end Mine
end
section
namespace Mine
open PySem PyProof.Rows PySem.SeqAt

variable {prog : Program} {w : World} {A : Around} {E : Value → Shared → Prop} {W W' : Addr → Prop} {T T' : Tm} {s s' : Shared} {P : PI} {n0 : Nat} {h0 : Heap} {mg mb : Str → Option Value} {O : Addr → Prop} {env : Env} {σ σ' : St} {R : Rc} {C : CallS}

/-- the owned place -/
def Owned (prog : Program) (w : World) (W : Addr → Prop) (T : Tm) (O : Addr → Prop) (L : Addr) (h : Heap) (a : Addr) : Prop := O a ∧ a ≠ L ∧ ∃ d, OwnAt prog w W T h a d

theorem freeze_own {x : Str} (S : Sit prog w P h0 mg mb W T O env σ s) (ho : σ.own = some x) : ∃ W' O', Sit prog w P h0 mg mb W' T O' env { σ with own := none } s ∧ Stp env σ.names W O s W' O' s := by
  refine ⟨fun b => W b ∧ ¬ Owned prog w W T O env.locals s.heap b, fun b => O b ∧ ¬ Owned prog w W T O env.locals s.heap b, ⟨S.gf, fun a q => S.wb a q.1, ?_, S.tb, fun a q => ⟨S.ow a q.1, q.2⟩⟩, .refl, fun a q => .inl q.1, fun a q => .inl q.1, fun a q => ?_⟩
  · have conv : ∀ y v d, VRep prog w W T s.heap O env.locals σ.own y v d → VRep prog w (fun b => W b ∧ ¬ Owned prog w W T O env.locals s.heap b) T s.heap (fun b => O b ∧ ¬ Owned prog w W T O env.locals s.heap b) env.locals none y v d := fun y v d r => by
      unfold VRep at r ⊢
      rw [if_neg (fun q => nomatch q)]
      split at r
      · obtain ⟨a, rfl, g1, g2, g3⟩ := r
        have own : Owned prog w W T O env.locals s.heap a := ⟨g1, g2, d, g3⟩
        cases g3 with
        | list e1 e2 => exact .list (fun q => q.2 own) e1 (e2.anti fun b q => .inl q.1)
        | iidict e1 =>
          obtain ⟨e1, kvs, e2, e3, e4⟩ := e1
          exact .iidict (fun q => q.2 own) e1 e2 e3 e4
      · exact r.anti fun b q => .inl q.1
    refine ⟨S.en.kind, S.en.gl, S.en.bl, S.en.nm, S.en.cd, ⟨S.en.loc, fun q => q.2.1 rfl⟩, ?_, fun z e => ?_, S.en.apart⟩
    · obtain ⟨l, g1, g2⟩ := S.en.ns
      exact ⟨l, g1, fun z d e1 e2 => let ⟨v, e3, r⟩ := g2 z d e1 e2; ⟨v, e3, conv _ _ _ r⟩⟩
    · obtain ⟨a, v, g1, g2, g3, g4⟩ := S.en.cell z e
      refine ⟨a, v, g1, ⟨g2, fun q => ?_⟩, g3, fun d e => let ⟨u, e3, r⟩ := g4 d e; ⟨u, e3, conv _ _ _ r⟩⟩
      obtain ⟨_, _, d, q⟩ := q
      obtain ⟨o, e1, e2⟩ := q.some
      obtain ⟨o', e1', e2'⟩ := g3
      rw [e1] at e1'; cases e1'
      exact e2 _ e2'
  · by_cases own : Owned prog w W T O env.locals s.heap a
    · exact .inr own.1
    · exact .inl ⟨q, own⟩

theorem freeze_ok {e : Expr} (S : Sit prog w P h0 mg mb W T O env σ s) : ∃ W' O', Sit prog w P h0 mg mb W' T O' env (freeze σ e) s ∧ Stp env σ.names W O s W' O' s ∧ (freeze σ e).names = σ.names := by
  unfold freeze
  split
  · rename_i h
    obtain ⟨x, hx⟩ := Option.isSome_iff_exists.mp h.1
    obtain ⟨W', O', S', st⟩ := freeze_own S hx
    exact ⟨W', O', S', st, rfl⟩
  · exact ⟨W, O, S, .refl, rfl⟩

theorem ret_ok (RO : RcOk prog w P h0 mg mb A R) {e : Expr} {pos : Pos} {d : D} (h : R.ev (freeze σ e) e = some d) (S : Sit prog w P h0 mg mb W T O env σ s) :
    wpAny (model prog w) A (exec (.Return (some e) pos) env) (flPost prog w P h0 mg mb W T O env σ s (.ret d)) E s := by
  obtain ⟨W', O', S', st, hn⟩ := freeze_ok (e := e) S
  refine wpAny_Return_some (wpAny_mono (RO.ev h S') (fun v s₁ q₁ => ?_) fun _ _ q => q)
  obtain ⟨T₁, t1, tb1, k1, r1⟩ := q₁
  exact ⟨v, rfl, W', O', T₁, t1, tb1, Stp.trans S rfl S' hn st (Stp.keeps k1), r1⟩

theorem if_ok {X : St → Stmt → Option Fl} (RO : RcOk prog w P h0 mg mb A R) (XO : XOk prog w P h0 mg mb A X) {t : Expr} {b o : List Stmt} {pos : Pos} {c : Bool} {f : Fl} (h1 : R.tr σ t = some c) (h2 : exsD X σ (if c then b else o) = some f) (S : Sit prog w P h0 mg mb W T O env σ s) :
    wpAny (model prog w) A (exec (.If t b o pos) env) (flPost prog w P h0 mg mb W T O env σ s f) E s := by
  refine wpAny_If (wpAny_mono (RO.tr h1 S) (fun c' s₁ q₁ => ?_) fun _ _ q => q)
  obtain ⟨rfl, T₁, t1, tb1, k1⟩ := q₁
  have S₁ := S.step t1 tb1 k1
  have go : ∀ {body : List Stmt}, exsD X σ body = some f → wpAny (model prog w) A (execs body env) (flPost prog w P h0 mg mb W T O env σ s f) E s₁ := fun hb =>
    flPost.step (σ₁ := σ) S ⟨rfl, W, O, T₁, S₁, t1, Stp.keeps k1⟩ (fun S₂ => execs_ok XO hb S₂) fun _ _ q => q
  cases c' <;> simp only [if_true, Bool.false_eq_true, if_false] at h2 ⊢ <;> exact go h2

theorem assert_ok (RO : RcOk prog w P h0 mg mb A R) {t : Expr} {m : Option Expr} {pos : Pos} (h1 : R.tr σ t = some true) (S : Sit prog w P h0 mg mb W T O env σ s) :
    wpAny (model prog w) A (exec (.Assert t m pos) env) (flPost prog w P h0 mg mb W T O env σ s (.next σ)) E s := by
  refine wpAny_Assert_holds (wpAny_mono (RO.tr h1 S) (fun c' s₁ q₁ => ?_) fun _ _ q => q)
  obtain ⟨rfl, T₁, t1, tb1, k1⟩ := q₁
  exact ⟨rfl, rfl, rfl, W, O, T₁, S.step t1 tb1 k1, t1, Stp.keeps k1⟩

theorem setVar_var {x : Str} {d : D} (e : setVar σ x d = some σ') : isVarKind (σ.names.lookup x) = true := by
  unfold setVar at e
  split at e
  · rename_i hx
    unfold isVarKind
    simp only [Bool.or_eq_true] at hx ⊢
    exact .inl hx
  · cases e

theorem load_ok {x : Str} {d : D} (e : σ.vars.lookup x = some d) (hk : isVarKind (σ.names.lookup x) = true) (S : Sit prog w P h0 mg mb W T O env σ s) {Q : Value → Shared → Prop}
    (hQ : ∀ v, VRep prog w W T s.heap O env.locals σ.own x v d → Q v s) : wpAny (model prog w) A (loadName env x) Q E s := by
  by_cases hl : σ.names.lookup x = some .local
  · obtain ⟨m, h1, h2⟩ := S.en.ns
    obtain ⟨v, h3, r⟩ := h2 x d hl e
    exact wpAny_loadName_local S.en.kind (kindOf_local S.en hl) h1 h3 (hQ v r)
  · have hc : isCellKind (σ.names.lookup x) = true := by
      unfold isVarKind at hk; unfold isCellKind
      simp only [Bool.or_eq_true, beq_iff_eq] at hk ⊢
      rcases hk with (hk | hk) | hk
      · exact absurd hk hl
      · exact .inl hk
      · exact .inr hk
    obtain ⟨a, v, h1, h2, h3, h4⟩ := S.en.cell x hc
    obtain ⟨u, rfl, r⟩ := h4 d e
    unfold isCellKind at hc
    simp only [Bool.or_eq_true, beq_iff_eq] at hc
    rcases hc with hc | hc
    · rcases S.en.nm x _ hc with h | ⟨h, _⟩
      · exact wpAny_loadName_cell S.en.kind h h1 h3 (hQ u r)
      · cases h
    · rcases S.en.nm x _ hc with h | ⟨_, h⟩
      · exact wpAny_loadName_free S.en.kind h h1 h3 (hQ u r) (S.en.cd x _ hc)
      · exact wpAny_loadName_cell S.en.kind h h1 h3 (hQ u r)

theorem aug_ok (RO : RcOk prog w P h0 mg mb A R) {x : Str} {np pos : Pos} {op : Operator} {v : Expr} {p q r : Int} (ho : ¬ σ.own = some x) (h1 : nameD P σ x = some (.int p)) (h2 : R.ev σ v = some (.int q)) (h3 : setVar σ x (.int r) = some σ')
    (hop : op = .Add ∧ r = p + q ∨ op = .Sub ∧ r = p - q) (S : Sit prog w P h0 mg mb W T O env σ s) :
    wpAny (model prog w) A (exec (.AugAssign (.Name x np) op v pos) env) (flPost prog w P h0 mg mb W T O env σ s (.next σ')) E s := by
  have hk := setVar_var h3
  unfold nameD at h1
  rw [if_pos hk] at h1
  refine wpAny_AugAssign_Name (load_ok h1 hk S fun u r1 => ?_)
  unfold VRep at r1
  rw [if_neg ho] at r1
  cases r1 with | int _ t => ?_
  refine wpAny_mono (RO.ev h2 S) (fun u s₁ q₁ => ?_) fun _ _ q => q
  obtain ⟨T₁, t1, tb1, k1, r2⟩ := q₁
  cases r2 with | int _ t' => ?_
  have S₁ := S.step t1 tb1 k1
  have fin : ∀ (z : Tok), wpAny (model prog w) A (storeName env x (.int r z)) (fun _ s' => flPost prog w P h0 mg mb W T O env σ s (.next σ') .next s') E { s₁ with toks := s₁.toks + 1 } := fun z => by
    have S₂ : Sit prog w P h0 mg mb W T₁ O env σ { s₁ with toks := s₁.toks + 1 } := S₁.step (TLe.refl _) (tb1.mono (Nat.le_succ _)) kTok
    refine store_ok S₂ h3 (.int _ _) fun s₃ S₃ k3 => ⟨rfl, setVar_names h3, W, O, T₁, S₃, t1, Stp.trans S rfl S₂ rfl (Stp.keeps (kTrans k1 kTok)) (Stp.mut k3)⟩
  rcases hop with ⟨rfl, rfl⟩ | ⟨rfl, rfl⟩
  · exact PySem.AutoIntOps.iadd_0 (fin _)
  · exact PySem.AutoIntOps.isub_0 (fin _)
end Mine
end
section
namespace Mine
open PySem PyProof.Rows PySem.SeqAt

variable {prog : Program} {w : World} {A : Around} {E : Value → Shared → Prop} {W W' : Addr → Prop} {T T' : Tm} {s s' : Shared} {P : PI} {n0 : Nat} {h0 : Heap} {mg mb : Str → Option Value} {O : Addr → Prop} {env : Env} {σ σ' : St} {R : Rc} {C : CallS}

theorem freeze_any (S : Sit prog w P h0 mg mb W T O env σ s) : ∃ W' O', Sit prog w P h0 mg mb W' T O' env { σ with own := none } s ∧ Stp env σ.names W O s W' O' s := by
  cases ho : σ.own with
  | none =>
    have : ({ σ with own := none } : St) = σ := by cases σ; simp at ho; subst ho; rfl
    rw [this]
    exact ⟨W, O, S, .refl⟩
  | some x => exact freeze_own S ho

/-- a place made meanwhile joins W -/
theorem Sit.later {a : Addr} {T₁ : Tm} {s₁ : Shared} (S : Sit prog w P h0 mg mb W T O env σ s) (t1 : TLe T T₁) (tb1 : TB T₁ s₁.toks) (k : Keeps s s₁) (hn : s.heap.get? a = none) (ha : ∃ o, s₁.heap.get? a = some o) (hz : h0.objs.size ≤ a) :
    Sit prog w P h0 mg mb (fun b => W b ∨ b = a) T₁ O env σ s₁ := by
  refine ⟨S.gf.kp (kKp k), fun b q => ?_, (S.en.grow (fun b q => q.elim .inl fun q => .inr (q ▸ hn)) fun b q => .inl q).kp t1 (kKp k), tb1, fun b q => .inl (S.ow b q)⟩
  rcases q with q | rfl
  · obtain ⟨h1, o, e⟩ := S.wb b q
    exact ⟨h1, o, kKp k b o e⟩
  · exact ⟨hz, ha⟩

theorem EnvOk.moreO {O' : Addr → Prop} {h : Heap} (x : EnvOk prog w W T h O env σ) (ho : ∀ a, O a → O' a) : EnvOk prog w W T h O' env σ := by
  have up : ∀ y v d, VRep prog w W T h O env.locals σ.own y v d → VRep prog w W T h O' env.locals σ.own y v d := fun y v d r => by
    unfold VRep at r ⊢
    split at r
    · rename_i h1
      obtain ⟨a, rfl, g1, g2, g3⟩ := r
      rw [if_pos h1]
      exact ⟨a, rfl, ho a g1, g2, g3⟩
    · rename_i h1
      rw [if_neg h1]; exact r
  exact ⟨x.kind, x.gl, x.bl, x.nm, x.cd, x.loc, let ⟨l, g1, g2⟩ := x.ns; ⟨l, g1, fun z d e1 e2 => let ⟨v, e3, r⟩ := g2 z d e1 e2; ⟨v, e3, up _ _ _ r⟩⟩,
    fun z e => let ⟨a, v, g1, g2, g3, g4⟩ := x.cell z e; ⟨a, v, g1, g2, g3, fun d e => let ⟨u, e3, r⟩ := g4 d e; ⟨u, e3, up _ _ _ r⟩⟩, x.apart⟩

/-- a name takes a new list or dict as its own -/
theorem own_store {x : Str} {a : Addr} {d : D} {T₁ : Tm} {s₁ : Shared} (S : Sit prog w P h0 mg mb W T O env σ s) (t1 : TLe T T₁) (tb1 : TB T₁ s₁.toks) (k : Keeps s s₁) (hn : s.heap.get? a = none) (ha : ∃ o, s₁.heap.get? a = some o) (hz : h0.objs.size ≤ a)
    (own : OwnAt prog w (fun b => W b ∨ b = a) T₁ s₁.heap a d) (e : ownSet σ x d = some σ') :
    wpAny (model prog w) A (storeName env x (.ref a)) (fun _ s' => Aft prog w P h0 mg mb W T O env σ s σ' s') E s₁ := by
  unfold ownSet at e
  split at e
  · rename_i hx
    cases e
    obtain ⟨W', O', S', st⟩ := freeze_any S
    have S₁ := S'.later t1 tb1 k hn ha hz
    have S₂ : Sit prog w P h0 mg mb (fun b => W' b ∨ b = a) T₁ (fun b => O' b ∨ b = a) env { σ with own := none } s₁ := ⟨S₁.gf, S₁.wb, S₁.en.moreO fun b q => .inl q, S₁.tb, fun b q => q.elim (fun q => .inl (S'.ow b q)) .inr⟩
    have hL : a ≠ env.locals := fun q => by
      obtain ⟨_, o, e⟩ := S.wb _ S.en.loc
      rw [← q, hn] at e; cases e
    refine store_gen (own' := some x) (d := d) S₂ hx ?_ (fun y hy => ⟨fun q => by cases q; exact absurd rfl hy, fun q => nomatch q⟩) fun s₂ S₃ k₃ => ?_
    · unfold VRep
      rw [if_pos rfl]
      refine ⟨a, rfl, .inr rfl, hL, own.anti fun b q => .inl ?_⟩
      rcases q with q | q
      · rcases st.wn b q with q' | q'
        · exact .inl q'
        · obtain ⟨_, o, e⟩ := S'.wb b q
          rw [q'] at e; cases e
      · exact .inr q
    · refine ⟨rfl, _, _, T₁, S₃, t1, ?_⟩
      have nn : ∀ b, s₁.heap.get? b = none → s.heap.get? b = none := fun b e => by
        cases e' : s.heap.get? b with
        | none => rfl
        | some o => rw [kKp k b o e'] at e; cases e
      refine ⟨?_, fun b q => ?_, fun b q => ?_, fun b q => ?_⟩
      · obtain ⟨h1, tk1, rfl, k1⟩ := k
        obtain ⟨h2, tk2, rfl, k2⟩ := k₃
        exact ⟨h2, tk2, rfl, fun b o hb e => k2 b o (fun q => hb (.inl q)) (k1 b o e)⟩
      · rcases q with q | rfl
        · exact st.wn b q
        · exact .inr hn
      · rcases q with q | rfl
        · exact st.on b q
        · exact .inr hn
      · rcases st.wo b q with q' | q'
        · exact .inl (.inl q')
        · exact .inr q'
  · cases e

theorem flNext (h : Aft prog w P h0 mg mb W T O env σ s σ' s') : flPost prog w P h0 mg mb W T O env σ s (.next σ') .next s' := ⟨rfl, h⟩

theorem newList_ok {x : Str} {np lp pos : Pos} (e : ownSet σ x (.list []) = some σ') (S : Sit prog w P h0 mg mb W T O env σ s) :
    wpAny (model prog w) A (exec (.Assign [.Name x np] (.List [] lp) pos) env) (flPost prog w P h0 mg mb W T O env σ s (.next σ')) E s := by
  refine wpAny_Assign_Name ?_
  refine wpAny_List ?_
  refine PySem.Calls.spliced_nil ⟨by unfold sizeLine; simp, ?_⟩
  have pl : ({ s with heap := s.heap.push { cls := .type "list", data := .seq ([] : List Value).toArray } } : Shared).heap.PlainList s.heap.objs.size #[] := ⟨_, Heap.get?_push_size _ rfl⟩
  refine wpAny_mono (own_store S (TLe.refl _) S.tb kPush (get_size _) ⟨_, Heap.get?_push_size _ rfl⟩ (size_le S) (.list pl .nil) e) (fun _ s' q => flNext q) fun _ _ q => q

theorem newDict_ok {x : Str} {np lp pos : Pos} (e : ownSet σ x (.iidict []) = some σ') (S : Sit prog w P h0 mg mb W T O env σ s) :
    wpAny (model prog w) A (exec (.Assign [.Name x np] (.Dict [] [] lp) pos) env) (flPost prog w P h0 mg mb W T O env σ s (.next σ')) E s := by
  refine wpAny_Assign_Name ?_
  refine wpAny_Dict_empty ?_
  have dd : ({ s with heap := s.heap.push { cls := .type "dict", data := .dict #[] } } : Shared).heap.DictOf (intKind prog w) s.heap.objs.size [] := by
    refine ⟨_, #[], 0, Heap.get?_push_size _ rfl, ⟨rfl, rfl, rfl⟩, rfl, ?_, .nil, List.nodup_nil⟩
    intro e he; simp at he
  have hm : (s.heap.objs.size == sysModules) = false := by
    have z := size_le S
    have z2 := base_two S
    have : ¬ s.heap.objs.size = sysModules := fun e => by
      have e' : s.heap.objs.size = 1 := e
      omega
    simpa using this
  refine wpAny_mono (own_store S (TLe.refl _) S.tb kPush (get_size _) ⟨_, Heap.get?_push_size _ rfl⟩ (size_le S) (.iidict ⟨hm, [], dd, rfl, fun k => ⟨fun _ => rfl, fun i e => by simp at e⟩⟩) e) (fun _ s' q => flNext q) fun _ _ q => q
end Mine
end
section
namespace Mine
open PySem PyProof.Rows PySem.SeqAt

variable {prog : Program} {w : World} {A : Around} {E : Value → Shared → Prop} {W W' : Addr → Prop} {T T' : Tm} {s s' : Shared} {P : PI} {n0 : Nat} {h0 : Heap} {mg mb : Str → Option Value} {O : Addr → Prop} {env : Env} {σ σ' : St} {R : Rc} {C : CallS}

theorem split_ok (RO : RcOk prog w P h0 mg mb A R) {x y : Str} {np yp ap p pos : Pos} {e : Expr} {u v : Str} {d : D} (hp : plainName y = true) (ho : ¬ σ.own = some y) (hs : noStar [e] = true) (hline : ap.endLine = p.line)
    (h1 : nameD P σ y = some (.str u)) (h2 : R.ev σ e = some (.str v)) (h3 : methD (.str u) "split" [.str v] = some d) (h4 : ownSet σ x d = some σ') (S : Sit prog w P h0 mg mb W T O env σ s) :
    wpAny (model prog w) A (exec (.Assign [.Name x np] (.Call (.Attribute (.Name y yp) "split" ap) [e] [] p) pos) env) (flPost prog w P h0 mg mb W T O env σ s (.next σ')) E s := by
  refine wpAny_Assign_Name ?_
  obtain ⟨g1, g2⟩ := noStar_plain (env := env) (pos := p) hs
  refine wpAny_Call_method (T := "str") (id := "str.split") (base_ok (o := .Name y yp) hp) ?_ (by rw [hline]; simp) F.plainAttrs_str F.slot_str_split F.type_str_split ?_
  · rw [g2]
    simp [backToKw, keywordEach]
  refine name_ok h1 hp S fun va _ r => ?_
  have r := r ho
  cases r with | str _ t => ?_
  refine ⟨typeIs_str _ _ _, noDict_str, PySem.Calls.callWith_builtin g1 (evalArgs_ok hs ?_)⟩
  rw [(starEach_cons (env := env) hs).1]
  show wpAny (model prog w) A (spliced ((false, eval e env) :: [])) _ E s
  refine PySem.Calls.spliced_cons (wpAny_mono (RO.ev h2 S) (fun vb s₁ q₁ => PySem.Calls.spliced_nil ?_) fun _ _ q => q)
  obtain ⟨T₁, t1, tb1, k1, r1⟩ := q₁
  cases r1 with | str _ t' => ?_
  have S₁ := S.step t1 tb1 k1
  have hm : methD (.str u) "split" [.str v] = if v.length = 0 ∨ 2 ^ 20 < u.length then none else some (.list ((Txt.split u v).map .str)) := by
    unfold methD
    simp (config := { decide := true })
  rw [hm] at h3
  split at h3
  · cases h3
  rename_i hc
  cases h3
  have l2 := parts_len u v
  show wpAny (model prog w) A (call (.builtin "str.split") [.str u t, .str v t']) _ E s₁
  refine wpAny_with_toks (n := s₁.toks) (Nat.le_refl _) (split_at (by simp; omega) (fun l tk hl htk => ?_) (by unfold sizeLine; omega) (by unfold sizeLine; omega))
  have pl : ({ s₁ with heap := s₁.heap.push { cls := .type "list", data := .seq (strValues l).toArray }, toks := tk } : Shared).heap.PlainList s₁.heap.objs.size (strValues l).toArray := ⟨_, Heap.get?_push_size _ rfl⟩
  have kk : Keeps s₁ { s₁ with heap := s₁.heap.push { cls := .type "list", data := .seq (strValues l).toArray }, toks := tk } := ⟨_, _, rfl, fun _ _ e => Heap.get?_push_of_some _ e⟩
  have hn : s.heap.get? s₁.heap.objs.size = none := by
    cases e : s.heap.get? s₁.heap.objs.size with
    | none => rfl
    | some o => exact absurd (Heap.lt_size (kKp k1 _ _ e)) (Nat.lt_irrefl _)
  refine wpAny_mono (own_store S t1 (tb1.mono htk) (kTrans k1 kk) hn ⟨_, Heap.get?_push_size _ rfl⟩ (size_le S₁) (.list pl ?_) h4) (fun _ s' q => flNext q) fun _ _ q => q
  rw [← hl]
  exact reps_strValues l

/-- what the reader of expressions reads of comprehensions -/
structure RcX (prog : Program) (w : World) (P : PI) (h0 : Heap) (mg mb : Str → Option Value) (A : Around) (R : Rc) : Prop where
  comp : ∀ {σ elt gens sc p d}, R.ev σ (.ListComp elt gens sc p) = some d → ∃ R' g gs src its ds, RcOk prog w P h0 mg mb A R' ∧ gens = g :: gs ∧ scopeOk σ sc = true ∧ gensOk (g :: gs) = true ∧ R'.ev σ g.iter = some src ∧ itemsD src = some its ∧
    compD R' elt (g :: gs) (enterC σ sc) its = some ds ∧ ds.length ≤ 2 ^ 20 ∧ d = .list ds
  noSet : ∀ {σ a b c p}, R.ev σ (.SetComp a b c p) = none
  noDict : ∀ {σ a b c d p}, R.ev σ (.DictComp a b c d p) = none

theorem rcx (CO : CallOk prog w P h0 mg mb A C) (hh : A.handled = none) (hu : A.units + 10 < cLine) : ∀ n, RcX prog w P h0 mg mb A (rc P C n)
  | 0 => ⟨fun h => (by simp [rc] at h), rfl, rfl⟩
  | n + 1 => by
    refine ⟨fun {σ elt gens sc p d} h => ?_, rfl, rfl⟩
    have h : evStep P C (rc P C n) σ (.ListComp elt gens sc p) = some d := h
    cases gens with
    | nil => simp [evStep] at h
    | cons g gs =>
      unfold evStep at h
      simp only at h
      split at h
      · rename_i hc
        simp only [Bool.and_eq_true] at hc
        simp only [Option.bind_eq_some_iff] at h
        obtain ⟨src, h1, its, h2, ds, h3, h4⟩ := h
        split at h4
        · rename_i hl
          cases h4
          exact ⟨rc P C n, g, gs, src, its, ds, rc_ok CO hh hu n, rfl, hc.1, hc.2, h1, h2, h3, hl, rfl⟩
        · cases h4
      · cases h

theorem comp_store (hh : A.handled = none) (RX : RcX prog w P h0 mg mb A R) {x : Str} {np cp pos : Pos} {elt : Expr} {gens : List Comprehension} {sc : Scope} {d : D} (h1 : R.ev σ (.ListComp elt gens sc cp) = some d) (h2 : setVar σ x d = some σ')
    (hsw : swapsWith (.ListComp elt gens sc cp) (some (.Name x np)) pos.line env = pure true) (S : Sit prog w P h0 mg mb W T O env σ s) :
    wpAny (model prog w) A (exec (.Assign [.Name x np] (.ListComp elt gens sc cp) pos) env) (flPost prog w P h0 mg mb W T O env σ s (.next σ')) E s := by
  obtain ⟨R', g, gs, src, its, ds, RO', rfl, a1, a2, a3, a4, a5, a6, rfl⟩ := RX.comp h1
  rw [exec_Assign_Name_used x np _ pos hsw]
  refine wpAny_bind (wpAny_standAt (wpAny_bind ?_))
  show wpAny (model prog w) A (comprehension (.ListComp elt (g :: gs) sc cp) sc env (firstIterPos (g :: gs) cp) (newList []) (firstAsync (g :: gs)) (firstIter (g :: gs) env) (some (assign (.Name x np) env)) >>= fun _ => pure ()) _ E s
  refine wpAny_bind (comp_gen RO' hh a1 a2 a3 a4 a5 a6 S fun D₀ C s₁ T₁ k1 t1 tb1 hC hz hn r hD hzD => ?_)
  obtain ⟨m, hn⟩ := hn
  have hCo : ∃ o, s₁.heap.get? C = some o := let ⟨o, _, _, e, _⟩ := hn; ⟨o, e⟩
  have hCW : ¬ W C := fun q => by
    obtain ⟨_, o, e⟩ := S.wb C q
    rw [hC] at e; cases e
  have S₁ := S.later t1 tb1 k1 hC hCo hz
  refine assign_name_ok S₁ h2 r fun s₂ S₂ k2 => ?_
  have hMC : ¬ Mut0 env σ.names C := fun q => hCW (Mut0.sub S.en q)
  have hn2 : s₂.heap.Ns C m := let ⟨o, es, ep, e, q⟩ := hn; ⟨o, es, ep, k2.kp C o hMC e, q⟩
  refine ⟨m, hn2, fun h' hs' => wpAny_pure (wpAny_pure (flNext ?_))⟩
  have hCL : C ≠ env.locals := fun q => hCW (q ▸ S.en.loc)
  have hCc : ∀ v, ¬ s₂.heap.IsCell C v := by
    obtain ⟨o, es, ep, e, e2, _⟩ := hn2
    exact notCell_of e fun v q => by rw [e2] at q; cases q
  have kx : ∀ b o, b ≠ C → s₂.heap.get? b = some o → h'.get? b = some o := fun b o hb e => hs'.extBut b o hb e
  have en := S₂.en.other (h' := h') (.inr rfl) hCL hCc (fun q => hCW (S.ow _ q)) kx
  refine ⟨setVar_names h2, W, O, T₁, ⟨S₂.gf.kpB S₂.wb fun b o hb e => kx b o (fun q => hb (.inr q)) e, fun b q => ?_, en.shrink S.en (setVar_names h2).symm fun b q => .inl q, S₂.tb, S.ow⟩, t1, ?_⟩
  · obtain ⟨z, o, e⟩ := S₂.wb b (.inl q)
    exact ⟨z, o, kx b o (fun q' => hCW (q' ▸ q)) e⟩
  · refine ⟨?_, fun _ q => .inl q, fun _ q => .inl q, fun _ q => .inl q⟩
    obtain ⟨h1, tk1, rfl, k1'⟩ := k1
    obtain ⟨h2', tk2, rfl, k2'⟩ := k2
    refine ⟨h', tk2, rfl, fun b o hb e => kx b o (fun q => ?_) (k2' b o (fun q => hb (.inl q)) (k1' b o e))⟩
    rw [q, hC] at e; cases e

theorem name_store (hh : A.handled = none) (RO : RcOk prog w P h0 mg mb A R) (RX : RcX prog w P h0 mg mb A R) {x : Str} {np pos : Pos} {v : Expr} {d : D} (h1 : R.ev σ v = some d) (h2 : setVar σ x d = some σ') (S : Sit prog w P h0 mg mb W T O env σ s) :
    wpAny (model prog w) A (exec (.Assign [.Name x np] v pos) env) (flPost prog w P h0 mg mb W T O env σ s (.next σ')) E s := by
  have plain : swapsWith v (some (.Name x np)) pos.line env = pure false → wpAny (model prog w) A (exec (.Assign [.Name x np] v pos) env) (flPost prog w P h0 mg mb W T O env σ s (.next σ')) E s := fun hsw => by
    refine wpAny_Assign_Name (wpAny_mono (RO.ev h1 S) (fun u s₁ q₁ => ?_) fun _ _ q => q) hsw
    obtain ⟨T₁, t1, tb1, k1, r1⟩ := q₁
    have S₁ := S.step t1 tb1 k1
    refine store_ok S₁ h2 r1 fun s₂ S₂ k2 => flNext ⟨setVar_names h2, W, O, T₁, S₂, t1, Stp.trans S rfl S₁ rfl (Stp.keeps k1) (Stp.mut k2)⟩
  cases v with
  | ListComp elt gens sc cp =>
    have : ∃ b, swapsWith (.ListComp elt gens sc cp) (some (.Name x np)) pos.line env = pure b := ⟨_, rfl⟩
    obtain ⟨b, hb⟩ := this
    cases b with
    | true => exact comp_store hh RX h1 h2 hb S
    | false => exact plain hb
  | SetComp a b c p => rw [RX.noSet] at h1; cases h1
  | DictComp a b c e p => rw [RX.noDict] at h1; cases h1
  | _ => exact plain rfl
end Mine
end
section
namespace Mine
open PySem PyProof.Rows PySem.SeqAt

variable {prog : Program} {w : World} {A : Around} {E : Value → Shared → Prop} {W W' : Addr → Prop} {T T' : Tm} {s s' : Shared} {P : PI} {n0 : Nat} {h0 : Heap} {mg mb : Str → Option Value} {O : Addr → Prop} {env : Env} {σ σ' : St} {R : Rc} {C : CallS}

theorem codeAny_forLoop_gen {R : Result → Shared → Prop} {target it body} (I : Nat → Shared → Prop)
    (turn : ∀ n s, I n s → wpAny (model prog w) A (pyNext it) (fun r s₁ => match r with
      | none => R (.ok .next) s₁
      | some v => wpAny (model prog w) A (letOwnedTupleGo target it v) (fun _ s₁' => wpAny (model prog w) A (assign target env v) (fun _ s₂ => wpAny (model prog w) A (execs body env) (fun f s₃ => match f with
          | .next | .cont => ∃ m, m < n ∧ I m s₃
          | .brk => R (.ok .next) s₃
          | .ret v => R (.ok (.ret v)) s₃) (fun _ _ => False) s₂) (fun _ _ => False) s₁') (fun _ _ => False) s₁) (fun _ _ => False) s)
    (n : Nat) (h : I n s) : codeAny (model prog w) A (.forLoop target it body [] env) R s := by
  refine codeAny_loop' rfl I (fun n s hI => ?_) n h
  show wpAny _ _ ((forTurn target it body [] env).onRaise (fun x => do noteFrame x env; theTreesLotGoes x)) _ _ s
  refine wpAny_noted ?_
  simp only [forTurn]
  refine wpAny_bind (wpAny_standAt (wpAny_bind (wpAny_onRaise (wpAny_mono (turn n s hI) (fun r s₁ h₁ => ?_) fun _ _ h' => h'.elim))))
  cases r with
  | none => exact wpAny_pure (.inr ⟨rfl, codeAny_block (wpAny_execs_nil h₁)⟩)
  | some v =>
    refine wpAny_bind (wpAny_mono h₁ (fun _ s₁' h₁' => wpAny_bind (wpAny_mono h₁' (fun _ s₂ h₂ => wpAny_bind (wpAny_mono h₂ (fun f s₃ h₃ => ?_) fun _ _ h' => h'.elim)) fun _ _ h' => h'.elim)) fun _ _ h' => h'.elim)
    cases f with
    | next => exact wpAny_pure (.inl ⟨rfl, h₃⟩)
    | cont => exact wpAny_pure (.inl ⟨rfl, h₃⟩)
    | brk => exact wpAny_pure h₃
    | ret v => exact wpAny_pure h₃

def flRes (prog : Program) (w : World) (P : PI) (h0 : Heap) (mg mb : Str → Option Value) (W : Addr → Prop) (T : Tm) (O : Addr → Prop) (env : Env) (σ : St) (s : Shared) (f : Fl) (r : Result) (s' : Shared) : Prop := match r with
  | .ok fl => flPost prog w P h0 mg mb W T O env σ s f fl s'
  | .error _ => False

theorem flPost.trans {f : Fl} {fl : Flow} {s₁ s₂ : Shared} {W₁ O₁ : Addr → Prop} {T₁ : Tm} {σ₁ : St} (S : Sit prog w P h0 mg mb W T O env σ s) (hn : σ₁.names = σ.names) (S₁ : Sit prog w P h0 mg mb W₁ T₁ O₁ env σ₁ s₁) (t1 : TLe T T₁) (st1 : Stp env σ.names W O s W₁ O₁ s₁)
    (q : flPost prog w P h0 mg mb W₁ T₁ O₁ env σ₁ s₁ f fl s₂) : flPost prog w P h0 mg mb W T O env σ s f fl s₂ := by
  cases f with
  | next σ' =>
    obtain ⟨rfl, hn', W₂, O₂, T₂, S₂, t2, st2⟩ := q
    exact ⟨rfl, hn'.trans hn, W₂, O₂, T₂, S₂, t1.trans t2, Stp.trans S rfl S₁ hn st1 (hn ▸ st2)⟩
  | ret d =>
    obtain ⟨v, rfl, W₂, O₂, T₂, t2, tb2, st2, r⟩ := q
    exact ⟨v, rfl, W₂, O₂, T₂, t1.trans t2, tb2, Stp.trans S rfl S₁ hn st1 (hn ▸ st2), r⟩

theorem Stp.other {ns : List (Str × NameKind)} {I : Addr} {s'' : Shared} {h' : Heap} {tk : Nat} (a : Stp env ns W O s W' O' s') (hI : s.heap.get? I = none) (e : s'' = { s' with heap := h', toks := tk }) (k : ∀ b o, b ≠ I → s'.heap.get? b = some o → h'.get? b = some o) : Stp env ns W O s W' O' s'' := by
  subst e
  refine ⟨?_, a.wn, a.on, a.wo⟩
  obtain ⟨h1, t1, rfl, k1⟩ := a.keep
  exact ⟨h', tk, rfl, fun b o hb e => k b o (fun q => by rw [q, hI] at e; cases e) (k1 b o hb e)⟩

theorem forLoop_ok {X : St → Stmt → Option Fl} (XO : XOk prog w P h0 mg mb A X) (hh : A.handled = none) {t : Expr} {body : List Stmt} {ds : List D} {f : Fl} {I : Addr} {fp : List Addr} {PP : Nat → Value → Prop} {Sti : Nat → Heap → Prop} {s₀ : Shared} {T₀ : Tm} {σ₀ : St}
    (S₀ : Sit prog w P h0 mg mb W T₀ O env σ₀ s₀) (It : IsIter prog w A W T₀ s₀.heap I ds fp PP Sti) (hI : s₀.heap.get? I = none)
    (hn : σ.names = σ₀.names) (S : Sit prog w P h0 mg mb W' T O' env σ s) (t0 : TLe T₀ T) (st0 : Stp env σ₀.names W O s₀ W' O' s) (hst : Sti 0 s.heap) (hWI : W' I) (hOI : ¬ O' I)
    (hf : forD X t body σ ds = some f) : codeAny (model prog w) A (.forLoop t (.ref I) body [] env) (flRes prog w P h0 mg mb W T₀ O env σ₀ s₀ f) s := by
  have hMI : ¬ Mut0 env σ₀.names I := fun q => by
    obtain ⟨_, o, e⟩ := S₀.wb I (Mut0.sub S₀.en q)
    rw [hI] at e; cases e
  have hIL : I ≠ env.locals := fun q => hMI (.inl q)
  have hMW : ∀ a, (Mut0 env σ₀.names a ∨ O a) → W a := fun a q => q.elim (fun q => Mut0.sub S₀.en q) (S₀.ow a)
  refine codeAny_forLoop_gen (fun n s' => ∃ (i : Nat) (σ₁ : St) (W₁ O₁ : Addr → Prop) (T₁ : Tm), n = ds.length + 1 - i ∧ i ≤ ds.length ∧ forD X t body σ₁ (ds.drop i) = some f ∧ σ₁.names = σ₀.names ∧
      Sit prog w P h0 mg mb W₁ T₁ O₁ env σ₁ s' ∧ TLe T₀ T₁ ∧ Stp env σ₀.names W O s₀ W₁ O₁ s' ∧ Sti i s'.heap ∧ W₁ I ∧ ¬ O₁ I) ?_ (ds.length + 1) ⟨0, σ, W', O', T, rfl, Nat.zero_le _, by simpa using hf, hn, S, t0, st0, hst, hWI, hOI⟩
  rintro n s' ⟨i, σ₁, W₁, O₁, T₁, rfl, hi, hf1, hn1, S₁, t1, st1, hst1, hWI1, hOI1⟩
  obtain ⟨o₁, n₁, vs₁, c1, c2, c3, c4⟩ := It.cls _ _ hst1
  have nc := notCell_of c1 (by rw [c4]; exact fun v q => nomatch q)
  by_cases hlt : i < ds.length
  · have hd : ds.drop i = ds[i] :: ds.drop (i + 1) := List.drop_eq_getElem_cons hlt
    rw [hd] at hf1
    simp only [forD, Option.bind_eq_some_iff] at hf1
    obtain ⟨σ₂, hσ, f1, hf2, hf3⟩ := hf1
    refine wpAny_with_toks (n := s'.toks) (Nat.le_refl _) (It.walks.item i _ _ _ hlt hst1 fun v h₂ tk₂ hP hst₂ hk₂ htk₂ => ?_)
    obtain ⟨o₂, n₂, vs₂, e1, e2, e3, e4⟩ := It.cls _ _ hst₂
    have k1 : ∀ b o, b ≠ I → s'.heap.get? b = some o → h₂.get? b = some o := fun b o hb e => hk₂ b o (by simpa using hb) e
    have S₂ : Sit prog w P h0 mg mb W₁ T₁ O₁ env σ₁ { s' with heap := h₂, toks := tk₂ } := S₁.other hWI1 hIL nc hOI1 k1 ⟨o₂, e1⟩ (S₁.tb.mono htk₂)
    have st2 : Stp env σ₀.names W O s₀ W₁ O₁ { s' with heap := h₂, toks := tk₂ } := st1.other hI rfl k1
    obtain ⟨d, hd1, hd2⟩ := It.item i v hP
    have hdi : d = ds[i] := by simpa [hlt] using hd1.symm
    subst hdi
    have rv : Rep prog w W₁ T₁ h₂ v ds[i] := by
      have r2 : Rep prog w (fun a => W a ∨ W₁ a) T₁ s₀.heap v ds[i] := (hd2.tm t1).anti fun a q => q.elim .inl fun q => st1.wn a q
      have r3 : Rep prog w (fun a => W a ∨ W₁ a) T₁ h₂ v ds[i] := r2.kp fun b o hb e => st2.keep.kp b o (fun q => hb (.inl (hMW b q))) e
      exact r3.anti fun a q => .inl (.inr q)
    refine letOwned_ok ⟨o₂, n₂, vs₂, e1, e2, e3, e4⟩ ?_
    refine assign_ok hh S₂ hσ rv fun s₃ S₃ k₃ => ?_
    have hn2 : σ₂.names = σ₀.names := (bindT_names hσ).trans hn1
    have st3 : Stp env σ₀.names W O s₀ W₁ O₁ s₃ := Stp.trans S₀ rfl S₂ hn1 st2 (Stp.mut (hn1 ▸ k₃))
    have kI3 : ∀ o, h₂.get? I = some o → s₃.heap.get? I = some o := fun o e => k₃.kp I o (by rw [hn1]; exact hMI) e
    refine wpAny_mono (execs_ok XO hf2 S₃) (fun fl s₄ q => ?_) fun _ _ q => q
    cases f1 with
    | ret d =>
      obtain ⟨v, rfl, q⟩ := q
      simp only [Option.some.injEq] at hf3
      subst hf3
      exact flPost.trans (f := .ret d) (fl := .ret v) S₀ hn2 S₃ t1 st3 ⟨v, rfl, q⟩
    | next σ₄ =>
      obtain ⟨rfl, hn', W₄, O₄, T₄, S₄, t4, st4⟩ := q
      have hn4 : σ₄.names = σ₀.names := hn'.trans hn2
      refine ⟨ds.length + 1 - (i + 1), by omega, i + 1, σ₄, W₄, O₄, T₄, rfl, hlt, hf3, hn4, S₄, t1.trans t4, Stp.trans S₀ rfl S₃ hn2 st3 (hn2 ▸ st4), ?_, (st4.wo I hWI1).elim id fun q => absurd q hOI1, fun q => ?_⟩
      · refine It.walks.frame _ _ _ hst₂ fun b hb o e => ?_
        by_cases hbI : b = I
        · subst hbI
          exact st4.keep.kp b o (fun q => q.elim (by rw [hn2]; exact hMI) hOI1) (kI3 o e)
        · have nW := It.fps b hb hbI
          obtain ⟨o', eo⟩ := It.ex b hb hbI
          refine st4.keep.kp b o (fun q => ?_) (k₃.kp b o (fun q => nW (Mut0.sub S₀.en (hn1 ▸ q))) e)
          rcases q with q | q
          · exact nW (Mut0.sub S₀.en (hn2 ▸ q))
          · rcases st1.on b q with q | q
            · exact nW (S₀.ow b q)
            · rw [eo] at q; cases q
      · rcases st4.on I q with q | q
        · exact hOI1 q
        · rw [kI3 o₂ e1] at q; cases q
  · have hin : i = ds.length := by omega
    subst hin
    simp [forD] at hf1
    subst hf1
    refine wpAny_with_toks (n := s'.toks) (Nat.le_refl _) (It.walks.done _ _ _ hst1 fun h₂ tk₂ hk₂ htk₂ => ?_)
    have k1 : ∀ b o, b ≠ I → s'.heap.get? b = some o → h₂.get? b = some o := fun b o hb e => hk₂ b o (by simpa using hb) e
    have kb : KpB W₁ s'.heap h₂ := fun b o hb e => k1 b o (fun q => hb (q ▸ hWI1)) e
    have st2 : Stp env σ₀.names W O s₀ W₁ O₁ { s' with heap := h₂, toks := tk₂ } := st1.other hI rfl k1
    refine ⟨rfl, hn1, fun a => W₁ a ∧ a ≠ I, O₁, T₁, ⟨S₁.gf.kpB S₁.wb kb, fun a q => ⟨(S₁.wb a q.1).1, ?_⟩, ?_, S₁.tb.mono htk₂, fun a q => ⟨S₁.ow a q, fun e => hOI1 (e ▸ q)⟩⟩, t1, ⟨st2.keep, fun a q => st2.wn a q.1, st2.on, fun a q => ?_⟩⟩
    · obtain ⟨_, o, e⟩ := S₁.wb a q.1
      exact ⟨o, k1 a o q.2 e⟩
    · exact (S₁.en.other hWI1 hIL nc hOI1 k1).shrink (S₁.en.drop (fun a q => q.1) (fun a q => by
        by_cases e : a = I
        · exact .inr e
        · exact .inl ⟨q, e⟩) hIL nc) rfl fun a q => q.1
    · refine (st2.wo a q).imp (fun q' => ⟨q', fun e => ?_⟩) id
      obtain ⟨_, o, e'⟩ := S₀.wb a q
      rw [e, hI] at e'; cases e'

theorem for_ok {X : St → Stmt → Option Fl} (RO : RcOk prog w P h0 mg mb A R) (XO : XOk prog w P h0 mg mb A X) (hh : A.handled = none) {t it : Expr} {body : List Stmt} {pos : Pos} {src : D} {its : List D} {f : Fl} (hs : setIter it = false)
    (h1 : R.ev (freeze σ it) it = some src) (h2 : itemsD src = some its) (h3 : forD X t body (freeze σ it) its = some f) (S : Sit prog w P h0 mg mb W T O env σ s) :
    wpAny (model prog w) A (exec (.For t it body [] pos) env) (flPost prog w P h0 mg mb W T O env σ s f) E s := by
  obtain ⟨W₁, O₁, S₁, st1, hn⟩ := freeze_ok (e := it) S
  refine wpAny_For (wpAny_mono (RO.ev h1 S₁) (fun v s₂ q₂ => ?_) fun _ _ q => q) (fun x => folded_pure hs x)
  obtain ⟨T₂, t2, tb2, k2, r2⟩ := q₂
  have S₂ := S₁.step t2 tb2 k2
  refine iter_ok (W' := W₁) hh h2 r2 (fun _ q => .inl q) fun o fp PP Sti It hst hfr => ?_
  have hI : s₂.heap.get? s₂.heap.objs.size = none := get_size _
  have S₃ := S₂.later (a := s₂.heap.objs.size) (T₁ := T₂) (s₁ := { s₂ with heap := s₂.heap.push o }) (TLe.refl _) S₂.tb kPush hI ⟨_, Heap.get?_push_size _ hfr⟩ (size_le S₂)
  have hOI : ¬ O₁ s₂.heap.objs.size := fun q => by
    obtain ⟨_, o, e⟩ := S₂.wb _ (S₂.ow _ q)
    rw [hI] at e; cases e
  have st3 : Stp env (freeze σ it).names W₁ O₁ s₂ (fun b => W₁ b ∨ b = s₂.heap.objs.size) O₁ { s₂ with heap := s₂.heap.push o } :=
    ⟨.of kPush, fun a q => q.elim .inl fun q => .inr (q ▸ hI), fun a q => .inl q, fun a q => .inl (.inl q)⟩
  refine codeAny_mono (forLoop_ok XO hh S₂ It hI rfl S₃ (TLe.refl _) st3 hst (.inr rfl) hOI h3) fun r s' q => ?_
  cases r with
  | error e => exact q.elim
  | ok fl => exact flPost.trans S hn S₁ (TLe.refl _) st1 (flPost.trans S₁ rfl S₂ t2 (Stp.keeps k2) q)

theorem while_ok {X : St → Stmt → Option Fl} (RO : RcOk prog w P h0 mg mb A R) (XO : XOk prog w P h0 mg mb A X) {t : Expr} {body : List Stmt} {pos : Pos} {f : Fl} {n : Nat}
    (h : whileD R.tr X t body n σ = some f) (S : Sit prog w P h0 mg mb W T O env σ s) :
    wpAny (model prog w) A (exec (.While t body [] pos) env) (flPost prog w P h0 mg mb W T O env σ s f) E s := by
  refine wpAny_While (codeAny_mono (R := flRes prog w P h0 mg mb W T O env σ s f) ?_ fun r s' q => by cases r with
    | error e => exact q.elim
    | ok fl => exact q)
  refine codeAny_whileLoop (fun n s' => ∃ (σ₁ : St) (W₁ O₁ : Addr → Prop) (T₁ : Tm), whileD R.tr X t body n σ₁ = some f ∧ σ₁.names = σ.names ∧ Sit prog w P h0 mg mb W₁ T₁ O₁ env σ₁ s' ∧ TLe T T₁ ∧ Stp env σ.names W O s W₁ O₁ s') ?_ n ⟨σ, W, O, T, h, rfl, S, TLe.refl _, .refl⟩
  rintro n s' ⟨σ₁, W₁, O₁, T₁, h1, hn1, S₁, t1, st1⟩
  cases n with
  | zero => simp [whileD] at h1
  | succ n =>
    simp only [whileD, Option.bind_eq_some_iff] at h1
    obtain ⟨b, hb, h1⟩ := h1
    refine wpAny_mono (RO.tr hb S₁) (fun b' s₂ q₂ => ?_) fun _ _ q => q
    obtain ⟨rfl, T₂, t2, tb2, k2⟩ := q₂
    have S₂ := S₁.step t2 tb2 k2
    have st2 := Stp.trans S rfl S₁ hn1 st1 (Stp.keeps (ns := σ.names) k2)
    cases b' with
    | false =>
      simp only [Bool.false_eq_true, if_false, Option.some.injEq] at h1 ⊢
      subst h1
      exact wpAny_execs_nil ⟨rfl, hn1, W₁, O₁, T₂, S₂, t1.trans t2, st2⟩
    | true =>
      simp only [if_true, Option.bind_eq_some_iff] at h1 ⊢
      obtain ⟨f1, hf1, h1⟩ := h1
      refine wpAny_mono (execs_ok XO hf1 S₂) (fun fl s₃ q => ?_) fun _ _ q => q
      cases f1 with
      | ret d =>
        obtain ⟨v, rfl, q⟩ := q
        simp only [Option.some.injEq] at h1
        subst h1
        exact flPost.trans (f := .ret d) (fl := .ret v) S hn1 S₂ (t1.trans t2) st2 ⟨v, rfl, q⟩
      | next σ₃ =>
        obtain ⟨rfl, hn', W₃, O₃, T₃, S₃, t3, st3⟩ := q
        exact ⟨n, Nat.lt_succ_self _, σ₃, W₃, O₃, T₃, h1, hn'.trans hn1, S₃, (t1.trans t2).trans t3, Stp.trans S rfl S₂ hn1 st2 (hn1 ▸ st3)⟩
end Mine
end
section
namespace Mine
open PySem PyProof.Rows PySem.SeqAt

variable {prog : Program} {w : World} {A : Around} {E : Value → Shared → Prop} {W W' : Addr → Prop} {T T' : Tm} {s s' : Shared} {P : PI} {n0 : Nat} {h0 : Heap} {mg mb : Str → Option Value} {O : Addr → Prop} {env : Env} {σ σ' : St} {R : Rc} {C : CallS}

def swapF (env : Env) (line : Nat) : Expr → Option Str := fun
    | .Name id pos => if env.kindOf id == some .local && pos.line == line then some id else none
    | _ => none

theorem swapF_names {line : Nat} : ∀ {ts : List Expr} {xs : List Str}, namesOf ts = some xs → ((ts.filterMap (swapF env line)).length = ts.length → ts.filterMap (swapF env line) = xs) ∧ (ts.filterMap (swapF env line)).length ≤ ts.length
  | [], xs, h => by simp [namesOf] at h; subst h; exact ⟨fun _ => rfl, by simp⟩
  | e :: r, xs, h => by
    cases e with
    | Name x p =>
      simp only [namesOf, Option.bind_eq_some_iff] at h
      obtain ⟨ys, hy, h⟩ := h
      cases h
      obtain ⟨h1, h2⟩ := swapF_names (line := line) hy
      simp only [List.filterMap_cons]
      by_cases hc : (env.kindOf x == some .local && p.line == line) = true
      · have : swapF env line (.Name x p) = some x := by unfold swapF; simp only [hc, if_true]
        rw [this]
        exact ⟨fun q => by simp only [List.length_cons, Nat.add_right_cancel_iff] at q; rw [h1 q], by simp only [List.length_cons]; omega⟩
      · have : swapF env line (.Name x p) = none := by unfold swapF; simp only [hc]; rfl
        rw [this]
        exact ⟨fun q => by simp only [List.length_cons] at q; omega, by simp only [List.length_cons]; omega⟩
    | _ => simp [namesOf] at h

theorem swapped_cases {ts : List Expr} {xs : List Str} {k} {p : Pos} {v : Expr} (h : tupOk v = true) (hx : namesOf ts = some xs) :
    swappedStores [.Tuple ts k p] v env = pure none ∨ swappedStores [.Tuple ts k p] v env = pure (some xs) := by
  cases v with
  | Tuple vs k' p' =>
    unfold swappedStores
    simp only []
    split
    · exact .inl rfl
    · split
      · exact .inl rfl
      · split
        · exact .inl rfl
        · rename_i hc
          split
          · exact .inl rfl
          · rename_i h1
            split
            · rename_i h2
              have h : (vs.all (foldedForSure 8) || !vs.all (constantsAlone 8)) = true := h
              rw [h2] at h
              simp only [Bool.not_true, Bool.or_false] at h
              exact absurd h h1
            · refine .inr ?_
              have hc' : ¬ (((ts.filterMap (swapF env ((ts.head?.map (·.pos.line)).getD 0))).length != ts.length || (ts.filterMap (swapF env ((ts.head?.map (·.pos.line)).getD 0))).eraseDups.length != (ts.filterMap (swapF env ((ts.head?.map (·.pos.line)).getD 0))).length) = true) := hc
              simp only [Bool.or_eq_true, bne_iff_ne, ne_eq, not_or, Decidable.not_not] at hc'
              have e := (swapF_names hx).1 hc'.1
              show pure (some (ts.filterMap (swapF env ((ts.head?.map (·.pos.line)).getD 0)))) = _
              rw [e]
  | _ => exact .inl rfl

def okVar (σ : St) (x : Str) : Prop := (σ.names.lookup x == some .local || σ.names.lookup x == some .cell) = true

theorem setVar_get {x : Str} {d : D} (e : setVar σ x d = some σ') : okVar σ x ∧ σ' = { σ with vars := put σ.vars x d, own := if σ.own = some x then none else σ.own } := by
  unfold setVar at e
  split at e
  · rename_i h; exact ⟨h, (Option.some.inj e).symm⟩
  · cases e

/-- the same to all who look -/
structure SameSt (σ σ' : St) : Prop where
  names : σ'.names = σ.names
  own : σ'.own = σ.own
  vars : ∀ x, σ'.vars.lookup x = σ.vars.lookup x

theorem Sit.same (x : Sit prog w P h0 mg mb W T O env σ s) (h : SameSt σ σ') : Sit prog w P h0 mg mb W T O env σ' s :=
  ⟨x.gf, x.wb, x.en.weaken h.names.symm h.own.symm fun y d e => by rw [← h.vars y]; exact e, x.tb, x.ow⟩

theorem setAll_get : ∀ {xs : List Str} {ds : List D} {σ σ' : St}, setAll σ xs ds = some σ' → xs.Nodup → xs.length = ds.length ∧ (∀ x ∈ xs, okVar σ x) ∧ σ'.names = σ.names ∧
    (∀ y, σ'.own = some y ↔ (σ.own = some y ∧ y ∉ xs)) ∧ ∀ y, σ'.vars.lookup y = ((xs.zip ds).lookup y).or (σ.vars.lookup y)
  | [], [], σ, σ', e, _ => by simp [setAll] at e; subst e; simp
  | [], _ :: _, σ, σ', e, _ => by simp [setAll] at e
  | _ :: _, [], σ, σ', e, _ => by simp [setAll] at e
  | x :: xs, d :: ds, σ, σ', e, hn => by
    simp only [setAll, Option.bind_eq_some_iff] at e
    obtain ⟨σ₁, h1, h2⟩ := e
    obtain ⟨g1, rfl⟩ := setVar_get h1
    rw [List.nodup_cons] at hn
    obtain ⟨k1, k2, k3, k4, k5⟩ := setAll_get h2 hn.2
    refine ⟨by simp [k1], fun y hy => ?_, k3, fun y => ?_, fun y => ?_⟩
    · rcases List.mem_cons.mp hy with rfl | hy
      · exact g1
      · exact k2 y hy
    · rw [k4 y]
      simp only [List.mem_cons, not_or]
      constructor
      · rintro ⟨q1, q2⟩
        split at q1
        · cases q1
        · exact ⟨q1, fun q => by subst q; exact absurd q1 (by assumption), q2⟩
      · rintro ⟨q1, q2, q3⟩
        rw [if_neg (by rw [q1]; intro q; cases q; exact q2 rfl)]
        exact ⟨q1, q3⟩
    · rw [k5 y]
      show ((xs.zip ds).lookup y).or ((put σ.vars x d).lookup y) = _
      rw [put_lookup, List.zip_cons_cons, List.lookup_cons]
      by_cases hy : y = x
      · subst hy
        have : (xs.zip ds).lookup y = none := by
          rw [List.lookup_eq_none_iff]
          intro p hp
          have := List.of_mem_zip (a := p.1) (b := p.2) hp
          have ne : y ≠ p.1 := fun q => hn.1 (q ▸ this.1)
          simpa using ne
        rw [this]
        simp
      · have : (y == x) = false := by simpa using hy
        simp [hy, this]

theorem setAll_mk : ∀ {xs : List Str} {ds : List D} {σ : St}, xs.length = ds.length → (∀ x ∈ xs, okVar σ x) → ∃ σ', setAll σ xs ds = some σ'
  | [], [], σ, _, _ => ⟨σ, rfl⟩
  | [], _ :: _, σ, h, _ => by simp at h
  | _ :: _, [], σ, h, _ => by simp at h
  | x :: xs, d :: ds, σ, h, hk => by
    have h1 := hk x List.mem_cons_self
    have e : setVar σ x d = some { σ with vars := put σ.vars x d, own := if σ.own = some x then none else σ.own } := by
      unfold okVar at h1; unfold setVar; rw [if_pos h1]
    simp only [setAll, e, Option.bind_some]
    exact setAll_mk (by simpa using h) fun y hy => hk y (List.mem_cons_of_mem _ hy)

theorem nodup_rev {α : Type} {xs : List α} (h : xs.Nodup) : xs.reverse.Nodup := by
  unfold List.Nodup at h ⊢
  rw [List.pairwise_reverse]
  exact h.imp fun q => Ne.symm q

theorem lookup_rev {xs : List Str} {ds : List D} (hn : xs.Nodup) (hl : xs.length = ds.length) (y : Str) : (xs.reverse.zip ds.reverse).lookup y = (xs.zip ds).lookup y := by
  have ez : xs.reverse.zip ds.reverse = (xs.zip ds).reverse := (List.reverse_zipWith hl).symm
  rw [ez]
  have nd : ((xs.zip ds).map (·.1)).Nodup := by rw [List.map_fst_zip (by omega)]; exact hn
  generalize xs.zip ds = l at nd
  cases e : l.lookup y with
  | none =>
    rw [List.lookup_eq_none_iff] at e ⊢
    intro p hp; exact e p (by simpa using hp)
  | some d =>
    have hm : (y, d) ∈ l := List.lookup_eq_some_iff.mp e |>.elim fun l1 ⟨l2, h, _⟩ => by rw [h]; simp
    have := lookup_nodup (l := l.reverse) (by rw [List.map_reverse]; exact nodup_rev nd) (List.mem_reverse.mpr hm)
    exact this

theorem inOrder_bind : ∀ {xs : List Str} {ds : List D} {vs : List Value} {s : Shared} {σ σ' : St} {Q : Unit → Shared → Prop}, setAll σ xs ds = some σ' → Sit prog w P h0 mg mb W T O env σ s → Reps prog w W T s.heap vs ds →
    (∀ s', Sit prog w P h0 mg mb W T O env σ' s' → KeepsB (Mut0 env σ.names) s s' → Q () s') → wpAny (model prog w) A (assignInOrder (xs.map (fun t => bindName env t)) vs) Q E s
  | [], ds, vs, s, σ, σ', Q, h2, S, r, hQ => by
    cases ds with
    | cons => simp [setAll] at h2
    | nil => simp [setAll] at h2; subst h2; cases r; exact wpAny_assignInOrder_none (hQ s S .refl)
  | x :: xs, ds, vs, s, σ, σ', Q, h2, S, r, hQ => by
    cases ds with
    | nil => simp [setAll] at h2
    | cons d ds =>
      simp only [setAll, Option.bind_eq_some_iff] at h2
      obtain ⟨σ₁, h3, h4⟩ := h2
      cases r with | cons r1 r2 => ?_
      refine wpAny_assignInOrder_more (wpAny_bindName (store_ok S h3 r1 fun s₁ S₁ k₁ => ?_))
      exact inOrder_bind h4 S₁ (r2.kp (k₁.sub fun a q => Mut0.sub S.en q).kp) fun s₂ S₂ k₂ => hQ s₂ S₂ (k₁.trans (setVar_names h3 ▸ k₂))

theorem tupAssign_ok (RO : RcOk prog w P h0 mg mb A R) (hh : A.handled = none) {ts : List Expr} {k} {tp pos : Pos} {v : Expr} {d : D} (ht : tupOk v = true) (hnd : nodupT ts = true) (h1 : R.ev σ v = some d) (h2 : bindT σ (.Tuple ts k tp) d = some σ') (S : Sit prog w P h0 mg mb W T O env σ s) :
    wpAny (model prog w) A (exec (.Assign [.Tuple ts k tp] v pos) env) (flPost prog w P h0 mg mb W T O env σ s (.next σ')) E s := by
  have hsole : swapsWithSole [.Tuple ts k tp] v pos.line env = pure false := by cases v <;> rfl
  have hb := h2
  unfold bindT at hb
  split at hb
  · rename_i heq; cases heq
  · rename_i es _ _ ds heq
    cases heq
    simp only [Option.bind_eq_some_iff] at hb
    obtain ⟨xs, hx, hb⟩ := hb
    have nd : xs.Nodup := by unfold nodupT at hnd; rw [hx] at hnd; simpa using hnd
    rcases swapped_cases (env := env) (k := k) (p := tp) ht hx with hw | hw
    · refine Assign_Tuple (wpAny_mono (RO.ev h1 S) (fun u s₁ q₁ => ?_) fun _ _ q => q) hsole hw
      obtain ⟨T₁, t1, tb1, k1, r1⟩ := q₁
      have S₁ := S.step t1 tb1 k1
      exact assign_ok hh S₁ h2 r1 fun s₂ S₂ k2 => flNext ⟨bindT_names h2, W, O, T₁, S₂, t1, Stp.trans S rfl S₁ rfl (Stp.keeps k1) (Stp.mut k2)⟩
    · split at hb
      · rename_i hl
        refine Assign_Tuple_swapped (names := xs) (wpAny_mono (RO.ev h1 S) (fun u s₁ q₁ => ?_) fun _ _ q => q) hsole hw
        obtain ⟨T₁, t1, tb1, k1, r1⟩ := q₁
        have S₁ := S.step t1 tb1 k1
        cases r1 with | tuple hW hT hr => ?_
        rename_i a vs
        have l1 := hr.length; simp only [Array.length_toList] at l1
        have : xs.length = vs.size := by omega
        rw [this]
        refine wpAny_unpackItems_tuple hh hT fun h' he' => ?_
        have k2 : Keeps s₁ { s₁ with heap := h' } := ⟨h', s₁.toks, rfl, fun b o q => he' b o (Nat.ne_of_lt (Heap.lt_size q)) q⟩
        have S₂ : Sit prog w P h0 mg mb W T₁ O env σ { s₁ with heap := h' } := S₁.step (TLe.refl _) tb1 k2
        obtain ⟨g1, g2, g3, g4, g5⟩ := setAll_get hb nd
        obtain ⟨σ₂, hσ₂⟩ := setAll_mk (σ := σ) (xs := xs.reverse) (ds := ds.reverse) (by simp [g1]) fun x hx' => g2 x (by simpa using hx')
        obtain ⟨f1, f2, f3, f4, f5⟩ := setAll_get hσ₂ (nodup_rev nd)
        refine inOrder_bind hσ₂ S₂ ((hr.keeps k2).reverse) fun s₃ S₃ k3 => ?_
        have same : SameSt σ₂ σ' := ⟨g3.trans f3.symm, by
          have : ∀ y, σ'.own = some y ↔ σ₂.own = some y := fun y => by rw [g4 y, f4 y]; simp
          cases e1 : σ'.own with
          | none => cases e2 : σ₂.own with
            | none => rfl
            | some y => have := (this y).mpr e2; rw [e1] at this; cases this
          | some y => rw [(this y).mp e1], fun y => by rw [g5 y, f5 y, lookup_rev nd hl.1]⟩
        exact flNext ⟨bindT_names h2, W, O, T₁, S₃.same same, t1, Stp.trans S rfl S₂ rfl (Stp.keeps (kTrans k1 k2)) (Stp.mut k3)⟩
      · cases hb
  · cases hb
end Mine
end
section
namespace Mine
open PySem PyProof.Rows PySem.SeqAt

variable {prog : Program} {w : World} {A : Around} {E : Value → Shared → Prop} {W W' : Addr → Prop} {T T' : Tm} {s s' : Shared} {P : PI} {n0 : Nat} {h0 : Heap} {mg mb : Str → Option Value} {O : Addr → Prop} {env : Env} {σ σ' : St} {R : Rc} {C : CallS}

/-- what is known of the owned name's place at a later state -/
def OwnNow (prog : Program) (w : World) (P : PI) (h0 : Heap) (mg mb : Str → Option Value) (A : Around) (W : Addr → Prop) (O : Addr → Prop) (env : Env) (σ : St) (x : Str) (a : Addr) (d : D) (T₁ : Tm) (s₁ : Shared) : Prop :=
  OwnAt prog w W T₁ s₁.heap a d ∧ (∀ (E : Value → Shared → Prop) (Q : Value → Shared → Prop), Q (.ref a) s₁ → wpAny (model prog w) A (loadName env x) Q E s₁) ∧
    ∀ h' d' T' tk, TLe T₁ T' → TB T' tk → OwnAt prog w W T' h' a d' → (∀ b o, b ≠ a → s₁.heap.get? b = some o → h'.get? b = some o) →
      Sit prog w P h0 mg mb W T' O env { σ with vars := put σ.vars x d' } { s₁ with heap := h', toks := tk }

theorem own_name {x : Str} {d : D} (S : Sit prog w P h0 mg mb W T O env σ s) (ho : σ.own = some x) (hx : isVarKind (σ.names.lookup x) = true) (hv : σ.vars.lookup x = some d) :
    ∃ a, O a ∧ a ≠ env.locals ∧ ∀ s₁ T₁, Keeps s s₁ → TLe T T₁ → TB T₁ s₁.toks → OwnNow prog w P h0 mg mb A W O env σ x a d T₁ s₁ := by
  obtain ⟨l, hn, hl⟩ := S.en.ns
  have gen : ∀ (a : Addr), VRep prog w W T s.heap O env.locals σ.own x (.ref a) d → (σ.names.lookup x = some .local → l x = some (.ref a)) →
      (isCellKind (σ.names.lookup x) = true → ∃ c, env.cells.lookup x = some c ∧ s.heap.IsCell c (some (.ref a))) →
      (∀ s₁, Keeps s s₁ → ∀ (E : Value → Shared → Prop) (Q : Value → Shared → Prop), Q (.ref a) s₁ → wpAny (model prog w) A (loadName env x) Q E s₁) →
      ∃ a, O a ∧ a ≠ env.locals ∧ ∀ s₁ T₁, Keeps s s₁ → TLe T T₁ → TB T₁ s₁.toks → OwnNow prog w P h0 mg mb A W O env σ x a d T₁ s₁ := by
    intro a r hloc hcel hload
    unfold VRep at r
    rw [if_pos ho] at r
    obtain ⟨a', e, g1, g2, g3⟩ := r
    cases e
    refine ⟨a, g1, g2, fun s₁ T₁ k t tb => ⟨(g3.tm t).kp (fun b o _ e => kKp k b o e) (fun o e => kKp k a o e), hload s₁ k, fun h' d' T' tk t' tb' oa ka => ?_⟩⟩
    have S₁ := S.step t tb k
    have kb : KpB W s₁.heap h' := fun b o hb e => ka b o (fun q => hb (q ▸ S.ow a g1)) e
    have na : ∀ c v, s.heap.IsCell c v → c ≠ a := fun c v hc q => by
      subst q
      obtain ⟨o, e1, e2⟩ := g3.some
      obtain ⟨o', e1', e2'⟩ := hc
      rw [e1] at e1'; cases e1'
      exact e2 _ e2'
    have up : ∀ y u d'', y ≠ x → VRep prog w W T s.heap O env.locals σ.own y u d'' → VRep prog w W T' h' O env.locals σ.own y u d'' := fun y u d'' hy r => by
      unfold VRep at r ⊢
      have : ¬ σ.own = some y := fun q => by rw [ho] at q; cases q; exact hy rfl
      rw [if_neg this] at r ⊢
      exact ((r.tm (t.trans t')).keeps k).kp kb
    have new : VRep prog w W T' h' O env.locals σ.own x (.ref a) d' := by
      unfold VRep; rw [if_pos ho]; exact ⟨a, rfl, g1, g2, oa⟩
    refine ⟨S₁.gf.kpB S₁.wb kb, fun b q => ⟨(S₁.wb b q).1, ?_⟩, ⟨S.en.kind, S.en.gl, S.en.bl, S.en.nm, S.en.cd, S.en.loc, ⟨l, ?_, fun y d'' e1 e2 => ?_⟩, fun y hc => ?_, S.en.apart⟩, tb', S.ow⟩
    · by_cases e : b = a
      · subst e; exact let ⟨o, e, _⟩ := oa.some; ⟨o, e⟩
      · obtain ⟨_, o, e'⟩ := S₁.wb b q
        exact ⟨o, ka b o e e'⟩
    · obtain ⟨o, es, ep, e, r⟩ := hn
      exact ⟨o, es, ep, ka _ o (Ne.symm g2) (kKp k _ o e), r⟩
    · have e2' : (put σ.vars x d').lookup y = some d'' := e2
      rw [put_lookup] at e2'
      by_cases hy : y = x
      · subst hy
        rw [if_pos rfl] at e2'; cases e2'
        exact ⟨_, hloc e1, new⟩
      · rw [if_neg hy] at e2'
        obtain ⟨u, h3, r⟩ := hl y d'' e1 e2'
        exact ⟨u, h3, up _ _ _ hy r⟩
    · by_cases hy : y = x
      · subst hy
        obtain ⟨c, h1, h2⟩ := hcel hc
        obtain ⟨c', _, h1', h2', _⟩ := S.en.cell y hc
        rw [h1] at h1'; cases h1'
        obtain ⟨o, e, r⟩ := id h2
        refine ⟨c, _, h1, h2', ⟨o, ka c o (na c _ h2) (kKp k c o e), r⟩, fun d'' e2 => ?_⟩
        have e2' : (put σ.vars y d').lookup y = some d'' := e2
        rw [put_lookup, if_pos rfl] at e2'; cases e2'
        exact ⟨_, rfl, new⟩
      · obtain ⟨c, v, h1, h2, h3, h4⟩ := S.en.cell y hc
        obtain ⟨o, e, r⟩ := id h3
        refine ⟨c, v, h1, h2, ⟨o, ka c o (na c _ h3) (kKp k c o e), r⟩, fun d'' e2 => ?_⟩
        have e2' : (put σ.vars x d').lookup y = some d'' := e2
        rw [put_lookup, if_neg hy] at e2'
        obtain ⟨u, h5, r⟩ := h4 d'' e2'
        exact ⟨u, h5, up _ _ _ hy r⟩
  by_cases hlo : σ.names.lookup x = some .local
  · obtain ⟨v, h3, r⟩ := hl x d hlo hv
    have r' := r
    unfold VRep at r'
    rw [if_pos ho] at r'
    obtain ⟨a, rfl, _⟩ := r'
    refine gen a r (fun _ => h3) (fun q => by rw [hlo] at q; cases q) fun s₁ k E Q hQ => ?_
    exact wpAny_loadName_local S.en.kind (kindOf_local S.en hlo) (hn.keeps (kKp k)) h3 hQ
  · have hc : isCellKind (σ.names.lookup x) = true := by
      unfold isVarKind at hx; unfold isCellKind
      simp only [Bool.or_eq_true, beq_iff_eq] at hx ⊢
      rcases hx with (hx | hx) | hx
      · exact absurd hx hlo
      · exact .inl hx
      · exact .inr hx
    obtain ⟨c, v, h1, h2, h3, h4⟩ := S.en.cell x hc
    obtain ⟨u, rfl, r⟩ := h4 d hv
    have r' := r
    unfold VRep at r'
    rw [if_pos ho] at r'
    obtain ⟨a, rfl, _⟩ := r'
    refine gen a r (fun q => absurd q hlo) (fun _ => ⟨c, h1, h3⟩) fun s₁ k E Q hQ => ?_
    have h3' := h3.keeps (kKp k)
    unfold isCellKind at hc
    simp only [Bool.or_eq_true, beq_iff_eq] at hc
    rcases hc with hc | hc
    · rcases S.en.nm x _ hc with h | ⟨h, _⟩
      · exact wpAny_loadName_cell S.en.kind h h1 h3' hQ
      · cases h
    · rcases S.en.nm x _ hc with h | ⟨_, h⟩
      · exact wpAny_loadName_free S.en.kind h h1 h3' hQ (S.en.cd x _ hc)
      · exact wpAny_loadName_cell S.en.kind h h1 h3' hQ

theorem ownSet_eq {x : Str} {d : D} (ho : σ.own = some x) (e : ownSet σ x d = some σ') : σ' = { σ with vars := put σ.vars x d } ∧ isVarKind (σ.names.lookup x) = true := by
  unfold ownSet at e
  split at e
  · rename_i hx
    cases e
    refine ⟨by cases σ; simp at ho; subst ho; rfl, ?_⟩
    unfold isVarKind
    simp only [Bool.or_eq_true] at hx ⊢
    exact .inl hx
  · cases e

theorem nameD_own {x : Str} {d : D} (h : nameD P σ x = some d) (hx : isVarKind (σ.names.lookup x) = true) : σ.vars.lookup x = some d := by
  unfold nameD at h
  rwa [if_pos hx] at h

/-- the owned place is changed -/
theorem own_after {x : Str} {a : Addr} {d d' : D} {T₁ T' : Tm} {s₁ : Shared} {h' : Heap} {tk : Nat} (S : Sit prog w P h0 mg mb W T O env σ s) (k : Keeps s s₁) (t : TLe T T₁) (tb₁ : TB T₁ s₁.toks) (oa : O a) (hno : OwnNow prog w P h0 mg mb A W O env σ x a d T₁ s₁) (t' : TLe T₁ T') (tb : TB T' tk) (od : OwnAt prog w W T' h' a d')
    (ka : ∀ b o, b ≠ a → s₁.heap.get? b = some o → h'.get? b = some o) : flPost prog w P h0 mg mb W T O env σ s (.next { σ with vars := put σ.vars x d' }) .next { s₁ with heap := h', toks := tk } := by
  refine flNext ⟨rfl, W, O, T', hno.2.2 h' d' T' tk t' tb od ka, t.trans t', ⟨?_, fun _ q => .inl q, fun _ q => .inl q, fun _ q => .inl q⟩⟩
  obtain ⟨h1, t1, rfl, k1⟩ := k
  exact ⟨h', tk, rfl, fun b o hb e => ka b o (fun q => hb (.inr (q ▸ oa))) (k1 b o e)⟩

theorem quietFrame (S : Sit prog w P h0 mg mb W T O env σ s) : interactive env = false := by
  unfold interactive
  rw [S.en.kind]
  rfl

theorem append_ok (RO : RcOk prog w P h0 mg mb A R) {x : Str} {xp ap p pos : Pos} {e : Expr} {l : List D} {d : D} (hp : plainName x = true) (ho : σ.own = some x) (hs : noStar [e] = true) (hline : ap.endLine = p.line)
    (h1 : nameD P σ x = some (.list l)) (h2 : R.ev σ e = some d) (hl : l.length ≤ 2 ^ 20) (h3 : ownSet σ x (.list (l ++ [d])) = some σ') (S : Sit prog w P h0 mg mb W T O env σ s) :
    wpAny (model prog w) A (exec (.Expr (.Call (.Attribute (.Name x xp) "append" ap) [e] [] p) pos) env) (flPost prog w P h0 mg mb W T O env σ s (.next σ')) E s := by
  obtain ⟨rfl, hk⟩ := ownSet_eq ho h3
  obtain ⟨a, oa, aL, own⟩ := own_name (A := A) S ho hk (nameD_own h1 hk)
  have own0 := own s T (kRefl s) (TLe.refl _) S.tb
  refine wpAny_Expr_any ?_ (quietFrame S) rfl
  obtain ⟨g1, g2⟩ := noStar_plain (env := env) (pos := p) hs
  refine wpAny_Call_method (T := "list") (id := "list.append") (base_ok (o := .Name x xp) hp) ?_ (by rw [hline]; simp) F.plainAttrs_list F.slot_list_append F.type_list_append ?_
  · rw [g2]
    simp [backToKw, keywordEach]
  refine wpAny_Name (own0.2.1 _ _ ?_) (plain_debug hp)
  have hpl : ∃ vs, s.heap.PlainList a vs ∧ Reps prog w W T s.heap vs.toList l := by
    cases own0.1 with | list q1 q2 => exact ⟨_, q1, q2⟩
  obtain ⟨vs, pl, rs⟩ := hpl
  refine ⟨pl.isList.typeIs, (fun b e => by cases e; obtain ⟨n, e⟩ := pl; exact ⟨_, e, rfl⟩), PySem.Calls.callWith_builtin g1 (evalArgs_ok hs ?_)⟩
  rw [(starEach_cons (env := env) hs).1]
  show wpAny (model prog w) A (spliced ((false, eval e env) :: [])) _ E s
  refine PySem.Calls.spliced_cons (wpAny_mono (RO.ev h2 S) (fun vb s₁ q₁ => PySem.Calls.spliced_nil ?_) fun _ _ q => q)
  obtain ⟨T₁, t1, tb1, k1, r1⟩ := q₁
  have own1 := own s₁ T₁ k1 t1 tb1
  have pl1 : s₁.heap.PlainList a vs := pl.at fun o e => kKp k1 a o e
  have l1 := rs.length; simp only [Array.length_toList] at l1
  refine wpAny_list_append_plain pl1 (fun h' pl' hs' => ?_) (by unfold sizeLine; omega)
  have kb : KpB W s₁.heap h' := fun b o hb e => hs'.extBut b o (fun q => hb (q ▸ S.ow a oa)) e
  exact own_after S k1 t1 tb1 oa own1 (TLe.refl _) tb1 (.list pl' (by rw [Array.toList_push]; exact (((rs.keeps k1).tm t1).snoc r1).kp kb)) fun b o hb e => hs'.extBut b o hb e

theorem eraseIdx_toList (vs : Array Value) (k : Nat) (h : k < vs.size) : (vs.eraseIdxIfInBounds k).toList = vs.toList.eraseIdx k := by
  unfold Array.eraseIdxIfInBounds
  rw [dif_pos h]
  simp

theorem Reps.eraseIdx : ∀ {vs : List Value} {ds : List D} (n : Nat) {h : Heap}, Reps prog w W T h vs ds → Reps prog w W T h (vs.eraseIdx n) (ds.eraseIdx n)
  | _, _, _, _, .nil => by simpa using Reps.nil
  | _, _, 0, _, .cons a b => by simpa using b
  | _, _, n + 1, _, .cons a b => by simpa using Reps.cons a (Reps.eraseIdx n b)

theorem seqIndex_lt {j : Int} {n k : Nat} (h : seqIndex? j n = some k) : k < n := by
  unfold seqIndex? at h
  by_cases hj : j < 0 <;> simp [hj] at h <;> omega

theorem del_ok (RO : RcOk prog w P h0 mg mb A R) {x : Str} {xp ip pos : Pos} {i : Expr} {l l' : List D} {j : Int} (hp : plainName x = true) (ho : σ.own = some x)
    (h1 : nameD P σ x = some (.list l)) (h2 : R.ev σ i = some (.int j)) (hd : delAt l j = some l') (h3 : ownSet σ x (.list l') = some σ') (S : Sit prog w P h0 mg mb W T O env σ s) :
    wpAny (model prog w) A (exec (.Delete [.Subscript (.Name x xp) i ip] pos) env) (flPost prog w P h0 mg mb W T O env σ s (.next σ')) E s := by
  obtain ⟨rfl, hk⟩ := ownSet_eq ho h3
  obtain ⟨a, oa, aL, own⟩ := own_name (A := A) S ho hk (nameD_own h1 hk)
  have own0 := own s T (kRefl s) (TLe.refl _) S.tb
  have hpl : ∃ vs, s.heap.PlainList a vs ∧ Reps prog w W T s.heap vs.toList l := by
    cases own0.1 with | list q1 q2 => exact ⟨_, q1, q2⟩
  obtain ⟨vs, pl, rs⟩ := hpl
  have l1 := rs.length; simp only [Array.length_toList] at l1
  unfold delAt at hd
  split at hd
  · rename_i hc
    simp only [Option.map_eq_some_iff] at hd
    obtain ⟨k, hk', rfl⟩ := hd
    have hkl : k < l.length := by
      exact seqIndex_lt hk'
    refine wpAny_Delete (wpAny_deleteEach_cons ?_)
    rw [arm_delete_Subscript]
    refine wpAny_bind (wpAny_Name (own0.2.1 _ _ ?_) (plain_debug hp))
    refine wpAny_bind (wpAny_holding (wpAny_mono (RO.ev h2 S) (fun vb s₁ q₁ => ?_) fun _ _ q => q))
    obtain ⟨T₁, t1, tb1, k1, r1⟩ := q₁
    cases r1 with | int _ u => ?_
    have own1 := own s₁ T₁ k1 t1 tb1
    have pl1 : s₁.heap.PlainList a vs := pl.at fun o e => kKp k1 a o e
    have fit : Builtin.List.listFitsIndex j = true := by
      have := hc.2
      unfold small at this
      simp only [decide_eq_true_eq] at this
      unfold Builtin.List.listFitsIndex
      simp only [Bool.and_eq_true, decide_eq_true_eq]
      omega
    refine wpAny_bind (wpAny_standAt (wpAny_bind (wpAny_holding (wpAny_delItem_plain pl1 fit (by rw [l1]; exact hk') (fun h' pl' hs' => ?_) (by unfold sizeLine; omega)))))
    refine wpAny_release (wpAny_deleteEach_nil ?_)
    have kb : KpB W s₁.heap h' := fun b o hb e => hs'.extBut b o (fun q => hb (q ▸ S.ow a oa)) e
    exact own_after S k1 t1 tb1 oa own1 (TLe.refl _) tb1 (.list pl' (by rw [eraseIdx_toList _ _ (by omega)]; exact (((rs.keeps k1).tm t1).eraseIdx k).kp kb)) fun b o hb e => hs'.extBut b o hb e
  · cases hd

theorem any_lookup (l : List (Int × Int)) (k : Int) : l.any (fun kv => decide (kv.1 = k)) = (l.lookup k).isSome := by
  induction l with
  | nil => rfl
  | cons a r ih =>
    obtain ⟨x, y⟩ := a
    by_cases h : k = x
    · subst h; simp
    · have : (k == x) = false := by simpa using h
      have h' : ¬ x = k := fun e => h e.symm
      simp [List.lookup, this, h', ih]
theorem any_valueAt (l : List (Int × Value)) (k : Int) : l.any (fun kv => decide (kv.1 = k)) = (valueAt l k).isSome := by
  unfold valueAt
  induction l with
  | nil => rfl
  | cons a r ih =>
    by_cases h : a.1 = k
    · simp [h]
    · simp only [List.any_cons, h, decide_false, Bool.false_or, List.find?_cons]; exact ih
theorem map_lookup (l : List (Int × Int)) (k v y : Int) : (l.map (fun kv => if kv.1 = k then (kv.1, v) else kv)).lookup y = if y = k ∧ (l.lookup k).isSome then some v else l.lookup y := by
  induction l with
  | nil => simp
  | cons a r ih =>
    obtain ⟨x, z⟩ := a
    by_cases h : x = k
    · subst h
      by_cases hy : y = x
      · subst hy; simp [List.lookup]
      · have : (y == x) = false := by simpa using hy
        simp [List.lookup, this, hy, ih]
    · have hk : (k == x) = false := by simpa using fun e : k = x => h e.symm
      simp only [List.map_cons, h, if_false, List.lookup, hk]
      by_cases hy : y = x
      · subst hy; simp [h]
      · have : (y == x) = false := by simpa using hy
        simp only [this]; exact ih
theorem map_valueAt (l : List (Int × Value)) (k y : Int) (v : Value) : valueAt (l.map (fun kv => if kv.1 = k then (kv.1, v) else kv)) y = if y = k ∧ (valueAt l k).isSome then some v else valueAt l y := by
  unfold valueAt
  induction l with
  | nil => simp
  | cons a r ih =>
    obtain ⟨x, z⟩ := a
    by_cases h : x = k
    · subst h
      by_cases hy : y = x
      · subst hy; simp
      · have h' : ¬ x = y := fun e => hy e.symm
        simp only [List.map_cons, if_true, List.find?_cons, h', decide_false, hy, false_and, if_false] at ih ⊢
        rw [ih]
    · simp only [List.map_cons, h, if_false, List.find?_cons, decide_false]
      by_cases hy : x = y
      · subst hy; simp [h]
      · simp only [hy, decide_false]; exact ih
theorem stored_pair {l : List (Int × Int)} {kvs : List (Int × Value)} {k d : Int} {t : Tok} (hl : kvs.length = l.length) (h : ∀ k : Int, (l.lookup k = none → valueAt kvs k = none) ∧ ∀ i, l.lookup k = some i → ∃ t, valueAt kvs k = some (.int i t)) :
    (stored kvs k (.int d t)).length = (storeP l k d).length ∧ ∀ y : Int, ((storeP l k d).lookup y = none → valueAt (stored kvs k (.int d t)) y = none) ∧ ∀ i, (storeP l k d).lookup y = some i → ∃ t', valueAt (stored kvs k (.int d t)) y = some (.int i t') := by
  have hs : (l.lookup k).isSome = (valueAt kvs k).isSome := by
    cases e : l.lookup k with
    | none => rw [(h k).1 e]; rfl
    | some i => obtain ⟨t, e'⟩ := (h k).2 i e; rw [e']; rfl
  unfold stored storeP
  rw [any_lookup, any_valueAt, hs]
  by_cases hk : (valueAt kvs k).isSome = true
  · rw [if_pos hk, if_pos hk]
    refine ⟨by simp [hl], fun y => ?_⟩
    rw [map_lookup, map_valueAt, hs]
    by_cases hy : y = k
    · rw [if_pos ⟨hy, hk⟩, if_pos ⟨hy, hk⟩]
      exact ⟨fun e => (by cases e), fun i e => by cases e; exact ⟨t, rfl⟩⟩
    · rw [if_neg (fun q => hy q.1), if_neg (fun q => hy q.1)]
      exact h y
  · rw [if_neg hk, if_neg hk]
    refine ⟨by simp [hl], fun y => ?_⟩
    have e1 : (l ++ [(k, d)]).lookup y = (l.lookup y).or (if y = k then some d else none) := by
      rw [List.lookup_append]
      congr 1
      by_cases hy : y = k
      · subst hy; simp [List.lookup]
      · have : (y == k) = false := by simpa using hy
        simp [List.lookup, this, hy]
    have e2 : valueAt (kvs ++ [(k, Value.int d t)]) y = (valueAt kvs y).or (if y = k then some (.int d t) else none) := by
      unfold valueAt
      rw [List.find?_append]
      cases (kvs.find? fun kv => kv.1 = y) with
      | some _ => rfl
      | none =>
        by_cases hy : y = k
        · subst hy; simp
        · have h' : ¬ k = y := fun e => hy e.symm
          simp [hy, h']
    rw [e1, e2]
    cases e3 : l.lookup y with
    | none =>
      rw [(h y).1 e3]
      by_cases hy : y = k
      · simp [hy]
      · simp [hy]
    | some i =>
      obtain ⟨t', e4⟩ := (h y).2 i e3
      rw [e4]
      exact ⟨fun e => (by simp at e), fun j e => by simp at e; subst e; exact ⟨t', rfl⟩⟩

theorem dset_ok (RO : RcOk prog w P h0 mg mb A R) {x : Str} {xp ip pos : Pos} {i v : Expr} {l : List (Int × Int)} {k d : Int} (hp : plainName x = true) (ho : σ.own = some x) (hc : notComp v = true)
    (h1 : nameD P σ x = some (.iidict l)) (h2 : R.ev σ i = some (.int k)) (hv : R.ev σ v = some (.int d)) (hl : l.length ≤ 2 ^ 20) (h3 : ownSet σ x (.iidict (storeP l k d)) = some σ') (S : Sit prog w P h0 mg mb W T O env σ s) :
    wpAny (model prog w) A (exec (.Assign [.Subscript (.Name x xp) i ip] v pos) env) (flPost prog w P h0 mg mb W T O env σ s (.next σ')) E s := by
  obtain ⟨rfl, hk⟩ := ownSet_eq ho h3
  obtain ⟨a, oa, aL, own⟩ := own_name (A := A) S ho hk (nameD_own h1 hk)
  refine wpAny_Assign_Subscript (wpAny_mono (RO.ev hv S) (fun va s₁ q₁ => ?_) fun _ _ q => q) (by cases v <;> first | rfl | simp [notComp] at hc)
  obtain ⟨T₁, t1, tb1, k1, r1⟩ := q₁
  cases r1 with | int _ u => ?_
  have own1 := own s₁ T₁ k1 t1 tb1
  have S₁ := S.step t1 tb1 k1
  refine wpAny_Name (own1.2.1 _ _ ?_) (plain_debug hp)
  refine wpAny_mono (RO.ev h2 S₁) (fun vk s₂ q₂ => ?_) fun _ _ q => q
  obtain ⟨T₂, t2, tb2, k2, r2⟩ := q₂
  cases r2 with | int _ u2 => ?_
  have k12 := kTrans k1 k2
  have own2 := own s₂ T₂ k12 (t1.trans t2) tb2
  have hii : IIAt prog w s₂.heap a l := by cases own2.1 with | iidict q => exact q
  obtain ⟨hm, kvs, hd, hlen, hlk⟩ := hii
  obtain ⟨g1, g2⟩ := stored_pair (k := k) (d := d) (t := u) hlen hlk
  refine wpAny_setItem_pairs (knd := intKind prog w) (intKind_is ..) hd (fun h' hd' hs' => ?_) (by unfold sizeLine; omega)
  exact own_after S k12 (t1.trans t2) tb2 oa own2 (TLe.refl _) (tb2.mono (Nat.le_succ _)) (.iidict ⟨hm, _, hd', g1, g2⟩) fun b o hb e => hs'.extBut b o hb e
end Mine
end
section
namespace Mine
open PySem PyProof.Rows PySem.SeqAt

variable {prog : Program} {w : World} {A : Around} {E : Value → Shared → Prop} {W W' : Addr → Prop} {T T' : Tm} {s s' : Shared} {P : PI} {n0 : Nat} {h0 : Heap} {mg mb : Str → Option Value} {O : Addr → Prop} {env : Env} {σ σ' : St} {R : Rc} {C : CallS}

theorem exStep_ok (hh : A.handled = none) (RO : RcOk prog w P h0 mg mb A R) (RX : RcX prog w P h0 mg mb A R) {X : St → Stmt → Option Fl} (XO : XOk prog w P h0 mg mb A X) : XOk prog w P h0 mg mb A (exStep P R X) := by
  intro W T O env σ st f h s E S
  unfold exStep at h
  split at h
  · simp only [Option.map_eq_some_iff] at h
    obtain ⟨d, h1, rfl⟩ := h
    exact ret_ok RO h1 S
  · simp only [Option.bind_eq_some_iff] at h
    obtain ⟨c, h1, h2⟩ := h
    exact if_ok RO XO h1 h2 S
  · simp only [Option.bind_eq_some_iff] at h
    obtain ⟨c, h1, h2⟩ := h
    split at h2
    · rename_i hc; subst hc; cases h2; exact assert_ok RO h1 S
    · cases h2
  · split at h
    · cases h
    · rename_i hs
      simp only [Option.bind_eq_some_iff] at h
      obtain ⟨src, h1, its, h2, h3⟩ := h
      exact for_ok RO XO hh (by simpa using hs) h1 h2 h3 S
  · exact while_ok RO XO h S
  · split at h
    · cases h
    · rename_i hc
      simp only [not_or, Decidable.not_not] at hc
      simp only [Option.bind_eq_some_iff] at h
      obtain ⟨a, h1, b, h2, h3⟩ := h
      split at h3
      · simp only [Option.map_eq_some_iff] at h3
        obtain ⟨σ', h3, rfl⟩ := h3
        exact aug_ok RO hc.1 h1 h2 h3 (.inl ⟨rfl, rfl⟩) S
      · simp only [Option.map_eq_some_iff] at h3
        obtain ⟨σ', h3, rfl⟩ := h3
        exact aug_ok RO hc.1 h1 h2 h3 (.inr ⟨rfl, rfl⟩) S
      · cases h3
  · split at h
    · rename_i hc
      simp only [Option.bind_eq_some_iff] at h
      obtain ⟨a, h1, k, h2, h3⟩ := h
      split at h3
      · simp only [Option.bind_eq_some_iff, Option.map_eq_some_iff] at h3
        obtain ⟨l', h3, σ', h4, rfl⟩ := h3
        exact del_ok RO hc.2 hc.1 h1 h2 h3 h4 S
      · cases h3
    · cases h
  · split at h
    · rename_i hc
      obtain ⟨rfl, ho, hp, hs, hl⟩ := hc
      simp only [Option.bind_eq_some_iff] at h
      obtain ⟨a, h1, d, h2, h3⟩ := h
      split at h3
      · split at h3
        · rename_i hz
          simp only [Option.map_eq_some_iff] at h3
          obtain ⟨σ', h4, rfl⟩ := h3
          exact append_ok RO hp ho hs hl h1 h2 hz h4 S
        · cases h3
      · cases h3
    · cases h
  · split at h
    · rename_i hc
      obtain ⟨ho, hp, hn⟩ := hc
      simp only [Option.bind_eq_some_iff] at h
      obtain ⟨d, h1, a, h2, k, h3, h4⟩ := h
      split at h4
      · split at h4
        · rename_i hz
          simp only [Option.map_eq_some_iff] at h4
          obtain ⟨σ', h5, rfl⟩ := h4
          exact dset_ok RO hp ho hn h2 h3 h1 hz h5 S
        · cases h4
      · cases h4
    · cases h
  · split at h
    · simp only [Option.map_eq_some_iff] at h
      obtain ⟨σ', h5, rfl⟩ := h
      exact newList_ok h5 S
    · simp only [Option.map_eq_some_iff] at h
      obtain ⟨σ', h5, rfl⟩ := h
      exact newDict_ok h5 S
    · split at h
      · rename_i hc
        obtain ⟨rfl, hp, ho, hs, hl⟩ := hc
        simp only [Option.bind_eq_some_iff] at h
        obtain ⟨a, h1, b, h2, h3⟩ := h
        split at h3
        · simp only [Option.bind_eq_some_iff, Option.map_eq_some_iff] at h3
          obtain ⟨d, h4, σ', h5, rfl⟩ := h3
          exact split_ok RO hp ho hs hl h1 h2 h4 h5 S
        · cases h3
      · simp only [Option.bind_eq_some_iff, Option.map_eq_some_iff] at h
        obtain ⟨d, h4, σ', h5, rfl⟩ := h
        exact name_store hh RO RX h4 h5 S
    · simp only [Option.bind_eq_some_iff, Option.map_eq_some_iff] at h
      obtain ⟨d, h4, σ', h5, rfl⟩ := h
      exact name_store hh RO RX h4 h5 S
  · split at h
    · rename_i hc
      simp only [Bool.and_eq_true] at hc
      simp only [Option.bind_eq_some_iff, Option.map_eq_some_iff] at h
      obtain ⟨d, h4, σ', h5, rfl⟩ := h
      exact tupAssign_ok RO hh hc.1 hc.2 h4 h5 S
    · cases h
  · cases h

theorem xs_ok (hh : A.handled = none) (RO : RcOk prog w P h0 mg mb A R) (RX : RcX prog w P h0 mg mb A R) : ∀ n, XOk prog w P h0 mg mb A (xs P R n)
  | 0 => fun h => by simp [xs] at h
  | n + 1 => exStep_ok hh RO RX (xs_ok hh RO RX n)
end Mine
end
section
namespace Mine
open PySem PyProof.Rows PySem.SeqAt

variable {prog : Program} {w : World} {A : Around} {E : Value → Shared → Prop} {W W' : Addr → Prop} {T T' : Tm} {s s' : Shared} {P : PI} {n0 : Nat} {h0 : Heap} {mg mb : Str → Option Value} {O : Addr → Prop} {env : Env} {σ σ' : St} {R : Rc} {C : CallS}

theorem zip_lookup_isSome : ∀ {xs : List Str} {vs : List Value}, xs.length = vs.length → ∀ x ∈ xs, ((xs.zip vs).lookup x).isSome = true
  | [], _, _, x, hx => by simp at hx
  | y :: xs, [], h, _, _ => by simp at h
  | y :: xs, v :: vs, h, x, hx => by
    simp only [List.zip_cons_cons, List.lookup_cons]
    by_cases e : x = y
    · subst e; simp
    · have : (x == y) = false := by simpa using e
      rw [this]
      exact zip_lookup_isSome (by simpa using h) x (by simpa [e] using hx)

theorem zip_binds : ∀ {xs : List Str} {vs : List Value} {l : List (Str × Value)}, xs.Nodup → xs.length = vs.length → (∀ p ∈ xs.zip vs, l.lookup p.1 = some p.2) → xs.filterMap (fun n => (l.lookup n).map (n, ·)) = xs.zip vs
  | [], _, _, _, _, _ => by simp
  | y :: xs, [], _, _, h, _ => by simp at h
  | y :: xs, v :: vs, l, hn, h, hl => by
    rw [List.nodup_cons] at hn
    have h1 : l.lookup y = some v := hl (y, v) (by simp)
    simp only [List.filterMap_cons, h1, Option.map_some, List.zip_cons_cons]
    rw [zip_binds hn.2 (by simpa using h) fun p hp => hl p (List.mem_cons_of_mem _ hp)]

theorem zip_lookup_at {xs : List Str} {vs : List Value} (hn : xs.Nodup) (h : xs.length = vs.length) : ∀ p ∈ xs.zip vs, (xs.zip vs).lookup p.1 = some p.2 := fun p hp =>
  lookup_nodup (l := xs.zip vs) (by rw [List.map_fst_zip (by omega)]; exact hn) (x := p.1) (a := p.2) hp

theorem bindArgs_plain {name : Str} {params : Arguments} {body : List Stmt} {scope : Scope} {pm cd doc : Value} {vs : List Value} (h1 : params.posonlyargs = []) (h2 : params.vararg = none) (h3 : params.kwonlyargs = []) (h4 : params.kwarg = none)
    (hn : (params.args.map (·.arg)).Nodup) (hl : (params.args.map (·.arg)).length = vs.length) :
    bindArgs (PySem.Calls.docDef name params body scope pm cd doc) ⟨vs, []⟩ = pure ((params.args.map (·.arg)).zip vs) := by
  have e1 : (PySem.Calls.docDef name params body scope pm cd doc).params = params := rfl
  have e2 : seqItems? (PySem.Calls.docDef name params body scope pm cd doc).defaults = pure none := rfl
  unfold bindArgs
  simp only [e1, e2, h1, h2, h3, h4, List.map_nil, List.nil_append, List.append_nil, pure_bind, Option.getD_none, List.forIn_nil]
  have m0 : (List.map (fun x => x.arg) params.args).filter (fun n => (List.lookup n ((params.args.map (·.arg)).zip vs)).isNone) = [] := by
    rw [List.filter_eq_nil_iff]
    intro x hx
    have := zip_lookup_isSome hl x hx
    simp [Option.isNone_iff_eq_none, Option.isSome_iff_ne_none.mp this]
  have ez := zip_binds (l := (params.args.map (·.arg)).zip vs) hn hl (zip_lookup_at hn hl)
  generalize params.args.map (·.arg) = xs at *
  rw [if_neg (by simp [hl])]
  simp only [List.drop_nil, List.length_nil, Nat.sub_zero, List.take_length, m0, List.isEmpty_nil, Bool.not_true, Bool.false_eq_true, if_false, List.zip_nil_right, List.forIn_nil, pure_bind, ez]
end Mine
end
section
namespace Mine
open PySem PyProof.Rows PySem.SeqAt

variable {prog : Program} {w : World} {A : Around} {E : Value → Shared → Prop} {W W' : Addr → Prop} {T T' : Tm} {s s' : Shared} {P : PI} {n0 : Nat} {h0 : Heap} {mg mb : Str → Option Value} {O : Addr → Prop} {env : Env} {σ σ' : St} {R : Rc} {C : CallS}

theorem bindL_get {kindOf : Str → Option NameKind} : ∀ {xs : List Str} {vs : List Value} {m : Str → Option Value} {x : Str}, xs.Nodup → kindOf x = some .local → bindL kindOf (xs.zip vs) m x = ((xs.zip vs).lookup x).or (m x)
  | [], vs, m, x, _, _ => by simp [bindL]
  | y :: xs, [], m, x, _, _ => by simp [bindL]
  | y :: xs, v :: vs, m, x, hn, hk => by
    rw [List.nodup_cons] at hn
    simp only [List.zip_cons_cons, bindL, List.lookup_cons]
    rw [bindL_get hn.2 hk]
    by_cases hx : x = y
    · subst hx
      have : (xs.zip vs).lookup x = none := by
        rw [List.lookup_eq_none_iff]
        intro p hp
        have := List.of_mem_zip (a := p.1) (b := p.2) hp
        have ne : x ≠ p.1 := fun q => hn.1 (q ▸ this.1)
        simpa using ne
      rw [this, if_pos hk]
      simp
    · have : (x == y) = false := by simpa using hx
      rw [this]
      simp only
      split
      · simp [hx]
      · rfl

theorem bindC_get {kindOf : Str → Option NameKind} : ∀ {xs : List Str} {vs : List Value} {m : Str → Option Value} {x : Str}, xs.Nodup → ¬ kindOf x = some .local → bindC kindOf (xs.zip vs) m x = ((xs.zip vs).lookup x).or (m x)
  | [], vs, m, x, _, _ => by simp [bindC]
  | y :: xs, [], m, x, _, _ => by simp [bindC]
  | y :: xs, v :: vs, m, x, hn, hk => by
    rw [List.nodup_cons] at hn
    simp only [List.zip_cons_cons, bindC, List.lookup_cons]
    rw [bindC_get hn.2 hk]
    by_cases hx : x = y
    · subst hx
      have : (xs.zip vs).lookup x = none := by
        rw [List.lookup_eq_none_iff]
        intro p hp
        have := List.of_mem_zip (a := p.1) (b := p.2) hp
        have ne : x ≠ p.1 := fun q => hn.1 (q ▸ this.1)
        simpa using ne
      rw [this, if_neg hk]
      simp
    · have : (x == y) = false := by simpa using hx
      rw [this]
      simp only
      split
      · rfl
      · simp [hx]

theorem zip_rep {xs : List Str} {h : Heap} : ∀ {vs : List Value} {ds : List D}, Reps prog w W T h vs ds → ∀ {x : Str} {d : D}, (xs.zip ds).lookup x = some d → ∃ v, (xs.zip vs).lookup x = some v ∧ Rep prog w W T h v d := by
  induction xs with
  | nil => intro vs ds _ x d e; simp at e
  | cons y xs ih =>
    intro vs ds r x d e
    cases r with
    | nil => simp at e
    | cons r1 r2 =>
      simp only [List.zip_cons_cons, List.lookup_cons] at e ⊢
      by_cases hx : x = y
      · subst hx; simp at e ⊢; subst e; exact r1
      · have : (x == y) = false := by simpa using hx
        rw [this] at e ⊢
        exact ih r2 e

theorem cells_nodup : ∀ {names : List (Str × NameKind)} {n : Nat} {x : Str} {a b : Addr}, (names.map (·.1)).Nodup → (x, a) ∈ cellsFrom n names [] → (x, b) ∈ cellsFrom n names [] → a = b
  | (y, k) :: r, n, x, a, b, hn, h1, h2 => by
    simp only [List.map_cons, List.nodup_cons] at hn
    unfold cellsFrom at h1 h2
    split at h1
    · rename_i hk
      rw [if_pos hk] at h2
      rw [cellsFrom_append] at h1 h2
      have no : ∀ {c}, (x, c) ∈ cellsFrom (n + 1) r [] → x ≠ y := fun h q => hn.1 (by
        rw [← q]; exact List.mem_map.mpr ⟨_, cellsFrom_mem h, rfl⟩)
      rcases List.mem_append.mp h1 with h1 | h1 <;> rcases List.mem_append.mp h2 with h2 | h2
      · exact cells_nodup hn.2 h1 h2
      · simp at h2; exact absurd h2.1 (no h1)
      · simp at h1; exact absurd h1.1 (no h2)
      · simp at h1 h2; rw [h1.2, h2.2]
    · rename_i hk
      rw [if_neg hk] at h2
      exact cells_nodup hn.2 h1 h2

theorem callStep_ok (hd : A.depth < recursionLimit) {f : Str} {fn : Fn} {as : List D} {d : D} {vs : List Value} {a : Addr} {X : St → Stmt → Option Fl}
    (XO : ∀ env, XOk prog w P h0 mg mb (A.deeper env) X) (hf : P.fns f = some fn) (hok : fnOk fn = true) (hl : fn.params.args.length = as.length) (hx : exsD X (startSt fn as) fn.body = some (.ret d))
    (G : GF prog w P h0 mg mb s.heap) (hz : h0.objs.size ≤ s.heap.objs.size) (wb : WB h0.objs.size W s.heap) (tb : TB T s.toks) (hm : mg f = some (.ref a)) (r : Reps prog w W T s.heap vs as) :
    wpAny (model prog w) A (call (.ref a) vs) (post prog w W T s d) E s := by
  unfold fnOk at hok
  simp only [Bool.and_eq_true, decide_eq_true_eq, beq_iff_eq, Bool.not_eq_true', List.isEmpty_iff, Option.isNone_iff_eq_none] at hok
  obtain ⟨⟨⟨⟨⟨⟨⟨⟨⟨⟨⟨hk, hco⟩, hgen⟩, p1⟩, p2⟩, p3⟩, p4⟩, nd⟩, kinds⟩, ncd⟩, vark⟩, pnd⟩ := hok
  obtain ⟨a', o, pm, cd, doc, e1, e2, e3, e4⟩ := G.now.fn f fn hf
  rw [hm] at e1; cases e1
  have l1 := r.length
  have hb : bindArgs (PySem.Calls.docDef f fn.params fn.body fn.scope pm cd doc) ⟨vs, []⟩ = pure ((fn.params.args.map (·.arg)).zip vs) := bindArgs_plain p1 p2 p3 p4 pnd (by rw [List.length_map]; omega)
  have kindIs : ∀ x k, fn.scope.names.lookup x = some k → k = .local ∨ k = .cell ∨ k = .globalImplicit := fun x k e => by
    rw [List.all_eq_true] at kinds
    have := kinds (x, k) (mem_of_lookup e)
    simp only [Bool.or_eq_true, beq_iff_eq] at this
    rcases this with (h | h) | h
    · exact .inl h
    · exact .inr (.inl h)
    · exact .inr (.inr h)
  have cellHas : ∀ x, fn.scope.names.lookup x = some .cell → ∃ c, (cellsFrom (s.heap.objs.size + 1) fn.scope.names []).lookup x = some c := fun x e => by
    obtain ⟨c, hc⟩ := cellsFrom_has (n := s.heap.objs.size + 1) (mem_of_lookup e)
    exact lookup_of_mem hc
  have hkind : ∀ p ∈ (fn.params.args.map (·.arg)).zip vs, fn.scope.names.lookup p.1 = some .local ∨ (fn.scope.names.lookup p.1 = some .cell ∧ ((cellsFrom (s.heap.objs.size + 1) fn.scope.names []).lookup p.1).isSome = true) := fun p hp => by
    have hp' : p.1 ∈ fn.params.args.map (·.arg) := (List.of_mem_zip (a := p.1) (b := p.2) hp).1
    obtain ⟨q, hq, hq'⟩ := List.mem_map.mp hp'
    rw [List.all_eq_true] at vark
    have hv := vark q hq
    rw [hq'] at hv
    unfold isVarKind at hv
    simp only [Bool.or_eq_true, beq_iff_eq] at hv
    rcases hv with (hv | hv) | hv
    · exact .inl hv
    · obtain ⟨c, hc⟩ := cellHas _ hv
      exact .inr ⟨hv, by rw [hc]; rfl⟩
    · rcases kindIs _ _ hv with h | h | h <;> cases h
  refine wpAny_call (codeAny_call_function hd e2 e3 hco hgen rfl e4 ?_)
  rw [hb]
  refine wpAny_pure (wpAny_with_toks (n := s.toks) (Nat.le_refl _) (wpAny_newFunctionEnv_cells hk hkind fun env he s₁ X₁ htk => ⟨G.now.lim.keeps X₁.toInCall.keep, codeAny_func ?_⟩))
  have ekind : ∀ x, env.kindOf x = fn.scope.names.lookup x := fun x => by rw [he]; rfl
  have eloc : env.locals = s.heap.objs.size := by rw [he]; rfl
  have ecells : env.cells = cellsFrom (s.heap.objs.size + 1) fn.scope.names [] := by rw [he]; rfl
  have kp : Kp s.heap s₁.heap := X₁.toInCall.keep
  have kk : Keeps s s₁ := by
    obtain ⟨h₁, tk, rfl⟩ := X₁.toInCall.same
    exact ⟨h₁, tk, rfl, kp⟩
  have hnone : ∀ a, s.heap.objs.size ≤ a → s.heap.get? a = none := fun a q => none_of_ge q
  have above : ∀ n c, (n, c) ∈ env.cells → s.heap.objs.size < c := fun n c h => eloc ▸ X₁.above n c h
  have nw : ∀ b, (W b ∨ b = env.locals ∨ ∃ n, (n, b) ∈ env.cells) → W b ∨ s.heap.get? b = none := fun b q => by
    rcases q with q | q | ⟨n, q⟩
    · exact .inl q
    · exact .inr (hnone _ (by rw [q, eloc]; exact Nat.le_refl _))
    · exact .inr (hnone _ (Nat.le_of_lt (above n b q)))
  have r₁ : Reps prog w (fun b => W b ∨ b = env.locals ∨ ∃ n, (n, b) ∈ env.cells) T s₁.heap vs as := (r.anti nw).kp fun b o _ e => kp b o e
  have vr : ∀ {x : Str} {v : Value} {d : D} {h : Heap}, Rep prog w (fun b => W b ∨ b = env.locals ∨ ∃ n, (n, b) ∈ env.cells) T h v d → VRep prog w (fun b => W b ∨ b = env.locals ∨ ∃ n, (n, b) ∈ env.cells) T h (fun _ => False) env.locals none x v d := fun r => by
    unfold VRep; rw [if_neg (fun q => nomatch q)]; exact r
  have hpl : (fn.params.args.map (·.arg)).length = vs.length := by rw [List.length_map]; omega
  have S₁ : Sit prog w P h0 mg mb (fun b => W b ∨ b = env.locals ∨ ∃ n, (n, b) ∈ env.cells) T (fun _ => False) env (startSt fn as) s₁ := by
    refine ⟨G.kp kp, fun b q => ?_, ⟨by rw [he]; exact hk, by rw [he]; rfl, by rw [he]; rfl, fun x k e => .inl (by rw [ekind]; exact e), fun x k e => ?_, .inr (.inl rfl), ⟨_, X₁.toInCall.ns, fun x d h1 h2 => ?_⟩, fun x hc => ?_, fun x y c h1 h2 => name_of_addr X₁.apart (mem_of_lookup h1) (mem_of_lookup h2)⟩, tb.mono htk, fun b q => q.elim⟩
    · rcases q with q | rfl | ⟨n, q⟩
      · obtain ⟨g, o, e⟩ := wb b q
        exact ⟨g, o, kp b o e⟩
      · obtain ⟨o, _, _, e, _⟩ := X₁.toInCall.ns
        exact ⟨by rw [eloc]; exact hz, o, e⟩
      · obtain ⟨c', hc'⟩ := lookup_of_mem q
        have hc2 := name_of_addr X₁.apart q q
        have nodupc : ∀ c'', env.cells.lookup n = some c'' → c'' = b := fun c'' e => by
          have m1 := mem_of_lookup e
          rw [ecells] at m1 q
          exact cells_nodup nd m1 q
        obtain ⟨o, e, _⟩ := X₁.cell n b (nodupc c' hc' ▸ hc')
        exact ⟨Nat.le_trans hz (Nat.le_of_lt (above n b q)), o, e⟩
    · have e' : fn.scope.names.lookup x = some k := e
      rw [List.all_eq_true] at ncd
      simpa using ncd (x, k) (mem_of_lookup e')
    · have h1' : fn.scope.names.lookup x = some .local := h1
      have h2' : ((fn.params.args.map (·.arg)).zip as).lookup x = some d := h2
      obtain ⟨v, e5, r5⟩ := zip_rep r₁ h2'
      exact ⟨v, by rw [bindL_get pnd (by rw [ekind]; exact h1'), e5]; rfl, vr r5⟩
    · have hc' : isCellKind (fn.scope.names.lookup x) = true := hc
      have hcell : fn.scope.names.lookup x = some .cell := by
        unfold isCellKind at hc'
        simp only [Bool.or_eq_true, beq_iff_eq] at hc'
        rcases hc' with h | h
        · exact h
        · rcases kindIs _ _ h with h | h | h <;> cases h
      obtain ⟨c, hc2⟩ := cellHas x hcell
      rw [← ecells] at hc2
      refine ⟨c, _, hc2, .inr (.inr ⟨x, mem_of_lookup hc2⟩), X₁.cell x c hc2, fun d h2 => ?_⟩
      have h2' : ((fn.params.args.map (·.arg)).zip as).lookup x = some d := h2
      obtain ⟨v, e5, r5⟩ := zip_rep r₁ h2'
      exact ⟨v, by rw [bindC_get pnd (by rw [ekind, hcell]; intro q; cases q), e5]; rfl, vr r5⟩
  refine wpAny_mono (E := fun _ _ => False) (execs_ok (XO env) hx S₁) (fun fl s₂ q => ?_) fun _ _ q => q.elim
  obtain ⟨v, rfl, W₂, O₂, T₂, t2, tb2, st, rr⟩ := q
  refine ⟨T₂, t2, tb2, ?_, rr.anti fun b q => (st.wo b (.inl q)).elim .inl False.elim⟩
  obtain ⟨h1, tk1, rfl, k1⟩ := kk
  obtain ⟨h2, tk2, rfl, k2⟩ := st.keep
  refine ⟨h2, tk2, rfl, fun b o e => k2 b o (fun q => ?_) (k1 b o e)⟩
  rcases q with (q | ⟨n, _, q⟩) | q
  · rw [q, eloc, hnone _ (Nat.le_refl _)] at e; cases e
  · rw [hnone _ (Nat.le_of_lt (above n b (mem_of_lookup q)))] at e; cases e
  · exact q

theorem callN_ok : ∀ (n : Nat) {A : Around}, A.handled = none → A.depth + n ≤ recursionLimit → A.units + 3 * n + 10 < cLine → CallOk prog w P h0 mg mb A (callN P n)
  | 0, A, _, _, _ => ⟨fun h => by simp [callN] at h, fun h => by simp [callN] at h⟩
  | n + 1, A, hh, hd, hu => by
    refine ⟨fun {f ds d} h => ?_, fun {f ds d} h {W T s E vs a} G hz wb tb hm r => ?_⟩
    · simp only [callN, Option.bind_eq_some_iff] at h
      obtain ⟨fn, h1, _⟩ := h
      exact ⟨fn, h1⟩
    · simp only [callN, Option.bind_eq_some_iff] at h
      obtain ⟨fn, h1, h2⟩ := h
      split at h2
      · rename_i hc
        simp only [Bool.and_eq_true, beq_iff_eq] at hc
        simp only [Option.bind_eq_some_iff] at h2
        obtain ⟨fl, h3, h4⟩ := h2
        cases fl with
        | next σ => cases h4
        | ret d' =>
          cases h4
          have deep : ∀ env, CallOk prog w P h0 mg mb (A.deeper env) (callN P n) := fun env => callN_ok n hh (by show A.depth + 1 + n ≤ _; omega) (by show A.units + 3 + 3 * n + 10 < _; omega)
          have hue : ∀ env, (A.deeper env).units + 10 < cLine := fun env => by show A.units + 3 + 10 < _; omega
          exact callStep_ok (by omega) (X := xs P (rc P (callN P n) 40) 20) (fun env => xs_ok (A := A.deeper env) hh (rc_ok (deep env) hh (hue env) 40) (rcx (deep env) hh (hue env) 40) 20) h1 hc.1 hc.2 h3 G hz wb tb hm r
      · cases h2
end Mine
end
section
namespace Mine
open PySem PySem.W PyProof.Rows PySem.SeqAt

variable {prog : Program} {w : World} {A : Around} {E : Value → Shared → Prop} {s s' : Shared}

/-- the functions as the text has them -/
def fdefs (p : Program) : List DefRec := p.main.body.filterMap fun st => match st with
  | .FunctionDef n a b _ _ _ sc _ _ pos => some ⟨n, a, b, sc, pos⟩
  | _ => none

theorem fnsOf_fdefs {p : Program} {f : Str} {i : Fn} (h : fnsOf p.main.body f = some i) : ∃ d ∈ fdefs p, d.name = f ∧ d.params = i.params ∧ d.body = i.body ∧ d.scope = i.scope := by
  unfold fnsOf at h
  split at h
  · rename_i n a b x1 x2 x3 sc x4 x5 pos hf
    cases h
    have h1 := List.mem_of_find?_eq_some hf
    have h2 := List.find?_some hf
    simp only [beq_iff_eq] at h2
    subst h2
    exact ⟨⟨n, a, b, sc, pos⟩, List.mem_filterMap.mpr ⟨_, h1, rfl⟩, rfl, rfl, rfl, rfl⟩
  · cases h

/-- the operators and their numbers -/
def tk (x : Str) (i : Int) : Str × Int := (x, i)
def tokTbl : List (Str × Int) := [tk "!" 54, tk "!=" 28, tk "%" 24, tk "%=" 40, tk "&" 19, tk "&=" 41, tk "(" 7, tk ")" 8, tk "*" 16, tk "**" 35, tk "**=" 46, tk "*=" 38, tk "+" 14, tk "+=" 36, tk "," 12, tk "-" 15, tk "-=" 37, tk "->" 51, tk "." 23, tk "..." 52, tk "/" 17, tk "//" 47, tk "//=" 48, tk "/=" 39, tk ":" 11, tk ":=" 53, tk ";" 13, tk "<" 20, tk "<<" 33, tk "<<=" 44, tk "<=" 29, tk "=" 22, tk "==" 27, tk ">" 21, tk ">=" 30, tk ">>" 34, tk ">>=" 45, tk "@" 49, tk "@=" 50, tk "[" 9, tk "]" 10, tk "^" 32, tk "^=" 43, tk "{" 25, tk "|" 18, tk "|=" 42, tk "}" 26, tk "~" 31]

def tokConsts (x : Str) : Option D :=
  if x = "EXACT_TOKEN_TYPES" then some (.sdict tokTbl) else if x = "NT_OFFSET" then some (.int 256) else if x = "ENDMARKER" then some (.int 0) else if x = "ELLIPSIS_MARKER" then some (.str "...") else none

def piX (p : Program) : PI := ⟨fnsOf p.main.body, tokConsts⟩

def mkRow (P : Params) (r : Str × Nat × Int × Nat) : DictEntry := ⟨PyData.keyHash P r.1, .str r.1 r.2.1, .int r.2.2.1 r.2.2.2⟩

theorem isStrOf_key (k x : Str) (t : Nat) : Value.isStrOf k (.str x t) = decide (k = x) := by
  by_cases h : k = x
  · subst h; simp [Value.isStrOf]
  · cases e : Value.isStrOf k (.str x t) with
    | false => simp [h]
    | true => obtain ⟨u, q⟩ := Value.isStrOf_shape e; cases q; exact absurd rfl h

theorem rows_find (P : Params) (k : Str) : ∀ rows : List (Str × Nat × Int × Nat),
    (((rows.map fun r => (r.1, r.2.2.1)).lookup k = none → ((rows.map (mkRow P)).find? fun e => Value.isStrOf k e.key).map (·.val) = none) ∧
      ∀ i, (rows.map fun r => (r.1, r.2.2.1)).lookup k = some i → ∃ t, ((rows.map (mkRow P)).find? fun e => Value.isStrOf k e.key).map (·.val) = some (.int i t))
  | [] => by simp
  | r :: rest => by
    have ih := rows_find P k rest
    simp only [List.map_cons, List.lookup_cons, List.find?_cons]
    have e2 : Value.isStrOf k (mkRow P r).key = decide (k = r.1) := isStrOf_key _ _ _
    rw [e2]
    by_cases h : k = r.1
    · have e1 : (k == r.1) = true := by simpa using h
      rw [e1, decide_eq_true h]
      exact ⟨fun q => (by cases q), fun i q => by cases q; exact ⟨_, rfl⟩⟩
    · have e1 : (k == r.1) = false := by simpa using h
      rw [e1, decide_eq_false h]
      exact ih

theorem tab_map {h : Heap} {at' : Addr} {o : Obj} {es : Array DictEntry} {ep : Nat} {rows : List (Str × Nat × Int × Nat)} (ho : h.get? at' = some o) (hx : o.ExactDict) (hd : o.data = .dict es ep) (he : es.toList = rows.map (mkRow w.params)) :
    h.MapOf (PySem.strKind prog w) at' (fun k => findBy Value.isStrOf es k) := by
  refine ⟨o, es, ep, ho, hx, hd, fun e hm => ?_, fun k => rfl⟩
  have : e ∈ rows.map (mkRow w.params) := he ▸ Array.mem_toList_iff.mpr hm
  obtain ⟨r, _, rfl⟩ := List.mem_map.mp this
  refine ⟨r.1, ?_, rfl⟩
  show Value.isStrOf r.1 (.str r.1 r.2.1) = true
  rw [isStrOf_key]; simp

theorem tab_lookup {es : Array DictEntry} {rows : List (Str × Nat × Int × Nat)} {l : List (Str × Int)} (he : es.toList = rows.map (mkRow w.params)) (hl : l = rows.map fun r => (r.1, r.2.2.1)) (k : Str) :
    (l.lookup k = none → findBy Value.isStrOf es k = none) ∧ ∀ i, l.lookup k = some i → ∃ t, findBy Value.isStrOf es k = some (.int i t) := by
  have e : findBy Value.isStrOf es k = ((rows.map (mkRow w.params)).find? fun e => Value.isStrOf k e.key).map (·.val) := by
    obtain ⟨l'⟩ := es
    simp only at he
    subst he
    simp [findBy]
  rw [e, hl]
  exact rows_find w.params k rows

theorem reads_int {h : Heap} {v : Value} {i : Int} (r : Reads h v (.int i) []) : ∃ t, v = .int i t := by cases r; exact ⟨_, rfl⟩
theorem reads_str {h : Heap} {v : Value} {i : Str} (r : Reads h v (.str i) []) : ∃ t, v = .str i t := by cases r; exact ⟨_, rfl⟩

theorem bltV_boot : ∀ (f : Str) (fv : Value), bltV f = some fv → bootBuiltins f = some fv ∧ f ≠ "__name__" ∧ f ∈ bltNames := by
  intro f fv h
  unfold bltV at h
  repeat' split at h
  all_goals first
    | (subst_vars; cases h; exact ⟨by decide +kernel, by decide +kernel, by decide +kernel⟩)
    | cases h
end Mine
end
section
namespace Mine
open PySem PySem.W PyProof.Rows PySem.SeqAt

variable {prog : Program} {w : World} {E : Value → Shared → Prop} {s s' : Shared}

/-- what is asked of the top's text -/
structure TextOk (p pw : Program) (loose : List Str) (K : Frag) (P : Params) : Prop where
  statics : ∃ o ep, K.lookup 2 = some o ∧ o.data = .dict #[] ep
  fns : recsOf p = fdefs pw
  dots : valOf p "ELLIPSIS_MARKER" = some (.str "...")
  off : valOf p "NT_OFFSET" = some (.int 256)
  endm : valOf p "ENDMARKER" = some (.int 0)
  main : ∃ (og : Obj) (esg : Array DictEntry) (epg : Nat) (at' : Addr) (ot : Obj) (es : Array DictEntry) (ep : Nat) (rows : List (Str × Nat × Int × Nat)), K.lookup 3 = some og ∧ og.data = .dict esg epg ∧ nsFind esg "EXACT_TOKEN_TYPES" = some (.ref at') ∧ (at' == sysModules) = false ∧ K.lookup at' = some ot ∧ ot.ExactDict ∧ ot.data = .dict es ep ∧
    es.toList = rows.map (mkRow P) ∧ tokTbl = (rows.map fun r => (r.1, r.2.2.1)) ∧ (∀ x ∈ bltNames, nsFind esg x = none) ∧ nsFind esg "isinstance" = none ∧ nsFind esg "float" = none

theorem ns_at {h : Heap} {a : Addr} {m : Str → Option Value} {o : Obj} {es : Array DictEntry} {ep : Nat} (hn : h.Ns a m) (ho : h.get? a = some o) (hd : o.data = .dict es ep) (x : Str) : nsFind es x = m x := by
  obtain ⟨o', es', ep', h1, h2, _, h4⟩ := hn
  rw [ho] at h1; cases h1
  rw [hd] at h2; cases h2
  exact h4 x

theorem reps_ints {h : Heap} {W : Addr → Prop} {T : Tm} : ∀ {vs : List Value} {ns : List Int}, IntsAre vs ns → Reps prog w W T h vs (ns.map .int)
  | [], [], _ => .nil
  | v :: vs, n :: ns, h => by
    cases h with
    | cons i t hr => exact .cons (.int _ _) (reps_ints hr)

theorem gf0_of {p pw : Program} {loose : List Str} {mean : ExcName → Option Value} {mg mb : Str → Option Value} {h : Heap} {K : Frag} (T : Top p loose mean mg mb h) (KX : K.In h) (X : TextOk p pw loose K w.params) : GF0 prog w (piX pw) h.objs.size mg mb h where
  g := T.g
  b := T.b
  lim := T.nolimit
  nb := by
    obtain ⟨o, ep, h1, h2⟩ := X.statics
    obtain ⟨mc, h3, h4⟩ := T.nolimit
    refine ⟨mc, h3, ?_⟩
    rw [← ns_at h3 (KX _ _ h1) h2]
    rfl
  fn := fun f i e => by
    obtain ⟨d, hd, rfl, h1, h2, h3⟩ := fnsOf_fdefs e
    rw [← X.fns] at hd
    obtain ⟨a, o, pm, cd, doc, g1, g2, g3, g4⟩ := T.fn d hd
    rw [h1, h2, h3] at g3
    exact ⟨a, o, pm, cd, doc, g1, g2, g3, g4⟩
  const := fun x d e => by
    have e : tokConsts x = some d := e
    obtain ⟨og, esg, epg, at', ot, es, ep, rows, g1, g2, g3, g4, g5, g6, g7, g8, g9, g10⟩ := X.main
    unfold tokConsts at e
    split at e
    · rename_i hx; subst hx; cases e
      refine ⟨.ref at', by rw [← ns_at T.g (KX _ _ g1) g2]; exact g3, .sdict (fun q => ?_) g4 (tab_map (KX _ _ g5) g6 g7 g8) (fun k => tab_lookup g8 g9 k)⟩
      exact Nat.lt_irrefl _ (Nat.lt_of_lt_of_le (Heap.lt_size (KX _ _ g5)) q)
    · split at e
      · rename_i hx; subst hx; cases e
        obtain ⟨v, h1, h2⟩ := T.const _ _ X.off
        obtain ⟨t, rfl⟩ := reads_int (h2 h)
        exact ⟨_, h1, .int _ _⟩
      · split at e
        · rename_i hx; subst hx; cases e
          obtain ⟨v, h1, h2⟩ := T.const _ _ X.endm
          obtain ⟨t, rfl⟩ := reads_int (h2 h)
          exact ⟨_, h1, .int _ _⟩
        · split at e
          · rename_i hx; subst hx; cases e
            obtain ⟨v, h1, h2⟩ := T.const _ _ X.dots
            obtain ⟨t, rfl⟩ := reads_str (h2 h)
            exact ⟨_, h1, .str _ _⟩
          · cases e
  blt := fun f fv e => by
    obtain ⟨og, esg, epg, at', ot, es, ep, rows, g1, g2, g3, g4, g5, g6, g7, g8, g9, g10⟩ := X.main
    obtain ⟨h1, h2, h3⟩ := bltV_boot f fv e
    exact ⟨by rw [← ns_at T.g (KX _ _ g1) g2]; exact g10.1 f h3, by rw [T.builtins f h2]; exact h1⟩
  isi := by
    obtain ⟨og, esg, epg, at', ot, es, ep, rows, g1, g2, g3, g4, g5, g6, g7, g8, g9, g10⟩ := X.main
    exact ⟨by rw [← ns_at T.g (KX _ _ g1) g2]; exact g10.2.1, by rw [T.builtins _ (by decide +kernel)]; decide +kernel⟩
  flt := by
    obtain ⟨og, esg, epg, at', ot, es, ep, rows, g1, g2, g3, g4, g5, g6, g7, g8, g9, g10⟩ := X.main
    exact ⟨by rw [← ns_at T.g (KX _ _ g1) g2]; exact g10.2.2, by rw [T.builtins _ (by decide +kernel)]; decide +kernel⟩

theorem top_ok {p pw : Program} {loose : List Str} {mean : ExcName → Option Value} {mg mb : Str → Option Value} {K : Frag} (T : Top p loose mean mg mb s.heap) (KX : K.In s.heap) (X : TextOk p pw loose K w.params) {fa a : Addr} {vs : List Value} {ns : List Int}
    (htk : 0 < s.toks) (hfa : mg "law" = some (.ref fa)) (hl : s.heap.PlainList a vs.toArray) (hi : IntsAre vs ns) (hlaw : callN (piX pw) 6 "law" [.list (ns.map .int)] = some (.bool true)) {Q : Value → Shared → Prop} (hQ : ∀ s', Keeps s s' → Q (.bool true) s') :
    wpAny (model prog w) callerA (call (.ref fa) [.ref a]) Q E s := by
  have CO := callN_ok (prog := prog) (w := w) (P := piX pw) (h0 := s.heap) (mg := mg) (mb := mb) 6 (A := callerA) rfl (by decide +kernel) (by decide +kernel)
  refine wpAny_mono (CO.call hlaw (W := fun _ => False) (T := fun _ => none) ⟨gf0_of T KX X, fun _ _ e => e⟩ (Nat.le_refl _) (fun a q => q.elim) ⟨htk, fun t x e => by cases e⟩ hfa
    (.cons (.list (fun q => q) hl (by simpa using reps_ints hi)) .nil)) (fun v s' q => ?_) fun _ _ q => q
  obtain ⟨T', _, _, k, r⟩ := q
  cases r
  exact hQ s' k
end Mine
end
section
namespace Mine
open PySem
variable {P : PI} {C : CallS} {n m : Nat} {σ σ' : St} {R : Rc} {X : St → Stmt → Option Fl} {d a b d1 d2 : D} {p q ap : Pos} {e l r : Expr} {x y : Str}

/-! the state after a store -/
def upd (σ : St) (x : Str) (d : D) : St := { σ with vars := put σ.vars x d, own := if σ.own = some x then none else σ.own }
def updO (σ : St) (x : Str) (d : D) : St := { σ with vars := put σ.vars x d, own := some x }

theorem lk_here {d : D} {t : List (Str × D)} : List.lookup x ((x, d) :: t) = some d := by simp
theorem lk_there {e : D} {t : List (Str × D)} (h : (x == y) = false) (hr : t.lookup x = some d) : List.lookup x ((y, e) :: t) = some d := by simp [List.lookup, h, hr]
theorem lkU_here : (upd σ x d).vars.lookup x = some d := by
  show (put σ.vars x d).lookup x = some d
  rw [put_lookup, if_pos rfl]
theorem lkU_there {e : D} (h : (x == y) = false) (hr : σ.vars.lookup x = some d) : (upd σ y e).vars.lookup x = some d := by
  show (put σ.vars y e).lookup x = some d
  rw [put_lookup, if_neg (by simpa using h)]; exact hr
theorem lkO_here : (updO σ x d).vars.lookup x = some d := lkU_here (σ := σ)
theorem lkO_there {e : D} (h : (x == y) = false) (hr : σ.vars.lookup x = some d) : (updO σ y e).vars.lookup x = some d := lkU_there (σ := σ) h hr
theorem lookup_filter {f : Str × D → Bool} : ∀ {t : List (Str × D)}, (∀ d, f (x, d) = true) → (t.filter f).lookup x = t.lookup x
  | [], _ => rfl
  | (y, e) :: t, h => by
    by_cases hy : x = y
    · subst hy
      rw [List.filter_cons_of_pos (h e)]
      simp
    · have : (x == y) = false := by simpa using hy
      rw [List.filter_cons]
      split
      · simp only [List.lookup, this]; exact lookup_filter h
      · simp only [List.lookup, this]; exact lookup_filter h
theorem lkE {sc : Scope} (h : (sc.names.lookup x == some .free) = true) (hr : σ.vars.lookup x = some d) : (enterC σ sc).vars.lookup x = some d := by
  show (σ.vars.filter (fun v => sc.names.lookup v.1 == some .free)).lookup x = some d
  rw [lookup_filter (fun _ => h)]; exact hr
theorem freeze_vars : (freeze σ e).vars = σ.vars := by unfold freeze; split <;> rfl
theorem lkF (hr : σ.vars.lookup x = some d) : (freeze σ e).vars.lookup x = some d := by rw [freeze_vars]; exact hr

/-! expressions -/
theorem ev_int {i : Int} {k} : (rc P C (n + 1)).ev σ (.Constant (.int i) k p) = some (.int i) := rfl
theorem ev_str {i : Str} {k} : (rc P C (n + 1)).ev σ (.Constant (.str i) k p) = some (.str i) := rfl
theorem ev_flt {i : UInt64} {k} : (rc P C (n + 1)).ev σ (.Constant (.float i) k p) = some (.float i) := rfl
theorem ev_bool {i : Bool} {k} : (rc P C (n + 1)).ev σ (.Constant (.bool i) k p) = some (.bool i) := rfl
theorem ev_none {k} : (rc P C (n + 1)).ev σ (.Constant .none k p) = some .none := rfl

def vOk (σ : St) (x : Str) : Bool := plainName x && isVarKind (σ.names.lookup x) && !(σ.own == some x)
def gOk (σ : St) (x : Str) : Bool := plainName x && !isVarKind (σ.names.lookup x) && isGlob σ x && !(σ.own == some x)
def pOk (σ : St) (x : Str) : Bool := plainName x && isVarKind (σ.names.lookup x)
def qOk (σ : St) (x : Str) : Bool := plainName x && !isVarKind (σ.names.lookup x) && isGlob σ x
theorem nm_var (h : pOk σ x = true) (hv : σ.vars.lookup x = some d) : nameD P σ x = some d := by
  simp only [pOk, Bool.and_eq_true] at h
  unfold nameD; rw [if_pos h.2]; exact hv
theorem nm_glob (h : qOk σ x = true) (hv : P.consts x = some d) : nameD P σ x = some d := by
  simp only [qOk, Bool.and_eq_true, Bool.not_eq_true'] at h
  unfold nameD; rw [if_neg (by simp [h.1.2]), if_pos h.2]; exact hv
theorem ev_var (h : vOk σ x = true) (hv : σ.vars.lookup x = some d) : (rc P C (n + 1)).ev σ (.Name x p) = some d := by
  simp only [vOk, Bool.and_eq_true, Bool.not_eq_true', beq_eq_false_iff_ne, ne_eq] at h
  show (if plainName x ∧ ¬ σ.own = some x then nameD P σ x else none) = some d
  rw [if_pos ⟨h.1.1, h.2⟩]
  exact nm_var (by simp [pOk, h.1.1, h.1.2]) hv
theorem ev_glob (h : gOk σ x = true) (hv : P.consts x = some d) : (rc P C (n + 1)).ev σ (.Name x p) = some d := by
  simp only [gOk, Bool.and_eq_true, Bool.not_eq_true', beq_eq_false_iff_ne, ne_eq] at h
  show (if plainName x ∧ ¬ σ.own = some x then nameD P σ x else none) = some d
  rw [if_pos ⟨h.1.1.1, h.2⟩]
  exact nm_glob (by simp [qOk, h.1.1.1, h.1.1.2, h.1.2]) hv
theorem pk_var (h : pOk σ x = true) (hv : σ.vars.lookup x = some d) : peek P R σ (.Name x p) = some d := by
  have h' := h
  simp only [pOk, Bool.and_eq_true] at h'
  show (if plainName x then nameD P σ x else none) = some d
  rw [if_pos h'.1]; exact nm_var h hv
theorem pk_glob (h : qOk σ x = true) (hv : P.consts x = some d) : peek P R σ (.Name x p) = some d := by
  have h' := h
  simp only [qOk, Bool.and_eq_true] at h'
  show (if plainName x then nameD P σ x else none) = some d
  rw [if_pos h'.1.1]; exact nm_glob h hv
def notNm : Expr → Bool
  | .Name .. => false
  | _ => true
theorem pk_of (h : notNm e = true) (he : R.ev σ e = some d) : peek P R σ e = some d := by
  cases e <;> first | exact he | (simp [notNm] at h)

theorem ev_bin {op : Operator} (h1 : peek P (rc P C n) σ l = some a) (h2 : peek P (rc P C n) σ r = some b) (h3 : binD op a b = some d) : (rc P C (n + 1)).ev σ (.BinOp l op r p) = some d := by
  show ((peek P (rc P C n) σ l).bind fun a => (peek P (rc P C n) σ r).bind fun b => binD op a b) = some d
  rw [h1]; simp only [Option.bind_some]; rw [h2]; exact h3
theorem ev_not {b : Bool} (h1 : (rc P C n).ev σ e = some a) (h2 : truthD a = some b) : (rc P C (n + 1)).ev σ (.UnaryOp .Not e p) = some (.bool (!b)) := by
  show ((rc P C n).ev σ e).bind (fun a => (truthD a).map fun b => D.bool (!b)) = _
  rw [h1]; simp only [Option.bind_some]; rw [h2]; rfl
theorem ev_neg {i : Int} (h1 : (rc P C n).ev σ e = some (.int i)) : (rc P C (n + 1)).ev σ (.UnaryOp .USub e p) = some (.int (-i)) := by
  show ((rc P C n).ev σ e).bind (fun a => match a with | D.int i => some (D.int (-i)) | _ => none) = _
  rw [h1]; rfl
theorem ev_if {t x y : Expr} {c : Bool} (h1 : (rc P C n).tr σ t = some c) (h2 : c = true → (rc P C n).ev σ x = some d1) (h3 : c = false → (rc P C n).ev σ y = some d2) (h4 : (if c then d1 else d2) = d) :
    (rc P C (n + 1)).ev σ (.IfExp t x y p) = some d := by
  show ((rc P C n).tr σ t).bind (fun c => if c then (rc P C n).ev σ x else (rc P C n).ev σ y) = _
  rw [h1, ← h4]
  cases c
  · simpa using h3 rfl
  · simpa using h2 rfl
theorem if_int {c : Bool} {i j : Int} : (if c then D.int i else D.int j) = .int (if c then i else j) := by cases c <;> rfl
theorem if_str {c : Bool} {i j : Str} : (if c then D.str i else D.str j) = .str (if c then i else j) := by cases c <;> rfl
theorem if_bool {c : Bool} {i j : Bool} : (if c then D.bool i else D.bool j) = .bool (if c then i else j) := by cases c <;> rfl
theorem if_list {c : Bool} {i j : List D} : (if c then D.list i else D.list j) = .list (if c then i else j) := by cases c <;> rfl
theorem mo_nil {α β : Type} {f : α → Option β} : mapO f [] = some [] := rfl
theorem mo_cons {α β : Type} {f : α → Option β} {a : α} {r : List α} {b : β} {bs : List β} (h1 : f a = some b) (h2 : mapO f r = some bs) : mapO f (a :: r) = some (b :: bs) := by
  simp only [mapO, h1, h2, Option.bind_some]
theorem ev_list {es : List Expr} {ds : List D} (h1 : mapO ((rc P C n).ev σ) es = some ds) (h2 : (decide (ds.length ≤ 100) && noStar es) = true) : (rc P C (n + 1)).ev σ (.List es p) = some (.list ds) := by
  simp only [Bool.and_eq_true, decide_eq_true_eq] at h2
  show ((mapO ((rc P C n).ev σ) es).bind fun ds => if ds.length ≤ 100 ∧ noStar es then some (D.list ds) else none) = _
  rw [h1]; simp only [Option.bind_some]; rw [if_pos h2]
theorem ev_tuple {es : List Expr} {k} {ds : List D} (h1 : mapO ((rc P C n).ev σ) es = some ds) (h2 : (decide (ds.length ≤ 100) && noStar es) = true) : (rc P C (n + 1)).ev σ (.Tuple es k p) = some (.tuple ds) := by
  simp only [Bool.and_eq_true, decide_eq_true_eq] at h2
  show ((mapO ((rc P C n).ev σ) es).bind fun ds => if ds.length ≤ 100 ∧ noStar es then some (D.tuple ds) else none) = _
  rw [h1]; simp only [Option.bind_some]; rw [if_pos h2]
theorem ev_comp {elt : Expr} {g : Comprehension} {gs : List Comprehension} {sc : Scope} {src : D} {its ds : List D} (h0 : (scopeOk σ sc && gensOk (g :: gs)) = true) (h1 : (rc P C n).ev σ g.iter = some src) (h2 : itemsD src = some its)
    (h3 : compD (rc P C n) elt (g :: gs) (enterC σ sc) its = some ds) (h4 : ds.length ≤ 2 ^ 20) : (rc P C (n + 1)).ev σ (.ListComp elt (g :: gs) sc p) = some (.list ds) := by
  show (if scopeOk σ sc && gensOk (g :: gs) then
      ((rc P C n).ev σ g.iter).bind fun src => (itemsD src).bind fun its => (compD (rc P C n) elt (g :: gs) (enterC σ sc) its).bind fun ds => if ds.length ≤ 2 ^ 20 then some (D.list ds) else none
    else none) = _
  rw [if_pos h0, h1]; simp only [Option.bind_some]; rw [h2]; simp only [Option.bind_some]; rw [h3]; simp only [Option.bind_some]; rw [if_pos h4]
theorem ev_cmp {op : CmpOp} {k : Bool} (hs : setIter r = false) (h1 : peek P (rc P C n) σ l = some a) (h2 : peek P (rc P C n) σ r = some b) (h3 : cmpD op a b = some k) : (rc P C (n + 1)).ev σ (.Compare l [op] [r] p) = some (.bool k) := by
  show (if setIter r then none else (peek P (rc P C n) σ l).bind fun a => (peek P (rc P C n) σ r).bind fun b => (cmpD op a b).map D.bool) = _
  rw [hs, h1]; simp only [Option.bind_some]; rw [h2]; simp only [Option.bind_some]; rw [h3]; rfl
theorem ev_meth {o : Expr} {mt : Str} {as : List Expr} {ds : List D} (h0 : (decide (as.length ≤ 3) && decide (0 < as.length) && noStar as && plainBase o && decide (ap.endLine = p.line)) = true) (h1 : peek P (rc P C n) σ o = some a)
    (h2 : mapO (peek P (rc P C n) σ) as = some ds) (h3 : methD a mt ds = some d) : (rc P C (n + 1)).ev σ (.Call (.Attribute o mt ap) as [] p) = some d := by
  simp only [Bool.and_eq_true, decide_eq_true_eq] at h0
  show (if as.length ≤ 3 ∧ 0 < as.length ∧ noStar as ∧ plainBase o ∧ ap.endLine = p.line then (peek P (rc P C n) σ o).bind fun a => (mapO (peek P (rc P C n) σ) as).bind fun ds => methD a mt ds else none) = _
  rw [if_pos ⟨h0.1.1.1.1, h0.1.1.1.2, h0.1.1.2, h0.1.2, h0.2⟩, h1]; simp only [Option.bind_some]; rw [h2]; exact h3
theorem ev_call {f : Str} {as : List Expr} {ds : List D} (h0 : (isGlob σ f && plainName f && noStar as && !(f == ("isinstance" : Str)) && !bltNames.contains f) = true) (h1 : mapO ((rc P C n).ev σ) as = some ds) (h2 : C f ds = some d) :
    (rc P C (n + 1)).ev σ (.Call (.Name f q) as [] p) = some d := by
  simp only [Bool.and_eq_true, Bool.not_eq_true', beq_eq_false_iff_ne, ne_eq] at h0
  unfold rc stepR
  simp only [evStep, h0.1.1.1.1, h0.1.1.1.2, h0.1.1.2, h0.1.2, h0.2, Bool.and_self, if_true, if_false, Bool.false_eq_true, h1, Option.bind_some]
  exact h2
theorem ev_blt {f : Str} {as : List Expr} {ds : List D} (h0 : (isGlob σ f && plainName f && noStar as && !(f == ("isinstance" : Str)) && bltNames.contains f) = true) (h1 : mapO (peek P (rc P C n) σ) as = some ds) (h2 : bltD f ds = some d) :
    (rc P C (n + 1)).ev σ (.Call (.Name f q) as [] p) = some d := by
  simp only [Bool.and_eq_true, Bool.not_eq_true', beq_eq_false_iff_ne, ne_eq] at h0
  unfold rc stepR
  simp only [evStep, h0.1.1.1.1, h0.1.1.1.2, h0.1.1.2, h0.1.2, h0.2, Bool.and_self, if_true, if_false, h1, Option.bind_some]
  exact h2
theorem ev_item {v i : Expr} (hi : (match i with | .Slice .. => false | _ => true) = true) (h1 : peek P (rc P C n) σ v = some a) (h2 : (rc P C n).ev σ i = some b) (h3 : itemD a b = some d) : (rc P C (n + 1)).ev σ (.Subscript v i p) = some d := by
  have : (rc P C (n + 1)).ev σ (.Subscript v i p) = (peek P (rc P C n) σ v).bind fun a => ((rc P C n).ev σ i).bind fun k => itemD a k := by
    cases i <;> first | rfl | simp at hi
  rw [this, h1]; simp only [Option.bind_some]; rw [h2]; exact h3
def PartE (R : Rc) (σ : St) (o : Option Expr) (i : Option Int) : Prop := partsD R σ o = some i
theorem pt_none : PartE R σ none none := rfl
theorem pt_some {i : Int} (h : R.ev σ e = some (.int i)) (hs : small i = true) : PartE R σ (some e) (some i) := by
  show ((R.ev σ e).bind fun d => partO (some d)) = _
  rw [h]
  show (if small i then some (some i) else none) = _
  rw [if_pos hs]
theorem ev_slice {v : Expr} {lo hi st : Option Expr} {i j k : Option Int} (h1 : peek P (rc P C n) σ v = some a) (h2 : PartE (rc P C n) σ lo i) (h3 : PartE (rc P C n) σ hi j) (h4 : PartE (rc P C n) σ st k) (h5 : sliceD a i j k = some d) :
    (rc P C (n + 1)).ev σ (.Subscript v (.Slice lo hi st q) p) = some d := by
  show ((peek P (rc P C n) σ v).bind fun a => (partsD (rc P C n) σ lo).bind fun l => (partsD (rc P C n) σ hi).bind fun u => (partsD (rc P C n) σ st).bind fun s => sliceD a l u s) = _
  unfold PartE at h2 h3 h4
  rw [h1]; simp only [Option.bind_some]; rw [h2]; simp only [Option.bind_some]; rw [h3]; simp only [Option.bind_some]; rw [h4]; exact h5
theorem ev_boolop {op : BoolOp} {vs : List Expr} (h : boolD (rc P C n) σ op vs = some d) : (rc P C (n + 1)).ev σ (.BoolOp op vs p) = some d := h
theorem bo_last {op : BoolOp} (h : R.ev σ e = some d) : boolD R σ op [e] = some d := by unfold boolD; exact h
theorem bo_and {e' : Expr} {t : List Expr} {u v : Bool} (h1 : R.ev σ e = some (.bool u)) (h2 : u = true → boolD R σ .And (e' :: t) = some (.bool v)) : boolD R σ .And (e :: e' :: t) = some (.bool (u && v)) := by
  rw [boolD]
  · rw [h1]; simp only [Option.bind_some, truthD]
    cases u
    · simp
    · simpa using h2 rfl
  · simp
theorem bo_or {e' : Expr} {t : List Expr} {u v : Bool} (h1 : R.ev σ e = some (.bool u)) (h2 : u = false → boolD R σ .Or (e' :: t) = some (.bool v)) : boolD R σ .Or (e :: e' :: t) = some (.bool (u || v)) := by
  rw [boolD]
  · rw [h1]; simp only [Option.bind_some, truthD]
    cases u
    · simpa using h2 rfl
    · simp
  · simp
theorem ev_isi {z : Expr} {t : Str} {k : Bool} (h0 : (isGlob σ "isinstance" && plainName "isinstance" && noStar [z, .Name t q] && isGlob σ t && (t == ("float" : Str))) = true) (h1 : (rc P C n).ev σ z = some d)
    (h2 : (match d with | .float _ => some true | .int _ => some false | _ => none) = some k) : (rc P C (n + 1)).ev σ (.Call (.Name "isinstance" ap) [z, .Name t q] [] p) = some (.bool k) := by
  simp only [Bool.and_eq_true, beq_iff_eq] at h0
  unfold rc stepR
  obtain ⟨⟨⟨⟨a1, a2⟩, a3⟩, a4⟩, rfl⟩ := h0
  simp only [evStep, a1, a2, a3, a4, Bool.and_self, if_true, and_self, h1, Option.bind_some]
  cases d <;> simp_all

/-! truth -/
def plainT : Expr → Bool
  | .UnaryOp .Not _ _ => false
  | .BoolOp .. => false
  | .IfExp .. => false
  | _ => true
theorem tr_of {b : Bool} (hp : plainT e = true) (h : (rc P C (n + 1)).ev σ e = some d) (ht : truthD d = some b) : (rc P C (n + 1)).tr σ e = some b := by
  have : (rc P C (n + 1)).tr σ e = ((rc P C (n + 1)).ev σ e).bind truthD := by
    cases e with
    | UnaryOp op x p => cases op <;> first | rfl | simp [plainT] at hp
    | BoolOp => simp [plainT] at hp
    | IfExp => simp [plainT] at hp
    | _ => rfl
  rw [this, h]; exact ht
theorem tr_not {b : Bool} (h : (rc P C n).tr σ e = some b) : (rc P C (n + 1)).tr σ (.UnaryOp .Not e p) = some (!b) := by
  show ((rc P C n).tr σ e).map (!·) = _
  rw [h]; rfl
theorem tr_boolop {op : BoolOp} {vs : List Expr} {b : Bool} (h : trAll (rc P C n) σ op vs = some b) : (rc P C (n + 1)).tr σ (.BoolOp op vs p) = some b := h
theorem ta_nil_and : trAll R σ .And [] = some true := rfl
theorem ta_nil_or : trAll R σ .Or [] = some false := rfl
theorem ta_and {t : List Expr} {u v : Bool} (h1 : R.tr σ e = some u) (h2 : u = true → trAll R σ .And t = some v) : trAll R σ .And (e :: t) = some (u && v) := by
  unfold trAll
  rw [h1]; simp only [Option.bind_some]
  cases u
  · simp
  · simpa using h2 rfl
theorem ta_or {t : List Expr} {u v : Bool} (h1 : R.tr σ e = some u) (h2 : u = false → trAll R σ .Or t = some v) : trAll R σ .Or (e :: t) = some (u || v) := by
  unfold trAll
  rw [h1]; simp only [Option.bind_some]
  cases u
  · simpa using h2 rfl
  · simp
theorem tr_if {t x y : Expr} {c u v : Bool} (h1 : (rc P C n).tr σ t = some c) (h2 : c = true → (rc P C n).tr σ x = some u) (h3 : c = false → (rc P C n).tr σ y = some v) : (rc P C (n + 1)).tr σ (.IfExp t x y p) = some (if c then u else v) := by
  show ((rc P C n).tr σ t).bind (fun c => if c then (rc P C n).tr σ x else (rc P C n).tr σ y) = _
  rw [h1]
  cases c
  · simpa using h3 rfl
  · simpa using h2 rfl
end Mine
end
section
namespace Mine
open PySem
variable {P : PI} {C : CallS} {n m : Nat} {σ σ' σ'' : St} {R : Rc} {X : St → Stmt → Option Fl} {d a b d1 d2 : D} {p q ap np : Pos} {e l r : Expr} {x y : Str} {s : Stmt} {rest body : List Stmt} {f : Fl}

/-! statements -/
theorem es_nil : exsD X σ [] = some (.next σ) := rfl
theorem es_next (h1 : X σ s = some (.next σ')) (h2 : exsD X σ' rest = some f) : exsD X σ (s :: rest) = some f := by
  simp only [exsD, h1, Option.bind_some]; exact h2
theorem es_ret (h1 : X σ s = some (.ret d)) : exsD X σ (s :: rest) = some (.ret d) := by
  simp only [exsD, h1, Option.bind_some]
theorem fz_none (h : σ.own = none) : freeze σ e = σ := by unfold freeze; simp [h]
theorem ex_ret (h1 : R.ev (freeze σ e) e = some d) : xs P R (m + 1) σ (.Return (some e) p) = some (.ret d) := by
  show (R.ev (freeze σ e) e).map Fl.ret = _
  rw [h1]; rfl
theorem ex_ret0 (ho : σ.own = none) (h1 : R.ev σ e = some d) : xs P R (m + 1) σ (.Return (some e) p) = some (.ret d) := ex_ret (by rw [fz_none ho]; exact h1)
theorem ex_if {t : Expr} {bt bf : List Stmt} {c : Bool} (h1 : R.tr σ t = some c) (h2 : exsD (xs P R m) σ (if c then bt else bf) = some f) : xs P R (m + 1) σ (.If t bt bf p) = some f := by
  show (R.tr σ t).bind (fun c => exsD (xs P R m) σ (if c then bt else bf)) = _
  rw [h1]; exact h2
theorem ex_if_t {t : Expr} {bt bf : List Stmt} {c : Bool} (h1 : R.tr σ t = some c) (hc : c = true) (h2 : exsD (xs P R m) σ bt = some f) : xs P R (m + 1) σ (.If t bt bf p) = some f := ex_if h1 (by rw [hc]; exact h2)
theorem ex_if_f {t : Expr} {bt bf : List Stmt} {c : Bool} (h1 : R.tr σ t = some c) (hc : c = false) (h2 : exsD (xs P R m) σ bf = some f) : xs P R (m + 1) σ (.If t bt bf p) = some f := ex_if h1 (by rw [hc]; exact h2)
theorem ex_assert {t : Expr} {mg} (h1 : R.tr σ t = some true) : xs P R (m + 1) σ (.Assert t mg p) = some (.next σ) := by
  show (R.tr σ t).bind (fun c => if c then some (Fl.next σ) else none) = _
  rw [h1]; rfl
def sOk (σ : St) (x : Str) : Bool := σ.names.lookup x == some .local || σ.names.lookup x == some .cell
theorem sv (h : sOk σ x = true) : setVar σ x d = some (upd σ x d) := by
  unfold setVar; unfold sOk at h; rw [if_pos h]; rfl
theorem so (h : sOk σ x = true) : ownSet σ x d = some (updO σ x d) := by
  unfold ownSet; unfold sOk at h; rw [if_pos h]; rfl
/-- values that the plain arm takes -/
def plainV : Expr → Bool
  | .List [] _ => false
  | .Dict [] [] _ => false
  | .Call (.Attribute (.Name _ _) mt _) [_] [] _ => !(mt == ("split" : Str))
  | _ => true
theorem ex_asg_eq {v : Expr} (hv : plainV v = true) : xs P R (m + 1) σ (.Assign [.Name x np] v p) = (R.ev σ v).bind fun d => (setVar σ x d).map .next := by
  show exStep P R (xs P R m) σ (.Assign [.Name x np] v p) = _
  unfold exStep
  simp only
  split
  · simp [plainV] at hv
  · simp [plainV] at hv
  · rename_i y _ mt ap' e' p'
    have : ¬ mt = ("split" : Str) := by simpa [plainV] using hv
    rw [if_neg (fun q => this q.1)]
  · rfl
theorem ex_asg {v : Expr} (hv : plainV v = true) (hs : sOk σ x = true) (h1 : R.ev σ v = some d) : xs P R (m + 1) σ (.Assign [.Name x np] v p) = some (.next (upd σ x d)) := by
  rw [ex_asg_eq hv, h1]; simp only [Option.bind_some, sv hs]; rfl
theorem ex_asg_list (hs : sOk σ x = true) : xs P R (m + 1) σ (.Assign [.Name x np] (.List [] q) p) = some (.next (updO σ x (.list []))) := by
  show (ownSet σ x (.list [])).map Fl.next = _
  rw [so hs]; rfl
theorem ex_asg_dict (hs : sOk σ x = true) : xs P R (m + 1) σ (.Assign [.Name x np] (.Dict [] [] q) p) = some (.next (updO σ x (.iidict []))) := by
  show (ownSet σ x (.iidict [])).map Fl.next = _
  rw [so hs]; rfl
theorem ex_asg_split {u v : Str} {yp : Pos} (h0 : (pOk σ y && !(σ.own == some y) && noStar [e] && decide (ap.endLine = q.line)) = true) (hs : sOk σ x = true) (h1 : σ.vars.lookup y = some (.str u)) (h2 : R.ev σ e = some (.str v)) (h3 : methD (.str u) "split" [.str v] = some d) :
    xs P R (m + 1) σ (.Assign [.Name x np] (.Call (.Attribute (.Name y yp) "split" ap) [e] [] q) p) = some (.next (updO σ x d)) := by
  simp only [Bool.and_eq_true, Bool.not_eq_true', beq_eq_false_iff_ne, ne_eq, decide_eq_true_eq] at h0
  obtain ⟨⟨⟨a1, a2⟩, a3⟩, a4⟩ := h0
  have hp : plainName y = true := by simp only [pOk, Bool.and_eq_true] at a1; exact a1.1
  show (if ("split" : Str) = "split" ∧ plainName y ∧ ¬ σ.own = some y ∧ noStar [e] ∧ ap.endLine = q.line then (nameD P σ y).bind fun a => (R.ev σ e).bind fun b => (match a, b with
        | D.str p, D.str q => (methD (D.str p) "split" [D.str q]).bind fun d => (ownSet σ x d).map Fl.next
        | _, _ => none) else _) = _
  rw [if_pos ⟨rfl, hp, a2, a3, a4⟩, nm_var a1 h1]; simp only [Option.bind_some]; rw [h2]; simp only [Option.bind_some]; rw [h3]; simp only [Option.bind_some]; rw [so hs]; rfl
theorem ex_tup {ts : List Expr} {k} {tp : Pos} {v : Expr} (ht : (tupOk v && nodupT ts) = true) (h1 : R.ev σ v = some d) (h2 : bindT σ (.Tuple ts k tp) d = some σ') : xs P R (m + 1) σ (.Assign [.Tuple ts k tp] v p) = some (.next σ') := by
  show (if tupOk v && nodupT ts then (R.ev σ v).bind fun d => (bindT σ (.Tuple ts k tp) d).map Fl.next else none) = _
  rw [if_pos ht, h1]; simp only [Option.bind_some]; rw [h2]; rfl
theorem bt_name (hs : sOk σ x = true) : bindT σ (.Name x np) d = some (upd σ x d) := sv hs
theorem bt_tup {ts : List Expr} {k} {ds : List D} {ns : List Str} (h1 : namesOf ts = some ns) (h2 : (decide (ns.length = ds.length) && decide (ns.length ≤ 8)) = true) (h3 : setAll σ ns ds = some σ') : bindT σ (.Tuple ts k p) (.tuple ds) = some σ' := by
  simp only [Bool.and_eq_true, decide_eq_true_eq] at h2
  show ((namesOf ts).bind fun xs => if xs.length = ds.length ∧ xs.length ≤ 8 then setAll σ xs ds else none) = _
  rw [h1]; simp only [Option.bind_some]; rw [if_pos h2]; exact h3
theorem sa_nil : setAll σ [] [] = some σ := rfl
theorem sa_cons {ns : List Str} {ds : List D} (hs : sOk σ x = true) (h : setAll (upd σ x d) ns ds = some σ') : setAll σ (x :: ns) (d :: ds) = some σ' := by
  show (setVar σ x d).bind (fun σ' => setAll σ' ns ds) = _
  rw [sv hs]; exact h
theorem ex_aug {op : Operator} {v : Expr} {i j : Int} {k : Int} (h0 : (pOk σ x && !(σ.own == some x)) = true) (hs : sOk σ x = true) (h1 : σ.vars.lookup x = some (.int i)) (h2 : R.ev σ v = some (.int j)) (h3 : (match op with | .Add => some (i + j) | .Sub => some (i - j) | _ => none) = some k) :
    xs P R (m + 1) σ (.AugAssign (.Name x np) op v p) = some (.next (upd σ x (.int k))) := by
  simp only [Bool.and_eq_true, Bool.not_eq_true', beq_eq_false_iff_ne, ne_eq] at h0
  have hp : plainName x = true := by have := h0.1; simp only [pOk, Bool.and_eq_true] at this; exact this.1
  show (if σ.own = some x ∨ ¬ plainName x then none else (nameD P σ x).bind fun a => (R.ev σ v).bind fun b => (match op, a, b with
    | .Add, D.int p, D.int q => (setVar σ x (D.int (p + q))).map Fl.next
    | .Sub, D.int p, D.int q => (setVar σ x (D.int (p - q))).map Fl.next
    | _, _, _ => none)) = _
  rw [if_neg (by simp [h0.2, hp]), nm_var h0.1 h1]; simp only [Option.bind_some]; rw [h2]; simp only [Option.bind_some]
  cases op <;> simp at h3 <;> subst h3 <;> simp only [sv hs] <;> rfl
theorem ex_append {xp : Pos} {ds : List D} (h0 : (pOk σ x && (σ.own == some x) && noStar [e] && decide (ap.endLine = q.line)) = true) (hs : sOk σ x = true) (h1 : σ.vars.lookup x = some (.list ds)) (h2 : R.ev σ e = some d) (h3 : ds.length ≤ 2 ^ 20) :
    xs P R (m + 1) σ (.Expr (.Call (.Attribute (.Name x xp) "append" ap) [e] [] q) p) = some (.next (updO σ x (.list (ds ++ [d])))) := by
  simp only [Bool.and_eq_true, beq_iff_eq, decide_eq_true_eq] at h0
  obtain ⟨⟨⟨a1, a2⟩, a3⟩, a4⟩ := h0
  have hp : plainName x = true := by have := a1; simp only [pOk, Bool.and_eq_true] at this; exact this.1
  show (if ("append" : Str) = "append" ∧ σ.own = some x ∧ plainName x ∧ noStar [e] ∧ ap.endLine = q.line then (nameD P σ x).bind fun a => (R.ev σ e).bind fun d => (match a with
    | D.list l => if l.length ≤ 2 ^ 20 then (ownSet σ x (D.list (l ++ [d]))).map Fl.next else none
    | _ => none) else none) = _
  rw [if_pos ⟨rfl, a2, hp, a3, a4⟩, nm_var a1 h1]; simp only [Option.bind_some]; rw [h2]; simp only [Option.bind_some]; rw [if_pos h3, so hs]; rfl
theorem ex_del {xp ip : Pos} {i : Expr} {j : Int} {ds ds' : List D} (h0 : (pOk σ x && (σ.own == some x)) = true) (hs : sOk σ x = true) (h1 : σ.vars.lookup x = some (.list ds)) (h2 : R.ev σ i = some (.int j)) (h3 : delAt ds j = some ds') :
    xs P R (m + 1) σ (.Delete [.Subscript (.Name x xp) i ip] p) = some (.next (updO σ x (.list ds'))) := by
  simp only [Bool.and_eq_true, beq_iff_eq] at h0
  have hp : plainName x = true := by have := h0.1; simp only [pOk, Bool.and_eq_true] at this; exact this.1
  show (if σ.own = some x ∧ plainName x then (nameD P σ x).bind fun a => (R.ev σ i).bind fun k => (match a, k with
    | D.list l, D.int j => (delAt l j).bind fun l' => (ownSet σ x (D.list l')).map Fl.next
    | _, _ => none) else none) = _
  rw [if_pos ⟨h0.2, hp⟩, nm_var h0.1 h1]; simp only [Option.bind_some]; rw [h2]; simp only [Option.bind_some]; rw [h3]; simp only [Option.bind_some]; rw [so hs]; rfl
theorem ex_dset {xp ip : Pos} {i v : Expr} {j k : Int} {ds : List (Int × Int)} (h0 : (pOk σ x && (σ.own == some x) && notComp v) = true) (hs : sOk σ x = true) (hv : R.ev σ v = some (.int k)) (h1 : σ.vars.lookup x = some (.iidict ds)) (h2 : R.ev σ i = some (.int j)) (h3 : ds.length ≤ 2 ^ 20) :
    xs P R (m + 1) σ (.Assign [.Subscript (.Name x xp) i ip] v p) = some (.next (updO σ x (.iidict (storeP ds j k)))) := by
  simp only [Bool.and_eq_true, beq_iff_eq] at h0
  have hp : plainName x = true := by have := h0.1.1; simp only [pOk, Bool.and_eq_true] at this; exact this.1
  show (if σ.own = some x ∧ plainName x ∧ notComp v then (R.ev σ v).bind fun d => (nameD P σ x).bind fun a => (R.ev σ i).bind fun k => (match a, k, d with
    | D.iidict l, D.int k, D.int d => if l.length ≤ 2 ^ 20 then (ownSet σ x (D.iidict (storeP l k d))).map Fl.next else none
    | _, _, _ => none) else none) = _
  rw [if_pos ⟨h0.1.2, hp, h0.2⟩, hv]; simp only [Option.bind_some]; rw [nm_var h0.1.1 h1]; simp only [Option.bind_some]; rw [h2]; simp only [Option.bind_some]; rw [if_pos h3, so hs]; rfl
theorem ex_for {t it : Expr} {src : D} {its : List D} (hs : setIter it = false) (h1 : R.ev (freeze σ it) it = some src) (h2 : itemsD src = some its) (h3 : forD (xs P R m) t body (freeze σ it) its = some f) : xs P R (m + 1) σ (.For t it body [] p) = some f := by
  show (if setIter it then none else (R.ev (freeze σ it) it).bind fun src => (itemsD src).bind fun its => forD (xs P R m) t body (freeze σ it) its) = _
  rw [hs, h1]; simp only [Option.bind_some]; rw [h2]; exact h3
theorem ex_while {t : Expr} (h : whileD R.tr (xs P R m) t body 400 σ = some f) : xs P R (m + 1) σ (.While t body [] p) = some f := h

theorem fo_nil {t : Expr} : forD X t body σ [] = some (.next σ) := rfl
theorem fo_next {t : Expr} {ds : List D} (h1 : bindT σ t d = some σ') (h2 : exsD X σ' body = some (.next σ'')) (h3 : forD X t body σ'' ds = some f) : forD X t body σ (d :: ds) = some f := by
  simp only [forD, h1, Option.bind_some, h2]; exact h3
theorem fo_ret {t : Expr} {ds : List D} (h1 : bindT σ t d = some σ') (h2 : exsD X σ' body = some (.ret a)) : forD X t body σ (d :: ds) = some (.ret a) := by
  simp only [forD, h1, Option.bind_some, h2]
/-- one turn -/
def stepT (X : St → Stmt → Option Fl) (t : Expr) (body : List Stmt) (σ : St) (d : D) : Option Fl := (bindT σ t d).bind fun σ' => exsD X σ' body
theorem st_of {t : Expr} (h1 : bindT σ t d = some σ') (h2 : exsD X σ' body = some f) : stepT X t body σ d = some f := by
  unfold stepT; rw [h1]; exact h2
theorem fo_fold {α β : Type} {t : Expr} {enc : β → D} {mk : α → St} {step : α → β → α} : ∀ {l : List β} {a : α}, (∀ a, ∀ b ∈ l, stepT X t body (mk a) (enc b) = some (.next (mk (step a b)))) → forD X t body (mk a) (l.map enc) = some (.next (mk (l.foldl step a)))
  | [], a, _ => rfl
  | b :: l, a, h => by
    have h1 := h a b List.mem_cons_self
    unfold stepT at h1
    simp only [Option.bind_eq_some_iff] at h1
    obtain ⟨σ', h1, h2⟩ := h1
    exact fo_next h1 h2 (fo_fold fun a b hb => h a b (List.mem_cons_of_mem _ hb))
theorem fo_fold1 {α β : Type} {t : Expr} {enc : β → D} {mk : α → St} {step : α → β → α} {l : List β} {a : α} {σ0 : St} (hne : l ≠ []) (h0 : ∀ b ∈ l, stepT X t body σ0 (enc b) = some (.next (mk (step a b)))) (h : ∀ a, ∀ b ∈ l, stepT X t body (mk a) (enc b) = some (.next (mk (step a b)))) :
    forD X t body σ0 (l.map enc) = some (.next (mk (l.foldl step a))) := by
  cases l with
  | nil => exact absurd rfl hne
  | cons b l =>
    have h1 := h0 b List.mem_cons_self
    unfold stepT at h1
    simp only [Option.bind_eq_some_iff] at h1
    obtain ⟨σ', h1, h2⟩ := h1
    exact fo_next h1 h2 (fo_fold fun a b hb => h a b (List.mem_cons_of_mem _ hb))
theorem wh_end {T : St → Expr → Option Bool} {t : Expr} (h : T σ t = some false) : whileD T X t body (n + 1) σ = some (.next σ) := by
  unfold whileD; rw [h]; rfl
theorem wh_next {T : St → Expr → Option Bool} {t : Expr} (h : T σ t = some true) (h2 : exsD X σ body = some (.next σ')) (h3 : whileD T X t body n σ' = some f) : whileD T X t body (n + 1) σ = some f := by
  unfold whileD; rw [h]; simp only [Option.bind_some, if_true, h2]; exact h3

/-! comprehensions -/
theorem cd_of {elt : Expr} {g : Comprehension} {gs : List Comprehension} {its ds : List D} (hn : newT σ g.target = true) (h : flatO (turnD R elt g gs σ) its = some ds) : compD R elt (g :: gs) σ its = some ds := by
  rw [compD_cons, if_pos hn]; exact h
theorem tu_one {elt tg it : Expr} {k : Nat} (h1 : bindT σ tg d = some σ') (h2 : R.ev σ' elt = some a) : turnD R elt ⟨tg, it, [], k⟩ [] σ d = some [a] := by
  unfold turnD; simp only [h1, Option.bind_some, testsD, if_true, h2]; rfl
theorem te_nil : testsD R σ [] = some true := rfl
theorem te_one {c : Bool} (h : R.tr σ e = some c) : testsD R σ [e] = some c := by
  unfold testsD; simp only [h, Option.bind_some, testsD]; cases c <;> rfl
theorem tu_if {elt tg it c : Expr} {k : Nat} {u : Bool} (h1 : bindT σ tg d = some σ') (ht : R.tr σ' c = some u) (h2 : u = true → R.ev σ' elt = some a) : turnD R elt ⟨tg, it, [c], k⟩ [] σ d = some (if u then [a] else []) := by
  unfold turnD; simp only [h1, Option.bind_some, te_one ht]
  cases u
  · rfl
  · simp only [if_true, h2 rfl]; rfl
theorem tu_more {elt tg it : Expr} {ifs : List Expr} {k : Nat} {u : Bool} {g : Comprehension} {gs : List Comprehension} {src : D} {its ds : List D} (h1 : bindT σ tg d = some σ') (ht : testsD R σ' ifs = some u) (hs : u = true → R.ev σ' g.iter = some src) (hi : u = true → itemsD src = some its) (hc : u = true → compD R elt (g :: gs) σ' its = some ds) :
    turnD R elt ⟨tg, it, ifs, k⟩ (g :: gs) σ d = some (if u then ds else []) := by
  unfold turnD; simp only [h1, Option.bind_some, ht]
  cases u
  · rfl
  · simp only [if_true, hs rfl, Option.bind_some, hi rfl, hc rfl]
theorem fl_nil {α β : Type} {f : α → Option (List β)} : flatO f [] = some [] := rfl
theorem fl_cons {α β : Type} {f : α → Option (List β)} {a : α} {l : List α} {b bs : List β} (h1 : f a = some b) (h2 : flatO f l = some bs) : flatO f (a :: l) = some (b ++ bs) := by
  simp only [flatO, h1, h2, Option.bind_some]
theorem fl_map {α β γ : Type} {f : α → Option (List β)} {g : γ → α} {h : γ → List β} : ∀ {l : List γ}, (∀ x ∈ l, f (g x) = some (h x)) → flatO f (l.map g) = some (l.flatMap h)
  | [], _ => rfl
  | x :: l, H => by
    rw [List.map_cons, List.flatMap_cons]
    exact fl_cons (H x List.mem_cons_self) (fl_map fun y hy => H y (List.mem_cons_of_mem _ hy))
theorem fl_map1 {α β γ : Type} {f : α → Option (List β)} {g : γ → α} {h : γ → β} {l : List γ} (H : ∀ x ∈ l, f (g x) = some [h x]) : flatO f (l.map g) = some (l.map h) := by
  rw [fl_map H]; congr 1
  induction l with
  | nil => rfl
  | cons x l ih => simp [List.flatMap_cons, ih fun y hy => H y (List.mem_cons_of_mem _ hy)]
theorem fl_filter {α β γ : Type} {f : α → Option (List β)} {g : γ → α} {h : γ → β} {c : γ → Bool} {l : List γ} (H : ∀ x ∈ l, f (g x) = some (if c x then [h x] else [])) : flatO f (l.map g) = some ((l.filter c).map h) := by
  rw [fl_map H]; congr 1
  induction l with
  | nil => rfl
  | cons x l ih =>
    rw [List.flatMap_cons, ih fun y hy => H y (List.mem_cons_of_mem _ hy), List.filter_cons]
    cases c x <;> simp

/-! calls -/
theorem call_of {f : Str} {fn : Fn} {as : List D} (h1 : P.fns f = some fn) (h2 : (fnOk fn && fn.params.args.length == as.length) = true) (h3 : startSt fn as = σ) (h4 : exsD (xs P (rc P (callN P n) 40) 20) σ fn.body = some (.ret d)) : callN P (n + 1) f as = some d := by
  show ((P.fns f).bind fun fn =>
    if fnOk fn && fn.params.args.length == as.length then
      (exsD (xs P (rc P (callN P n) 40) 20) (startSt fn as) fn.body).bind fun r => (match r with
        | .ret d => some d
        | .next _ => none)
    else none) = _
  rw [h1]; simp only [Option.bind_some]; rw [if_pos h2, h3, h4]; rfl

/-! items -/
theorem it_list {l : List D} (h : l.length ≤ 2 ^ 20) : itemsD (.list l) = some l := by show (if l.length ≤ 2 ^ 20 then some l else none) = _; rw [if_pos h]
theorem it_tuple {l : List D} (h : l.length ≤ 2 ^ 20) : itemsD (.tuple l) = some l := by show (if l.length ≤ 2 ^ 20 then some l else none) = _; rw [if_pos h]
theorem it_rng {i j : Int} (h : i.natAbs ≤ 2 ^ 20 ∧ j.natAbs ≤ 2 ^ 20) : itemsD (.rng i j) = some ((List.range (j - i).toNat).map fun (k : Nat) => .int (i + k)) := by
  show (if i.natAbs ≤ 2 ^ 20 ∧ j.natAbs ≤ 2 ^ 20 then _ else none) = _; rw [if_pos h]
theorem it_str {u : Str} (h : u.length ≤ 2 ^ 20) : itemsD (.str u) = some (u.cps.toList.map fun c => .str ⟨#[c]⟩) := by
  show (if u.length ≤ 2 ^ 20 then _ else none) = _; rw [if_pos h]

/-! operators -/
theorem small_of {i : Int} (h : -(2 ^ 62) < i ∧ i < 2 ^ 62) : small i = true := by unfold small; simp only [decide_eq_true_eq]; omega
theorem bi_mul {i j : Int} (h1 : small i = true) (h2 : small j = true) : binD .Mult (.int i) (.int j) = some (.int (i * j)) := by
  show (if small i && small j then some (D.int (i * j)) else none) = _
  rw [h1, h2]; rfl
theorem bi_fdiv {i j : Int} (h1 : 0 < j) (h2 : small j = true) : binD .FloorDiv (.int i) (.int j) = some (.int (i / j)) := by
  show (if j = 0 ∨ small j = false then none else some (D.int (i.fdiv j))) = _
  rw [if_neg (by simp [h2]; omega), Int.fdiv_eq_ediv_of_nonneg _ (by omega)]
theorem bi_mod {i j : Int} (h1 : 0 < j) : binD .Mod (.int i) (.int j) = some (.int (i % j)) := by
  show (if j = 0 then none else some (D.int (i.fmod j))) = _
  rw [if_neg (by omega), Int.fmod_eq_emod_of_nonneg _ (by omega)]
theorem bi_pow {i j : Int} (h : 0 ≤ j ∧ j ≤ 100 ∧ small i = true) : binD .Pow (.int i) (.int j) = some (.int (i ^ j.toNat)) := by
  show (if 0 ≤ j ∧ j ≤ 100 ∧ small i then some (D.int (i ^ j.toNat)) else none) = _
  rw [if_pos h]
theorem bi_shl {i j : Int} (h : 0 ≤ j ∧ j ≤ 100 ∧ small i = true) : binD .LShift (.int i) (.int j) = some (.int (i * 2 ^ j.toNat)) := by
  show (if 0 ≤ j ∧ j ≤ 100 ∧ small i then some (D.int (i * 2 ^ j.toNat)) else none) = _
  rw [if_pos h]
theorem bi_cat {u v : Str} (h : u.length + v.length ≤ 2 ^ 20) : binD .Add (.str u) (.str v) = some (.str (u ++ v)) := by
  show (if u.length + v.length ≤ 2 ^ 20 then some (D.str (u ++ v)) else none) = _
  rw [if_pos h]
theorem bi_app {u v : List D} (h : u.length + v.length ≤ 2 ^ 20) : binD .Add (.list u) (.list v) = some (.list (u ++ v)) := by
  show (if u.length + v.length ≤ 2 ^ 20 then some (D.list (u ++ v)) else none) = _
  rw [if_pos h]
theorem im_list {u : List D} {k : Int} (hs : small k = true) (h : (seqIndex? k u.length).bind (u[·]?) = some d) : itemD (.list u) (.int k) = some d := by
  show (if small k then (seqIndex? k u.length).bind (u[·]?) else none) = _
  rw [if_pos hs]; exact h
theorem im_tuple {u : List D} {k : Int} (hs : small k = true) (h : (seqIndex? k u.length).bind (u[·]?) = some d) : itemD (.tuple u) (.int k) = some d := by
  show (if small k then (seqIndex? k u.length).bind (u[·]?) else none) = _
  rw [if_pos hs]; exact h
theorem sq_nat {k : Int} {n : Nat} (h1 : 0 ≤ k) (h2 : k < n) : seqIndex? k n = some k.toNat := by
  unfold seqIndex?
  simp [Int.not_lt.mpr h1, h1, h2]
end Mine
end
section
namespace Mine
open PySem
variable {P : PI} {C : CallS} {n m : Nat} {σ σ' σ'' : St} {R : Rc} {X : St → Stmt → Option Fl} {d a b d1 d2 : D} {p q ap np : Pos} {e l r : Expr} {s : Stmt} {rest body : List Stmt} {f : Fl}

theorem c_off {p : Program} : (piX p).consts "NT_OFFSET" = some (.int 256) := by kernel_rfl
theorem c_end {p : Program} : (piX p).consts "ENDMARKER" = some (.int 0) := by kernel_rfl
theorem c_dots {p : Program} : (piX p).consts "ELLIPSIS_MARKER" = some (.str "...") := by kernel_rfl
theorem c_tab {p : Program} : (piX p).consts "EXACT_TOKEN_TYPES" = some (.sdict tokTbl) := by kernel_rfl

theorem bi_add {i j : Int} : binD .Add (.int i) (.int j) = some (.int (i + j)) := rfl
theorem bi_sub {i j : Int} : binD .Sub (.int i) (.int j) = some (.int (i - j)) := rfl
theorem bi_xor {i j : Int} : binD .BitXor (.int i) (.int j) = some (.int (Builtin.bitXor i j)) := rfl
theorem bi_fadd {i j : UInt64} : binD .Add (.float i) (.float j) = some (.float (Float64.add i j)) := rfl
theorem bi_fsub {i j : UInt64} : binD .Sub (.float i) (.float j) = some (.float (Float64.sub i j)) := rfl
theorem bi_fmul {i j : UInt64} : binD .Mult (.float i) (.float j) = some (.float (Float64.mul i j)) := rfl

theorem cm_eqI {i j : Int} : cmpD .Eq (.int i) (.int j) = some (decide (i = j)) := rfl
theorem cm_neI {i j : Int} : cmpD .NotEq (.int i) (.int j) = some (!decide (i = j)) := rfl
theorem cm_ltI {i j : Int} : cmpD .Lt (.int i) (.int j) = some (decide (i < j)) := rfl
theorem cm_gtI {i j : Int} : cmpD .Gt (.int i) (.int j) = some (decide (j < i)) := rfl
theorem cm_leI {i j : Int} : cmpD .LtE (.int i) (.int j) = some (decide (i ≤ j)) := rfl
theorem cm_geI {i j : Int} : cmpD .GtE (.int i) (.int j) = some (decide (j ≤ i)) := rfl
theorem cm_eqS {i j : Str} : cmpD .Eq (.str i) (.str j) = some (decide (i = j)) := rfl
theorem cm_neS {i j : Str} : cmpD .NotEq (.str i) (.str j) = some (!decide (i = j)) := rfl
theorem cm_inS {i j : Str} : cmpD .In (.str i) (.str j) = some (Txt.contains j i) := rfl
theorem cm_ninS {i j : Str} : cmpD .NotIn (.str i) (.str j) = some (!Txt.contains j i) := rfl
theorem cm_inT {i : Str} {l : List (Str × Int)} : cmpD .In (.str i) (.sdict l) = some (l.lookup i).isSome := rfl
theorem cm_isB {i j : Bool} : cmpD .Is (.bool i) (.bool j) = some (i == j) := rfl
theorem cm_isnB {i j : Bool} : cmpD .IsNot (.bool i) (.bool j) = some (!(i == j)) := rfl
theorem cm_ltF {i j : UInt64} : cmpD .Lt (.float i) (.float j) = some (Float64.cmp i j == some .lt) := rfl
theorem cm_gtF {i j : UInt64} : cmpD .Gt (.float i) (.float j) = some (Float64.cmp i j == some .gt) := rfl

theorem th_bool {b : Bool} : truthD (.bool b) = some b := rfl
theorem th_str {u : Str} (h : u.length ≤ 2 ^ 20) : truthD (.str u) = some (u.length != 0) := by show (if u.length ≤ 2 ^ 20 then some (u.length != 0) else none) = _; rw [if_pos h]

theorem bl_lenS {u : Str} (h : u.length ≤ 2 ^ 20) : bltD "len" [.str u] = some (.int u.length) := by unfold bltD; rw [if_pos rfl]; simp only [h, if_true]
theorem bl_lenL {u : List D} (h : u.length ≤ 2 ^ 20) : bltD "len" [.list u] = some (.int u.length) := by unfold bltD; rw [if_pos rfl]; simp only [h, if_true]
theorem bl_lenT {u : List D} (h : u.length ≤ 2 ^ 20) : bltD "len" [.tuple u] = some (.int u.length) := by unfold bltD; rw [if_pos rfl]; simp only [h, if_true]
theorem ints_map {α : Type} {g : α → Int} : ∀ {l : List α}, intsO (l.map fun x => .int (g x)) = some (l.map g)
  | [] => rfl
  | x :: l => by simp only [List.map_cons, intsO, ints_map (l := l), Option.bind_some]
theorem ints_all : ∀ {l : List Int}, intsO (l.map .int) = some l
  | [] => rfl
  | x :: l => by simp only [List.map_cons, intsO, ints_all (l := l), Option.bind_some]
theorem bl_sum {ds : List D} {l : List Int} (hl : intsO ds = some l) (h : l.length ≤ 2 ^ 10 ∧ ∀ i ∈ l, i.natAbs < 2 ^ 40) : bltD "sum" [.list ds] = some (.int l.sum) := by
  unfold bltD
  rw [if_neg (by decide +kernel), if_pos rfl]
  simp only [hl, Option.bind_some]
  rw [if_pos ⟨h.1, by simpa using h.2⟩]
theorem bl_rng1 {i : Int} (h : i.natAbs ≤ 2 ^ 20) : bltD "range" [.int i] = some (.rng 0 i) := by
  unfold bltD
  rw [if_neg (by decide +kernel), if_neg (by decide +kernel), if_neg (by decide +kernel), if_neg (by decide +kernel), if_neg (by decide +kernel), if_pos rfl]
  simp only [h, if_true]
theorem bl_rng2 {i j : Int} (h : i.natAbs ≤ 2 ^ 20 ∧ j.natAbs ≤ 2 ^ 20) : bltD "range" [.int i, .int j] = some (.rng i j) := by
  unfold bltD
  rw [if_neg (by decide +kernel), if_neg (by decide +kernel), if_neg (by decide +kernel), if_neg (by decide +kernel), if_neg (by decide +kernel), if_pos rfl]
  simp only [h, and_self, if_true]
theorem bl_max {ds : List D} {l : List Int} {k : Int} (hl : intsO ds = some l) (h : l.length ≤ 2 ^ 10) (hm : maxL l = some k) : bltD "max" [.list ds] = some (.int k) := by
  unfold bltD
  rw [if_neg (by decide +kernel), if_neg (by decide +kernel), if_pos rfl]
  simp only [hl, Option.bind_some, h, if_true, hm, Option.map_some]
theorem bl_max2 {i j : Int} : bltD "max" [.int i, .int j] = some (.int (if i < j then j else i)) := by
  unfold bltD
  rw [if_neg (by decide +kernel), if_neg (by decide +kernel), if_pos rfl]
theorem bl_min2 {i j : Int} : bltD "min" [.int i, .int j] = some (.int (if j < i then j else i)) := by
  unfold bltD
  rw [if_neg (by decide +kernel), if_neg (by decide +kernel), if_neg (by decide +kernel), if_pos rfl]
theorem bl_max3 {x y z : UInt64} : bltD "max" [.float x, .float y, .float z] = some (.float (max3 x y z)) := by
  unfold bltD
  rw [if_neg (by decide +kernel), if_neg (by decide +kernel), if_pos rfl]
theorem bl_min3 {x y z : UInt64} : bltD "min" [.float x, .float y, .float z] = some (.float (min3 x y z)) := by
  unfold bltD
  rw [if_neg (by decide +kernel), if_neg (by decide +kernel), if_neg (by decide +kernel), if_pos rfl]
theorem bl_int {x : UInt64} {k : Int} (h : intOf x = some k) : bltD "int" [.float x] = some (.int k) := by
  unfold bltD
  rw [if_neg (by decide +kernel), if_neg (by decide +kernel), if_neg (by decide +kernel), if_neg (by decide +kernel), if_pos rfl]
  simp only [h, Option.map_some]
theorem bl_sorted {ds : List D} {l : List Int} (hl : intsO ds = some l) (h : l.length < 64) : bltD "sorted" [.list ds] = some (.list ((l.mergeSort (· ≤ ·)).map .int)) := by
  unfold bltD
  rw [if_neg (by decide +kernel), if_neg (by decide +kernel), if_neg (by decide +kernel), if_neg (by decide +kernel), if_neg (by decide +kernel), if_neg (by decide +kernel), if_pos rfl]
  simp only [hl, Option.bind_some, h, if_true]

theorem md_starts {u v : Str} : methD (.str u) "startswith" [.str v] = some (.bool (Txt.startswith u v)) := by unfold methD; simp only []; rw [if_pos trivial]
theorem md_ends {u v : Str} : methD (.str u) "endswith" [.str v] = some (.bool (Txt.endswith u v)) := by unfold methD; simp only []; rw [if_neg (by decide +kernel), if_pos trivial]
def findV (x y : Str) (i j : Int) : Int := match Builtin.Str.occurrences x y i.toNat (min j.toNat x.length) 1 with | k :: _ => (k : Int) | [] => -1
theorem md_find {u v : Str} {i j : Int} (h : 0 ≤ i ∧ 0 ≤ j ∧ small i = true ∧ small j = true) : methD (.str u) "find" [.str v, .int i, .int j] = some (.int (findV u v i j)) := by
  unfold methD; simp only []; rw [if_neg (by decide +kernel), if_neg (by decide +kernel), if_pos trivial]
  rw [if_pos h]; rfl
theorem md_split {u v : Str} (h : ¬ (v.length = 0 ∨ 2 ^ 20 < u.length)) : methD (.str u) "split" [.str v] = some (.list ((Txt.split u v).map .str)) := by
  unfold methD; simp only []; rw [if_neg (by decide +kernel), if_neg (by decide +kernel), if_neg (by decide +kernel), if_pos trivial]
  rw [if_neg h]
theorem strs_map {α : Type} {g : α → Str} : ∀ {l : List α}, strsO (l.map fun x => .str (g x)) = some (l.map g)
  | [] => rfl
  | x :: l => by simp only [List.map_cons, strsO, strs_map (l := l), Option.bind_some]
theorem md_join {u : Str} {ds : List D} {ss : List Str} (hs : strsO ds = some ss) (h : JoinOk u ss) : methD (.str u) "join" [.list ds] = some (.str (Txt.join u ss)) := by
  unfold methD; simp only []; rw [if_neg (by decide +kernel), if_neg (by decide +kernel), if_neg (by decide +kernel), if_neg (by decide +kernel), if_pos trivial]
  simp only [hs, Option.bind_some, h, if_true]
theorem md_index {u v : Str} (h : Txt.contains u v = true) : methD (.str u) "index" [.str v] = some (.int (Txt.find u v)) := by
  unfold methD; simp only []; rw [if_neg (by decide +kernel), if_neg (by decide +kernel), if_neg (by decide +kernel), if_neg (by decide +kernel), if_neg (by decide +kernel), if_pos trivial]
  rw [if_pos h]
theorem md_indexL {u : List D} {k : Nat} (hl : u.length ≤ 2 ^ 20) (h : idxD d u = some k) : methD (.list u) "index" [d] = some (.int k) := by
  unfold methD; simp only []; rw [if_pos trivial]; simp only [hl, if_true, h, Option.map_some]
def optI : Option Int → D
  | some i => .int i
  | none => .none
theorem md_getS {l : List (Str × Int)} {k : Str} : methD (.sdict l) "get" [.str k] = some (optI (l.lookup k)) := by
  unfold methD; simp only []; rw [if_pos trivial]; cases l.lookup k <;> rfl
theorem md_getI {l : List (Int × Str)} {k : Int} {u : Str} : methD (.isdict l) "get" [.int k, .str u] = some (.str ((l.lookup k).getD u)) := by
  unfold methD; simp only []; rw [if_pos trivial]; cases l.lookup k <;> rfl
theorem md_getII {l : List (Int × Int)} {k u : Int} : methD (.iidict l) "get" [.int k, .int u] = some (.int ((l.lookup k).getD u)) := by
  unfold methD; simp only []; rw [if_pos trivial]; cases l.lookup k <;> rfl
theorem im_tab {l : List (Str × Int)} {k : Str} {i : Int} (h : l.lookup k = some i) : itemD (.sdict l) (.str k) = some (.int i) := by
  show (l.lookup k).map D.int = _; rw [h]; rfl
theorem im_str {u : Str} {k : Int} (h : small k = true ∧ (Txt.charAt u k).isSome = true) : itemD (.str u) (.int k) = some (.str (Txt.item u k)) := by
  show (if small k ∧ (Txt.charAt u k).isSome then some (D.str (Txt.item u k)) else none) = _; rw [if_pos h]
theorem sl_list {u : List D} {i j k : Option Int} (h : u.length ≤ 2 ^ 20 ∧ k ≠ some 0) : sliceD (.list u) i j k = some (.list (pick u i j k)) := by
  show (if u.length ≤ 2 ^ 20 ∧ k ≠ some 0 then some (D.list (pick u i j k)) else none) = _; rw [if_pos h]
theorem sl_str {u : Str} {i j : Option Int} (h : u.length ≤ 2 ^ 20) : sliceD (.str u) i j none = some (.str (Txt.slice u i j)) := by
  show (if u.length ≤ 2 ^ 20 ∧ (none : Option Int) = none then some (D.str (Txt.slice u i j)) else none) = _; rw [if_pos ⟨h, rfl⟩]
theorem ex_for0 {t it : Expr} {src : D} {its : List D} (hf : freeze σ it = σ) (hs : setIter it = false) (h1 : R.ev σ it = some src) (h2 : itemsD src = some its) (h3 : forD (xs P R m) t body σ its = some f) : xs P R (m + 1) σ (.For t it body [] p) = some f :=
  ex_for hs (by rw [hf]; exact h1) h2 (by rw [hf]; exact h3)
end Mine
end
section
namespace Mine
open PySem PySem.Float64

/-- the float of n / 512 -/
def Fx (n : Int) : UInt64 := ofFrac (decide (n < 0)) n.natAbs 512

theorem V_inj {t u : Nat} (h : V t = V u) : t = u := by
  rcases Nat.lt_trichotomy t u with q | q | q
  · exact absurd h (Nat.ne_of_lt (V_lt q))
  · exact q
  · exact absurd h.symm (Nat.ne_of_lt (V_lt q))

/-- the place of M * 2 ^ 1065 -/
theorem V_rep : ∀ (k : Nat) (M : Nat), M < 2 ^ 53 → k ≤ 52 → 2 ^ (52 - k) ≤ M → M < 2 ^ (53 - k) → ∃ t, V t = M * 2 ^ 1065 := by
  intro k M _ hk h1 h2
  refine ⟨(1065 - k) * 2 ^ 52 + M * 2 ^ k, ?_⟩
  have e1 : 2 ^ 52 ≤ M * 2 ^ k := by
    calc 2 ^ 52 = 2 ^ (52 - k) * 2 ^ k := by rw [← Nat.pow_add]; congr 1; omega
      _ ≤ M * 2 ^ k := Nat.mul_le_mul_right _ h1
  have e2 : M * 2 ^ k ≤ 2 ^ 53 := by
    calc M * 2 ^ k ≤ 2 ^ (53 - k) * 2 ^ k := Nat.mul_le_mul_right _ (Nat.le_of_lt h2)
      _ = 2 ^ 53 := by rw [← Nat.pow_add]; congr 1; omega
  rw [V_at e2 (.inl e1), Nat.mul_assoc, ← Nat.pow_add]
  congr 2; omega

theorem V_of {M : Nat} (h : M < 2 ^ 53) : ∃ t, V t = M * 2 ^ 1065 := by
  by_cases h0 : M = 0
  · subst h0; exact ⟨0, by rw [V_zero]; omega⟩
  · have h1 := Nat.log2_self_le h0
    have h2 : M < 2 ^ (M.log2 + 1) := Nat.lt_log2_self
    have h3 : M.log2 < 53 := (Nat.log2_lt h0).mpr h
    exact V_rep (52 - M.log2) M h (by omega) (by rwa [show 52 - (52 - M.log2) = M.log2 by omega]) (by rwa [show 53 - (52 - M.log2) = M.log2 + 1 by omega])

theorem right_at {r : UInt64} {neg : Bool} {W D M : Nat} (hM : M < 2 ^ 53) (hD : 0 < D) (hW : W = D * (M * 2 ^ 1065)) (h : Right r neg W D) : ∃ t, r = pack neg t ∧ t < infMag ∧ V t = M * 2 ^ 1065 := by
  obtain ⟨t, hr, hle, hov, hnear⟩ := h
  obtain ⟨t', ht'⟩ := V_of hM
  have hlt : t < infMag := by
    rcases Nat.lt_or_eq_of_le hle with q | q
    · exact q
    · have := hov.mp q
      rw [hW] at this
      have h2 : D * ((2 ^ 54 - 1) * 2 ^ 2045) ≤ D * (2 * (M * 2 ^ 1065)) := by rw [Nat.mul_left_comm D 2]; exact this
      have h3 := Nat.le_of_mul_le_mul_left h2 hD
      have h4 : M * 2 ^ 1065 ≤ 2 ^ 53 * 2 ^ 1065 := Nat.mul_le_mul_right _ (Nat.le_of_lt hM)
      have h5 : 2 * (2 ^ 53 * 2 ^ 1065) < (2 ^ 54 - 1) * 2 ^ 2045 := by decide +kernel
      omega
  refine ⟨t, hr, hlt, ?_⟩
  have h1 := (hnear hlt t').1
  rw [ht', ← hW] at h1
  unfold dist at h1
  have h2 : W = D * V t := by omega
  rw [hW] at h2
  exact (Nat.eq_of_mul_eq_mul_left hD h2).symm

theorem fx_pack {n : Int} (h : n.natAbs < 2 ^ 53) : ∃ t, Fx n = pack (decide (n < 0)) t ∧ t < infMag ∧ V t = n.natAbs * 2 ^ 1065 := by
  refine right_at (D := 1) h (by decide) (W := n.natAbs * 2 ^ 1065) (by rw [Nat.one_mul]) (ofFrac_right (by decide) ?_ (by decide))
  rw [Nat.mul_one, Nat.mul_assoc, show (512 : Nat) = 2 ^ 9 from rfl, ← Nat.pow_add]

theorem fx_uniq {n : Int} (h : n.natAbs < 2 ^ 53) {r : UInt64} {W D : Nat} {neg : Bool} (hr : Right r neg W D) (hn : neg = decide (n < 0)) (hD : 0 < D) (hW : W = D * (n.natAbs * 2 ^ 1065)) : r = Fx n := by
  obtain ⟨t, h1, _, h2⟩ := right_at h hD hW hr
  obtain ⟨u, h3, _, h4⟩ := fx_pack h
  rw [h1, h3, hn, V_inj (h2.trans h4.symm)]

theorem fx_dec {n : Int} (h : n.natAbs < 2 ^ 53) : ∃ m e, decode (Fx n) = .fin (decide (n < 0)) m e ∧ m * 2 ^ (e + 1074).toNat = n.natAbs * 2 ^ 1065 := by
  obtain ⟨t, h1, h2, h3⟩ := fx_pack h
  obtain ⟨m, e, h4, h5⟩ := decode_pack (decide (n < 0)) h2
  exact ⟨m, e, by rw [h1]; exact h4, by rw [h5, h3]⟩

theorem fx_val {n : Int} (h : n.natAbs < 2 ^ 53) : val (Fx n) = n * 2 ^ 1065 := by
  obtain ⟨m, e, h1, h2⟩ := fx_dec h
  rw [val_eq h1, h2, sgn_mul]
  have : sgn (decide (n < 0)) n.natAbs = n := by
    unfold sgn
    by_cases q : n < 0
    · simp [q]; omega
    · simp [q]; omega
  rw [this]; norm_cast
theorem fx_zero : Fx 0 = zero false := by decide +kernel

theorem scaled_neg (a : Int) {K : Int} (hp : 0 < K) : a * K < 0 ↔ a < 0 := by
  constructor
  · intro h
    by_cases q : a < 0
    · exact q
    · exact absurd (Int.mul_nonneg (Int.not_lt.mp q) (Int.le_of_lt hp)) (by omega)
  · intro h; exact Int.mul_neg_of_neg_of_pos h hp
theorem kpos : (0 : Int) < 2 ^ 1065 := by decide +kernel
theorem fx_add {a b : Int} (ha : a.natAbs < 2 ^ 53) (hb : b.natAbs < 2 ^ 53) (hc : (a + b).natAbs < 2 ^ 53) : add (Fx a) (Fx b) = Fx (a + b) := by
  obtain ⟨m, e, h1, _⟩ := fx_dec ha
  obtain ⟨k, f, h2, _⟩ := fx_dec hb
  have hr := add_right h1 h2
  rw [fx_val ha, fx_val hb, ← Int.add_mul] at hr
  have hp : (0 : Int) < 2 ^ 1065 := by decide +kernel
  by_cases q : a + b = 0
  · rw [hr.1 (by rw [q, Int.zero_mul]), q, fx_zero]
    congr 1
    simp only [Bool.and_eq_false_iff, decide_eq_false_iff_not]
    omega
  · refine fx_uniq hc (hr.2 (fun e => ?_)) ?_ (by decide) ?_
    · rcases Int.mul_eq_zero.mp e with e | e
      · exact q e
      · rw [e] at hp; exact absurd hp (by decide)
    · congr 1
      rw [eq_iff_iff]
      constructor
      · exact fun h => (scaled_neg (a + b) hp).mp h
      · exact fun h => (scaled_neg (a + b) hp).mpr h
    · rw [Nat.one_mul, Int.natAbs_mul]; rfl
theorem fx_sub {a b : Int} (ha : a.natAbs < 2 ^ 53) (hb : b.natAbs < 2 ^ 53) (hc : (a - b).natAbs < 2 ^ 53) : sub (Fx a) (Fx b) = Fx (a - b) := by
  obtain ⟨m, e, h1, _⟩ := fx_dec ha
  obtain ⟨k, f, h2, _⟩ := fx_dec hb
  have hr := sub_right h1 h2
  rw [fx_val ha, fx_val hb, ← Int.sub_mul] at hr
  by_cases q : a - b = 0
  · rw [hr.1 (by rw [q, Int.zero_mul]), q, fx_zero]
    congr 1
    simp only [Bool.and_eq_false_iff, decide_eq_false_iff_not, Bool.not_eq_false', decide_eq_true_eq]
    omega
  · refine fx_uniq hc (hr.2 (fun e => ?_)) ?_ (by decide) ?_
    · rcases Int.mul_eq_zero.mp e with e | e
      · exact q e
      · have := kpos; rw [e] at this; exact absurd this (by decide)
    · congr 1
      rw [eq_iff_iff]
      exact scaled_neg (a - b) kpos
    · rw [Nat.one_mul, Int.natAbs_mul]; rfl

theorem fx_mul {a b c : Int} (ha : a.natAbs < 2 ^ 53) (hb : b.natAbs < 2 ^ 53) (hc : c.natAbs < 2 ^ 53) (h0 : 0 ≤ a) (h0' : 0 ≤ b) (h : a * b = 512 * c) : mul (Fx a) (Fx b) = Fx c := by
  obtain ⟨m, e, h1, _⟩ := fx_dec ha
  obtain ⟨k, f, h2, _⟩ := fx_dec hb
  have hr := mul_right h1 h2
  rw [fx_val ha, fx_val hb] at hr
  refine fx_uniq hc hr ?_ (Nat.two_pow_pos _) ?_
  · have : 0 ≤ 512 * c := h ▸ Int.mul_nonneg h0 h0'
    rw [decide_eq_false (by omega), decide_eq_false (by omega), decide_eq_false (by omega)]; rfl
  · rw [Int.natAbs_mul, Int.natAbs_mul]
    have e1 : ((2 : Int) ^ 1065).natAbs = 2 ^ 1065 := by rw [Int.natAbs_pow]; rfl
    have e2 : a.natAbs * b.natAbs = 512 * c.natAbs := by rw [← Int.natAbs_mul, h, Int.natAbs_mul]; rfl
    rw [e1]
    calc a.natAbs * 2 ^ 1065 * (b.natAbs * 2 ^ 1065) = a.natAbs * b.natAbs * (2 ^ 1065 * 2 ^ 1065) := by ac_rfl
      _ = 512 * c.natAbs * (2 ^ 1065 * 2 ^ 1065) := by rw [e2]
      _ = 2 ^ 1074 * (c.natAbs * 2 ^ 1065) := by
        rw [show (512 : Nat) = 2 ^ 9 from rfl, show 1074 = 9 + 1065 from rfl, Nat.pow_add]; ac_rfl

theorem fx_div {a b c : Int} (ha : a.natAbs < 2 ^ 53) (hb : b.natAbs < 2 ^ 53) (hc : c.natAbs < 2 ^ 53) (h0 : 0 < b) (h : c * b = 512 * a) : div (Fx a) (Fx b) = Fx c := by
  obtain ⟨m, e, h1, _⟩ := fx_dec ha
  obtain ⟨k, f, h2, h2'⟩ := fx_dec hb
  have hk : k ≠ 0 := fun q => by
    rw [q, Nat.zero_mul] at h2'
    rcases Nat.mul_eq_zero.mp h2'.symm with z | z
    · omega
    · exact absurd z (Nat.ne_of_gt (Nat.two_pow_pos _))
  have hr := div_right h1 h2 hk
  rw [fx_val ha, fx_val hb] at hr
  have e1 : ((2 : Int) ^ 1065).natAbs = 2 ^ 1065 := by rw [Int.natAbs_pow]; rfl
  rw [Int.natAbs_mul, Int.natAbs_mul, e1] at hr
  refine fx_uniq hc hr ?_ (Nat.mul_pos (by omega) (Nat.two_pow_pos _)) ?_
  · have e3 : decide (b < 0) = false := decide_eq_false (by omega)
    rw [e3]
    have : (a < 0) ↔ (c < 0) := by
      rw [← scaled_neg c h0, h]
      omega
    simp [this]
  · have e2 : c.natAbs * b.natAbs = 512 * a.natAbs := by rw [← Int.natAbs_mul, h, Int.natAbs_mul]; rfl
    calc a.natAbs * 2 ^ 1065 * 2 ^ 1074 = 512 * a.natAbs * (2 ^ 1065 * 2 ^ 1065) := by
          rw [show (512 : Nat) = 2 ^ 9 from rfl, show 1074 = 9 + 1065 from rfl, Nat.pow_add]; ac_rfl
      _ = c.natAbs * b.natAbs * (2 ^ 1065 * 2 ^ 1065) := by rw [e2]
      _ = b.natAbs * 2 ^ 1065 * (c.natAbs * 2 ^ 1065) := by ac_rfl

theorem fx_isZero {b : Int} (hb : b.natAbs < 2 ^ 53) (h0 : b ≠ 0) : isZero (Fx b) = false := by
  obtain ⟨k, f, h2, h2'⟩ := fx_dec hb
  unfold isZero
  rw [h2]
  have hk : k ≠ 0 := fun q => by
    rw [q, Nat.zero_mul] at h2'
    rcases Nat.mul_eq_zero.mp h2'.symm with z | z
    · omega
    · exact absurd z (Nat.ne_of_gt (Nat.two_pow_pos _))
  cases k with
  | zero => exact absurd rfl hk
  | succ k => rfl

theorem fx_ofInt {i : Int} (h : (512 * i).natAbs < 2 ^ 53) : ofInt i = Fx (512 * i) := by
  refine fx_uniq h (ofInt_right i) ?_ (by decide) ?_
  · congr 1; rw [eq_iff_iff]; omega
  · rw [Nat.one_mul, Int.natAbs_mul, show ((512 : Int).natAbs) = 2 ^ 9 from rfl, show 1074 = 9 + 1065 from rfl, Nat.pow_add]; ac_rfl

theorem fx_frac {n d : Nat} {c : Int} (hd : 0 < d) (h0 : 0 ≤ c) (hc : c.natAbs < 2 ^ 53) (h : c.natAbs * d = 512 * n) : ofFrac false n d = Fx c := by
  refine fx_uniq hc (ofFrac_right (W := c.natAbs * 2 ^ 1065) (D := 1) hd ?_ (by decide)) ?_ (by decide) (by rw [Nat.one_mul])
  · rw [Nat.mul_one]
    calc n * 2 ^ 1074 = 512 * n * 2 ^ 1065 := by rw [show (512 : Nat) = 2 ^ 9 from rfl, show 1074 = 9 + 1065 from rfl, Nat.pow_add]; ac_rfl
      _ = c.natAbs * d * 2 ^ 1065 := by rw [h]
      _ = c.natAbs * 2 ^ 1065 * d := by ac_rfl
  · rw [decide_eq_false (by omega)]

theorem cmp_scale (a b : Int) {K : Int} (hK : 0 < K) : compare (a * K) (b * K) = compare a b := by
  rcases Int.lt_trichotomy a b with h | h | h
  · rw [Int.compare_eq_lt.mpr h, Int.compare_eq_lt.mpr (Int.mul_lt_mul_of_pos_right h hK)]
  · subst h; simp
  · rw [Int.compare_eq_gt.mpr h, Int.compare_eq_gt.mpr (Int.mul_lt_mul_of_pos_right h hK)]
theorem fx_cmp {a b : Int} (ha : a.natAbs < 2 ^ 53) (hb : b.natAbs < 2 ^ 53) : cmp (Fx a) (Fx b) = some (compare a b) := by
  obtain ⟨m, e, h1, _⟩ := fx_dec ha
  obtain ⟨k, f, h2, _⟩ := fx_dec hb
  rw [cmp_right h1 h2, fx_val ha, fx_val hb, cmp_scale _ _ kpos]
theorem fx_cmpInt {a i : Int} (ha : a.natAbs < 2 ^ 53) : cmpInt (Fx a) i = some (compare a (512 * i)) := by
  obtain ⟨m, e, h1, _⟩ := fx_dec ha
  have e1 : i * 2 ^ 1074 = 512 * i * 2 ^ 1065 := by
    rw [show 1074 = 9 + 1065 from rfl, Int.pow_add, show (2 : Int) ^ 9 = 512 from rfl]; ac_rfl
  rw [cmpInt_right h1, fx_val ha, e1, cmp_scale _ _ kpos]
theorem fx_notNaN {a : Int} (ha : a.natAbs < 2 ^ 53) : isNaN (Fx a) = false := by
  obtain ⟨m, e, h1, _⟩ := fx_dec ha
  unfold isNaN; rw [h1]

theorem fx_mod {a : Int} (ha : a.natAbs < 2 ^ 52) : (divmod (Fx a) (Fx 512)).2 = Fx (a % 512) := by
  obtain ⟨m, e, h1, h1'⟩ := fx_dec (n := a) (by omega)
  obtain ⟨k, f, h2, h2'⟩ := fx_dec (n := 512) (by decide)
  have hk : k ≠ 0 := fun q => by
    rw [q, Nat.zero_mul] at h2'
    rcases Nat.mul_eq_zero.mp h2'.symm with z | z
    · exact absurd z (by decide)
    · exact absurd z (Nat.ne_of_gt (Nat.two_pow_pos _))
  have he := decode_ge h1
  have hf := decode_ge h2
  -- the remainder
  have hm : fmod (Fx a) (Fx 512) = ofBin (decide (a < 0)) ((m * 2 ^ (e - min e f).toNat) % (k * 2 ^ (f - min e f).toNat)) (min e f) := by
    unfold fmod
    rw [h1, h2]
    simp only
    rw [if_neg (by simpa using hk)]
    rfl
  have hW : ∀ (p : Nat), (shift p 1 (min e f)).1 * 2 ^ 1074 * 1 = p * 2 ^ (min e f + 1074).toNat * (shift p 1 (min e f)).2 := fun p => by
    rw [Nat.mul_one]; exact shift_one p (min e f) 1074 (by omega)
  have hp : (m * 2 ^ (e - min e f).toNat) % (k * 2 ^ (f - min e f).toNat) * 2 ^ (min e f + 1074).toNat = a.natAbs % 512 * 2 ^ 1065 := by
    rw [← Nat.mul_mod_mul_right, Nat.mul_assoc, Nat.mul_assoc, ← Nat.pow_add, ← Nat.pow_add]
    have e1 : (e - min e f).toNat + (min e f + 1074).toNat = (e + 1074).toNat := by omega
    have e2 : (f - min e f).toNat + (min e f + 1074).toNat = (f + 1074).toNat := by omega
    rw [e1, e2, h1', h2', Nat.mul_mod_mul_right]
    rfl
  have hr : Right (ofBin (decide (a < 0)) ((m * 2 ^ (e - min e f).toNat) % (k * 2 ^ (f - min e f).toNat)) (min e f)) (decide (a < 0)) (a.natAbs % 512 * 2 ^ 1065) 1 := by
    unfold ofBin
    refine ofFrac_right (shift_pos _ _ _ (by decide)) ?_ (by decide)
    have h9 := hW ((m * 2 ^ (e - min e f).toNat) % (k * 2 ^ (f - min e f).toNat))
    rw [hp] at h9
    exact h9
  have lt : a.natAbs % 512 < 512 := Nat.mod_lt _ (by decide)
  unfold divmod
  simp only
  rw [hm]
  by_cases hz : a.natAbs % 512 = 0
  · obtain ⟨t, g1, g2, g3⟩ := right_at (M := 0) (D := 1) (by decide) (by decide) (by rw [hz, Nat.zero_mul]) hr
    have ht : t = 0 := V_inj (by rw [g3, V_zero, Nat.zero_mul])
    subst ht
    have z : isZero (pack (decide (a < 0)) 0) = true := by cases decide (a < 0) <;> decide +kernel
    rw [g1, if_pos z]
    have e0 : a % 512 = 0 := by omega
    rw [e0]
    show copysign (zero false) (Fx 512) = Fx 0
    decide +kernel
  · by_cases hs : a < 0
    · have hb := fx_uniq (n := -((a.natAbs % 512 : Nat) : Int)) (by omega) hr (by congr 1; rw [eq_iff_iff]; omega) (by decide) (by rw [Nat.one_mul, Int.natAbs_neg]; rfl)
      rw [hb, if_neg (by rw [fx_isZero (by omega) (by omega)]; decide)]
      have c1 : Float64.lt (Fx 512) (zero false) = false := by decide +kernel
      have c2 : Float64.lt (Fx (-((a.natAbs % 512 : Nat) : Int))) (zero false) = true := by
        unfold Float64.lt
        rw [← fx_zero, fx_cmp (by omega) (by decide), Int.compare_eq_lt.mpr (by omega)]; rfl
      rw [c1, c2, if_pos (by decide)]
      simp only
      rw [fx_add (by omega) (by decide) (by omega)]
      congr 1; omega
    · have hb := fx_uniq (n := ((a.natAbs % 512 : Nat) : Int)) (by omega) hr (by congr 1; rw [eq_iff_iff]; omega) (by decide) (by rw [Nat.one_mul]; rfl)
      rw [hb, if_neg (by rw [fx_isZero (by omega) (by omega)]; decide)]
      have c1 : Float64.lt (Fx 512) (zero false) = false := by decide +kernel
      have c2 : Float64.lt (Fx ((a.natAbs % 512 : Nat) : Int)) (zero false) = false := by
        unfold Float64.lt
        rw [← fx_zero, fx_cmp (by omega) (by decide)]
        have : compare ((a.natAbs % 512 : Nat) : Int) 0 = .gt := Int.compare_eq_gt.mpr (by omega)
        rw [this]; rfl
      rw [c1, c2, if_neg (by decide)]
      simp only
      congr 1; omega

theorem fx_int {a : Int} (ha : a.natAbs < 2 ^ 53) (h0 : 0 ≤ a) : intOf (Fx a) = some (a / 512) := by
  obtain ⟨m, e, h1, h2⟩ := fx_dec ha
  have he := decode_ge h1
  unfold intOf
  rw [h1]
  simp only [Option.some.injEq]
  have hs : decide (a < 0) = false := decide_eq_false (by omega)
  rw [hs]
  unfold truncOf
  simp only [Bool.false_eq_true, if_false]
  unfold floorOf sgn
  simp only [Bool.false_eq_true, if_false]
  have hA : (a.natAbs : Int) = a := by omega
  generalize a.natAbs = N at *
  split
  · rename_i q
    have e1 : (e + 1074).toNat = e.toNat + 9 + 1065 := by omega
    rw [e1, Nat.pow_add, ← Nat.mul_assoc] at h2
    have h3 := Nat.eq_of_mul_eq_mul_right (Nat.two_pow_pos _) h2
    rw [Nat.pow_add, ← Nat.mul_assoc] at h3
    have h4 : a = (m * 2 ^ e.toNat : Nat) * 512 := by rw [← hA, ← h3]; norm_cast
    rw [h4, Int.mul_ediv_cancel _ (by decide)]
    norm_cast
  · rename_i q
    have hq : (2 : Int) ^ (-e).toNat = ((2 ^ (-e).toNat : Nat) : Int) := by norm_cast
    rw [hq, Int.fdiv_eq_ediv_of_nonneg _ (Int.natCast_nonneg _), ← hA]
    norm_cast
    by_cases q9 : 0 ≤ e + 9
    · have e1 : (e + 1074).toNat = (e + 9).toNat + 1065 := by omega
      rw [e1, Nat.pow_add, ← Nat.mul_assoc] at h2
      have h3 := Nat.eq_of_mul_eq_mul_right (Nat.two_pow_pos _) h2
      have e2 : 2 ^ 9 = 2 ^ (e + 9).toNat * 2 ^ (-e).toNat := by rw [← Nat.pow_add]; congr 1; omega
      rw [← h3, show (512 : Nat) = 2 ^ 9 from rfl, e2, Nat.mul_comm (2 ^ (e + 9).toNat), Nat.mul_div_mul_right _ _ (Nat.two_pow_pos _)]
    · have e1 : 1065 = (-(e + 9)).toNat + (e + 1074).toNat := by omega
      rw [e1, Nat.pow_add, ← Nat.mul_assoc] at h2
      have h3 := Nat.eq_of_mul_eq_mul_right (Nat.two_pow_pos _) h2
      have e2 : (-e).toNat = 9 + (-(e + 9)).toNat := by omega
      rw [h3, e2, Nat.pow_add, Nat.mul_div_mul_right _ _ (Nat.two_pow_pos _)]
end Mine
end
section
namespace Mine
open PySem PySem.Float64
variable {P : PI} {C : CallS} {n m : Nat} {σ : St} {p : Pos}

theorem bx_add {a b : Int} (h : -1048576 ≤ a ∧ a ≤ 1048576 ∧ -1048576 ≤ b ∧ b ≤ 1048576) : binD .Add (.float (Fx a)) (.float (Fx b)) = some (.float (Fx (a + b))) := by
  show some (D.float (add (Fx a) (Fx b))) = _
  rw [fx_add (by omega) (by omega) (by omega)]
theorem bx_sub {a b : Int} (h : -1048576 ≤ a ∧ a ≤ 1048576 ∧ -1048576 ≤ b ∧ b ≤ 1048576) : binD .Sub (.float (Fx a)) (.float (Fx b)) = some (.float (Fx (a - b))) := by
  show some (D.float (sub (Fx a) (Fx b))) = _
  rw [fx_sub (by omega) (by omega) (by omega)]
theorem bx_subI {a b : Int} (h : -1048576 ≤ a ∧ a ≤ 1048576 ∧ -1048576 ≤ b ∧ b ≤ 1048576) : binD .Sub (.float (Fx a)) (.int b) = some (.float (Fx (a - 512 * b))) := by
  show (if small b then some (D.float (sub (Fx a) (ofInt b))) else none) = _
  rw [if_pos (small_of (by omega)), fx_ofInt (by omega), fx_sub (by omega) (by omega) (by omega)]
theorem bx_mul {a b c : Int} (h : a * b = 512 * c ∧ 0 ≤ a ∧ a ≤ 1048576 ∧ 0 ≤ b ∧ b ≤ 1048576) : binD .Mult (.float (Fx a)) (.float (Fx b)) = some (.float (Fx c)) := by
  obtain ⟨h, h1, h2, h3, h4⟩ := h
  have h5 : a * b ≤ 1048576 * 1048576 := Int.mul_le_mul h2 h4 h3 (by decide)
  have h6 : 0 ≤ a * b := Int.mul_nonneg h1 h3
  show some (D.float (mul (Fx a) (Fx b))) = _
  rw [fx_mul (by omega) (by omega) (by omega) h1 h3 h]
theorem bx_div {a b c : Int} (h : c * b = 512 * a ∧ -1048576 ≤ a ∧ a ≤ 1048576 ∧ 0 < b ∧ b ≤ 1048576) : binD .Div (.float (Fx a)) (.float (Fx b)) = some (.float (Fx c)) := by
  obtain ⟨h, h1, h2, h3, h4⟩ := h
  have hc : c.natAbs ≤ 512 * a.natAbs := by
    have e : c.natAbs * b.natAbs = 512 * a.natAbs := by rw [← Int.natAbs_mul, h, Int.natAbs_mul]; rfl
    rw [← e]
    exact Nat.le_mul_of_pos_right _ (by omega)
  show fdivO (Fx a) (Fx b) = _
  unfold fdivO
  rw [fx_isZero (by omega) (by omega), if_neg (by decide), fx_div (by omega) (by omega) (by omega) h3 h]
theorem bx_mod {a : Int} (h : -1048576 ≤ a ∧ a ≤ 1048576) : binD .Mod (.float (Fx a)) (.float (Fx 512)) = some (.float (Fx (a % 512))) := by
  show (if isZero (Fx 512) then none else some (D.float ((divmod (Fx a) (Fx 512)).2))) = _
  rw [fx_isZero (by decide) (by decide), if_neg (by decide), fx_mod (by omega)]
theorem bx_divII {i d : Int} {c : Int} (h : c * d = 512 * i ∧ 0 ≤ i ∧ i ≤ 1048576 ∧ 0 < d ∧ d ≤ 1048576) : binD .Div (.int i) (.int d) = some (.float (Fx c)) := by
  obtain ⟨h, h1, h2, h3, h4⟩ := h
  have e : c.natAbs * d.natAbs = 512 * i.natAbs := by rw [← Int.natAbs_mul, h, Int.natAbs_mul]; rfl
  have hc : c.natAbs ≤ 512 * i.natAbs := by rw [← e]; exact Nat.le_mul_of_pos_right _ (by omega)
  have h0 : 0 ≤ c := by
    by_cases q : 0 ≤ c
    · exact q
    · have := Int.mul_neg_of_neg_of_pos (Int.not_le.mp q) h3; omega
  have e1 : (decide (i < 0) != decide (d < 0)) = false := by rw [decide_eq_false (by omega), decide_eq_false (by omega)]; rfl
  have e2 : ofFrac false i.natAbs d.natAbs = Fx c := fx_frac (by omega) h0 (by omega) e
  show (if d = 0 then none else if isInf (ofFrac (decide (i < 0) != decide (d < 0)) i.natAbs d.natAbs) then none else some (D.float (ofFrac (decide (i < 0) != decide (d < 0)) i.natAbs d.natAbs))) = _
  rw [if_neg (by omega), e1, e2]
  have : isInf (Fx c) = false := by
    obtain ⟨m, e, h1, _⟩ := fx_dec (n := c) (by omega)
    unfold isInf; rw [h1]
  rw [this, if_neg (by decide)]
theorem bx_mulI {a b c : Int} (h : a * b = c ∧ 0 ≤ a ∧ a ≤ 2048 ∧ 0 ≤ b ∧ b ≤ 1048576) : binD .Mult (.int a) (.float (Fx b)) = some (.float (Fx c)) := by
  obtain ⟨h, h1, h2, h3, h4⟩ := h
  have h5 : a * b ≤ 2048 * 1048576 := Int.mul_le_mul h2 h4 h3 (by decide)
  have h6 : 0 ≤ a * b := Int.mul_nonneg h1 h3
  show (if small a then some (D.float (mul (ofInt a) (Fx b))) else none) = _
  rw [if_pos (small_of (by omega)), fx_ofInt (by omega), fx_mul (c := c) (by omega) (by omega) (by omega) (by omega) h3 (by rw [Int.mul_assoc, h])]

theorem beq_cmp_eq {a b : Int} : ((some (compare a b) == some Ordering.eq) : Bool) = decide (a = b) := by
  rcases Int.lt_trichotomy a b with h | h | h
  · rw [Int.compare_eq_lt.mpr h, decide_eq_false (by omega)]; rfl
  · subst h; simp
  · rw [Int.compare_eq_gt.mpr h, decide_eq_false (by omega)]; rfl
theorem beq_cmp_lt {a b : Int} : ((some (compare a b) == some Ordering.lt) : Bool) = decide (a < b) := by
  rcases Int.lt_trichotomy a b with h | h | h
  · rw [Int.compare_eq_lt.mpr h, decide_eq_true h]; rfl
  · subst h; simp
  · rw [Int.compare_eq_gt.mpr h, decide_eq_false (by omega)]; rfl
theorem beq_cmp_gt {a b : Int} : ((some (compare a b) == some Ordering.gt) : Bool) = decide (b < a) := by
  rcases Int.lt_trichotomy a b with h | h | h
  · rw [Int.compare_eq_lt.mpr h, decide_eq_false (by omega)]; rfl
  · subst h; simp
  · rw [Int.compare_eq_gt.mpr h, decide_eq_true h]; rfl
theorem cx_eq {a b : Int} (h : -4194304 ≤ a ∧ a ≤ 4194304 ∧ -4194304 ≤ b ∧ b ≤ 4194304) : cmpD .Eq (.float (Fx a)) (.float (Fx b)) = some (decide (a = b)) := by
  show (if isNaN (Fx a) then none else some (cmp (Fx a) (Fx b) == some .eq)) = _
  rw [fx_notNaN (by omega), if_neg (by decide), fx_cmp (by omega) (by omega), beq_cmp_eq]
theorem cx_lt {a b : Int} (h : -4194304 ≤ a ∧ a ≤ 4194304 ∧ -4194304 ≤ b ∧ b ≤ 4194304) : cmpD .Lt (.float (Fx a)) (.float (Fx b)) = some (decide (a < b)) := by
  show some (cmp (Fx a) (Fx b) == some .lt) = _
  rw [fx_cmp (by omega) (by omega), beq_cmp_lt]
theorem cx_gt {a b : Int} (h : -4194304 ≤ a ∧ a ≤ 4194304 ∧ -4194304 ≤ b ∧ b ≤ 4194304) : cmpD .Gt (.float (Fx a)) (.float (Fx b)) = some (decide (b < a)) := by
  show some (cmp (Fx a) (Fx b) == some .gt) = _
  rw [fx_cmp (by omega) (by omega), beq_cmp_gt]
theorem cx_le {a b : Int} (h : -4194304 ≤ a ∧ a ≤ 4194304 ∧ -4194304 ≤ b ∧ b ≤ 4194304) : cmpD .LtE (.float (Fx a)) (.float (Fx b)) = some (decide (a ≤ b)) := by
  show some (cmp (Fx a) (Fx b) == some .lt || cmp (Fx a) (Fx b) == some .eq) = _
  rw [fx_cmp (by omega) (by omega), beq_cmp_lt, beq_cmp_eq]
  congr 1
  rcases Int.lt_trichotomy a b with h | h | h
  · rw [decide_eq_true h, decide_eq_true (Int.le_of_lt h)]; rfl
  · subst h; simp
  · rw [decide_eq_false (by omega), decide_eq_false (by omega), decide_eq_false (by omega)]; rfl
theorem cx_gtI {a i : Int} (h : -4194304 ≤ a ∧ a ≤ 4194304) : cmpD .Gt (.float (Fx a)) (.int i) = some (decide (512 * i < a)) := by
  show some (cmpInt (Fx a) i == some .gt) = _
  rw [fx_cmpInt (by omega), beq_cmp_gt]
theorem cx_eqI {a i : Int} (h : -4194304 ≤ a ∧ a ≤ 4194304) : cmpD .Eq (.float (Fx a)) (.int i) = some (decide (a = 512 * i)) := by
  show some (cmpInt (Fx a) i == some .eq) = _
  rw [fx_cmpInt (by omega), beq_cmp_eq]

def mx3 (a b c : Int) : Int := if (if a < b then b else a) < c then c else (if a < b then b else a)
def mn3 (a b c : Int) : Int := if c < (if b < a then b else a) then c else (if b < a then b else a)
theorem bl_mx3 {a b c : Int} (h : 0 ≤ a ∧ a ≤ 4194304 ∧ 0 ≤ b ∧ b ≤ 4194304 ∧ 0 ≤ c ∧ c ≤ 4194304) : bltD "max" [.float (Fx a), .float (Fx b), .float (Fx c)] = some (.float (Fx (mx3 a b c))) := by
  rw [bl_max3]
  unfold max3 mx3
  simp only
  rw [fx_cmp (by omega) (by omega), beq_cmp_gt]
  by_cases h1 : a < b
  · simp only [h1, decide_true, if_true]
    rw [fx_cmp (by omega) (by omega), beq_cmp_gt]
    by_cases h2 : b < c <;> simp [h2]
  · simp only [h1, decide_false, if_false, Bool.false_eq_true]
    rw [fx_cmp (by omega) (by omega), beq_cmp_gt]
    by_cases h2 : a < c <;> simp [h2]
theorem bl_mn3 {a b c : Int} (h : 0 ≤ a ∧ a ≤ 4194304 ∧ 0 ≤ b ∧ b ≤ 4194304 ∧ 0 ≤ c ∧ c ≤ 4194304) : bltD "min" [.float (Fx a), .float (Fx b), .float (Fx c)] = some (.float (Fx (mn3 a b c))) := by
  rw [bl_min3]
  unfold min3 mn3
  simp only
  rw [fx_cmp (by omega) (by omega), beq_cmp_lt]
  by_cases h1 : b < a
  · simp only [h1, decide_true, if_true]
    rw [fx_cmp (by omega) (by omega), beq_cmp_lt]
    by_cases h2 : c < b <;> simp [h2]
  · simp only [h1, decide_false, if_false, Bool.false_eq_true]
    rw [fx_cmp (by omega) (by omega), beq_cmp_lt]
    by_cases h2 : c < a <;> simp [h2]
theorem bl_fint {a : Int} (h : 0 ≤ a ∧ a ≤ 4194304) : bltD "int" [.float (Fx a)] = some (.int (a / 512)) := bl_int (fx_int (by omega) h.1)
end Mine
namespace Mine
open PySem
variable {P : PI} {C : CallS} {n : Nat} {σ : St} {p : Pos}
theorem ev_f0 {k} : (rc P C (n + 1)).ev σ (.Constant (.float 0x0000000000000000) k p) = some (.float (Fx 0)) := by
  have h : (0x0000000000000000 : UInt64) = Fx 0 := by decide +kernel
  rw [← h]; rfl
theorem ev_f05 {k} : (rc P C (n + 1)).ev σ (.Constant (.float 0x3fe0000000000000) k p) = some (.float (Fx 256)) := by
  have h : (0x3fe0000000000000 : UInt64) = Fx 256 := by decide +kernel
  rw [← h]; rfl
theorem ev_f1 {k} : (rc P C (n + 1)).ev σ (.Constant (.float 0x3ff0000000000000) k p) = some (.float (Fx 512)) := by
  have h : (0x3ff0000000000000 : UInt64) = Fx 512 := by decide +kernel
  rw [← h]; rfl
theorem ev_f2 {k} : (rc P C (n + 1)).ev σ (.Constant (.float 0x4000000000000000) k p) = some (.float (Fx 1024)) := by
  have h : (0x4000000000000000 : UInt64) = Fx 1024 := by decide +kernel
  rw [← h]; rfl
theorem ev_f4 {k} : (rc P C (n + 1)).ev σ (.Constant (.float 0x4010000000000000) k p) = some (.float (Fx 2048)) := by
  have h : (0x4010000000000000 : UInt64) = Fx 2048 := by decide +kernel
  rw [← h]; rfl
theorem ev_f6 {k} : (rc P C (n + 1)).ev σ (.Constant (.float 0x4018000000000000) k p) = some (.float (Fx 3072)) := by
  have h : (0x4018000000000000 : UInt64) = Fx 3072 := by decide +kernel
  rw [← h]; rfl
end Mine
end
section
namespace Mine
open PySem PySem.Float64
variable {P : PI} {C : CallS} {n m : Nat} {σ : St} {p : Pos}

theorem V_lt_iff {t u : Nat} : V t < V u ↔ t < u := ⟨fun h => by
  rcases Nat.lt_or_ge t u with q | q
  · exact q
  · exact absurd (V_mono q) (by omega), V_lt⟩

theorem right_unique {r r' : UInt64} {neg : Bool} {W D : Nat} (hD : 0 < D) (h : Right r neg W D) (h' : Right r' neg W D) : r = r' := by
  obtain ⟨t, hr, hle, hov, hn⟩ := h
  obtain ⟨u, hr', hle', hov', hn'⟩ := h'
  rw [hr, hr']
  congr 1
  by_cases q : t = infMag
  · rw [q, (hov'.mpr (hov.mp q))]
  · have q' : u ≠ infMag := fun e => q (hov.mpr (hov'.mp e))
    have a := hn (by omega)
    have b := hn' (by omega)
    have key : ∀ t u : Nat, t < u → (∀ t', Float64.dist W (D * V t) ≤ Float64.dist W (D * V t') ∧ (V t' ≠ V t → Float64.dist W (D * V t) = Float64.dist W (D * V t') → t % 2 = 0)) →
        (∀ t', Float64.dist W (D * V u) ≤ Float64.dist W (D * V t') ∧ (V t' ≠ V u → Float64.dist W (D * V u) = Float64.dist W (D * V t') → u % 2 = 0)) → False := by
      intro t u hlt a b
      have e : Float64.dist W (D * V t) = Float64.dist W (D * V u) := Nat.le_antisymm (a u).1 (b t).1
      have v1 : V t < V u := V_lt hlt
      have p1 := (a u).2 (by omega) e
      have p2 := (b t).2 (by omega) e.symm
      have v2 : V t < V (t + 1) := V_lt (by omega)
      have v3 : V (t + 1) < V u := V_lt (by omega)
      have w1 := Nat.mul_lt_mul_of_pos_left v2 hD
      have w2 := Nat.mul_lt_mul_of_pos_left v3 hD
      have c := (a (t + 1)).1
      unfold Float64.dist at e c
      omega
    rcases Nat.lt_trichotomy t u with z | z | z
    · exact (key t u z a b).elim
    · exact z
    · exact (key u t z b a).elim

/-- the float nearest to a / b -/
def Gx (a b : Int) : UInt64 := ofFrac false a.natAbs b.natAbs
theorem gx_right {a b : Int} (hb : 0 < b) : Right (Gx a b) false (a.natAbs * 2 ^ 1074) b.natAbs := ofFrac_right (by omega) (by ac_rfl) (by omega)
theorem gx_eq {a b c d : Int} (hb : 0 < b) (hd : 0 < d) (h : a * d = c * b) : Gx a b = Gx c d := by
  refine right_unique (D := b.natAbs) (W := a.natAbs * 2 ^ 1074) (by omega) (gx_right hb) (ofFrac_right (by omega) ?_ (by omega))
  have e : a.natAbs * d.natAbs = c.natAbs * b.natAbs := by rw [← Int.natAbs_mul, h, Int.natAbs_mul]
  calc c.natAbs * 2 ^ 1074 * b.natAbs = c.natAbs * b.natAbs * 2 ^ 1074 := by ac_rfl
    _ = a.natAbs * d.natAbs * 2 ^ 1074 := by rw [e]
    _ = a.natAbs * 2 ^ 1074 * d.natAbs := by ac_rfl
theorem gx_of_div {a b : Int} (ha : a.natAbs < 2 ^ 53) (hb : b.natAbs < 2 ^ 53) (h0 : 0 ≤ a) (h1 : 0 < b) : div (Fx a) (Fx b) = Gx a b := by
  obtain ⟨m, e, h3, _⟩ := fx_dec ha
  obtain ⟨k, f, h2, h2'⟩ := fx_dec hb
  have hk : k ≠ 0 := fun q => by
    rw [q, Nat.zero_mul] at h2'
    rcases Nat.mul_eq_zero.mp h2'.symm with z | z
    · omega
    · exact absurd z (Nat.ne_of_gt (Nat.two_pow_pos _))
  have hr := div_right h3 h2 hk
  rw [fx_val ha, fx_val hb] at hr
  have e1 : ((2 : Int) ^ 1065).natAbs = 2 ^ 1065 := by rw [Int.natAbs_pow]; rfl
  rw [Int.natAbs_mul, Int.natAbs_mul, e1, decide_eq_false (show ¬ a < 0 by omega), decide_eq_false (show ¬ b < 0 by omega)] at hr
  refine right_unique (Nat.mul_pos (by omega) (Nat.two_pow_pos _)) hr (ofFrac_right (by omega) ?_ (Nat.mul_pos (by omega) (Nat.two_pow_pos _)))
  ac_rfl
theorem gx_fin {a b : Int} (h0 : 0 ≤ a) (ha : a ≤ 1048576) (hb : 0 < b) : ∃ m e, decode (Gx a b) = .fin false m e := by
  obtain ⟨t, h1, h2, h3, _⟩ := gx_right (a := a) hb
  have : t < infMag := by
    rcases Nat.lt_or_eq_of_le h2 with q | q
    · exact q
    · have h4 := h3.mp q
      have h5 : (2 ^ 54 - 1) * 2 ^ 2045 ≤ b.natAbs * ((2 ^ 54 - 1) * 2 ^ 2045) := Nat.le_mul_of_pos_left _ (by omega)
      have h6 : a.natAbs * 2 ^ 1074 ≤ 1048576 * 2 ^ 1074 := Nat.mul_le_mul_right _ (by omega)
      have h7 : 2 * (1048576 * 2 ^ 1074) < (2 ^ 54 - 1) * 2 ^ 2045 := by decide +kernel
      omega
  obtain ⟨m, e, h4, _⟩ := decode_pack false this
  exact ⟨m, e, by rw [h1]; exact h4⟩

theorem bg_div {a b : Int} (h : 0 ≤ a ∧ a ≤ 1048576 ∧ 0 < b ∧ b ≤ 1048576) : binD .Div (.float (Fx a)) (.float (Fx b)) = some (.float (Gx a b)) := by
  show fdivO (Fx a) (Fx b) = _
  unfold fdivO
  rw [fx_isZero (by omega) (by omega), if_neg (by decide), gx_of_div (by omega) (by omega) h.1 h.2.2.1]
theorem bg_divII {a b : Int} (h : 0 ≤ a ∧ a ≤ 1048576 ∧ 0 < b ∧ b ≤ 1048576) : binD .Div (.int a) (.int b) = some (.float (Gx a b)) := by
  have e1 : (decide (a < 0) != decide (b < 0)) = false := by rw [decide_eq_false (by omega), decide_eq_false (by omega)]; rfl
  show (if b = 0 then none else if isInf (ofFrac (decide (a < 0) != decide (b < 0)) a.natAbs b.natAbs) then none else some (D.float (ofFrac (decide (a < 0) != decide (b < 0)) a.natAbs b.natAbs))) = _
  rw [if_neg (by omega), e1]
  obtain ⟨m, e, h4⟩ := gx_fin h.1 h.2.1 h.2.2.1
  have : isInf (Gx a b) = false := by unfold isInf; rw [h4]
  show (if isInf (Gx a b) then none else some (D.float (Gx a b))) = _
  rw [this, if_neg (by decide)]

theorem fself {x : UInt64} {m : Nat} {e : Int} {s : Bool} (h : decode x = .fin s m e) : (if isNaN x then none else some (cmp x x == some .eq)) = some true := by
  have : isNaN x = false := by unfold isNaN; rw [h]
  rw [this, if_neg (by decide), cmp_right h h, beq_cmp_eq]
  simp
theorem e7_ff {a b : Int} (h : -4194304 ≤ a ∧ a ≤ 4194304 ∧ -4194304 ≤ b ∧ b ≤ 4194304) : eqD 7 (.float (Fx a)) (.float (Fx b)) = some (decide (a = b)) := by
  show (if isNaN (Fx a) then none else some (cmp (Fx a) (Fx b) == some .eq)) = _
  rw [fx_notNaN (by omega), if_neg (by decide), fx_cmp (by omega) (by omega), beq_cmp_eq]
theorem e7_fi {a i : Int} (h : -4194304 ≤ a ∧ a ≤ 4194304) : eqD 7 (.float (Fx a)) (.int i) = some (decide (a = 512 * i)) := by
  show some (cmpInt (Fx a) i == some .eq) = _
  rw [fx_cmpInt (by omega), beq_cmp_eq]
theorem e7_gg {a b c d : Int} (h : a * d = c * b ∧ 0 ≤ a ∧ a ≤ 1048576 ∧ 0 < b ∧ 0 < d) : eqD 7 (.float (Gx a b)) (.float (Gx c d)) = some true := by
  rw [← gx_eq h.2.2.2.1 h.2.2.2.2 h.1]
  obtain ⟨m, e, h4⟩ := gx_fin h.2.1 h.2.2.1 h.2.2.2.1
  exact fself h4
theorem fx_gx {a : Int} (h0 : 0 ≤ a) : Fx a = Gx a 512 := by
  unfold Fx Gx; rw [decide_eq_false (by omega)]; rfl
theorem e7_fg {a c d : Int} (h : a * d = c * 512 ∧ 0 ≤ a ∧ a ≤ 1048576 ∧ 0 < d) : eqD 7 (.float (Fx a)) (.float (Gx c d)) = some true := by
  rw [fx_gx h.2.1]; exact e7_gg ⟨h.1, h.2.1, h.2.2.1, by decide, h.2.2.2⟩
theorem cx_tup {a b c d e f : D} {x y z : Bool} (h1 : eqD 7 a d = some x) (h2 : eqD 7 b e = some y) (h3 : eqD 7 c f = some z) : cmpD .Eq (.tuple [a, b, c]) (.tuple [d, e, f]) = some (x && (y && (z && true))) := by
  show (if [a, b, c].length = [d, e, f].length then allPairs (eqD 7) [a, b, c] [d, e, f] else none) = _
  rw [if_pos (by simp)]
  simp only [allPairs, h1, h2, h3, Option.bind_some]
theorem ev_ift {t x y : Expr} {c : Bool} {d : D} (h1 : (rc P C n).tr σ t = some c) (hc : c = true) (h2 : (rc P C n).ev σ x = some d) : (rc P C (n + 1)).ev σ (.IfExp t x y p) = some d := by
  show ((rc P C n).tr σ t).bind (fun c => if c then (rc P C n).ev σ x else (rc P C n).ev σ y) = _
  rw [h1, hc]; exact h2
theorem ev_iff {t x y : Expr} {c : Bool} {d : D} (h1 : (rc P C n).tr σ t = some c) (hc : c = false) (h2 : (rc P C n).ev σ y = some d) : (rc P C (n + 1)).ev σ (.IfExp t x y p) = some d := by
  show ((rc P C n).tr σ t).bind (fun c => if c then (rc P C n).ev σ x else (rc P C n).ev σ y) = _
  rw [h1, hc]; exact h2
theorem es_retq {R : Rc} {e : Expr} {d d' : D} {rest : List Stmt} (ho : σ.own = none) (h1 : R.ev σ e = some d') (h2 : d' = d) : exsD (xs P R (m + 1)) σ (.Return (some e) p :: rest) = some (.ret d) := es_ret (ex_ret0 ho (h2 ▸ h1))
theorem mx3_facts (a b c : Int) : a ≤ mx3 a b c ∧ b ≤ mx3 a b c ∧ c ≤ mx3 a b c ∧ (mx3 a b c = a ∨ mx3 a b c = b ∨ mx3 a b c = c) := by
  unfold mx3; split <;> split <;> omega
theorem mn3_facts (a b c : Int) : mn3 a b c ≤ a ∧ mn3 a b c ≤ b ∧ mn3 a b c ≤ c ∧ (mn3 a b c = a ∨ mn3 a b c = b ∨ mn3 a b c = c) := by
  unfold mn3; split <;> split <;> omega
end Mine
end
section
namespace Mine
open PySem

/-- the text of these signs -/
def S (l : List Nat) : Str := ⟨l.toArray⟩
theorem S_inj {a b : List Nat} : S a = S b ↔ a = b := ⟨fun h => by injection h with h; simpa using congrArg Array.toList h, fun h => h ▸ rfl⟩
theorem S_append (a b : List Nat) : S a ++ S b = S (a ++ b) := by
  show (⟨a.toArray ++ b.toArray⟩ : Str) = _
  simp [S]
theorem S_len (a : List Nat) : (S a).length = a.length := by show a.toArray.size = _; simp
theorem S_eta (x : Str) : x = S x.cps.toList := by cases x; simp [S]
theorem ofString_S (x : String) (l : List Nat) (h : (Str.ofString x == S l) = true) : Str.ofString x = S l := by simpa using h

theorem idx_to (k n : Nat) : Builtin.Str.strSliceIndices none (some (k : Int)) 1 n = List.range (min k n) := by
  unfold Builtin.Str.strSliceIndices
  simp only [show (1 : Int) > 0 by decide, if_true]
  have e : max (0 : Int) (min (if (k : Int) < 0 then (k : Int) + n else k) n) = ((min k n : Nat) : Int) := by
    rw [if_neg (by omega)]; omega
  rw [e, show (0 : Int) = ((0 : Nat) : Int) from rfl, sliceRange_one]
  simp
theorem idx_from (k n : Nat) : Builtin.Str.strSliceIndices (some (k : Int)) none 1 n = (List.range (n - min k n)).map (min k n + ·) := by
  unfold Builtin.Str.strSliceIndices
  simp only [show (1 : Int) > 0 by decide, if_true]
  have e : max (0 : Int) (min (if (k : Int) < 0 then (k : Int) + n else k) n) = ((min k n : Nat) : Int) := by
    rw [if_neg (by omega)]; omega
  rw [e, sliceRange_one]
theorem fm_range (l : List Nat) : ∀ m, m ≤ l.length → (List.range m).filterMap (l[·]?) = l.take m := by
  intro m
  induction m with
  | zero => simp
  | succ m ih =>
    intro h
    rw [List.range_succ, List.filterMap_append, ih (by omega)]
    have : l[m]? = some l[m] := List.getElem?_eq_getElem (by omega)
    simp only [List.filterMap_cons, List.filterMap_nil, this]
    rw [List.take_add_one, this]; rfl
theorem fm_drop (l : List Nat) (k : Nat) (h : k ≤ l.length) : ((List.range (l.length - k)).map (k + ·)).filterMap (l[·]?) = l.drop k := by
  rw [List.filterMap_map]
  have e : ((fun x => l[x]?) ∘ fun x => k + x) = fun i => (l.drop k)[i]? := by
    funext i; simp
  rw [e, show l.length - k = (l.drop k).length by simp, fm_range _ _ (Nat.le_refl _), List.take_length]
theorem slice_to (l : List Nat) (k : Nat) : Txt.slice (S l) none (some (k : Int)) = S (l.take k) := by
  unfold Txt.slice
  rw [S_len, idx_to]
  simp only [List.length_range]
  split
  · rename_i h
    simp only [beq_self_eq_true, Bool.true_and, beq_iff_eq] at h
    rw [List.take_of_length_le (by omega)]
  · show (⟨(List.filterMap (fun x => (S l).cps[x]?) (List.range (min k l.length))).toArray⟩ : Str) = _
    unfold S
    congr 2
    have e : (fun (x : Nat) => l.toArray[x]?) = fun (x : Nat) => l[x]? := by funext x; simp
    rw [e, fm_range _ _ (Nat.min_le_right _ _)]
    by_cases h : k ≤ l.length
    · rw [Nat.min_eq_left h]
    · rw [Nat.min_eq_right (by omega), List.take_length, List.take_of_length_le (by omega)]
theorem slice_from (l : List Nat) (k : Nat) : Txt.slice (S l) (some (k : Int)) none = S (l.drop k) := by
  unfold Txt.slice
  rw [S_len, idx_from]
  simp only [List.length_map, List.length_range]
  by_cases h0 : k ≤ l.length
  · rw [Nat.min_eq_left h0]
    split
    · rename_i h
      simp only [beq_self_eq_true, Bool.true_and, beq_iff_eq] at h
      by_cases hk : k = 0
      · subst hk; simp
      · have : l.length = 0 := by omega
        rw [List.length_eq_zero_iff.mp this]; simp
    · show (⟨(List.filterMap (fun x => (S l).cps[x]?) ((List.range (l.length - k)).map (k + ·))).toArray⟩ : Str) = _
      unfold S
      congr 2
      have e : (fun (x : Nat) => l.toArray[x]?) = fun (x : Nat) => l[x]? := by funext x; simp
      rw [e, fm_drop _ _ h0]
  · rw [Nat.min_eq_right (by omega), List.drop_eq_nil_of_le (by omega)]
    simp only [Nat.sub_self, List.range_zero, List.map_nil, List.filterMap_nil]
    split
    · rename_i h
      simp only [beq_self_eq_true, Bool.true_and, beq_iff_eq] at h
      rw [List.length_eq_zero_iff.mp h.symm]
    · rfl
theorem item_at (l : List Nat) (k : Nat) (c : Nat) (h : l[k]? = some c) : Txt.item (S l) (k : Int) = S [c] ∧ (Txt.charAt (S l) (k : Int)).isSome = true := by
  have hl : k < l.length := by
    rcases Nat.lt_or_ge k l.length with q | q
    · exact q
    · rw [List.getElem?_eq_none q] at h; cases h
  have e : Txt.charAt (S l) (k : Int) = some c := by
    unfold Txt.charAt
    rw [S_len, sq_nat (by omega) (by omega)]
    show (l.toArray)[((k : Int)).toNat]? = some c
    simpa using h
  unfold Txt.item
  rw [e]
  exact ⟨rfl, rfl⟩
variable {P : PI} {C : CallS} {n m : Nat} {σ : St} {p : Pos}
theorem es_nilq {X : St → Stmt → Option Fl} {σ' : St} (h : σ = σ') : exsD X σ [] = some (.next σ') := by rw [h]; rfl
theorem fo_foldI {X : St → Stmt → Option Fl} {body : List Stmt} {α β : Type} {t : Expr} {enc : β → D} {mk : α → St} {step : α → β → α} (Inv : α → List β → Prop)
    (hs : ∀ a b r, Inv a (b :: r) → stepT X t body (mk a) (enc b) = some (.next (mk (step a b))) ∧ Inv (step a b) r) : ∀ (l : List β) (a : α), Inv a l → forD X t body (mk a) (l.map enc) = some (.next (mk (l.foldl step a))) ∧ Inv (l.foldl step a) []
  | [], a, h => ⟨rfl, h⟩
  | b :: l, a, h => by
    obtain ⟨h1, h2⟩ := hs a b l h
    unfold stepT at h1
    simp only [Option.bind_eq_some_iff] at h1
    obtain ⟨σ', h1, h3⟩ := h1
    obtain ⟨h4, h5⟩ := fo_foldI Inv hs l (step a b) h2
    exact ⟨fo_next h1 h3 h4, h5⟩
theorem fo_first {X : St → Stmt → Option Fl} {body : List Stmt} {t : Expr} {σ σ' : St} {d : D} {r : List D} {f : Fl} (h1 : stepT X t body σ d = some (.next σ')) (h2 : forD X t body σ' r = some f) : forD X t body σ (d :: r) = some f := by
  unfold stepT at h1
  simp only [Option.bind_eq_some_iff] at h1
  obtain ⟨σ₁, h1, h3⟩ := h1
  exact fo_next h1 h3 h2
theorem tv_one {R : Rc} {elt tg it : Expr} {k : Int} {σ' : St} {d a : D} (h1 : bindT σ tg d = some σ') (h2 : R.ev σ' elt = some a) : turnD R elt ⟨tg, it, [], k⟩ [] σ d = some [a] := by
  unfold turnD; simp only [h1, Option.bind_some, testsD, if_true, h2]; rfl
theorem tv_if {R : Rc} {elt tg it c : Expr} {k : Int} {u : Bool} {σ' : St} {d a : D} (h1 : bindT σ tg d = some σ') (ht : R.tr σ' c = some u) (h2 : u = true → R.ev σ' elt = some a) : turnD R elt ⟨tg, it, [c], k⟩ [] σ d = some (if u then [a] else []) := by
  unfold turnD; simp only [h1, Option.bind_some, te_one ht]
  cases u
  · rfl
  · simp only [if_true, h2 rfl]; rfl
theorem tv_more {R : Rc} {elt tg it : Expr} {ifs : List Expr} {k : Int} {u : Bool} {σ' : St} {d : D} {g : Comprehension} {gs : List Comprehension} {src : D} {its ds : List D} (h1 : bindT σ tg d = some σ') (ht : testsD R σ' ifs = some u) (hs : u = true → R.ev σ' g.iter = some src) (hi : u = true → itemsD src = some its) (hc : u = true → compD R elt (g :: gs) σ' its = some ds) :
    turnD R elt ⟨tg, it, ifs, k⟩ (g :: gs) σ d = some (if u then ds else []) := by
  unfold turnD; simp only [h1, Option.bind_some, ht]
  cases u
  · rfl
  · simp only [if_true, hs rfl, Option.bind_some, hi rfl, hc rfl]
theorem tv_ift {R : Rc} {elt tg it c : Expr} {k : Int} {u : Bool} {σ' : St} {d a : D} (h1 : bindT σ tg d = some σ') (ht : R.tr σ' c = some u) (hu : u = true) (h2 : R.ev σ' elt = some a) : turnD R elt ⟨tg, it, [c], k⟩ [] σ d = some [a] := by
  have := tv_if (it := it) (k := k) h1 ht (fun _ => h2); rw [this, hu]; rfl
theorem tv_iff {R : Rc} {elt tg it c : Expr} {k : Int} {u : Bool} {σ' : St} {d : D} (h1 : bindT σ tg d = some σ') (ht : R.tr σ' c = some u) (hu : u = false) : turnD R elt ⟨tg, it, [c], k⟩ [] σ d = some [] := by
  have := tv_if (elt := elt) (it := it) (k := k) (a := .none) h1 ht (fun q => by rw [hu] at q; cases q); rw [this, hu]; rfl
theorem sl_toI {a : List Nat} {k : Int} (h : a.length ≤ 1048576 ∧ 0 ≤ k) : sliceD (.str (S a)) none (some k) none = some (.str (S (a.take k.toNat))) := by
  have := slice_to a k.toNat
  rw [sl_str (by rw [S_len]; exact h.1), show (some k : Option Int) = some ((k.toNat : Nat) : Int) by congr 1; omega, this]
theorem es_retown {R : Rc} {σ' : St} {e : Expr} {d : D} {rest : List Stmt} (h0 : freeze σ e = σ') (h1 : R.ev σ' e = some d) : exsD (xs P R (m + 1)) σ (.Return (some e) p :: rest) = some (.ret d) := es_ret (ex_ret (by rw [h0]; exact h1))
theorem ev_strE {x : Str} {l : List Nat} {k} (h : x = S l) : (rc P C (n + 1)).ev σ (.Constant (.str x) k p) = some (.str (S l)) := by rw [← h]; rfl
theorem bi_catS {a b : List Nat} (h : a.length + b.length ≤ 1048576) : binD .Add (.str (S a)) (.str (S b)) = some (.str (S (a ++ b))) := by
  rw [bi_cat (by rw [S_len, S_len]; exact h), S_append]
theorem cm_neT {a b : List Nat} : cmpD .NotEq (.str (S a)) (.str (S b)) = some (!decide (a = b)) := by
  rw [cm_neS]; simp only [S_inj]
theorem cm_eqT {a b : List Nat} : cmpD .Eq (.str (S a)) (.str (S b)) = some (decide (a = b)) := by
  rw [cm_eqS]; simp only [S_inj]
theorem im_S {a : List Nat} {k : Nat} {c : Nat} (h : a[k]? = some c) (hs : (k : Int) < 1048576) : itemD (.str (S a)) (.int (k : Int)) = some (.str (S [c])) := by
  obtain ⟨h1, h2⟩ := item_at a k c h
  rw [im_str ⟨small_of (by omega), h2⟩, h1]
theorem sl_to {a : List Nat} {k : Nat} (h : a.length ≤ 1048576) : sliceD (.str (S a)) none (some (k : Int)) none = some (.str (S (a.take k))) := by
  rw [sl_str (by rw [S_len]; exact h), slice_to]
theorem sl_from {a : List Nat} {k : Nat} (h : a.length ≤ 1048576) : sliceD (.str (S a)) (some (k : Int)) none none = some (.str (S (a.drop k))) := by
  rw [sl_str (by rw [S_len]; exact h), slice_from]
theorem bl_lenT' {a : List Nat} (h : a.length ≤ 1048576) : bltD "len" [.str (S a)] = some (.int a.length) := by
  rw [bl_lenS (by rw [S_len]; exact h), S_len]
end Mine
end
section
namespace Mine
open PySem
theorem eq_ints : ∀ (n : Nat) (a b : List Int), eqD (n + 2) (.list (a.map .int)) (.list (b.map .int)) = some (decide (a = b)) := by
  intro n a b
  show (if (a.map D.int).length = (b.map D.int).length then allPairs (eqD (n + 1)) (a.map D.int) (b.map D.int) else some false) = _
  have key : ∀ (a b : List Int), a.length = b.length → allPairs (eqD (n + 1)) (a.map D.int) (b.map D.int) = some (decide (a = b)) := by
    intro a
    induction a with
    | nil => intro b h; cases b with | nil => simp [allPairs] | cons _ _ => simp at h
    | cons x a ih =>
      intro b h
      cases b with
      | nil => simp at h
      | cons y b =>
        have h1 : eqD (n + 1) (D.int x) (D.int y) = some (x == y) := rfl
        simp only [List.map_cons, allPairs, h1, Option.bind_some, ih b (by simpa using h)]
        by_cases e : x = y <;> simp [e]
  by_cases h : a.length = b.length
  · rw [if_pos (by simpa using h)]; exact key a b h
  · rw [if_neg (by simpa using h)]
    have : a ≠ b := fun e => h (by rw [e])
    simp [this]
theorem cm_neNil {u : List D} : cmpD .NotEq (.list u) (.list []) = some (!decide (u = [])) := by
  show (eqD 8 (.list u) (.list [])).map (!·) = _
  cases u with
  | nil => rfl
  | cons a r => rfl
theorem cm_eqNil {u : List D} : cmpD .Eq (.list u) (.list []) = some (decide (u = [])) := by
  show eqD 8 (.list u) (.list []) = _
  cases u with
  | nil => rfl
  | cons a r => rfl
theorem cm_eqInts {a b : List Int} : cmpD .Eq (.list (a.map .int)) (.list (b.map .int)) = some (decide (a = b)) := eq_ints 6 a b
theorem mem_ints {r : List Int} : ∀ {W : List (List Int)}, mapO (fun y => eqD 6 y (.list (r.map .int))) (W.map fun x => .list (x.map .int)) = some (W.map fun x => decide (x = r))
  | [] => rfl
  | x :: W => mo_cons (eq_ints 4 x r) mem_ints
theorem any_mem (r : List Int) (W : List (List Int)) : (W.map fun x => decide (x = r)).any id = decide (r ∈ W) := by
  induction W with
  | nil => simp
  | cons x W ih =>
    simp only [List.map_cons, List.any_cons, ih, id]
    by_cases h : x = r
    · simp [h]
    · have h2 : ¬ r = x := fun e => h e.symm
      simp [h, h2]
theorem cm_ninInts {r : List Int} {W : List (List Int)} : cmpD .NotIn (.list (r.map .int)) (.list (W.map fun x => .list (x.map .int))) = some (!decide (r ∈ W)) := by
  show ((mapO (fun y => eqD 6 y (.list (r.map .int))) (W.map fun x => .list (x.map .int))).bind fun bs => some (bs.any id)).map (!·) = _
  rw [mem_ints]; simp only [Option.bind_some, Option.map_some, any_mem]
theorem range_getD {α : Type} (l : List α) (d : α) : (List.range l.length).map (fun k => l.getD k d) = l := by
  apply List.ext_getElem
  · simp
  · intro i h1 h2
    simp only [List.getElem_map, List.getElem_range]
    simp at h1
    simp [h1]
theorem range_filter {α β : Type} (l : List α) (d : α) (c : α → Bool) (h : α → β) : ((List.range l.length).filter fun k => c (l.getD k d)).map (fun k => h (l.getD k d)) = (l.filter c).map h := by
  have e : l.filter c = ((List.range l.length).map (fun k => l.getD k d)).filter c := by rw [range_getD]
  rw [e, List.filter_map, List.map_map]
  rfl
theorem im_map {α : Type} (f : α → D) (l : List α) (d : α) {k : Nat} (hk : k < l.length) (hl : l.length ≤ 1048576) : itemD (.list (l.map f)) (.int (0 + (k : Int))) = some (f (l.getD k d)) := by
  refine im_list (small_of (by omega)) ?_
  rw [List.length_map, sq_nat (by omega) (by omega)]
  simp only [Option.bind_some]
  rw [show ((0 : Int) + (k : Int)).toNat = k by omega]
  simp [hk]
section
variable {P : PI} {C : CallS} {n : Nat} {σ : St} {p : Pos}
theorem ev_ifI {t x y : Expr} {c : Bool} {a b : Int} (h1 : (rc P C n).tr σ t = some c) (h2 : (rc P C n).ev σ x = some (.int a)) (h3 : (rc P C n).ev σ y = some (.int b)) : (rc P C (n + 1)).ev σ (.IfExp t x y p) = some (.int (if c then a else b)) := by
  show ((rc P C n).tr σ t).bind (fun c => if c then (rc P C n).ev σ x else (rc P C n).ev σ y) = _
  rw [h1, h2, h3]; cases c <;> rfl
end
end Mine
end
namespace Mine
open PySem
local macro_rules | `(tactic| kspl_open pvlk) => `(tactic| first
  | with_reducible exact lk_here
  | with_reducible exact lkU_here
  | with_reducible exact lkO_here
  | ((with_reducible refine' lk_there ?h1 ?h2); (case h1 => kernel_rfl); (case h2 => kspl_open pvlk))
  | ((with_reducible refine' lkU_there ?h1 ?h2); (case h1 => kernel_rfl); (case h2 => kspl_open pvlk))
  | ((with_reducible refine' lkO_there ?h1 ?h2); (case h1 => kernel_rfl); (case h2 => kspl_open pvlk))
  | ((with_reducible refine' lkE ?h1 ?h2); (case h1 => kernel_rfl); (case h2 => kspl_open pvlk))
  | ((with_reducible refine' lkF ?h2); (case h2 => kspl_open pvlk)))
local macro_rules | `(tactic| kspl_open pvglob) => `(tactic| first
  | with_reducible exact c_off | with_reducible exact c_end | with_reducible exact c_dots | with_reducible exact c_tab)
local macro_rules | `(tactic| kspl_open pvsmall) => `(tactic| first
  | assumption
  | exact small_of (by omega)
  | exact small_of (by simp only [List.length_cons, List.length_nil, List.length_take, List.length_append, List.length_map]; omega))
local macro_rules | `(tactic| kspl_open pvside) => `(tactic| first
  | assumption | omega | (simp; done) | (simp; omega) | skip)
local macro_rules | `(tactic| kspl_open pvlen) => `(tactic| first
  | assumption | (simp only [List.length_map, List.length_cons, List.length_nil, List.length_append, List.length_range]; omega) | (simp; done) | (simp; omega) | (simp_all; done) | (simp_all; omega) | skip)
local macro_rules | `(tactic| kspl_open pvbin) => `(tactic| first
  | kspl_open pvbx
  | with_reducible exact bi_add | with_reducible exact bi_sub | with_reducible exact bi_xor
  | ((with_reducible refine' bi_mul ?h1 ?h2); (case h1 => kspl_open pvsmall); (case h2 => kspl_open pvsmall))
  | ((with_reducible refine' bi_fdiv ?h1 ?h2); (case h1 => kspl_open pvside); (case h2 => kspl_open pvsmall))
  | ((with_reducible refine' bi_mod ?h1); (case h1 => kspl_open pvside))
  | ((with_reducible refine' bi_pow ?h1); (case h1 => refine' ⟨by kspl_open pvside, by kspl_open pvside, by kspl_open pvsmall⟩))
  | ((with_reducible refine' bi_shl ?h1); (case h1 => refine' ⟨by kspl_open pvside, by kspl_open pvside, by kspl_open pvsmall⟩))
  | ((with_reducible refine' bi_catS ?h1); (case h1 => kspl_open pvlen))
  | ((with_reducible refine' bi_cat ?h1); (case h1 => kspl_open pvlen))
  | ((with_reducible refine' bi_app ?h1); (case h1 => kspl_open pvlen))
  | assumption)
local macro_rules | `(tactic| kspl_open pvcmp) => `(tactic| first
  | assumption
  | ((with_reducible refine' cx_tup ?h1 ?h2 ?h3); (case h1 => kspl_open pve7); (case h2 => kspl_open pve7); (case h3 => kspl_open pve7))
  | kspl_open pvcx
  | with_reducible exact cm_eqI | with_reducible exact cm_neI | with_reducible exact cm_ltI | with_reducible exact cm_gtI | with_reducible exact cm_leI | with_reducible exact cm_geI | with_reducible exact cm_neT | with_reducible exact cm_eqT | with_reducible exact cm_eqS | with_reducible exact cm_neS | with_reducible exact cm_inS | with_reducible exact cm_ninS | with_reducible exact cm_inT | with_reducible exact cm_isB | with_reducible exact cm_isnB)
local macro_rules | `(tactic| kspl_open pvtruth) => `(tactic| first
  | with_reducible exact th_bool
  | ((with_reducible refine' th_str ?h1); (case h1 => kspl_open pvlen)))
local macro_rules | `(tactic| kspl_open pvints) => `(tactic| first
  | with_reducible exact ints_map | with_reducible exact ints_all | exact rfl | assumption)
local macro_rules | `(tactic| kspl_open pvblt) => `(tactic| first
  | assumption
  | ((with_reducible refine' bl_lenT' ?h1); (case h1 => kspl_open pvlen))
  | kspl_open pvbx3
  | ((with_reducible refine' bl_lenS ?h1); (case h1 => kspl_open pvlen))
  | ((with_reducible refine' bl_lenL ?h1); (case h1 => kspl_open pvlen))
  | ((with_reducible refine' bl_lenT ?h1); (case h1 => kspl_open pvlen))
  | ((with_reducible refine' bl_rng1 ?h1); (case h1 => kspl_open pvside))
  | ((with_reducible refine' bl_rng2 ?h1); (case h1 => refine' ⟨by kspl_open pvside, by kspl_open pvside⟩))
  | with_reducible exact bl_max2 | with_reducible exact bl_min2)
local macro_rules | `(tactic| kspl_open pvmeth) => `(tactic| first
  | assumption
  | with_reducible exact md_starts | with_reducible exact md_ends | with_reducible exact md_getS | with_reducible exact md_getI | with_reducible exact md_getII
  | ((with_reducible refine' md_find ?h1); (case h1 => refine' ⟨by kspl_open pvside, by kspl_open pvside, by kspl_open pvsmall, by kspl_open pvsmall⟩))
  | ((with_reducible refine' md_index ?h1); (case h1 => kspl_open pvside)))
local macro_rules | `(tactic| kspl_open pvitem) => `(tactic| first
  | assumption
  | ((with_reducible refine' im_tab ?h1); (case h1 => assumption))
  | ((with_reducible refine' im_tuple ?h1 ?h2); (case h1 => kspl_open pvsmall); (case h2 => first | assumption | exact rfl))
  | ((with_reducible refine' im_list ?h1 ?h2); (case h1 => kspl_open pvsmall); (case h2 => first | assumption | exact rfl)))
local macro_rules | `(tactic| kspl_open pvfn) => `(tactic| assumption)
local macro_rules | `(tactic| kspl_open pvitems) => `(tactic| first
  | assumption
  | ((with_reducible refine' it_list ?h1); (case h1 => kspl_open pvlen))
  | ((with_reducible refine' it_tuple ?h1); (case h1 => kspl_open pvlen))
  | ((with_reducible refine' it_rng ?h1); (case h1 => refine' ⟨by kspl_open pvside, by kspl_open pvside⟩))
  | ((with_reducible refine' it_str ?h1); (case h1 => kspl_open pvlen)))
local macro_rules | `(tactic| kspl_open pvite) => `(tactic| first
  | with_reducible exact if_int | with_reducible exact if_str | with_reducible exact if_bool | with_reducible exact if_list | exact rfl)
local macro_rules | `(tactic| kspl_open pvpart) => `(tactic| first
  | with_reducible exact pt_none
  | ((with_reducible refine' pt_some ?h1 ?h2); (case h1 => kspl_open pvev); (case h2 => kspl_open pvsmall)))
local macro_rules | `(tactic| kspl_open pvslice) => `(tactic| first
  | assumption
  | ((with_reducible refine' sl_from ?h1); (case h1 => kspl_open pvlen))
  | ((with_reducible refine' sl_toI ?h1); (case h1 => exact ⟨by kspl_open pvlen, by omega⟩))
  | ((with_reducible refine' sl_str ?h1); (case h1 => kspl_open pvlen))
  | ((with_reducible refine' sl_list ?h1); (case h1 => refine' ⟨by kspl_open pvlen, by simp⟩)))
local macro_rules | `(tactic| kspl_open pvmo) => `(tactic| first
  | with_reducible exact mo_nil
  | ((with_reducible refine' mo_cons ?h1 ?h2); (case h1 => kspl_open pvpk); (case h2 => kspl_open pvmo)))
local macro_rules | `(tactic| kspl_open pvpk) => `(tactic| first
  | ((with_reducible refine' pk_var ?h1 ?h2); (case h2 => kspl_open pvlk); (case h1 => kernel_rfl))
  | ((with_reducible refine' pk_glob ?h1 ?h2); (case h2 => kspl_open pvglob); (case h1 => kernel_rfl))
  | ((with_reducible refine' pk_of ?h1 ?h2); (case h1 => rfl); (case h2 => kspl_open pvev))
  | kspl_open pvev)
local macro_rules | `(tactic| kspl_open pvbo) => `(tactic| first
  | ((with_reducible refine' bo_last ?h1); (case h1 => kspl_open pvev))
  | ((with_reducible refine' bo_and ?h1 (fun hc => ?h2)); (case h1 => kspl_open pvev); (case h2 => kspl_open pvbo))
  | ((with_reducible refine' bo_or ?h1 (fun hc => ?h2)); (case h1 => kspl_open pvev); (case h2 => kspl_open pvbo)))
local macro_rules | `(tactic| kspl_open pvev) => `(tactic| first
  | (with_reducible assumption)
  | with_reducible exact ev_int | ((with_reducible refine' ev_strE ?hstr); (case hstr => with_reducible assumption)) | with_reducible exact ev_str | with_reducible exact ev_bool | kspl_open pvflt | with_reducible exact ev_none
  | ((with_reducible refine' ev_var ?h1 ?h2); (case h2 => kspl_open pvlk); (case h1 => kernel_rfl))
  | ((with_reducible refine' ev_glob ?h1 ?h2); (case h2 => kspl_open pvglob); (case h1 => kernel_rfl))
  | ((with_reducible refine' ev_bin ?h1 ?h2 ?h3); (case h1 => kspl_open pvpk); (case h2 => kspl_open pvpk); (case h3 => kspl_open pvbin))
  | ((with_reducible refine' ev_cmp ?h0 ?h1 ?h2 ?h3); (case h0 => rfl); (case h1 => kspl_open pvpk); (case h2 => kspl_open pvpk); (case h3 => kspl_open pvcmp))
  | ((with_reducible refine' ev_tuple ?h1 ?h2); (case h1 => kspl_open pvmo); (case h2 => kernel_rfl))
  | ((with_reducible refine' ev_list ?h1 ?h2); (case h1 => kspl_open pvmo); (case h2 => kernel_rfl))
  | ((with_reducible refine' ev_blt ?h0 ?h1 ?h2); (case h1 => kspl_open pvmo); (case h2 => kspl_open pvblt); (case h0 => kernel_rfl))
  | ((with_reducible refine' ev_call ?h0 ?h1 ?h2); (case h1 => kspl_open pvmo); (case h2 => kspl_open pvfn); (case h0 => kernel_rfl))
  | ((with_reducible refine' ev_meth ?h0 ?h1 ?h2 ?h3); (case h1 => kspl_open pvpk); (case h2 => kspl_open pvmo); (case h3 => kspl_open pvmeth); (case h0 => kernel_rfl))
  | ((with_reducible refine' ev_slice ?h1 ?h2 ?h3 ?h4 ?h5); (case h1 => kspl_open pvpk); (case h2 => kspl_open pvpart); (case h3 => kspl_open pvpart); (case h4 => kspl_open pvpart); (case h5 => kspl_open pvslice))
  | ((with_reducible refine' ev_item ?h0 ?h1 ?h2 ?h3); (case h0 => rfl); (case h1 => kspl_open pvpk); (case h2 => kspl_open pvev); (case h3 => kspl_open pvitem))
  | ((with_reducible refine' ev_ift ?h1 ?h2 ?h3); (case h1 => kspl_open pvtr); (case h2 => kspl_open pvcti); (case h3 => kspl_open pvev))
  | ((with_reducible refine' ev_iff ?h1 ?h2 ?h3); (case h1 => kspl_open pvtr); (case h2 => kspl_open pvcfi); (case h3 => kspl_open pvev))
  | ((with_reducible refine' ev_if ?h1 (fun hc => ?h2) (fun hc => ?h3) ?h4); (case h1 => kspl_open pvtr); (case h2 => kspl_open pvev); (case h3 => kspl_open pvev); (case h4 => kspl_open pvite))
  | ((with_reducible refine' ev_neg ?h1); (case h1 => kspl_open pvev))
  | ((with_reducible refine' ev_not ?h1 ?h2); (case h1 => kspl_open pvev); (case h2 => kspl_open pvtruth))
  | ((with_reducible refine' ev_boolop ?h1); (case h1 => kspl_open pvbo))
  | ((with_reducible refine' ev_comp ?h0 ?h1 ?h2 ?h3 ?h4); (case h1 => kspl_open pvev); (case h2 => kspl_open pvitems); (case h3 => kspl_open pvcomp); (case h4 => kspl_open pvlen); (case h0 => kernel_rfl)))
local macro_rules | `(tactic| kspl_open pvta) => `(tactic| first
  | with_reducible exact ta_nil_and | with_reducible exact ta_nil_or
  | ((with_reducible refine' ta_and ?h1 (fun hc => ?h2)); (case h1 => kspl_open pvtr); (case h2 => kspl_open pvta))
  | ((with_reducible refine' ta_or ?h1 (fun hc => ?h2)); (case h1 => kspl_open pvtr); (case h2 => kspl_open pvta)))
local macro_rules | `(tactic| kspl_open pvtr) => `(tactic| first
  | (with_reducible assumption)
  | ((with_reducible refine' tr_not ?h1); (case h1 => kspl_open pvtr))
  | ((with_reducible refine' tr_boolop ?h1); (case h1 => kspl_open pvta))
  | ((with_reducible refine' tr_if ?h1 (fun hc => ?h2) (fun hc => ?h3)); (case h1 => kspl_open pvtr); (case h2 => kspl_open pvtr); (case h3 => kspl_open pvtr))
  | ((with_reducible refine' tr_of ?h0 ?h1 ?h2); (case h0 => rfl); (case h1 => kspl_open pvev); (case h2 => kspl_open pvtruth)))
local macro_rules | `(tactic| kspl_open pvbt) => `(tactic| first
  | ((with_reducible refine' bt_name ?h1); (case h1 => kernel_rfl))
  | ((with_reducible refine' bt_tup ?h0 ?h1 ?h2); (case h0 => exact rfl); (case h1 => kernel_rfl); (case h2 => kspl_open pvsa)))
local macro_rules | `(tactic| kspl_open pvsa) => `(tactic| first
  | with_reducible exact sa_nil
  | ((with_reducible refine' sa_cons ?h1 ?h2); (case h1 => kernel_rfl); (case h2 => kspl_open pvsa)))
local macro_rules | `(tactic| kspl_open pvturn) => `(tactic| first
  | ((with_reducible refine' tv_ift ?h1 ?h2 ?h3 ?h4); (case h1 => kspl_open pvbt); (case h2 => kspl_open pvtr); (case h3 => assumption); (case h4 => kspl_open pvev))
  | ((with_reducible refine' tv_iff ?h1 ?h2 ?h3); (case h1 => kspl_open pvbt); (case h2 => kspl_open pvtr); (case h3 => assumption))
  | ((with_reducible refine' tv_one ?h1 ?h2); (case h1 => kspl_open pvbt); (case h2 => kspl_open pvev))
  | ((with_reducible refine' tv_if ?h1 ?h2 (fun hc => ?h3)); (case h1 => kspl_open pvbt); (case h2 => kspl_open pvtr); (case h3 => kspl_open pvev)))
local macro_rules | `(tactic| kspl_open pvflat) => `(tactic| first
  | with_reducible exact fl_nil
  | ((with_reducible refine' fl_cons ?h1 ?h2); (case h1 => kspl_open pvturn); (case h2 => kspl_open pvflat))
  | ((with_reducible refine' fl_map1 (fun x hx => ?h1)); (case h1 => kspl_open pvturn))
  | ((with_reducible refine' fl_filter (fun x hx => ?h1)); (case h1 => kspl_open pvturn)))
local macro_rules | `(tactic| kspl_open pvcomp) => `(tactic| first
  | assumption
  | ((with_reducible refine' cd_of ?h1 ?h2); (case h1 => kernel_rfl); (case h2 => kspl_open pvflat)))
local macro_rules | `(tactic| kspl_open pvasg) => `(tactic| first
  | ((with_reducible refine' ex_asg_list ?h1); (case h1 => kernel_rfl))
  | ((with_reducible refine' ex_asg_dict ?h1); (case h1 => kernel_rfl))
  | ((with_reducible refine' ex_asg ?h0 ?h1 ?h2); (case h0 => rfl); (case h1 => kernel_rfl); (case h2 => kspl_open pvev))
  | ((with_reducible refine' ex_tup ?h0 ?h1 ?h2); (case h0 => kernel_rfl); (case h1 => kspl_open pvev); (case h2 => kspl_open pvbt))
  | ((with_reducible refine' ex_aug ?h0 ?h1 ?h2 ?h3 ?h4); (case h0 => kernel_rfl); (case h1 => kernel_rfl); (case h2 => kspl_open pvlk); (case h3 => kspl_open pvev); (case h4 => exact rfl))
  | ((with_reducible refine' ex_append ?h0 ?h1 ?h2 ?h3 ?h4); (case h0 => kernel_rfl); (case h1 => kernel_rfl); (case h2 => kspl_open pvlk); (case h3 => kspl_open pvev); (case h4 => kspl_open pvlen)))
local macro_rules | `(tactic| kspl_open pvcf) => `(tactic| first
  | assumption | exact decide_eq_false (by omega) | (simp; done) | (simp; omega) | (simp_all; done) | (simp_all; omega))
local macro_rules | `(tactic| kspl_open pvct) => `(tactic| first
  | assumption | exact decide_eq_true (by omega) | (simp; done) | (simp; omega) | (simp_all; done) | (simp_all; omega))
local macro_rules | `(tactic| kspl_open pvbnd) => `(tactic| first
  | assumption | (refine' ⟨?h1, ?h2⟩; (case h1 => kspl_open pvbnd); (case h2 => kspl_open pvbnd)) | omega)
local macro_rules | `(tactic| kspl_open pvflt) => `(tactic| first
  | with_reducible exact ev_f0 | with_reducible exact ev_f05 | with_reducible exact ev_f1 | with_reducible exact ev_f2 | with_reducible exact ev_f4 | with_reducible exact ev_f6)
local macro_rules | `(tactic| kspl_open pvbx) => `(tactic| first
  | ((with_reducible refine' bx_add ?h1); (case h1 => kspl_open pvbnd))
  | ((with_reducible refine' bx_sub ?h1); (case h1 => kspl_open pvbnd))
  | ((with_reducible refine' bx_subI ?h1); (case h1 => kspl_open pvbnd))
  | ((with_reducible refine' bx_mul ?h1); (case h1 => kspl_open pvbnd))
  | ((with_reducible refine' bx_div ?h1); (case h1 => kspl_open pvbnd))
  | ((with_reducible refine' bg_div ?h1); (case h1 => kspl_open pvbnd))
  | ((with_reducible refine' bx_mod ?h1); (case h1 => kspl_open pvbnd))
  | ((with_reducible refine' bx_divII ?h1); (case h1 => kspl_open pvbnd))
  | ((with_reducible refine' bg_divII ?h1); (case h1 => kspl_open pvbnd))
  | ((with_reducible refine' bx_mulI ?h1); (case h1 => kspl_open pvbnd)))
local macro_rules | `(tactic| kspl_open pvcx) => `(tactic| first
  | ((with_reducible refine' cx_eq ?h1); (case h1 => kspl_open pvbnd))
  | ((with_reducible refine' cx_lt ?h1); (case h1 => kspl_open pvbnd))
  | ((with_reducible refine' cx_gt ?h1); (case h1 => kspl_open pvbnd))
  | ((with_reducible refine' cx_le ?h1); (case h1 => kspl_open pvbnd))
  | ((with_reducible refine' cx_gtI ?h1); (case h1 => kspl_open pvbnd))
  | ((with_reducible refine' cx_eqI ?h1); (case h1 => kspl_open pvbnd)))
local macro_rules | `(tactic| kspl_open pvbx3) => `(tactic| first
  | ((with_reducible refine' bl_mx3 ?h1); (case h1 => kspl_open pvbnd))
  | ((with_reducible refine' bl_mn3 ?h1); (case h1 => kspl_open pvbnd))
  | ((with_reducible refine' bl_fint ?h1); (case h1 => kspl_open pvbnd)))
local macro_rules | `(tactic| kspl_open pves) => `(tactic| ((with_reducible refine' es_next ?h1 ?h2); (case h1 => kspl_open pvasg); (try kspl_open pves)))
local macro_rules | `(tactic| kspl_open pvskip) => `(tactic| ((with_reducible refine' es_next (ex_if_f ?h1 ?h2 es_nil) ?h3); (case h1 => kspl_open pvtr); (case h2 => kspl_open pvcf)))
local macro_rules | `(tactic| kspl_open pvtake) => `(tactic| ((with_reducible refine' es_ret (ex_if_t ?h1 ?h2 ?h3)); (case h1 => kspl_open pvtr); (case h2 => kspl_open pvct)))
local macro_rules | `(tactic| kspl_open pvret) => `(tactic| ((with_reducible refine' es_ret (ex_ret0 ?h1 ?h2)); (case h1 => kernel_rfl); (case h2 => kspl_open pvev)))
local macro_rules | `(tactic| kspl_open pvbody) => `(tactic| show exsD _ _ (_ :: _) = _)
local macro_rules | `(tactic| kspl_open pve7) => `(tactic| first
  | ((with_reducible refine' e7_ff ?h1); (case h1 => kspl_open pvbnd))
  | ((with_reducible refine' e7_fi ?h1); (case h1 => kspl_open pvbnd))
  | ((with_reducible refine' e7_gg ?h1); (case h1 => kspl_open pvbnd))
  | ((with_reducible refine' e7_fg ?h1); (case h1 => kspl_open pvbnd)))
local macro_rules | `(tactic| kspl_open pvcti) => `(tactic| first | assumption | exact decide_eq_true (by assumption) | exact decide_eq_true (by omega) | exact decide_eq_true (by simp; done))
local macro_rules | `(tactic| kspl_open pvcfi) => `(tactic| first | assumption | exact decide_eq_false (by assumption) | exact decide_eq_false (by omega) | exact decide_eq_false (by simp; done))
local macro_rules | `(tactic| kspl_open pvthen) => `(tactic| ((with_reducible refine' es_next (ex_if_t ?h1 ?h2 (es_next ?h3 es_nil)) ?h4); (case h1 => kspl_open pvtr); (case h2 => kspl_open pvct); (case h3 => kspl_open pvasg)))
local macro_rules | `(tactic| kspl_open pvelse) => `(tactic| ((with_reducible refine' es_next (ex_if_f ?h1 ?h2 (es_next ?h3 es_nil)) ?h4); (case h1 => kspl_open pvtr); (case h2 => kspl_open pvcf); (case h3 => kspl_open pvasg)))
local macro_rules | `(tactic| kspl_open pvelif) => `(tactic| ((with_reducible refine' es_next (ex_if_f ?h1 ?h2 (es_next (ex_if_t ?h3 ?h4 (es_next ?h5 es_nil)) es_nil)) ?h6); (case h1 => kspl_open pvtr); (case h2 => kspl_open pvcf); (case h3 => kspl_open pvtr); (case h4 => kspl_open pvct); (case h5 => kspl_open pvasg)))
local macro_rules | `(tactic| kspl_open pvelel) => `(tactic| ((with_reducible refine' es_next (ex_if_f ?h1 ?h2 (es_next (ex_if_f ?h3 ?h4 (es_next ?h5 es_nil)) es_nil)) ?h6); (case h1 => kspl_open pvtr); (case h2 => kspl_open pvcf); (case h3 => kspl_open pvtr); (case h4 => kspl_open pvcf); (case h5 => kspl_open pvasg)))
local macro_rules | `(tactic| kspl_open pvretq) => `(tactic| ((with_reducible refine' es_retq ?rqa ?rqb ?rqc); (case rqa => kernel_rfl); (case rqb => kspl_open pvev)))
local macro_rules | `(tactic| kspl_open pvend) => `(tactic| ((with_reducible refine' es_nilq ?heq); (case heq => kernel_rfl)))
section
open PySem

abbrev pw := PySem.Challenge.pw_rs0155_02
abbrev PW := piX pw
def fnAt (p : Program) (i : Nat) : Fn := match p.main.body[i]? with
  | some (.FunctionDef _ a b _ _ _ sc _ _ _) => ⟨a, b, sc⟩
  | _ => ⟨⟨[], [], none, [], [], none, []⟩, [], ⟨.function, [], false, false, []⟩⟩
theorem fn_ist : PW.fns "ISTERMINAL" = some (fnAt pw 59) := by kernel_rfl
theorem fn_isn : PW.fns "ISNONTERMINAL" = some (fnAt pw 60) := by kernel_rfl
theorem fn_eof : PW.fns "ISEOF" = some (fnAt pw 61) := by kernel_rfl
theorem fn_h2r : PW.fns "hsv_to_rgb" = some (fnAt pw 6) := by kernel_rfl
theorem fn_r2v : PW.fns "rgb_to_hsv" = some (fnAt pw 5) := by kernel_rfl
theorem fn_r2l : PW.fns "rgb_to_hls" = some (fnAt pw 4) := by kernel_rfl
theorem fn_sight : PW.fns "_law_sight" = some (fnAt pw 66) := by kernel_rfl
theorem ist_spec {n : Nat} {x : Int} : callN PW (n + 1) "ISTERMINAL" [.int x] = some (.bool (decide (x < 256))) := by
  refine call_of (σ := ⟨(fnAt pw 59).scope.names, [("x", .int x)], none⟩) fn_ist ?h1 ?h2 ?h3
  case h1 => kernel_rfl
  case h2 => kernel_rfl
  case h3 => kspl_open pvbody; kspl_open pvret
theorem isn_spec {n : Nat} {x : Int} : callN PW (n + 1) "ISNONTERMINAL" [.int x] = some (.bool (decide (256 ≤ x))) := by
  refine call_of (σ := ⟨(fnAt pw 60).scope.names, [("x", .int x)], none⟩) fn_isn ?h1 ?h2 ?h3
  case h1 => kernel_rfl
  case h2 => kernel_rfl
  case h3 => kspl_open pvbody; kspl_open pvret
theorem eof_spec {n : Nat} {x : Int} : callN PW (n + 1) "ISEOF" [.int x] = some (.bool (decide (x = 0))) := by
  refine call_of (σ := ⟨(fnAt pw 61).scope.names, [("x", .int x)], none⟩) fn_eof ?h1 ?h2 ?h3
  case h1 => kernel_rfl
  case h2 => kernel_rfl
  case h3 => kspl_open pvbody; kspl_open pvret

/-! colours in 512ths -/
def exM (a b : Int) : Option Int := if (a * b) % 512 = 0 ∧ 0 ≤ a ∧ a ≤ 1048576 ∧ 0 ≤ b ∧ b ≤ 1048576 then some (a * b / 512) else none
def exD (a b : Int) : Option Int := if (512 * a) % b = 0 ∧ -1048576 ≤ a ∧ a ≤ 1048576 ∧ 0 < b ∧ b ≤ 1048576 then some (512 * a / b) else none
theorem exM_eq {a b c : Int} (h : exM a b = some c) : a * b = 512 * c ∧ 0 ≤ a ∧ a ≤ 1048576 ∧ 0 ≤ b ∧ b ≤ 1048576 := by
  unfold exM at h
  split at h
  · rename_i q; cases h; exact ⟨by omega, q.2⟩
  · cases h
theorem exD_eq {a b c : Int} (h : exD a b = some c) : c * b = 512 * a ∧ -1048576 ≤ a ∧ a ≤ 1048576 ∧ 0 < b ∧ b ≤ 1048576 := by
  unfold exD at h
  split at h
  · rename_i q; cases h
    exact ⟨Int.ediv_mul_cancel (Int.dvd_of_emod_eq_zero q.1), q.2⟩
  · cases h

def pick6 (i v t p q : Int) : Int × Int × Int :=
  if i = 0 then (v, t, p) else if i = 1 then (q, v, p) else if i = 2 then (p, v, t) else if i = 3 then (p, q, v) else if i = 4 then (t, p, v) else (v, p, q)
def hsvZ (h s v : Int) : Option (Int × Int × Int) :=
  if s = 0 then some (v, v, v) else
  (exM v (512 - s)).bind fun p => (exM s (6 * h - 512 * (6 * h / 512))).bind fun u => (exM v (512 - u)).bind fun q => (exM s (512 - (6 * h - 512 * (6 * h / 512)))).bind fun w => (exM v (512 - w)).bind fun t =>
    some (pick6 (6 * h / 512 % 6) v t p q)
abbrev col (a b c : Int) : D := .tuple [.float (Fx a), .float (Fx b), .float (Fx c)]
set_option maxHeartbeats 4000000 in
theorem h2r_spec {n : Nat} {h s v r g b : Int} (hz : hsvZ h s v = some (r, g, b)) (hb : 0 ≤ h ∧ h ≤ 100000 ∧ 0 ≤ s ∧ s ≤ 512 ∧ 0 ≤ v ∧ v ≤ 512) :
    callN PW (n + 1) "hsv_to_rgb" [.float (Fx h), .float (Fx s), .float (Fx v)] = some (col r g b) := by
  obtain ⟨b1, b2, b3, b4, b5, b6⟩ := hb
  refine call_of (σ := ⟨(fnAt pw 6).scope.names, [("h", .float (Fx h)), ("s", .float (Fx s)), ("v", .float (Fx v))], none⟩) fn_h2r ?h1 ?h2 ?h3
  case h1 => kernel_rfl
  case h2 => kernel_rfl
  case h3 =>
    kspl_open pvbody
    unfold hsvZ at hz
    split at hz
    · rename_i h0
      subst h0
      cases hz
      kspl_open pvtake
      kspl_open pvret
    · rename_i h0
      simp only [Option.bind_eq_some_iff] at hz
      obtain ⟨p, hp, u, hu, q, hq, w, hw, t, ht, hz⟩ := hz
      have hp := exM_eq hp
      have hu := exM_eq hu
      have hq := exM_eq hq
      have hw := exM_eq hw
      have ht := exM_eq ht
      have e6 : h * 3072 = 512 * (6 * h) := by omega
      kspl_open pvskip
      kspl_open pves
      unfold pick6 at hz
      by_cases c0 : 6 * h / 512 % 6 = 0
      · rw [if_pos c0] at hz; cases hz
        kspl_open pvtake; kspl_open pvret
      rw [if_neg c0] at hz; kspl_open pvskip
      by_cases c1 : 6 * h / 512 % 6 = 1
      · rw [if_pos c1] at hz; cases hz
        kspl_open pvtake; kspl_open pvret
      rw [if_neg c1] at hz; kspl_open pvskip
      by_cases c2 : 6 * h / 512 % 6 = 2
      · rw [if_pos c2] at hz; cases hz
        kspl_open pvtake; kspl_open pvret
      rw [if_neg c2] at hz; kspl_open pvskip
      by_cases c3 : 6 * h / 512 % 6 = 3
      · rw [if_pos c3] at hz; cases hz
        kspl_open pvtake; kspl_open pvret
      rw [if_neg c3] at hz; kspl_open pvskip
      by_cases c4 : 6 * h / 512 % 6 = 4
      · rw [if_pos c4] at hz; cases hz
        kspl_open pvtake; kspl_open pvret
      rw [if_neg c4] at hz; kspl_open pvskip
      cases hz
      kspl_open pvtake; kspl_open pvret
end
section
open PySem

/-- the hue's part -/
def hueZ (r g b : Int) : Option Int :=
  (exD (mx3 r g b - r) (mx3 r g b - mn3 r g b)).bind fun rc => (exD (mx3 r g b - g) (mx3 r g b - mn3 r g b)).bind fun gc => (exD (mx3 r g b - b) (mx3 r g b - mn3 r g b)).bind fun bc =>
    (exD (if r = mx3 r g b then bc - gc else if g = mx3 r g b then 1024 + rc - bc else 2048 + gc - rc) 3072).bind fun h =>
      if -100000 ≤ rc ∧ rc ≤ 100000 ∧ -100000 ≤ gc ∧ gc ≤ 100000 ∧ -100000 ≤ bc ∧ bc ≤ 100000 ∧ -100000 ≤ h ∧ h ≤ 100000 then some (h % 512) else none
def vZ (r g b : Int) : Option (Int × Int × Int) :=
  if mn3 r g b = mx3 r g b then some (0, 0, mx3 r g b) else
  (exD (mx3 r g b - mn3 r g b) (mx3 r g b)).bind fun s => (hueZ r g b).bind fun h => some (h, s, mx3 r g b)

set_option maxHeartbeats 4000000 in
theorem r2v_spec {n : Nat} {r g b h s v : Int} (hz : vZ r g b = some (h, s, v)) (hb : 0 ≤ r ∧ r ≤ 512 ∧ 0 ≤ g ∧ g ≤ 512 ∧ 0 ≤ b ∧ b ≤ 512) :
    callN PW (n + 1) "rgb_to_hsv" [.float (Fx r), .float (Fx g), .float (Fx b)] = some (col h s v) := by
  obtain ⟨b1, b2, b3, b4, b5, b6⟩ := hb
  obtain ⟨m1, m2, m3, m4⟩ := mx3_facts r g b
  obtain ⟨m5, m6, m7, m8⟩ := mn3_facts r g b
  have m9 : mx3 r g b ≤ 512 := by omega
  have m10 : 0 ≤ mn3 r g b := by omega
  refine call_of (σ := ⟨(fnAt pw 5).scope.names, [("r", .float (Fx r)), ("g", .float (Fx g)), ("b", .float (Fx b))], none⟩) fn_r2v ?h1 ?h2 ?h3
  case h1 => kernel_rfl
  case h2 => kernel_rfl
  case h3 =>
    kspl_open pvbody
    kspl_open pves
    unfold vZ at hz
    by_cases hm : mn3 r g b = mx3 r g b
    · rw [if_pos hm] at hz
      cases hz
      kspl_open pvtake
      kspl_open pvret
    · rw [if_neg hm] at hz
      simp only [Option.bind_eq_some_iff] at hz
      obtain ⟨s', hs, h', hh, hz⟩ := hz
      cases hz
      have hs := exD_eq hs
      kspl_open pvskip
      unfold hueZ at hh
      simp only [Option.bind_eq_some_iff] at hh
      obtain ⟨rc, hrc, gc, hgc, bc, hbc, hu, hhu, hh⟩ := hh
      split at hh
      · rename_i hbd
        obtain ⟨d1, d2, d3, d4, d5, d6, d7, d8⟩ := hbd
        cases hh
        have hrc := exD_eq hrc
        have hgc := exD_eq hgc
        have hbc := exD_eq hbc
        have hhu := exD_eq hhu
        kspl_open pves
        by_cases c1 : r = mx3 r g b
        · rw [if_pos c1] at hhu
          kspl_open pvthen
          kspl_open pves
          kspl_open pvret
        · rw [if_neg c1] at hhu
          by_cases c2 : g = mx3 r g b
          · rw [if_pos c2] at hhu
            kspl_open pvelif
            kspl_open pves
            kspl_open pvret
          · rw [if_neg c2] at hhu
            kspl_open pvelel
            kspl_open pves
            kspl_open pvret
      · cases hh
end
section
open PySem

def lZ (r g b : Int) : Option (Int × Int × Int × Int) :=
  (exD (mx3 r g b + mn3 r g b) 1024).bind fun l =>
  if mn3 r g b = mx3 r g b then some (0, l, 0, 512) else
  (hueZ r g b).bind fun h => some (if l ≤ 256 then (h, l, mx3 r g b - mn3 r g b, mx3 r g b + mn3 r g b) else (h, l, mx3 r g b - mn3 r g b, 1024 - mx3 r g b - mn3 r g b))

set_option maxHeartbeats 8000000 in
theorem r2l_spec {n : Nat} {r g b h l s t : Int} (hz : lZ r g b = some (h, l, s, t)) (hb : 0 ≤ r ∧ r ≤ 512 ∧ 0 ≤ g ∧ g ≤ 512 ∧ 0 ≤ b ∧ b ≤ 512) :
    callN PW (n + 1) "rgb_to_hls" [.float (Fx r), .float (Fx g), .float (Fx b)] = some (.tuple [.float (Fx h), .float (Fx l), .float (Gx s t)]) := by
  obtain ⟨b1, b2, b3, b4, b5, b6⟩ := hb
  obtain ⟨m1, m2, m3, m4⟩ := mx3_facts r g b
  obtain ⟨m5, m6, m7, m8⟩ := mn3_facts r g b
  have m9 : mx3 r g b ≤ 512 := by omega
  have m10 : 0 ≤ mn3 r g b := by omega
  refine call_of (σ := ⟨(fnAt pw 4).scope.names, [("r", .float (Fx r)), ("g", .float (Fx g)), ("b", .float (Fx b))], none⟩) fn_r2l ?h1 ?h2 ?h3
  case h1 => kernel_rfl
  case h2 => kernel_rfl
  case h3 =>
    kspl_open pvbody
    unfold lZ at hz
    simp only [Option.bind_eq_some_iff] at hz
    obtain ⟨l', hl, hz⟩ := hz
    have hl := exD_eq hl
    have hl2 : 0 ≤ l' ∧ l' ≤ 512 := by omega
    kspl_open pves
    by_cases hm : mn3 r g b = mx3 r g b
    · rw [if_pos hm] at hz
      cases hz
      rw [← fx_gx (Int.le_refl 0)]
      kspl_open pvtake
      kspl_open pvret
    · rw [if_neg hm] at hz
      simp only [Option.bind_eq_some_iff, Option.some.injEq] at hz
      obtain ⟨h', hh, hz⟩ := hz
      kspl_open pvskip
      unfold hueZ at hh
      simp only [Option.bind_eq_some_iff] at hh
      obtain ⟨rc, hrc, gc, hgc, bc, hbc, hu, hhu, hh⟩ := hh
      split at hh
      · rename_i hbd
        obtain ⟨d1, d2, d3, d4, d5, d6, d7, d8⟩ := hbd
        cases hh
        have hrc := exD_eq hrc
        have hgc := exD_eq hgc
        have hbc := exD_eq hbc
        have hhu := exD_eq hhu
        by_cases cl : l' ≤ 256
        · rw [if_pos cl] at hz
          cases hz
          kspl_open pvthen
          kspl_open pves
          by_cases c1 : r = mx3 r g b
          · rw [if_pos c1] at hhu
            kspl_open pvthen
            kspl_open pves
            kspl_open pvret
          · rw [if_neg c1] at hhu
            by_cases c2 : g = mx3 r g b
            · rw [if_pos c2] at hhu
              kspl_open pvelif
              kspl_open pves
              kspl_open pvret
            · rw [if_neg c2] at hhu
              kspl_open pvelel
              kspl_open pves
              kspl_open pvret
        · rw [if_neg cl] at hz
          cases hz
          kspl_open pvelse
          kspl_open pves
          by_cases c1 : r = mx3 r g b
          · rw [if_pos c1] at hhu
            kspl_open pvthen
            kspl_open pves
            kspl_open pvret
          · rw [if_neg c1] at hhu
            by_cases c2 : g = mx3 r g b
            · rw [if_pos c2] at hhu
              kspl_open pvelif
              kspl_open pves
              kspl_open pvret
            · rw [if_neg c2] at hhu
              kspl_open pvelel
              kspl_open pves
              kspl_open pvret
      · cases hh
end
section
open PySem

def hueOf (p s l : Int) : Int := if 0 < s * l then 8 * p else 0
def lowOf (t : Int) : Int := if 1 < (if 32 - t < t then 32 - t else t) then (if 32 - t < t then 32 - t else t) else 1
/-- a colour is told to the last place -/
def sightZ (p s l c : Int) : Bool :=
  match hsvZ (8 * (p + 64 * (c % 3))) (128 * s) (128 * l) with
  | none => false
  | some (r, g, b) => decide (0 ≤ r ∧ r ≤ 512 ∧ 0 ≤ g ∧ g ≤ 512 ∧ 0 ≤ b ∧ b ≤ 512) &&
    if c / 3 % 2 = 0 then (match vZ r g b with
      | none => false
      | some (h, t, v) => decide (h = hueOf p s l ∧ (if 0 < l then t = 128 * s else t = 0) ∧ v = 128 * l))
    else (match lZ r g b with
      | none => false
      | some (h, t, a, d) => decide (h = hueOf p s l ∧ t = 16 * (l * (8 - s)) ∧ a * lowOf (l * (8 - s)) = s * l * d ∧ 0 ≤ a ∧ a ≤ 1048576 ∧ 0 < d))

set_option maxHeartbeats 8000000 in
theorem sight_spec {n : Nat} {p s l c : Int} (hz : sightZ p s l c = true) (hb : 0 ≤ p ∧ p ≤ 63 ∧ 0 ≤ s ∧ s ≤ 4 ∧ 0 ≤ l ∧ l ≤ 4 ∧ 0 ≤ c ∧ c ≤ 5) :
    callN PW (n + 2) "_law_sight" [.int p, .int s, .int l, .int c] = some (.tuple [.float (Fx (hueOf p s l)), .bool true]) := by
  obtain ⟨b1, b2, b3, b4, b5, b6, b7, b8⟩ := hb
  unfold sightZ at hz
  cases e1 : hsvZ (8 * (p + 64 * (c % 3))) (128 * s) (128 * l) with
  | none => rw [e1] at hz; cases hz
  | some rgb =>
    obtain ⟨r, g, b⟩ := rgb
    rw [e1] at hz
    simp only [Bool.and_eq_true, decide_eq_true_eq] at hz
    obtain ⟨hb, hz⟩ := hz
    have hcall := h2r_spec (n := n) e1 ⟨by omega, by omega, by omega, by omega, by omega, by omega⟩
    have q1 : 8 * (p + 64 * (c % 3)) * 64 = 512 * (p + 64 * (c % 3)) := by omega
    have q2 : 128 * s * 4 = 512 * s := by omega
    have q3 : 128 * l * 4 = 512 * l := by omega
    have q4 : 8 * p * 64 = 512 * p := by omega
    have q5 : 16 * (l * (8 - s)) * 32 = 512 * (l * (8 - s)) := by omega
    have q6 : 0 ≤ s * l := Int.mul_nonneg b3 b5
    have q7 : s * l ≤ 4 * 4 := Int.mul_le_mul b4 b6 b5 (by decide)
    have q8 : 0 ≤ l * (8 - s) := Int.mul_nonneg b5 (by omega)
    have q9 : l * (8 - s) ≤ 4 * 8 := Int.mul_le_mul b6 (by omega) (by omega) (by decide)
    have q10 : 0 < lowOf (l * (8 - s)) ∧ lowOf (l * (8 - s)) ≤ 32 := by unfold lowOf; split <;> split at * <;> omega
    refine call_of (σ := ⟨(fnAt pw 66).scope.names, [("parts", .int p), ("share", .int s), ("level", .int l), ("code", .int c)], none⟩) fn_sight ?h1 ?h2 ?h3
    case h1 => kernel_rfl
    case h2 => kernel_rfl
    case h3 =>
      kspl_open pvbody
      by_cases c1 : 0 < s * l
      · have c2 : 0 < l := by
          rcases Int.lt_or_eq_of_le b5 with q | q
          · exact q
          · rw [← q, Int.mul_zero] at c1; omega
        have hh : hueOf p s l = 8 * p := if_pos c1
        kspl_open pves
        by_cases c3 : c / 3 % 2 = 0
        · rw [if_pos c3] at hz
          cases e2 : vZ r g b with
          | none => rw [e2] at hz; cases hz
          | some t =>
            obtain ⟨h', t', v'⟩ := t
            rw [e2] at hz
            simp only [decide_eq_true_eq, hh, if_pos c2] at hz
            obtain ⟨z1, z2, z3⟩ := hz
            subst z1 z2 z3
            have hback := r2v_spec (n := n) e2 hb
            kspl_open pvtake
            kspl_open pves
            kspl_open pvretq
            simp [hh]
        · rw [if_neg c3] at hz
          cases e2 : lZ r g b with
          | none => rw [e2] at hz; cases hz
          | some t =>
            obtain ⟨h', t', a, d⟩ := t
            rw [e2] at hz
            simp only [decide_eq_true_eq, hh] at hz
            obtain ⟨z1, z2, z3, z4, z5, z6⟩ := hz
            subst z1 z2
            have hback := r2l_spec (n := n) e2 hb
            have z7 : a * (if 1 < (if 32 - l * (8 - s) < l * (8 - s) then 32 - l * (8 - s) else l * (8 - s)) then (if 32 - l * (8 - s) < l * (8 - s) then 32 - l * (8 - s) else l * (8 - s)) else 1) = s * l * d := z3
            have z8 : 0 < (if 1 < (if 32 - l * (8 - s) < l * (8 - s) then 32 - l * (8 - s) else l * (8 - s)) then (if 32 - l * (8 - s) < l * (8 - s) then 32 - l * (8 - s) else l * (8 - s)) else 1) := q10.1
            have z9 : (if 1 < (if 32 - l * (8 - s) < l * (8 - s) then 32 - l * (8 - s) else l * (8 - s)) then (if 32 - l * (8 - s) < l * (8 - s) then 32 - l * (8 - s) else l * (8 - s)) else 1) ≤ 1048576 := by have := q10.2; unfold lowOf at this; omega
            kspl_open pvskip
            kspl_open pves
            kspl_open pvretq
            simp [hh]
      · have hh : hueOf p s l = 0 := if_neg c1
        kspl_open pves
        by_cases c3 : c / 3 % 2 = 0
        · rw [if_pos c3] at hz
          cases e2 : vZ r g b with
          | none => rw [e2] at hz; cases hz
          | some t =>
            obtain ⟨h', t', v'⟩ := t
            rw [e2] at hz
            simp only [decide_eq_true_eq, hh] at hz
            obtain ⟨z1, z2, z3⟩ := hz
            have hback := r2v_spec (n := n) e2 hb
            by_cases c2 : 0 < l
            · rw [if_pos c2] at z2
              subst z1 z2 z3
              kspl_open pvtake
              kspl_open pves
              kspl_open pvretq
              simp [hh]
            · rw [if_neg c2] at z2
              subst z1 z2 z3
              kspl_open pvtake
              kspl_open pves
              kspl_open pvretq
              simp [hh]
        · rw [if_neg c3] at hz
          cases e2 : lZ r g b with
          | none => rw [e2] at hz; cases hz
          | some t =>
            obtain ⟨h', t', a, d⟩ := t
            rw [e2] at hz
            simp only [decide_eq_true_eq, hh] at hz
            obtain ⟨z1, z2, z3, z4, z5, z6⟩ := hz
            subst z1 z2
            have hback := r2l_spec (n := n) e2 hb
            have z7 : a * (if 1 < (if 32 - l * (8 - s) < l * (8 - s) then 32 - l * (8 - s) else l * (8 - s)) then (if 32 - l * (8 - s) < l * (8 - s) then 32 - l * (8 - s) else l * (8 - s)) else 1) = s * l * d := z3
            have z8 : 0 < (if 1 < (if 32 - l * (8 - s) < l * (8 - s) then 32 - l * (8 - s) else l * (8 - s)) then (if 32 - l * (8 - s) < l * (8 - s) then 32 - l * (8 - s) else l * (8 - s)) else 1) := q10.1
            have z9 : (if 1 < (if 32 - l * (8 - s) < l * (8 - s) then 32 - l * (8 - s) else l * (8 - s)) then (if 32 - l * (8 - s) < l * (8 - s) then 32 - l * (8 - s) else l * (8 - s)) else 1) ≤ 1048576 := by have := q10.2; unfold lowOf at this; omega
            kspl_open pvskip
            kspl_open pves
            kspl_open pvretq
            simp [hh]
theorem hsvZ_turn (p t s v : Int) : hsvZ (8 * (p + 64 * t)) s v = hsvZ (8 * p) s v := by
  unfold hsvZ
  have e1 : 6 * (8 * (p + 64 * t)) / 512 = 6 * (8 * p) / 512 + 6 * t := by omega
  have e2 : 6 * (8 * (p + 64 * t)) - 512 * (6 * (8 * p) / 512 + 6 * t) = 6 * (8 * p) - 512 * (6 * (8 * p) / 512) := by omega
  have e3 : (6 * (8 * p) / 512 + 6 * t) % 6 = 6 * (8 * p) / 512 % 6 := by omega
  rw [e1, e2, e3]
theorem sightZ_code (p s l c : Int) (hc : 0 ≤ c ∧ c ≤ 5) : sightZ p s l c = sightZ p s l (3 * (c / 3)) := by
  unfold sightZ
  have e1 : 3 * (c / 3) / 3 % 2 = c / 3 % 2 := by omega
  rw [hsvZ_turn, hsvZ_turn, e1]
theorem sights_a : ((List.range 8).all fun p => (List.range 5).all fun s => (List.range 5).all fun l => sightZ ((p + 0 : Nat) : Int) (s : Nat) (l : Nat) 0 && sightZ ((p + 0 : Nat) : Int) (s : Nat) (l : Nat) 3) = true := by kernel_rfl
theorem sights_b : ((List.range 8).all fun p => (List.range 5).all fun s => (List.range 5).all fun l => sightZ ((p + 8 : Nat) : Int) (s : Nat) (l : Nat) 0 && sightZ ((p + 8 : Nat) : Int) (s : Nat) (l : Nat) 3) = true := by kernel_rfl
theorem sights_c : ((List.range 8).all fun p => (List.range 5).all fun s => (List.range 5).all fun l => sightZ ((p + 16 : Nat) : Int) (s : Nat) (l : Nat) 0 && sightZ ((p + 16 : Nat) : Int) (s : Nat) (l : Nat) 3) = true := by kernel_rfl
theorem sights_d : ((List.range 8).all fun p => (List.range 5).all fun s => (List.range 5).all fun l => sightZ ((p + 24 : Nat) : Int) (s : Nat) (l : Nat) 0 && sightZ ((p + 24 : Nat) : Int) (s : Nat) (l : Nat) 3) = true := by kernel_rfl
theorem sights_e : ((List.range 8).all fun p => (List.range 5).all fun s => (List.range 5).all fun l => sightZ ((p + 32 : Nat) : Int) (s : Nat) (l : Nat) 0 && sightZ ((p + 32 : Nat) : Int) (s : Nat) (l : Nat) 3) = true := by kernel_rfl
theorem sights_f : ((List.range 8).all fun p => (List.range 5).all fun s => (List.range 5).all fun l => sightZ ((p + 40 : Nat) : Int) (s : Nat) (l : Nat) 0 && sightZ ((p + 40 : Nat) : Int) (s : Nat) (l : Nat) 3) = true := by kernel_rfl
theorem sights_g : ((List.range 8).all fun p => (List.range 5).all fun s => (List.range 5).all fun l => sightZ ((p + 48 : Nat) : Int) (s : Nat) (l : Nat) 0 && sightZ ((p + 48 : Nat) : Int) (s : Nat) (l : Nat) 3) = true := by kernel_rfl
theorem sights_h : ((List.range 8).all fun p => (List.range 5).all fun s => (List.range 5).all fun l => sightZ ((p + 56 : Nat) : Int) (s : Nat) (l : Nat) 0 && sightZ ((p + 56 : Nat) : Int) (s : Nat) (l : Nat) 3) = true := by kernel_rfl
theorem sights_at {p s l : Nat} (hp : p < 64) (hs : s < 5) (hl : l < 5) : sightZ p s l 0 = true ∧ sightZ p s l 3 = true := by
  have key : ∀ k : Nat, ((List.range 8).all fun p => (List.range 5).all fun s => (List.range 5).all fun l => sightZ ((p + k : Nat) : Int) (s : Nat) (l : Nat) 0 && sightZ ((p + k : Nat) : Int) (s : Nat) (l : Nat) 3) = true → k ≤ p → p < k + 8 → sightZ p s l 0 = true ∧ sightZ p s l 3 = true := by
    intro k h a b
    simp only [List.all_eq_true, List.mem_range, Bool.and_eq_true] at h
    have := h (p - k) (by omega) s hs l hl
    rwa [show p - k + k = p by omega] at this
  rcases (show p / 8 = 0 ∨ p / 8 = 1 ∨ p / 8 = 2 ∨ p / 8 = 3 ∨ p / 8 = 4 ∨ p / 8 = 5 ∨ p / 8 = 6 ∨ p / 8 = 7 by omega) with e | e | e | e | e | e | e | e
  · exact key 0 sights_a (by omega) (by omega)
  · exact key 8 sights_b (by omega) (by omega)
  · exact key 16 sights_c (by omega) (by omega)
  · exact key 24 sights_d (by omega) (by omega)
  · exact key 32 sights_e (by omega) (by omega)
  · exact key 40 sights_f (by omega) (by omega)
  · exact key 48 sights_g (by omega) (by omega)
  · exact key 56 sights_h (by omega) (by omega)
theorem sights {p s l c : Int} (hb : 0 ≤ p ∧ p ≤ 63 ∧ 0 ≤ s ∧ s ≤ 4 ∧ 0 ≤ l ∧ l ≤ 4 ∧ 0 ≤ c ∧ c ≤ 5) : sightZ p s l c = true := by
  obtain ⟨b1, b2, b3, b4, b5, b6, b7, b8⟩ := hb
  have h := sights_at (p := p.toNat) (s := s.toNat) (l := l.toNat) (by omega) (by omega) (by omega)
  rw [show ((p.toNat : Nat) : Int) = p by omega, show ((s.toNat : Nat) : Int) = s by omega, show ((l.toNat : Nat) : Int) = l by omega] at h
  rw [sightZ_code _ _ _ _ ⟨b7, b8⟩]
  rcases (show c / 3 = 0 ∨ c / 3 = 1 by omega) with q | q
  · rw [q]; exact h.1
  · rw [q]; exact h.2
end
section
open PySem

/-- a statement: a name, a sign (0 !=, 1 <, 2 >), a name -/
abbrev St3 := Nat × Nat × Nat
def sgL : Nat → List Nat
  | 0 => [33, 61]
  | 1 => [60]
  | _ => [62]
abbrev enc1 (x : St3) : D := .tuple [.int (x.1 : Nat), .str (S (sgL x.2.1)), .int (x.2.2 : Nat)]
def Ok3 (x : St3) : Prop := x.1 < 4 ∧ x.2.1 < 3 ∧ x.2.2 < 4
theorem sgL_len (k : Nat) : (sgL k).length ≤ 2 := by unfold sgL; split <;> simp

structure TA where
  t : List Nat
  last : Int
  b : St3
/-- the text so far -/
def txStep (a : TA) (x : St3) : TA :=
  ⟨(if (x.1 : Int) = a.last then a.t else a.t ++ (if a.t = [] then [] else [44]) ++ [97 + x.1]) ++ sgL x.2.1 ++ [97 + x.2.2], (x.2.2 : Nat), x⟩
def txMk (l : D) (a : TA) : St := ⟨(fnAt pw 63).scope.names, [("drawn", l), ("text", .str (S a.t)), ("last", .int a.last), ("one", .int (a.b.1 : Nat)), ("sign", .str (S (sgL a.b.2.1))), ("two", .int (a.b.2.2 : Nat))], none⟩
theorem fn_text : PW.fns "_law_text" = some (fnAt pw 63) := by kernel_rfl
def bodyOf : List Stmt → List Stmt
  | .For _ _ b _ _ :: _ => b
  | _ :: r => bodyOf r
  | [] => []
def targetOf : List Stmt → Expr
  | .For t _ _ _ _ :: _ => t
  | _ :: r => targetOf r
  | [] => .Name "" ⟨0, 0, 0, 0⟩

set_option maxHeartbeats 4000000 in
theorem tx_turn {n : Nat} {l : D} {a : TA} {x : St3} (hx : Ok3 x) (hl : a.t.length ≤ 1000) :
    stepT (xs PW (rc PW (callN PW n) 40) 19) (targetOf (fnAt pw 63).body) (bodyOf (fnAt pw 63).body) (txMk l a) (enc1 x) = some (.next (txMk l (txStep a x))) := by
  obtain ⟨o, g, w⟩ := x
  obtain ⟨h1, h2, h3⟩ := hx
  simp only at h1 h2 h3
  have k1 : Str.ofString "" = S [] := by decide +kernel
  have k2 : Str.ofString "," = S [44] := by decide +kernel
  have k3 : Str.ofString "abcd" = S [97, 98, 99, 100] := by decide +kernel
  have i1 : itemD (.str (S [97, 98, 99, 100])) (.int (o : Nat)) = some (.str (S [97 + o])) := im_S (by
    rcases (show o = 0 ∨ o = 1 ∨ o = 2 ∨ o = 3 by omega) with rfl | rfl | rfl | rfl <;> rfl) (by omega)
  have i2 : itemD (.str (S [97, 98, 99, 100])) (.int (w : Nat)) = some (.str (S [97 + w])) := im_S (by
    rcases (show w = 0 ∨ w = 1 ∨ w = 2 ∨ w = 3 by omega) with rfl | rfl | rfl | rfl <;> rfl) (by omega)
  have hg := sgL_len g
  show stepT _ (.Tuple _ _ _) (_ :: _) _ (.tuple [.int (o : Nat), .str (S (sgL g)), .int (w : Nat)]) = _
  refine' st_of ?bt ?es
  case bt => kspl_open pvbt
  case es =>
    unfold txMk txStep
    simp only
    by_cases c1 : (o : Int) = a.last
    · rw [if_pos c1]
      refine' es_next (ex_if_f ?q1 ?q2 es_nil) ?q3
      case q1 => kspl_open pvtr
      case q2 => simp [c1]
      case q3 =>
        kspl_open pves
        kspl_open pvend
    · rw [if_neg c1]
      by_cases c2 : a.t = []
      · have c3 : (!decide (a.t = [])) = false := by simp [c2]
        rw [if_pos c2]
        refine' es_next (ex_if_t ?q1 ?q2 (es_next ?q4 es_nil)) ?q3
        case q1 => kspl_open pvtr
        case q2 => simp [c1]
        case q4 => kspl_open pvasg
        case q3 =>
          kspl_open pves
          kspl_open pvend
      · have c3 : (!decide (a.t = [])) = true := by simp [c2]
        rw [if_neg c2]
        refine' es_next (ex_if_t ?q1 ?q2 (es_next ?q4 es_nil)) ?q3
        case q1 => kspl_open pvtr
        case q2 => simp [c1]
        case q4 => kspl_open pvasg
        case q3 =>
          kspl_open pves
          kspl_open pvend
def txSt0 (l : D) : St := ⟨(fnAt pw 63).scope.names, [("drawn", l), ("text", .str (S [])), ("last", .int (-1))], none⟩
def txA0 : TA := ⟨[], -1, (0, 0, 0)⟩
set_option maxHeartbeats 4000000 in
theorem tx_first {n : Nat} {l : D} {x : St3} (hx : Ok3 x) :
    stepT (xs PW (rc PW (callN PW n) 40) 19) (targetOf (fnAt pw 63).body) (bodyOf (fnAt pw 63).body) (txSt0 l) (enc1 x) = some (.next (txMk l (txStep txA0 x))) := by
  obtain ⟨o, g, w⟩ := x
  obtain ⟨h1, h2, h3⟩ := hx
  simp only at h1 h2 h3
  have k1 : Str.ofString "" = S [] := by decide +kernel
  have k2 : Str.ofString "," = S [44] := by decide +kernel
  have k3 : Str.ofString "abcd" = S [97, 98, 99, 100] := by decide +kernel
  have i1 : itemD (.str (S [97, 98, 99, 100])) (.int (o : Nat)) = some (.str (S [97 + o])) := im_S (by
    rcases (show o = 0 ∨ o = 1 ∨ o = 2 ∨ o = 3 by omega) with rfl | rfl | rfl | rfl <;> rfl) (by omega)
  have i2 : itemD (.str (S [97, 98, 99, 100])) (.int (w : Nat)) = some (.str (S [97 + w])) := im_S (by
    rcases (show w = 0 ∨ w = 1 ∨ w = 2 ∨ w = 3 by omega) with rfl | rfl | rfl | rfl <;> rfl) (by omega)
  have hg := sgL_len g
  show stepT _ (.Tuple _ _ _) (_ :: _) _ (.tuple [.int (o : Nat), .str (S (sgL g)), .int (w : Nat)]) = _
  refine' st_of ?bt ?es
  case bt => kspl_open pvbt
  case es =>
    have c1 : ¬ (o : Int) = -1 := by omega
    have e : txStep txA0 (o, g, w) = ⟨[] ++ [] ++ [97 + o] ++ sgL g ++ [97 + w], (w : Nat), (o, g, w)⟩ := by
      unfold txStep txA0
      simp only [if_neg c1, if_true]
    rw [e]
    unfold txMk txSt0
    simp only
    have c3 : (!decide (([] : List Nat) = [])) = false := by simp
    refine' es_next (ex_if_t ?q1 ?q2 (es_next ?q4 es_nil)) ?q3
    case q1 => kspl_open pvtr
    case q2 => simp [c1]
    case q4 => kspl_open pvasg
    case q3 =>
      kspl_open pves
      kspl_open pvend

def txInv (a : TA) (l : List St3) : Prop := a.t.length + 6 * l.length ≤ 100 ∧ ∀ x ∈ l, Ok3 x
theorem tx_inv {a : TA} {x : St3} {r : List St3} (h : txInv a (x :: r)) : txInv (txStep a x) r := by
  refine ⟨?_, fun y hy => h.2 y (List.mem_cons_of_mem _ hy)⟩
  have h1 := h.1
  simp only [List.length_cons] at h1
  have hg := sgL_len x.2.1
  unfold txStep
  simp only [List.length_append, List.length_cons, List.length_nil]
  split
  · omega
  · simp only [List.length_append, List.length_cons, List.length_nil]
    split <;> simp only [List.length_cons, List.length_nil] <;> omega
def txAll (l : List St3) : List Nat := (l.foldl txStep txA0).t
theorem text_spec {n : Nat} {l : List St3} (hl : l.length ≤ 5) (hok : ∀ x ∈ l, Ok3 x) : callN PW (n + 1) "_law_text" [.list (l.map enc1)] = some (.str (S (txAll l))) := by
  have k1 : Str.ofString "" = S [] := by decide +kernel
  refine call_of (σ := ⟨(fnAt pw 63).scope.names, [("drawn", .list (l.map enc1))], none⟩) fn_text ?h1 ?h2 ?h3
  case h1 => kernel_rfl
  case h2 => kernel_rfl
  case h3 =>
    kspl_open pvbody
    kspl_open pves
    have e0 : upd (upd ⟨(fnAt pw 63).scope.names, [("drawn", .list (l.map enc1))], none⟩ "text" (.str (S []))) "last" (.int (-1)) = txSt0 (.list (l.map enc1)) := by kernel_rfl
    rw [e0]
    have loop : ∃ σ', forD (xs PW (rc PW (callN PW n) 40) 19) (targetOf (fnAt pw 63).body) (bodyOf (fnAt pw 63).body) (txSt0 (.list (l.map enc1))) (l.map enc1) = some (.next σ') ∧ σ'.vars.lookup (Str.ofString "text") = some (.str (S (txAll l))) ∧ vOk σ' "text" = true ∧ σ'.own = none := by
      cases l with
      | nil => exact ⟨_, rfl, by kernel_rfl, by kernel_rfl, by kernel_rfl⟩
      | cons x r =>
        have inv0 : txInv txA0 (x :: r) := ⟨by simp only [txA0, List.length_nil]; omega, hok⟩
        obtain ⟨h1, h2⟩ := fo_foldI (X := xs PW (rc PW (callN PW n) 40) 19) (t := targetOf (fnAt pw 63).body) (body := bodyOf (fnAt pw 63).body) (enc := enc1) (mk := txMk (.list ((x :: r).map enc1))) (step := txStep) txInv
          (fun a b r h => ⟨tx_turn (h.2 b List.mem_cons_self) (by have := h.1; omega), tx_inv h⟩) r (txStep txA0 x) (tx_inv inv0)
        exact ⟨_, fo_first (tx_first (hok x List.mem_cons_self)) h1, by kernel_rfl, by kernel_rfl, by kernel_rfl⟩
    obtain ⟨σ', l1, l2, l3, l4⟩ := loop
    refine' es_next (ex_for0 ?q1 ?q2 ?q3 ?q4 l1) ?q5
    case q1 => kernel_rfl
    case q2 => rfl
    case q3 => unfold txSt0; kspl_open pvev
    case q4 => exact it_list (by simp; omega)
    case q5 =>
      refine' es_ret (ex_ret0 l4 ?q6)
      exact ev_var l3 l2
end
section
open PySem

theorem fn_symb : PW.fns "_law_symbols" = some (fnAt pw 64) := by kernel_rfl
def whBody : List Stmt → List Stmt
  | .While _ b _ _ :: _ => b
  | _ :: r => whBody r
  | [] => []
def whTest : List Stmt → Expr
  | .While t _ _ _ :: _ => t
  | _ :: r => whTest r
  | [] => .Name "" ⟨0, 0, 0, 0⟩
def syMk (t : List Nat) (ss : List Int) : Option D → St
  | none => ⟨(fnAt pw 64).scope.names, [("text", .str (S t)), ("symbols", .list (ss.map .int))], some "symbols"⟩
  | some k => ⟨(fnAt pw 64).scope.names, [("text", .str (S t)), ("symbols", .list (ss.map .int)), ("known", k)], some "symbols"⟩

theorem syMk_snoc (t : List Nat) (ss : List Int) (v : Int) (k : D) : syMk t (ss ++ [v]) (some k) = ⟨(fnAt pw 64).scope.names, [("text", .str (S t)), ("symbols", .list (ss.map .int ++ [.int v])), ("known", k)], some "symbols"⟩ := by
  simp [syMk]
set_option maxHeartbeats 4000000 in
theorem sy_letter {n : Nat} {c : Nat} {r : List Nat} {ss : List Int} {kn : Option D} (hc : 97 ≤ c ∧ c < 101) (hl : r.length ≤ 1000) (hs : ss.length ≤ 1000)
    (b3 : (tokTbl.lookup (S ((c :: r).take 3))).isSome = false) (b2 : (tokTbl.lookup (S ((c :: r).take 2))).isSome = false) (b1 : (tokTbl.lookup (S ((c :: r).take 1))).isSome = false) :
    ∃ k', exsD (xs PW (rc PW (callN PW n) 40) 19) (syMk (c :: r) ss kn) (whBody (fnAt pw 64).body) = some (.next (syMk r (ss ++ [256 + ((c : Nat) - 97 : Int)]) k')) := by
  have k3 : Str.ofString "abcd" = S [97, 98, 99, 100] := by decide +kernel
  have i0 : itemD (.str (S (c :: r))) (.int 0) = some (.str (S [c])) := im_S (k := 0) rfl (by decide)
  have hidx : methD (.str (S [97, 98, 99, 100])) "index" [.str (S [c])] = some (.int ((c : Nat) - 97 : Int)) := by
    have h : Txt.contains (S [97, 98, 99, 100]) (S [c]) = true ∧ Txt.find (S [97, 98, 99, 100]) (S [c]) = ((c : Nat) - 97 : Int) := by
      rcases (show c = 97 ∨ c = 98 ∨ c = 99 ∨ c = 100 by omega) with rfl | rfl | rfl | rfl <;> decide +kernel
    rw [md_index h.1, h.2]
  have hlen : (c :: r).length ≤ 1048576 := by simp only [List.length_cons]; omega
  have hsl : (ss.map D.int).length ≤ 1048576 := by simp only [List.length_map]; omega
  refine ⟨some (.list ([] ++ ([] ++ ([] ++ [])) ++ [.str (S [c])])), ?_⟩
  rw [syMk_snoc]
  cases kn with
  | none =>
    show exsD _ (⟨_, [_, _], _⟩ : St) (_ :: _) = _
    kspl_open pves
    kspl_open pvend
  | some k =>
    show exsD _ (⟨_, [_, _, _], _⟩ : St) (_ :: _) = _
    kspl_open pves
    kspl_open pvend

set_option maxHeartbeats 4000000 in
theorem sy_op2 {n : Nat} {l : List Nat} {c : Nat} {v : Int} {ss : List Int} {kn : Option D} (h0 : l[0]? = some c) (hl : l.length ≤ 1000) (hl2 : 2 ≤ l.length) (hs : ss.length ≤ 1000)
    (b3 : (tokTbl.lookup (S (l.take 3))).isSome = false) (v2 : tokTbl.lookup (S (l.take 2)) = some v) (b1 : (tokTbl.lookup (S (l.take 1))).isSome = true) :
    ∃ k', exsD (xs PW (rc PW (callN PW n) 40) 19) (syMk l ss kn) (whBody (fnAt pw 64).body) = some (.next (syMk (l.drop 2) (ss ++ [v]) k')) := by
  have k3 : Str.ofString "abcd" = S [97, 98, 99, 100] := by decide +kernel
  have b2 : (tokTbl.lookup (S (l.take 2))).isSome = true := by rw [v2]; rfl
  have i0 : itemD (.str (S l)) (.int 0) = some (.str (S [c])) := im_S (k := 0) h0 (by decide)
  have hlen : l.length ≤ 1048576 := by omega
  have hsl : (ss.map D.int).length ≤ 1048576 := by simp only [List.length_map]; omega
  have ht : (l.take 2).length = 2 := by rw [List.length_take]; omega
  refine ⟨some (.list ([] ++ ([.str (S (l.take 2))] ++ ([.str (S (l.take 1))] ++ [])) ++ [.str (S [c])])), ?_⟩
  rw [syMk_snoc]
  have e9 : l.drop 2 = l.drop (l.take 2).length := by rw [ht]
  rw [e9]
  cases kn with
  | none =>
    show exsD _ (⟨_, [_, _], _⟩ : St) (_ :: _) = _
    kspl_open pves
    kspl_open pvend
  | some k =>
    show exsD _ (⟨_, [_, _, _], _⟩ : St) (_ :: _) = _
    kspl_open pves
    kspl_open pvend

set_option maxHeartbeats 4000000 in
theorem sy_op1 {n : Nat} {l : List Nat} {c : Nat} {v : Int} {ss : List Int} {kn : Option D} (h0 : l[0]? = some c) (hl : l.length ≤ 1000) (hl2 : 1 ≤ l.length) (hs : ss.length ≤ 1000)
    (b3 : (tokTbl.lookup (S (l.take 3))).isSome = false) (b2 : (tokTbl.lookup (S (l.take 2))).isSome = false) (v1 : tokTbl.lookup (S (l.take 1)) = some v) :
    ∃ k', exsD (xs PW (rc PW (callN PW n) 40) 19) (syMk l ss kn) (whBody (fnAt pw 64).body) = some (.next (syMk (l.drop 1) (ss ++ [v]) k')) := by
  have k3 : Str.ofString "abcd" = S [97, 98, 99, 100] := by decide +kernel
  have b1 : (tokTbl.lookup (S (l.take 1))).isSome = true := by rw [v1]; rfl
  have i0 : itemD (.str (S l)) (.int 0) = some (.str (S [c])) := im_S (k := 0) h0 (by decide)
  have hlen : l.length ≤ 1048576 := by omega
  have hsl : (ss.map D.int).length ≤ 1048576 := by simp only [List.length_map]; omega
  have ht : (l.take 1).length = 1 := by rw [List.length_take]; omega
  refine ⟨some (.list ([] ++ ([] ++ ([.str (S (l.take 1))] ++ [])) ++ [.str (S [c])])), ?_⟩
  rw [syMk_snoc]
  have e9 : l.drop 1 = l.drop (l.take 1).length := by rw [ht]
  rw [e9]
  cases kn with
  | none =>
    show exsD _ (⟨_, [_, _], _⟩ : St) (_ :: _) = _
    kspl_open pves
    kspl_open pvend
  | some k =>
    show exsD _ (⟨_, [_, _, _], _⟩ : St) (_ :: _) = _
    kspl_open pves
    kspl_open pvend
end
section
open PySem

def sgV : Nat → Int
  | 0 => 28
  | 1 => 20
  | _ => 21
def isLet (c : Nat) : Prop := 97 ≤ c ∧ c < 101
inductive Toks : List Nat → List Int → Prop
  | nil : Toks [] []
  | letter {c r vs} : isLet c → Toks r vs → Toks (c :: r) ((256 + ((c : Nat) - 97 : Int)) :: vs)
  | comma {c r vs} : isLet c → Toks (c :: r) vs → Toks (44 :: c :: r) (12 :: vs)
  | sign {g c r vs} : g < 3 → isLet c → Toks (c :: r) vs → Toks (sgL g ++ c :: r) (sgV g :: vs)

theorem tbl_noLet : (tokTbl.all fun p => p.1.cps.toList.all fun c => !(decide (97 ≤ c) && decide (c < 101))) = true := by decide +kernel
theorem lk_letter {x : List Nat} {c : Nat} (hc : isLet c) (hm : c ∈ x) : tokTbl.lookup (S x) = none := by
  rw [List.lookup_eq_none_iff]
  intro p hp
  have h := tbl_noLet
  rw [List.all_eq_true] at h
  have h := h p hp
  rw [List.all_eq_true] at h
  rw [bne_iff_ne]
  intro e
  have h := h c (by rw [← e]; simpa [S] using hm)
  simp [hc.1, hc.2] at h
theorem lk_letS {x : List Nat} {c : Nat} (hc : isLet c) (hm : c ∈ x) : (tokTbl.lookup (S x)).isSome = false := by rw [lk_letter hc hm]; rfl

theorem sy_test {n : Nat} {t : List Nat} {ss : List Int} {kn : Option D} : (rc PW (callN PW n) 40).tr (syMk t ss kn) (whTest (fnAt pw 64).body) = some (!decide (t = [])) := by
  have k1 : Str.ofString "" = S [] := by decide +kernel
  show Rc.tr _ _ (.Compare _ [_] [_] _) = _
  cases kn with
  | none => show Rc.tr _ (⟨_, [_, _], _⟩ : St) _ = _; kspl_open pvtr
  | some k => show Rc.tr _ (⟨_, [_, _, _], _⟩ : St) _ = _; kspl_open pvtr

theorem sgL_ne (g : Nat) : sgL g ≠ [] := by unfold sgL; split <;> simp
theorem sy_while {n : Nat} {t : List Nat} {vs : List Int} (h : Toks t vs) : ∀ (fuel : Nat) (ss : List Int) (kn : Option D), vs.length < fuel → t.length ≤ 1000 → ss.length + vs.length ≤ 1000 →
    ∃ k', whileD (rc PW (callN PW n) 40).tr (xs PW (rc PW (callN PW n) 40) 19) (whTest (fnAt pw 64).body) (whBody (fnAt pw 64).body) fuel (syMk t ss kn) = some (.next (syMk [] (ss ++ vs) k')) := by
  induction h with
  | nil =>
    intro fuel ss kn hf _ _
    cases fuel with
    | zero => omega
    | succ f => exact ⟨kn, by rw [List.append_nil]; exact wh_end (by rw [sy_test]; simp)⟩
  | @letter c r vs hc _ ih =>
    intro fuel ss kn hf ht hs
    cases fuel with
    | zero => omega
    | succ f =>
      simp only [List.length_cons] at hf ht hs
      obtain ⟨k1, h1⟩ := sy_letter (n := n) (c := c) (r := r) (ss := ss) (kn := kn) hc (by omega) (by omega) (lk_letS hc (by simp)) (lk_letS hc (by simp)) (lk_letS hc (by simp))
      obtain ⟨k2, h2⟩ := ih f (ss ++ [256 + ((c : Nat) - 97 : Int)]) k1 (by omega) (by omega) (by simp only [List.length_append, List.length_cons, List.length_nil]; omega)
      exact ⟨k2, by rw [List.append_assoc] at h2; exact wh_next (by rw [sy_test]; simp) h1 h2⟩
  | @comma c r vs hc _ ih =>
    intro fuel ss kn hf ht hs
    cases fuel with
    | zero => omega
    | succ f =>
      simp only [List.length_cons] at hf ht hs
      have v1 : tokTbl.lookup (S ((44 :: c :: r).take 1)) = some 12 := by show tokTbl.lookup (S [44]) = _; decide +kernel
      obtain ⟨k1, h1⟩ := sy_op1 (n := n) (l := 44 :: c :: r) (ss := ss) (kn := kn) rfl (by simp only [List.length_cons]; omega) (by simp) (by omega) (lk_letS hc (by cases r <;> simp)) (lk_letS hc (by simp)) v1
      obtain ⟨k2, h2⟩ := ih f (ss ++ [12]) k1 (by omega) (by simp only [List.length_cons]; omega) (by simp only [List.length_append, List.length_cons, List.length_nil]; omega)
      exact ⟨k2, by rw [List.append_assoc] at h2; exact wh_next (by rw [sy_test]; simp) h1 h2⟩
  | @sign g c r vs hg hc _ ih =>
    intro fuel ss kn hf ht hs
    cases fuel with
    | zero => omega
    | succ f =>
      simp only [List.length_cons, List.length_append] at hf ht hs
      have fin : ∀ k1, exsD (xs PW (rc PW (callN PW n) 40) 19) (syMk (sgL g ++ c :: r) ss kn) (whBody (fnAt pw 64).body) = some (.next (syMk (c :: r) (ss ++ [sgV g]) k1)) →
          ∃ k', whileD (rc PW (callN PW n) 40).tr (xs PW (rc PW (callN PW n) 40) 19) (whTest (fnAt pw 64).body) (whBody (fnAt pw 64).body) (f + 1) (syMk (sgL g ++ c :: r) ss kn) = some (.next (syMk [] (ss ++ sgV g :: vs) k')) := fun k1 h1 => by
        obtain ⟨k2, h2⟩ := ih f (ss ++ [sgV g]) k1 (by omega) (by simp only [List.length_cons]; omega) (by simp only [List.length_append, List.length_cons, List.length_nil]; omega)
        exact ⟨k2, by rw [List.append_assoc] at h2; exact wh_next (by rw [sy_test]; simp) h1 h2⟩
      rcases (show g = 0 ∨ g = 1 ∨ g = 2 by omega) with rfl | rfl | rfl
      · have v2 : tokTbl.lookup (S ((sgL 0 ++ c :: r).take 2)) = some 28 := by show tokTbl.lookup (S [33, 61]) = _; decide +kernel
        have b1 : (tokTbl.lookup (S ((sgL 0 ++ c :: r).take 1))).isSome = true := by show (tokTbl.lookup (S [33])).isSome = true; decide +kernel
        obtain ⟨k1, h1⟩ := sy_op2 (n := n) (l := sgL 0 ++ c :: r) (ss := ss) (kn := kn) rfl (by simp only [List.length_append, List.length_cons]; omega) (by simp [sgL]) (by omega) (lk_letS hc (by simp [sgL])) v2 b1
        exact fin k1 h1
      · have v1 : tokTbl.lookup (S ((sgL 1 ++ c :: r).take 1)) = some 20 := by show tokTbl.lookup (S [60]) = _; decide +kernel
        obtain ⟨k1, h1⟩ := sy_op1 (n := n) (l := sgL 1 ++ c :: r) (ss := ss) (kn := kn) rfl (by simp only [List.length_append, List.length_cons]; omega) (by simp [sgL]) (by omega) (lk_letS hc (by simp [sgL])) (lk_letS hc (by simp [sgL])) v1
        exact fin k1 h1
      · have v1 : tokTbl.lookup (S ((sgL 2 ++ c :: r).take 1)) = some 21 := by show tokTbl.lookup (S [62]) = _; decide +kernel
        obtain ⟨k1, h1⟩ := sy_op1 (n := n) (l := sgL 2 ++ c :: r) (ss := ss) (kn := kn) rfl (by simp only [List.length_append, List.length_cons]; omega) (by simp [sgL]) (by omega) (lk_letS hc (by simp [sgL])) (lk_letS hc (by simp [sgL])) v1
        exact fin k1 h1
end
section
open PySem

theorem es_rets {P : PI} {R : Rc} {m : Nat} {σ : St} {p : Pos} {e : Expr} {d : D} {rest : List Stmt} (h0 : freeze σ e = σ) (h1 : R.ev σ e = some d) : exsD (xs P R (m + 1)) σ (.Return (some e) p :: rest) = some (.ret d) := es_ret (ex_ret (by rw [h0]; exact h1))
set_option maxHeartbeats 4000000 in
theorem symbols_spec {n : Nat} {t : List Nat} {vs : List Int} (h : Toks t vs) (h1 : t.length ≤ 1000) (h2 : vs.length ≤ 300) : callN PW (n + 1) "_law_symbols" [.str (S t)] = some (.list (vs.map .int ++ [.int 0])) := by
  refine call_of (σ := ⟨(fnAt pw 64).scope.names, [("text", .str (S t))], none⟩) fn_symb ?h1 ?h2 ?h3
  case h1 => kernel_rfl
  case h2 => kernel_rfl
  case h3 =>
    kspl_open pvbody
    kspl_open pves
    have e0 : updO ⟨(fnAt pw 64).scope.names, [("text", .str (S t))], none⟩ "symbols" (.list []) = syMk t [] none := by kernel_rfl
    rw [e0]
    obtain ⟨k', hw⟩ := sy_while (n := n) h 400 [] none (by omega) h1 (by simp; omega)
    rw [List.nil_append] at hw
    refine es_next (ex_while hw) ?_
    have hsl : (vs.map D.int).length ≤ 1048576 := by simp only [List.length_map]; omega
    cases k' with
    | none =>
      show exsD _ (⟨_, [_, _], _⟩ : St) (_ :: _) = _
      with_reducible refine' es_rets ?r1 ?r2
      case r1 => kernel_rfl
      case r2 => kspl_open pvev
    | some k =>
      show exsD _ (⟨_, [_, _, _], _⟩ : St) (_ :: _) = _
      with_reducible refine' es_rets ?r1 ?r2
      case r1 => kernel_rfl
      case r2 => kspl_open pvev

/-! the text's symbols -/
def txR (first : Bool) (last : Int) : List St3 → List Nat
  | [] => []
  | x :: r => (if (x.1 : Int) = last then [] else (if first then [] else [44]) ++ [97 + x.1]) ++ sgL x.2.1 ++ [97 + x.2.2] ++ txR false (x.2.2 : Nat) r
def syR (first : Bool) (last : Int) : List St3 → List Int
  | [] => []
  | x :: r => (if (x.1 : Int) = last then [] else (if first then [] else [12]) ++ [256 + (x.1 : Int)]) ++ [sgV x.2.1, 256 + (x.2.2 : Int)] ++ syR false (x.2.2 : Nat) r
theorem tx_fold : ∀ (l : List St3) (a : TA), (l.foldl txStep a).t = a.t ++ txR (decide (a.t = [])) a.last l
  | [], a => by simp [txR]
  | x :: r, a => by
    rw [List.foldl_cons, tx_fold r]
    have hne : (txStep a x).t ≠ [] := by unfold txStep; simp
    have e1 : decide ((txStep a x).t = []) = false := decide_eq_false hne
    rw [e1]
    show (txStep a x).t ++ txR false (x.2.2 : Nat) r = _
    unfold txStep
    simp only [txR]
    by_cases c1 : (x.1 : Int) = a.last
    · simp [c1]
    · by_cases c2 : a.t = []
      · simp [c1, c2]
      · simp [c1, c2]
theorem toks_R : ∀ (l : List St3) (first : Bool) (last : Int), (∀ x ∈ l, Ok3 x) → Toks (txR first last l) (syR first last l)
  | [], _, _, _ => .nil
  | (o, g, w) :: r, first, last, h => by
    obtain ⟨h1, h2, h3⟩ := h _ List.mem_cons_self
    simp only at h1 h2 h3
    have ih := toks_R r false (w : Nat) fun y hy => h y (List.mem_cons_of_mem _ hy)
    have t1 : Toks ((97 + w) :: txR false (w : Nat) r) ((256 + (w : Int)) :: syR false (w : Nat) r) := by
      have := Toks.letter (c := 97 + w) ⟨by omega, by omega⟩ ih
      rwa [show (256 + (((97 + w : Nat) : Int) - 97)) = 256 + (w : Int) by omega] at this
    have t2 : Toks (sgL g ++ (97 + w) :: txR false (w : Nat) r) (sgV g :: (256 + (w : Int)) :: syR false (w : Nat) r) := .sign h2 ⟨by omega, by omega⟩ t1
    have t3 : Toks ((97 + o) :: (sgL g ++ (97 + w) :: txR false (w : Nat) r)) ((256 + (o : Int)) :: sgV g :: (256 + (w : Int)) :: syR false (w : Nat) r) := by
      have := Toks.letter (c := 97 + o) ⟨by omega, by omega⟩ t2
      rwa [show (256 + (((97 + o : Nat) : Int) - 97)) = 256 + (o : Int) by omega] at this
    unfold txR syR
    simp only
    by_cases c1 : (o : Int) = last
    · simpa [c1] using t2
    · cases first with
      | true => simpa [c1] using t3
      | false => simpa [c1] using Toks.comma ⟨by omega, by omega⟩ t3
theorem syR_len : ∀ (l : List St3) (first : Bool) (last : Int), (syR first last l).length ≤ 4 * l.length
  | [], _, _ => by simp [syR]
  | x :: r, first, last => by
    have ih := syR_len r false (x.2.2 : Nat)
    unfold syR
    simp only [List.length_append, List.length_cons, List.length_nil]
    split
    · simp; omega
    · cases first <;> simp <;> omega
theorem txR_len : ∀ (l : List St3) (first : Bool) (last : Int), (txR first last l).length ≤ 5 * l.length
  | [], _, _ => by simp [txR]
  | x :: r, first, last => by
    have ih := txR_len r false (x.2.2 : Nat)
    have hg := sgL_len x.2.1
    unfold txR
    simp only [List.length_append, List.length_cons, List.length_nil]
    split
    · simp; omega
    · cases first <;> simp <;> omega
theorem symbols_of {n : Nat} {l : List St3} (hl : l.length ≤ 5) (hok : ∀ x ∈ l, Ok3 x) : callN PW (n + 1) "_law_symbols" [.str (S (txAll l))] = some (.list ((syR true (-1) l).map .int ++ [.int 0])) := by
  have e : txAll l = txR true (-1) l := by unfold txAll; rw [tx_fold]; rfl
  have h1 := txR_len l true (-1)
  have h2 := syR_len l true (-1)
  rw [e]
  exact symbols_spec (toks_R l _ _ hok) (by omega) (by omega)
end
section
open PySem

theorem fn_stat : PW.fns "_law_statements" = some (fnAt pw 65) := by kernel_rfl
abbrev T3 := Int × Int × Int
abbrev encT (x : T3) : D := .tuple [.int x.1, .int x.2.1, .int x.2.2]
structure SA where
  sts : List T3
  left : Int
  sign : Int
def saStep (a : SA) (v : Int) : SA :=
  if 256 ≤ v then ⟨if 0 < a.sign then a.sts ++ [(a.left, a.sign, v - 256)] else a.sts, v - 256, 0⟩ else if v = 12 ∨ v = 0 then ⟨a.sts, a.left, 0⟩ else ⟨a.sts, a.left, v⟩
def saMk (l : D) (a : SA) : Option D → St
  | none => ⟨(fnAt pw 65).scope.names, [("symbols", l), ("statements", .list (a.sts.map encT)), ("left", .int a.left), ("sign", .int a.sign)], some "statements"⟩
  | some k => ⟨(fnAt pw 65).scope.names, [("symbols", l), ("statements", .list (a.sts.map encT)), ("left", .int a.left), ("sign", .int a.sign), ("symbol", k)], some "statements"⟩

set_option maxHeartbeats 4000000 in
theorem sa_turn {n : Nat} {l : D} {a : SA} {v : Int} {kn : Option D} (hs : a.sts.length ≤ 1000) (hv : -1000 ≤ v ∧ v ≤ 1000) :
    stepT (xs PW (rc PW (callN PW (n + 1)) 40) 19) (targetOf (fnAt pw 65).body) (bodyOf (fnAt pw 65).body) (saMk l a kn) (.int v) = some (.next (saMk l (saStep a v) (some (.int v)))) := by
  have c1 := isn_spec (n := n) (x := v)
  have c2 := ist_spec (n := n) (x := v)
  have c3 := eof_spec (n := n) (x := v)
  have hsl : (a.sts.map encT).length ≤ 1048576 := by simp only [List.length_map]; omega
  obtain ⟨sts, left, sign⟩ := a
  simp only at hs hsl
  show stepT _ (.Name _ _) (_ :: _) _ _ = _
  have go : ∀ σ0 : St, (σ0 = upd (saMk l ⟨sts, left, sign⟩ none) "symbol" (.int v) ∨ ∃ k, σ0 = upd (saMk l ⟨sts, left, sign⟩ (some k)) "symbol" (.int v)) →
      σ0 = ⟨(fnAt pw 65).scope.names, [("symbols", l), ("statements", .list (sts.map encT)), ("left", .int left), ("sign", .int sign), ("symbol", .int v)], some "statements"⟩ := by
    rintro σ0 (rfl | ⟨k, rfl⟩) <;> kernel_rfl
  refine' st_of (σ' := upd (saMk l ⟨sts, left, sign⟩ kn) "symbol" (.int v)) ?bt ?es
  case bt => cases kn <;> exact bt_name (by kernel_rfl)
  case es =>
    have e := go (upd (saMk l ⟨sts, left, sign⟩ kn) "symbol" (.int v)) (by cases kn with | none => exact .inl rfl | some k => exact .inr ⟨k, rfl⟩)
    rw [e]
    unfold saStep
    simp only
    by_cases d1 : 256 ≤ v
    · rw [if_pos d1]
      by_cases d2 : 0 < sign
      · rw [if_pos d2]
        unfold saMk
        simp only [List.map_append, List.map_cons, List.map_nil]
        refine' es_next (ex_if_t ?q1 ?q2 (es_next (ex_if_t ?q3 ?q4 (es_next ?q5 es_nil)) (es_next ?q6 es_nil))) ?q7
        case q1 => kspl_open pvtr
        case q2 => kspl_open pvct
        case q3 => kspl_open pvtr
        case q4 => kspl_open pvct
        case q5 => kspl_open pvasg
        case q6 => kspl_open pvasg
        case q7 => kspl_open pvend
      · rw [if_neg d2]
        unfold saMk
        simp only
        refine' es_next (ex_if_t ?q1 ?q2 (es_next (ex_if_f ?q3 ?q4 es_nil) (es_next ?q6 es_nil))) ?q7
        case q1 => kspl_open pvtr
        case q2 => kspl_open pvct
        case q3 => kspl_open pvtr
        case q4 => kspl_open pvcf
        case q6 => kspl_open pvasg
        case q7 => kspl_open pvend
    · rw [if_neg d1]
      by_cases d2 : v = 12 ∨ v = 0
      · rw [if_pos d2]
        unfold saMk
        simp only
        refine' es_next (ex_if_f ?q1 ?q2 (es_next (ex_if_t ?q3 ?q4 (es_next ?q5 es_nil)) es_nil)) ?q7
        case q1 => kspl_open pvtr
        case q2 => kspl_open pvcf
        case q3 => kspl_open pvtr
        case q4 => simp; omega
        case q5 => kspl_open pvasg
        case q7 => kspl_open pvend
      · rw [if_neg d2]
        unfold saMk
        simp only
        refine' es_next (ex_if_f ?q1 ?q2 (es_next (ex_if_f ?q3 ?q4 (es_next (ex_if_t ?q5 ?q6 (es_next ?q8 es_nil)) es_nil)) es_nil)) ?q7
        case q1 => kspl_open pvtr
        case q2 => kspl_open pvcf
        case q3 => kspl_open pvtr
        case q4 => simp; omega
        case q5 => kspl_open pvtr
        case q6 => kspl_open pvct
        case q8 => kspl_open pvasg
        case q7 => kspl_open pvend
end
section
open PySem

def saInv (a : SA × Option D) (l : List Int) : Prop := a.1.sts.length + l.length ≤ 1000 ∧ ∀ v ∈ l, -1000 ≤ v ∧ v ≤ 1000
set_option maxHeartbeats 4000000 in
theorem stat_loop {n : Nat} {l : List Int} (hl : l.length ≤ 500) (hv : ∀ v ∈ l, -1000 ≤ v ∧ v ≤ 1000) :
    callN PW (n + 2) "_law_statements" [.list (l.map .int)] = some (.list ((l.foldl saStep ⟨[], 0, 0⟩).sts.map encT)) := by
  refine call_of (σ := ⟨(fnAt pw 65).scope.names, [("symbols", .list (l.map .int))], none⟩) fn_stat ?h1 ?h2 ?h3
  case h1 => kernel_rfl
  case h2 => kernel_rfl
  case h3 =>
    kspl_open pvbody
    kspl_open pves
    have e0 : upd (upd (updO ⟨(fnAt pw 65).scope.names, [("symbols", .list (l.map .int))], none⟩ "statements" (.list [])) "left" (.int 0)) "sign" (.int 0) = saMk (.list (l.map .int)) ⟨[], 0, 0⟩ none := by kernel_rfl
    rw [e0]
    obtain ⟨h1, h2⟩ := fo_foldI (X := xs PW (rc PW (callN PW (n + 1)) 40) 19) (t := targetOf (fnAt pw 65).body) (body := bodyOf (fnAt pw 65).body) (enc := D.int) (mk := fun a : SA × Option D => saMk (.list (l.map .int)) a.1 a.2) (step := fun a v => (saStep a.1 v, some (.int v))) saInv
      (fun a b r h => ⟨sa_turn (by have := h.1; simp only [List.length_cons] at this; omega) (h.2 b List.mem_cons_self), by
        refine ⟨?_, fun v hv => h.2 v (List.mem_cons_of_mem _ hv)⟩
        have h3 := h.1
        simp only [List.length_cons] at h3
        show (saStep a.1 b).sts.length + _ ≤ _
        unfold saStep
        split
        · simp only; split
          · simp only [List.length_append, List.length_cons, List.length_nil]; omega
          · omega
        · split <;> simp only <;> omega⟩) l (⟨[], 0, 0⟩, none) ⟨by simp; omega, hv⟩
    have e1 : ∀ (l : List Int) (a : SA) (k : Option D), (l.foldl (fun (a : SA × Option D) v => (saStep a.1 v, some (D.int v))) (a, k)).1 = l.foldl saStep a := by
      intro l
      induction l with
      | nil => intro a k; rfl
      | cons v r ih => intro a k; simp only [List.foldl_cons]; exact ih _ _
    have e2 := e1 l ⟨[], 0, 0⟩ none
    generalize (l.foldl (fun (a : SA × Option D) v => (saStep a.1 v, some (D.int v))) (⟨[], 0, 0⟩, none)) = fin at *
    obtain ⟨a, k⟩ := fin
    simp only at e2 h1
    rw [← e2]
    refine es_next (ex_for0 (by kernel_rfl) rfl ?q3 (it_list (by simp; omega)) h1) ?q5
    case q3 => show Rc.ev _ (⟨_, [_, _, _, _], _⟩ : St) _ = _; kspl_open pvev
    case q5 =>
      cases k with
      | none =>
        refine es_retown (σ' := ⟨(fnAt pw 65).scope.names, [("symbols", .list (l.map .int)), ("statements", .list (a.sts.map encT)), ("left", .int a.left), ("sign", .int a.sign)], none⟩) (by kernel_rfl) ?_
        kspl_open pvev
      | some k =>
        refine es_retown (σ' := ⟨(fnAt pw 65).scope.names, [("symbols", .list (l.map .int)), ("statements", .list (a.sts.map encT)), ("left", .int a.left), ("sign", .int a.sign), ("symbol", k)], none⟩) (by kernel_rfl) ?_
        kspl_open pvev

def toT (x : St3) : T3 := ((x.1 : Nat), sgV x.2.1, (x.2.2 : Nat))
theorem sgV_facts {g : Nat} (h : g < 3) : 0 < sgV g ∧ sgV g < 256 ∧ ¬ (sgV g = 12 ∨ sgV g = 0) := by
  rcases (show g = 0 ∨ g = 1 ∨ g = 2 by omega) with rfl | rfl | rfl <;> decide
theorem sa_sign {a : SA} {g : Nat} (h : g < 3) : saStep a (sgV g) = ⟨a.sts, a.left, sgV g⟩ := by
  obtain ⟨h1, h2, h3⟩ := sgV_facts h
  unfold saStep; rw [if_neg (by omega), if_neg h3]
theorem sa_name {a : SA} {w : Nat} : saStep a (256 + (w : Int)) = ⟨if 0 < a.sign then a.sts ++ [(a.left, a.sign, (w : Int))] else a.sts, w, 0⟩ := by
  unfold saStep; rw [if_pos (by omega), show (256 + (w : Int) - 256) = w by omega]
theorem sa_fold : ∀ (l : List St3) (first : Bool) (last : Int) (acc : List T3) (left : Int), (∀ x ∈ l, Ok3 x) → (last = left ∨ last = -1) →
    ∃ left', (syR first last l).foldl saStep ⟨acc, left, 0⟩ = ⟨acc ++ l.map toT, left', 0⟩
  | [], first, last, acc, left, _, _ => ⟨left, by simp [syR]⟩
  | (o, g, w) :: r, first, last, acc, left, h, hl => by
    obtain ⟨h1, h2, h3⟩ := h _ List.mem_cons_self
    simp only at h1 h2 h3
    obtain ⟨p1, p2, p3⟩ := sgV_facts h2
    obtain ⟨left', ih⟩ := sa_fold r false (w : Nat) (acc ++ [toT (o, g, w)]) (w : Nat) (fun y hy => h y (List.mem_cons_of_mem _ hy)) (.inl rfl)
    refine ⟨left', ?_⟩
    have fin : ∀ left, left = (o : Int) → ([sgV g, 256 + (w : Int)] ++ syR false (w : Nat) r).foldl saStep ⟨acc, left, 0⟩ = ⟨acc ++ ((o, g, w) :: r).map toT, left', 0⟩ := by
      rintro left rfl
      simp only [List.cons_append, List.nil_append, List.foldl_cons]
      rw [sa_sign h2, sa_name]
      simp only [p1, if_true]
      have : (acc ++ [((o : Int), sgV g, (w : Int))]) = acc ++ [toT (o, g, w)] := rfl
      rw [this, ih]
      simp
    unfold syR
    simp only
    by_cases c1 : (o : Int) = last
    · rw [if_pos c1, List.nil_append]
      exact fin left (by omega)
    · rw [if_neg c1, List.append_assoc, List.append_assoc, List.foldl_append]
      have e : (if first then ([] : List Int) else [12]).foldl saStep ⟨acc, left, 0⟩ = ⟨acc, left, 0⟩ := by
        cases first
        · rfl
        · rfl
      rw [e]
      show ((256 + (o : Int)) :: _).foldl saStep _ = _
      rw [List.foldl_cons, sa_name]
      simp only [show ¬ (0 : Int) < 0 by omega, if_false]
      exact fin (o : Int) rfl
theorem syR_bound : ∀ (l : List St3) (first : Bool) (last : Int), (∀ x ∈ l, Ok3 x) → ∀ v ∈ syR first last l, 0 < v ∧ v ≤ 260
  | [], _, _, _ => by simp [syR]
  | (o, g, w) :: r, first, last, h => by
    obtain ⟨h1, h2, h3⟩ := h _ List.mem_cons_self
    simp only at h1 h2 h3
    obtain ⟨p1, p2, p3⟩ := sgV_facts h2
    have ih := syR_bound r false (w : Nat) fun y hy => h y (List.mem_cons_of_mem _ hy)
    intro v hv
    unfold syR at hv
    simp only [List.mem_append, List.mem_cons, List.not_mem_nil, or_false] at hv
    rcases hv with (hv | rfl | rfl) | hv
    · split at hv
      · simp at hv
      · simp only [List.mem_append, List.mem_cons, List.not_mem_nil, or_false] at hv
        rcases hv with hv | rfl
        · cases first <;> simp at hv; omega
        · omega
    · omega
    · omega
    · exact ih v hv
theorem statements_of {n : Nat} {l : List St3} (hl : l.length ≤ 5) (hok : ∀ x ∈ l, Ok3 x) : callN PW (n + 2) "_law_statements" [.list ((syR true (-1) l).map .int ++ [.int 0])] = some (.list ((l.map toT).map encT)) := by
  have h2 := syR_len l true (-1)
  have e : (syR true (-1) l).map D.int ++ [.int 0] = (syR true (-1) l ++ [0]).map D.int := by simp
  rw [e, stat_loop (by simp only [List.length_append, List.length_cons, List.length_nil]; omega) (fun v hv => by
    simp only [List.mem_append, List.mem_cons, List.not_mem_nil, or_false] at hv
    rcases hv with hv | rfl
    · have := syR_bound l true (-1) hok v hv; omega
    · omega)]
  obtain ⟨left', h⟩ := sa_fold l true (-1) [] 0 hok (.inr rfl)
  rw [List.foldl_append, h]
  rfl
end
section
open PySem

def ins (c : Nat) (o : List Nat) : List (List Nat) := (List.range (o.length + 1)).map fun k => o.take k ++ [c] ++ o.drop k
def ordersL : List (List Nat) := [97, 98, 99, 100].foldl (fun os c => os.flatMap (ins c)) [[]]
theorem fn_ord : PW.fns "_law_orders" = some (fnAt pw 69) := by kernel_rfl
theorem orders_spec {n : Nat} : callN PW (n + 1) "_law_orders" [] = some (.list (ordersL.map fun o => .str (S o))) := by kernel_rfl
def before (o w : Nat) (l : List Nat) : Bool := decide (l.idxOf (97 + o) < l.idxOf (97 + w))
def wantL (o w : Nat) : List Nat := [46, 46, 46] ++ [97 + o] ++ [46, 46, 46] ++ [97 + w] ++ [46, 46, 46]
def isB (d : Option D) (b : Bool) : Bool := match d with
  | some (.bool c) => c == b
  | _ => false
theorem isB_eq {d : Option D} {b : Bool} (h : isB d b = true) : d = some (.bool b) := by
  unfold isB at h
  split at h
  · rw [beq_iff_eq.mp h]
  · cases h
theorem match_00 (n : Nat) : (ordersL.all fun l => isB (callN PW (n + 1) "_ellipsis_match" [.str (S (wantL 0 0)), .str (S l)]) (before 0 0 l)) = true := by kernel_rfl
theorem match_01 (n : Nat) : (ordersL.all fun l => isB (callN PW (n + 1) "_ellipsis_match" [.str (S (wantL 0 1)), .str (S l)]) (before 0 1 l)) = true := by kernel_rfl
theorem match_02 (n : Nat) : (ordersL.all fun l => isB (callN PW (n + 1) "_ellipsis_match" [.str (S (wantL 0 2)), .str (S l)]) (before 0 2 l)) = true := by kernel_rfl
theorem match_03 (n : Nat) : (ordersL.all fun l => isB (callN PW (n + 1) "_ellipsis_match" [.str (S (wantL 0 3)), .str (S l)]) (before 0 3 l)) = true := by kernel_rfl
theorem match_10 (n : Nat) : (ordersL.all fun l => isB (callN PW (n + 1) "_ellipsis_match" [.str (S (wantL 1 0)), .str (S l)]) (before 1 0 l)) = true := by kernel_rfl
theorem match_11 (n : Nat) : (ordersL.all fun l => isB (callN PW (n + 1) "_ellipsis_match" [.str (S (wantL 1 1)), .str (S l)]) (before 1 1 l)) = true := by kernel_rfl
theorem match_12 (n : Nat) : (ordersL.all fun l => isB (callN PW (n + 1) "_ellipsis_match" [.str (S (wantL 1 2)), .str (S l)]) (before 1 2 l)) = true := by kernel_rfl
theorem match_13 (n : Nat) : (ordersL.all fun l => isB (callN PW (n + 1) "_ellipsis_match" [.str (S (wantL 1 3)), .str (S l)]) (before 1 3 l)) = true := by kernel_rfl
theorem match_20 (n : Nat) : (ordersL.all fun l => isB (callN PW (n + 1) "_ellipsis_match" [.str (S (wantL 2 0)), .str (S l)]) (before 2 0 l)) = true := by kernel_rfl
theorem match_21 (n : Nat) : (ordersL.all fun l => isB (callN PW (n + 1) "_ellipsis_match" [.str (S (wantL 2 1)), .str (S l)]) (before 2 1 l)) = true := by kernel_rfl
theorem match_22 (n : Nat) : (ordersL.all fun l => isB (callN PW (n + 1) "_ellipsis_match" [.str (S (wantL 2 2)), .str (S l)]) (before 2 2 l)) = true := by kernel_rfl
theorem match_23 (n : Nat) : (ordersL.all fun l => isB (callN PW (n + 1) "_ellipsis_match" [.str (S (wantL 2 3)), .str (S l)]) (before 2 3 l)) = true := by kernel_rfl
theorem match_30 (n : Nat) : (ordersL.all fun l => isB (callN PW (n + 1) "_ellipsis_match" [.str (S (wantL 3 0)), .str (S l)]) (before 3 0 l)) = true := by kernel_rfl
theorem match_31 (n : Nat) : (ordersL.all fun l => isB (callN PW (n + 1) "_ellipsis_match" [.str (S (wantL 3 1)), .str (S l)]) (before 3 1 l)) = true := by kernel_rfl
theorem match_32 (n : Nat) : (ordersL.all fun l => isB (callN PW (n + 1) "_ellipsis_match" [.str (S (wantL 3 2)), .str (S l)]) (before 3 2 l)) = true := by kernel_rfl
theorem match_33 (n : Nat) : (ordersL.all fun l => isB (callN PW (n + 1) "_ellipsis_match" [.str (S (wantL 3 3)), .str (S l)]) (before 3 3 l)) = true := by kernel_rfl
theorem match_of {n o w : Nat} {l : List Nat} (hl : l ∈ ordersL) (ho : o < 4) (hw : w < 4) : callN PW (n + 1) "_ellipsis_match" [.str (S (wantL o w)), .str (S l)] = some (.bool (before o w l)) := by
  have key : ∀ {o w : Nat}, (ordersL.all fun l => isB (callN PW (n + 1) "_ellipsis_match" [.str (S (wantL o w)), .str (S l)]) (before o w l)) = true → callN PW (n + 1) "_ellipsis_match" [.str (S (wantL o w)), .str (S l)] = some (.bool (before o w l)) := fun h => isB_eq (List.all_eq_true.mp h l hl)
  rcases (show o = 0 ∨ o = 1 ∨ o = 2 ∨ o = 3 by omega) with rfl | rfl | rfl | rfl <;> rcases (show w = 0 ∨ w = 1 ∨ w = 2 ∨ w = 3 by omega) with rfl | rfl | rfl | rfl
  · exact key (match_00 n)
  · exact key (match_01 n)
  · exact key (match_02 n)
  · exact key (match_03 n)
  · exact key (match_10 n)
  · exact key (match_11 n)
  · exact key (match_12 n)
  · exact key (match_13 n)
  · exact key (match_20 n)
  · exact key (match_21 n)
  · exact key (match_22 n)
  · exact key (match_23 n)
  · exact key (match_30 n)
  · exact key (match_31 n)
  · exact key (match_32 n)
  · exact key (match_33 n)
end
section
open PySem

local macro_rules | `(tactic| kspl_open pvev) => `(tactic| ((with_reducible refine' ev_ifI ?h1 ?h2 ?h3); (case h1 => kspl_open pvtr); (case h2 => kspl_open pvev); (case h3 => kspl_open pvev)))
theorem fn_ways : PW.fns "_law_ways" = some (fnAt pw 70) := by kernel_rfl
abbrev Way := List Nat × List Int
abbrev encW (x : Way) : D := .tuple [.str (S x.1), .list (x.2.map .int)]
/-- does the order fit the statement -/
def wyOk (s : T3) (x : Way) : Bool :=
  ((before s.1.toNat s.2.2.toNat x.1 && (!decide (s.2.1 = 21) && true)) || ((!before s.1.toNat s.2.2.toNat x.1 && (!decide (s.1 = s.2.2) && (!decide (s.2.1 = 20) && true))) || false))
def wyNew (s : T3) (x : Way) : Way := (x.1, x.2 ++ [if before s.1.toNat s.2.2.toNat x.1 then 20 else 21])
def wyStep (ws : List Way) (s : T3) : List Way := (ws.filter (wyOk s)).map (wyNew s)
def OkT (s : T3) : Prop := 0 ≤ s.1 ∧ s.1 < 4 ∧ 0 ≤ s.2.2 ∧ s.2.2 < 4 ∧ 0 ≤ s.2.1 ∧ s.2.1 ≤ 100
def wyMk (l os : D) (ws : List Way) : Option (D × D × D × D) → St
  | none => ⟨(fnAt pw 70).scope.names, [("statements", l), ("orders", os), ("ways", .list (ws.map encW))], none⟩
  | some (a, b, c, d) => ⟨(fnAt pw 70).scope.names, [("statements", l), ("orders", os), ("ways", .list (ws.map encW)), ("one", a), ("sign", b), ("two", c), ("asked", d)], none⟩

set_option maxHeartbeats 8000000 in
theorem wy_turn {n : Nat} {l os : D} {ws : List Way} {s : T3} {kn : Option (D × D × D × D)} (hs : OkT s) (hw : ∀ x ∈ ws, x.1 ∈ ordersL ∧ x.2.length ≤ 100) (hl : ws.length ≤ 1000) :
    ∃ k', stepT (xs PW (rc PW (callN PW (n + 1)) 40) 19) (targetOf (fnAt pw 70).body) (bodyOf (fnAt pw 70).body) (wyMk l os ws kn) (encT s) = some (.next (wyMk l os (wyStep ws s) k')) := by
  obtain ⟨one, sign, two⟩ := s
  obtain ⟨h1, h2, h3, h4, h5, h6⟩ := hs
  simp only at h1 h2 h3 h4 h5 h6
  have k1 : Str.ofString "..." = S [46, 46, 46] := by decide +kernel
  have k3 : Str.ofString "abcd" = S [97, 98, 99, 100] := by decide +kernel
  have i1 : itemD (.str (S [97, 98, 99, 100])) (.int one) = some (.str (S [97 + one.toNat])) := by
    have := im_S (a := [97, 98, 99, 100]) (k := one.toNat) (c := 97 + one.toNat) (by
      rcases (show one.toNat = 0 ∨ one.toNat = 1 ∨ one.toNat = 2 ∨ one.toNat = 3 by omega) with e | e | e | e <;> rw [e] <;> rfl) (by omega)
    rwa [show ((one.toNat : Nat) : Int) = one by omega] at this
  have i2 : itemD (.str (S [97, 98, 99, 100])) (.int two) = some (.str (S [97 + two.toNat])) := by
    have := im_S (a := [97, 98, 99, 100]) (k := two.toNat) (c := 97 + two.toNat) (by
      rcases (show two.toNat = 0 ∨ two.toNat = 1 ∨ two.toNat = 2 ∨ two.toNat = 3 by omega) with e | e | e | e <;> rw [e] <;> rfl) (by omega)
    rwa [show ((two.toNat : Nat) : Int) = two by omega] at this
  have hm : ∀ x ∈ ws, callN PW (n + 1) "_ellipsis_match" [.str (S ([46, 46, 46] ++ [97 + one.toNat] ++ [46, 46, 46] ++ [97 + two.toNat] ++ [46, 46, 46])), .str (S x.1)] = some (.bool (before one.toNat two.toNat x.1)) :=
    fun x hx => match_of (hw x hx).1 (by omega) (by omega)
  have hlw : (ws.map encW).length ≤ 1048576 := by simp only [List.length_map]; omega
  have hfl : ∀ (c : Way → Bool) (f : Way → D), ((ws.filter c).map f).length ≤ 1048576 := fun c f => by
    have := List.length_filter_le c ws
    simp only [List.length_map]; omega
  refine ⟨some (.int one, .int sign, .int two, .list (ws.map fun x => .bool (before one.toNat two.toNat x.1))), ?_⟩
  show stepT _ (.Tuple _ _ _) (_ :: _) _ (.tuple [.int one, .int sign, .int two]) = _
  refine' st_of (σ' := upd (upd (upd (wyMk l os ws kn) "one" (.int one)) "sign" (.int sign)) "two" (.int two)) ?bt ?es
  case bt => refine' bt_tup rfl (by kernel_rfl) (sa_cons (by cases kn <;> kernel_rfl) (sa_cons (by cases kn <;> kernel_rfl) (sa_cons (by cases kn <;> kernel_rfl) sa_nil)))
  case es =>
    have rest : exsD (xs PW (rc PW (callN PW (n + 1)) 40) 19) (⟨(fnAt pw 70).scope.names, [("statements", l), ("orders", os), ("ways", .list (ws.map encW)), ("one", .int one), ("sign", .int sign), ("two", .int two), ("asked", .list (ws.map fun x => .bool (before one.toNat two.toNat x.1)))], none⟩ : St) ((bodyOf (fnAt pw 70).body).drop 1) =
        some (.next (wyMk l os (wyStep ws (one, sign, two)) (some (.int one, .int sign, .int two, .list (ws.map fun x => .bool (before one.toNat two.toNat x.1)))))) := by
      have hla : (ws.map fun x => D.bool (before one.toNat two.toNat x.1)).length ≤ 1048576 := by simp only [List.length_map]; omega
      show exsD _ _ (_ :: _) = _
      have hnil : ((ws.filter fun x => !(before one.toNat two.toNat x.1 == true) && (!(before one.toNat two.toNat x.1 == false) && true)).map fun x => D.bool (before one.toNat two.toNat x.1)) = [] := by
        rw [List.map_eq_nil_iff, List.filter_eq_nil_iff]
        intro x _
        cases before one.toNat two.toNat x.1 <;> simp
      with_reducible refine' es_next (ex_if_f ?q1a ?q2a es_nil) ?q3a
      case q1a =>
        with_reducible refine' tr_of ?t0a ?t1a ?t2a
        case t0a => rfl
        case t1a =>
          with_reducible refine' ev_cmp ?u0a ?u1a ?u2a ?u3a
          case u0a => rfl
          case u1a =>
            with_reducible refine' pk_of ?v1a ?v2a
            case v1a => rfl
            case v2a =>
              with_reducible refine' ev_comp ?c0a ?c1a ?c2a ?c3a ?c4a
              case c1a => kspl_open pvev
              case c2a => kspl_open pvitems
              case c3a =>
                with_reducible refine' cd_of ?l1a ?l2a
                case l1a => kernel_rfl
                case l2a =>
                  with_reducible refine' fl_filter (fun x hx => ?l3a)
                  case l3a => kspl_open pvturn
              case c4a => rw [hnil]; simp
              case c0a => kernel_rfl
          case u2a => kspl_open pvpk
          case u3a => rw [hnil]; with_reducible exact cm_neNil
        case t2a => kspl_open pvtruth
      case q2a => simp
      case q3a =>
        have hN : (((ws.map encW).length : Int) - 0).toNat = ws.length := by simp
        with_reducible refine' es_next ?yz1 ?yz2
        case yz1 =>
          with_reducible refine' ex_asg ?ya0 ?ya1 ?ya2
          case ya0 => rfl
          case ya1 => kernel_rfl
          case ya2 =>
            with_reducible refine' ev_comp ?yc0 ?yc1 ?yc2 ?yc3 ?yc4
            case yc1 => kspl_open pvev
            case yc2 => kspl_open pvitems
            case yc3 =>
              with_reducible refine' cd_of ?yl1 ?yl2
              case yl1 => kernel_rfl
              case yl2 =>
                with_reducible refine' fl_filter (fun x hx => ?yl3)
                case yl3 =>
                  have hx' : x < ws.length := by rw [hN, List.mem_range] at hx; exact hx
                  have g1 := im_map encW ws ([], []) hx' (by omega)
                  have g2 := im_map (fun x : Way => D.bool (before one.toNat two.toNat x.1)) ws ([], []) hx' (by omega)
                  have g3 : (ws.getD x ([], [])).2.length ≤ 100 := by
                    have : ws.getD x ([], []) ∈ ws := by
                      rw [List.getD_eq_getElem?_getD, List.getElem?_eq_getElem hx']; exact List.getElem_mem _
                    exact (hw _ this).2
                  kspl_open pvturn
            case yc4 =>
              rw [hN, List.length_map]
              refine Nat.le_trans (List.length_filter_le _ _) ?_
              rw [List.length_range]; omega
            case yc0 => kernel_rfl
        rw [hN]
        have hfin : ((List.range ws.length).filter (fun x => wyOk (one, sign, two) (ws.getD x ([], [])))).map (fun x => encW (wyNew (one, sign, two) (ws.getD x ([], [])))) = (wyStep ws (one, sign, two)).map encW := by
          rw [range_filter ws ([], []) (wyOk (one, sign, two)) (fun y => encW (wyNew (one, sign, two) y))]
          unfold wyStep; rw [List.map_map]; rfl
        have hval : ∀ y : Way, D.tuple [D.str (S y.1), D.list (y.2.map D.int ++ [D.int (if before one.toNat two.toNat y.1 then 20 else 21)])] = encW (wyNew (one, sign, two) y) := by
          intro y; unfold wyNew encW; simp [List.map_append]
        case yz2 =>
          simp only [hval]
          refine Eq.trans (congrArg (fun u => exsD (xs PW (rc PW (callN PW (n + 1)) 40) 19) (upd (⟨(fnAt pw 70).scope.names, [("statements", l), ("orders", os), ("ways", .list (ws.map encW)), ("one", .int one), ("sign", .int sign), ("two", .int two), ("asked", .list (ws.map fun x => .bool (before one.toNat two.toNat x.1)))], none⟩ : St) "ways" (.list u)) []) hfin) ?_
          refine es_nilq ?_
          kernel_rfl
    cases kn with
    | none =>
      show exsD _ (upd (upd (upd (⟨_, [_, _, _], _⟩ : St) _ _) _ _) _ _) (_ :: _) = _
      with_reducible refine' es_next ?z1b ?z2b
      case z1b =>
        with_reducible refine' ex_asg ?a0b ?a1b ?a2b
        case a0b => rfl
        case a1b => kernel_rfl
        case a2b =>
          with_reducible refine' ev_comp ?c0b ?c1b ?c2b ?c3b ?c4b
          case c1b => kspl_open pvev
          case c2b => kspl_open pvitems
          case c3b =>
            with_reducible refine' cd_of ?l1b ?l2b
            case l1b => kernel_rfl
            case l2b =>
              with_reducible refine' fl_map1 (fun x hx => ?l3b)
              case l3b =>
                have hmx := hm x hx
                kspl_open pvturn
          case c4b => simp only [List.length_map]; omega
          case c0b => kernel_rfl
      refine Eq.trans (congrArg (fun σ => exsD _ σ _) ?_) rest
      kernel_rfl
    | some k =>
      obtain ⟨k1, k2, k3, k4⟩ := k
      show exsD _ (upd (upd (upd (⟨_, [_, _, _, _, _, _, _], _⟩ : St) _ _) _ _) _ _) (_ :: _) = _
      with_reducible refine' es_next ?z1c ?z2c
      case z1c =>
        with_reducible refine' ex_asg ?a0c ?a1c ?a2c
        case a0c => rfl
        case a1c => kernel_rfl
        case a2c =>
          with_reducible refine' ev_comp ?c0c ?c1c ?c2c ?c3c ?c4c
          case c1c => kspl_open pvev
          case c2c => kspl_open pvitems
          case c3c =>
            with_reducible refine' cd_of ?l1c ?l2c
            case l1c => kernel_rfl
            case l2c =>
              with_reducible refine' fl_map1 (fun x hx => ?l3c)
              case l3c =>
                have hmx := hm x hx
                kspl_open pvturn
          case c4c => simp only [List.length_map]; omega
          case c0c => kernel_rfl
      refine Eq.trans (congrArg (fun σ => exsD _ σ _) ?_) rest
      kernel_rfl
end
section
open PySem

theorem ordersL_len : ordersL.length = 24 := by decide +kernel
theorem wyStep_len (ws : List Way) (s : T3) : (wyStep ws s).length ≤ ws.length := by
  unfold wyStep; rw [List.length_map]; exact List.length_filter_le _ _
theorem wyStep_mem {ws : List Way} {s : T3} {x : Way} (h : x ∈ wyStep ws s) : ∃ y ∈ ws, x.1 = y.1 ∧ x.2.length = y.2.length + 1 := by
  unfold wyStep at h
  rw [List.mem_map] at h
  obtain ⟨y, hy, rfl⟩ := h
  exact ⟨y, (List.mem_filter.mp hy).1, rfl, by simp [wyNew]⟩
theorem wy_loop {n : Nat} {l0 os : D} : ∀ (l : List T3) (ws : List Way) (kn : Option (D × D × D × D)), (∀ s ∈ l, OkT s) → (∀ x ∈ ws, x.1 ∈ ordersL ∧ x.2.length + l.length ≤ 100) → ws.length ≤ 1000 →
    ∃ k', forD (xs PW (rc PW (callN PW (n + 1)) 40) 19) (targetOf (fnAt pw 70).body) (bodyOf (fnAt pw 70).body) (wyMk l0 os ws kn) (l.map encT) = some (.next (wyMk l0 os (l.foldl wyStep ws) k'))
  | [], ws, kn, _, _, _ => ⟨kn, rfl⟩
  | s :: l, ws, kn, h1, h2, h3 => by
    simp only [List.length_cons] at h2
    obtain ⟨k', e⟩ := wy_turn (n := n) (l := l0) (os := os) (kn := kn) (h1 s List.mem_cons_self) (fun x hx => ⟨(h2 x hx).1, by have := (h2 x hx).2; omega⟩) h3
    obtain ⟨k2, e2⟩ := wy_loop (n := n) (l0 := l0) (os := os) l (wyStep ws s) k' (fun x hx => h1 x (List.mem_cons_of_mem _ hx)) (fun x hx => by
      obtain ⟨y, hy, a1, a2⟩ := wyStep_mem hx
      have := h2 y hy
      exact ⟨a1 ▸ this.1, by omega⟩) (Nat.le_trans (wyStep_len ws s) h3)
    exact ⟨k2, fo_first e e2⟩
def wrStep (W : List (List Int)) (x : Way) : List (List Int) := if x.2 ∈ W then W else W ++ [x.2]
abbrev encR (r : List Int) : D := .list (r.map .int)
def wrMk (l os : D) (ws : List Way) (kn : Option (D × D × D × D)) (W : List (List Int)) (ko : Option (D × D)) : St :=
  match kn, ko with
  | none, none => ⟨(fnAt pw 70).scope.names, [("statements", l), ("orders", os), ("ways", .list (ws.map encW)), ("writings", .list (W.map encR))], some "writings"⟩
  | none, some (o, r) => ⟨(fnAt pw 70).scope.names, [("statements", l), ("orders", os), ("ways", .list (ws.map encW)), ("writings", .list (W.map encR)), ("order", o), ("row", r)], some "writings"⟩
  | some (a, b, c, d), none => ⟨(fnAt pw 70).scope.names, [("statements", l), ("orders", os), ("ways", .list (ws.map encW)), ("one", a), ("sign", b), ("two", c), ("asked", d), ("writings", .list (W.map encR))], some "writings"⟩
  | some (a, b, c, d), some (o, r) => ⟨(fnAt pw 70).scope.names, [("statements", l), ("orders", os), ("ways", .list (ws.map encW)), ("one", a), ("sign", b), ("two", c), ("asked", d), ("writings", .list (W.map encR)), ("order", o), ("row", r)], some "writings"⟩
set_option maxHeartbeats 4000000 in
theorem wr_turn {n : Nat} {l os : D} {ws : List Way} {kn : Option (D × D × D × D)} {W : List (List Int)} {ko : Option (D × D)} {x : Way} (hW : W.length ≤ 1000) :
    stepT (xs PW (rc PW (callN PW (n + 1)) 40) 19) (targetOf ((fnAt pw 70).body.drop 2)) (bodyOf ((fnAt pw 70).body.drop 2)) (wrMk l os ws kn W ko) (encW x) = some (.next (wrMk l os ws kn (wrStep W x) (some (.str (S x.1), encR x.2)))) := by
  have hsl : (W.map encR).length ≤ 1048576 := by simp only [List.length_map]; omega
  have hc := cm_ninInts (r := x.2) (W := W)
  show stepT _ (.Tuple _ _ _) (_ :: _) _ (.tuple [.str (S x.1), encR x.2]) = _
  refine' st_of (σ' := upd (upd (wrMk l os ws kn W ko) "order" (.str (S x.1))) "row" (encR x.2)) ?bt ?es
  case bt => refine' bt_tup rfl (by kernel_rfl) (sa_cons (by cases kn <;> cases ko <;> kernel_rfl) (sa_cons (by cases kn <;> cases ko <;> kernel_rfl) sa_nil))
  case es =>
    have e : upd (upd (wrMk l os ws kn W ko) "order" (.str (S x.1))) "row" (encR x.2) = wrMk l os ws kn W (some (.str (S x.1), encR x.2)) := by
      cases kn with
      | none => cases ko with | none => kernel_rfl | some k => obtain ⟨a, b⟩ := k; kernel_rfl
      | some q => obtain ⟨a1, a2, a3, a4⟩ := q; cases ko with | none => kernel_rfl | some k => obtain ⟨a, b⟩ := k; kernel_rfl
    rw [e]
    unfold wrStep
    cases kn with
    | none =>
      by_cases d : x.2 ∈ W
      · rw [if_pos d]
        show exsD _ (⟨_, [_, _, _, _, _, _], _⟩ : St) (_ :: _) = _
        refine' es_next (ex_if_f ?q1 ?q2 es_nil) ?q7
        case q1 => kspl_open pvtr
        case q2 => simp [d]
        case q7 => kspl_open pvend
      · rw [if_neg d]
        show exsD _ (⟨_, [_, _, _, _, _, _], _⟩ : St) (_ :: _) = _
        refine' es_next (ex_if_t ?q1 ?q2 (es_next ?q5 es_nil)) ?q7
        case q1 => kspl_open pvtr
        case q2 => simp [d]
        case q5 => kspl_open pvasg
        case q7 => refine es_nilq ?_; unfold wrMk; rw [List.map_append]; kernel_rfl
    | some q =>
      obtain ⟨a1, a2, a3, a4⟩ := q
      by_cases d : x.2 ∈ W
      · rw [if_pos d]
        show exsD _ (⟨_, [_, _, _, _, _, _, _, _, _, _], _⟩ : St) (_ :: _) = _
        refine' es_next (ex_if_f ?q1 ?q2 es_nil) ?q7
        case q1 => kspl_open pvtr
        case q2 => simp [d]
        case q7 => kspl_open pvend
      · rw [if_neg d]
        show exsD _ (⟨_, [_, _, _, _, _, _, _, _, _, _], _⟩ : St) (_ :: _) = _
        refine' es_next (ex_if_t ?q1 ?q2 (es_next ?q5 es_nil)) ?q7
        case q1 => kspl_open pvtr
        case q2 => simp [d]
        case q5 => kspl_open pvasg
        case q7 => refine es_nilq ?_; unfold wrMk; rw [List.map_append]; kernel_rfl
theorem wr_loop {n : Nat} {l0 os : D} {ws : List Way} {kn : Option (D × D × D × D)} : ∀ (l : List Way) (W : List (List Int)) (ko : Option (D × D)), W.length + l.length ≤ 1000 →
    ∃ k', forD (xs PW (rc PW (callN PW (n + 1)) 40) 19) (targetOf ((fnAt pw 70).body.drop 2)) (bodyOf ((fnAt pw 70).body.drop 2)) (wrMk l0 os ws kn W ko) (l.map encW) = some (.next (wrMk l0 os ws kn (l.foldl wrStep W) k'))
  | [], W, ko, _ => ⟨ko, rfl⟩
  | s :: l, W, ko, h3 => by
    simp only [List.length_cons] at h3
    have e := wr_turn (n := n) (l := l0) (os := os) (ws := ws) (kn := kn) (ko := ko) (x := s) (show W.length ≤ 1000 by omega)
    obtain ⟨k2, e2⟩ := wr_loop (n := n) (l0 := l0) (os := os) (ws := ws) (kn := kn) l (wrStep W s) _ (by
      unfold wrStep; split
      · omega
      · rw [List.length_append]; simp only [List.length_cons, List.length_nil]; omega)
    exact ⟨k2, fo_first e e2⟩
def ways0 : List Way := ordersL.map fun o => (o, [])
def writingsL (l : List T3) : List (List Int) := (l.foldl wyStep ways0).foldl wrStep []
theorem fold_wy_len : ∀ (l : List T3) (ws : List Way), (l.foldl wyStep ws).length ≤ ws.length
  | [], _ => Nat.le_refl _
  | s :: l, ws => Nat.le_trans (fold_wy_len l (wyStep ws s)) (wyStep_len ws s)
set_option maxHeartbeats 4000000 in
theorem ways_spec {n : Nat} {l : List T3} (hl : l.length ≤ 100) (hok : ∀ s ∈ l, OkT s) :
    callN PW (n + 2) "_law_ways" [.list (l.map encT), .list (ordersL.map fun o => .str (S o))] = some (.list ((writingsL l).map encR)) := by
  refine call_of (σ := ⟨(fnAt pw 70).scope.names, [("statements", .list (l.map encT)), ("orders", .list (ordersL.map fun o => .str (S o)))], none⟩) fn_ways ?h1 ?h2 ?h3
  case h1 => kernel_rfl
  case h2 => kernel_rfl
  case h3 =>
    kspl_open pvbody
    have hol : (ordersL.map fun o => D.str (S o)).length ≤ 1048576 := by rw [List.length_map, ordersL_len]; omega
    refine' es_next (σ' := wyMk (.list (l.map encT)) (.list (ordersL.map fun o => .str (S o))) ways0 none) ?z1 ?z2
    case z1 =>
      have e0 : wyMk (.list (l.map encT)) (.list (ordersL.map fun o => .str (S o))) ways0 none = upd ⟨(fnAt pw 70).scope.names, [("statements", .list (l.map encT)), ("orders", .list (ordersL.map fun o => .str (S o)))], none⟩ "ways" (.list (ordersL.map fun o => .tuple [.str (S o), .list []])) := by kernel_rfl
      rw [e0]
      with_reducible refine' ex_asg ?a0b ?a1b ?a2b
      case a0b => rfl
      case a1b => kernel_rfl
      case a2b =>
        with_reducible refine' ev_comp ?c0b ?c1b ?c2b ?c3b ?c4b
        case c1b => kspl_open pvev
        case c2b => kspl_open pvitems
        case c3b =>
          with_reducible refine' cd_of ?l1b ?l2b
          case l1b => kernel_rfl
          case l2b =>
            with_reducible refine' fl_map1 (fun x hx => ?l3b)
            case l3b => kspl_open pvturn
        case c4b => rw [List.length_map, ordersL_len]; omega
        case c0b => kernel_rfl
    case z2 =>
      obtain ⟨kn, e1⟩ := wy_loop (n := n) (l0 := .list (l.map encT)) (os := .list (ordersL.map fun o => .str (S o))) l ways0 none hok (fun x hx => by
        unfold ways0 at hx
        obtain ⟨o, ho, rfl⟩ := List.mem_map.mp hx
        exact ⟨ho, by simpa using hl⟩) (by unfold ways0; rw [List.length_map, ordersL_len]; omega)
      have hlen : (l.foldl wyStep ways0).length ≤ 24 := by
        have := fold_wy_len l ways0
        have h24 : ways0.length = 24 := by unfold ways0; rw [List.length_map, ordersL_len]
        omega
      refine es_next (ex_for0 (by kernel_rfl) rfl ?q3 (it_list (by simp; omega)) e1) ?q5
      case q3 => show Rc.ev _ (⟨_, [_, _, _], _⟩ : St) _ = _; kspl_open pvev
      case q5 =>
        have hwr : writingsL l = (l.foldl wyStep ways0).foldl wrStep [] := rfl
        generalize l.foldl wyStep ways0 = ws at *
        have hws : (ws.map encW).length ≤ 1048576 := by simp only [List.length_map]; omega
        cases kn with
        | none =>
          obtain ⟨ko, e2⟩ := wr_loop (n := n) (l0 := .list (l.map encT)) (os := .list (ordersL.map fun o => .str (S o))) (ws := ws) (kn := none) ws [] none (by simp; omega)
          rw [← hwr] at e2
          show exsD _ (⟨_, [_, _, _], _⟩ : St) (_ :: _) = _
          refine' es_next ?p1 ?p2
          case p1 => kspl_open pvasg
          case p2 =>
            refine es_next (ex_for0 (by kernel_rfl) rfl ?p3 (it_list hws) e2) ?p5
            case p3 => show Rc.ev _ (⟨_, [_, _, _, _], _⟩ : St) _ = _; kspl_open pvev
            case p5 =>
              cases ko with
              | none =>
                refine es_retown (σ' := ⟨(fnAt pw 70).scope.names, [("statements", .list (l.map encT)), ("orders", .list (ordersL.map fun o => .str (S o))), ("ways", .list (ws.map encW)), ("writings", .list ((writingsL l).map encR))], none⟩) (by kernel_rfl) ?_
                kspl_open pvev
              | some k =>
                obtain ⟨b1, b2⟩ := k
                refine es_retown (σ' := ⟨(fnAt pw 70).scope.names, [("statements", .list (l.map encT)), ("orders", .list (ordersL.map fun o => .str (S o))), ("ways", .list (ws.map encW)), ("writings", .list ((writingsL l).map encR)), ("order", b1), ("row", b2)], none⟩) (by kernel_rfl) ?_
                kspl_open pvev
        | some kq =>
          obtain ⟨a1, a2, a3, a4⟩ := kq
          obtain ⟨ko, e2⟩ := wr_loop (n := n) (l0 := .list (l.map encT)) (os := .list (ordersL.map fun o => .str (S o))) (ws := ws) (kn := some (a1, a2, a3, a4)) ws [] none (by simp; omega)
          rw [← hwr] at e2
          show exsD _ (⟨_, [_, _, _, _, _, _, _], _⟩ : St) (_ :: _) = _
          refine' es_next ?r1 ?r2
          case r1 => kspl_open pvasg
          case r2 =>
            refine es_next (ex_for0 (by kernel_rfl) rfl ?r3 (it_list hws) e2) ?r5
            case r3 => show Rc.ev _ (⟨_, [_, _, _, _, _, _, _, _], _⟩ : St) _ = _; kspl_open pvev
            case r5 =>
              cases ko with
              | none =>
                refine es_retown (σ' := ⟨(fnAt pw 70).scope.names, [("statements", .list (l.map encT)), ("orders", .list (ordersL.map fun o => .str (S o))), ("ways", .list (ws.map encW)), ("one", a1), ("sign", a2), ("two", a3), ("asked", a4), ("writings", .list ((writingsL l).map encR))], none⟩) (by kernel_rfl) ?_
                kspl_open pvev
              | some k =>
                obtain ⟨b1, b2⟩ := k
                refine es_retown (σ' := ⟨(fnAt pw 70).scope.names, [("statements", .list (l.map encT)), ("orders", .list (ordersL.map fun o => .str (S o))), ("ways", .list (ws.map encW)), ("one", a1), ("sign", a2), ("two", a3), ("asked", a4), ("writings", .list ((writingsL l).map encR)), ("order", b1), ("row", b2)], none⟩) (by kernel_rfl) ?_
                kspl_open pvev
end
section
open PySem
theorem taken_a (n : Nat) : isB (callN PW (n + 2) "_law_taken" [.str (S [100, 99, 98, 97])]) true = true := by kernel_rfl
theorem taken_b (n : Nat) : isB (callN PW (n + 2) "_law_taken" [.str (S [99, 100, 98, 97])]) true = true := by kernel_rfl
theorem taken_c (n : Nat) : isB (callN PW (n + 2) "_law_taken" [.str (S [99, 98, 100, 97])]) true = true := by kernel_rfl
theorem taken_d (n : Nat) : isB (callN PW (n + 2) "_law_taken" [.str (S [99, 98, 97, 100])]) true = true := by kernel_rfl
theorem taken_e (n : Nat) : isB (callN PW (n + 2) "_law_taken" [.str (S [100, 98, 99, 97])]) true = true := by kernel_rfl
theorem taken_f (n : Nat) : isB (callN PW (n + 2) "_law_taken" [.str (S [98, 100, 99, 97])]) true = true := by kernel_rfl
theorem taken_g (n : Nat) : isB (callN PW (n + 2) "_law_taken" [.str (S [98, 99, 100, 97])]) true = true := by kernel_rfl
theorem taken_h (n : Nat) : isB (callN PW (n + 2) "_law_taken" [.str (S [98, 99, 97, 100])]) true = true := by kernel_rfl
theorem taken_i (n : Nat) : isB (callN PW (n + 2) "_law_taken" [.str (S [100, 98, 97, 99])]) true = true := by kernel_rfl
theorem taken_j (n : Nat) : isB (callN PW (n + 2) "_law_taken" [.str (S [98, 100, 97, 99])]) true = true := by kernel_rfl
theorem taken_k (n : Nat) : isB (callN PW (n + 2) "_law_taken" [.str (S [98, 97, 100, 99])]) true = true := by kernel_rfl
theorem taken_l (n : Nat) : isB (callN PW (n + 2) "_law_taken" [.str (S [98, 97, 99, 100])]) true = true := by kernel_rfl
theorem taken_m (n : Nat) : isB (callN PW (n + 2) "_law_taken" [.str (S [100, 99, 97, 98])]) true = true := by kernel_rfl
theorem taken_n (n : Nat) : isB (callN PW (n + 2) "_law_taken" [.str (S [99, 100, 97, 98])]) true = true := by kernel_rfl
theorem taken_o (n : Nat) : isB (callN PW (n + 2) "_law_taken" [.str (S [99, 97, 100, 98])]) true = true := by kernel_rfl
theorem taken_p (n : Nat) : isB (callN PW (n + 2) "_law_taken" [.str (S [99, 97, 98, 100])]) true = true := by kernel_rfl
theorem taken_q (n : Nat) : isB (callN PW (n + 2) "_law_taken" [.str (S [100, 97, 99, 98])]) true = true := by kernel_rfl
theorem taken_r (n : Nat) : isB (callN PW (n + 2) "_law_taken" [.str (S [97, 100, 99, 98])]) true = true := by kernel_rfl
theorem taken_s (n : Nat) : isB (callN PW (n + 2) "_law_taken" [.str (S [97, 99, 100, 98])]) true = true := by kernel_rfl
theorem taken_t (n : Nat) : isB (callN PW (n + 2) "_law_taken" [.str (S [97, 99, 98, 100])]) true = true := by kernel_rfl
theorem taken_u (n : Nat) : isB (callN PW (n + 2) "_law_taken" [.str (S [100, 97, 98, 99])]) true = true := by kernel_rfl
theorem taken_v (n : Nat) : isB (callN PW (n + 2) "_law_taken" [.str (S [97, 100, 98, 99])]) true = true := by kernel_rfl
theorem taken_w (n : Nat) : isB (callN PW (n + 2) "_law_taken" [.str (S [97, 98, 100, 99])]) true = true := by kernel_rfl
theorem taken_x (n : Nat) : isB (callN PW (n + 2) "_law_taken" [.str (S [97, 98, 99, 100])]) true = true := by kernel_rfl
theorem ordersL_eq : ordersL = [[100, 99, 98, 97], [99, 100, 98, 97], [99, 98, 100, 97], [99, 98, 97, 100], [100, 98, 99, 97], [98, 100, 99, 97], [98, 99, 100, 97], [98, 99, 97, 100], [100, 98, 97, 99], [98, 100, 97, 99], [98, 97, 100, 99], [98, 97, 99, 100], [100, 99, 97, 98], [99, 100, 97, 98], [99, 97, 100, 98], [99, 97, 98, 100], [100, 97, 99, 98], [97, 100, 99, 98], [97, 99, 100, 98], [97, 99, 98, 100], [100, 97, 98, 99], [97, 100, 98, 99], [97, 98, 100, 99], [97, 98, 99, 100]] := by decide +kernel
theorem taken_of {n : Nat} {l : List Nat} (hl : l ∈ ordersL) : callN PW (n + 2) "_law_taken" [.str (S l)] = some (.bool true) := by
  rw [ordersL_eq] at hl
  simp only [List.mem_cons, List.not_mem_nil, or_false] at hl
  rcases hl with rfl | rfl | rfl | rfl | rfl | rfl | rfl | rfl | rfl | rfl | rfl | rfl | rfl | rfl | rfl | rfl | rfl | rfl | rfl | rfl | rfl | rfl | rfl | rfl
  · exact isB_eq (taken_a n)
  · exact isB_eq (taken_b n)
  · exact isB_eq (taken_c n)
  · exact isB_eq (taken_d n)
  · exact isB_eq (taken_e n)
  · exact isB_eq (taken_f n)
  · exact isB_eq (taken_g n)
  · exact isB_eq (taken_h n)
  · exact isB_eq (taken_i n)
  · exact isB_eq (taken_j n)
  · exact isB_eq (taken_k n)
  · exact isB_eq (taken_l n)
  · exact isB_eq (taken_m n)
  · exact isB_eq (taken_n n)
  · exact isB_eq (taken_o n)
  · exact isB_eq (taken_p n)
  · exact isB_eq (taken_q n)
  · exact isB_eq (taken_r n)
  · exact isB_eq (taken_s n)
  · exact isB_eq (taken_t n)
  · exact isB_eq (taken_u n)
  · exact isB_eq (taken_v n)
  · exact isB_eq (taken_w n)
  · exact isB_eq (taken_x n)
end
section
open PySem

local macro_rules | `(tactic| kspl_open pvev) => `(tactic| ((with_reducible refine' ev_ifI ?h1 ?h2 ?h3); (case h1 => kspl_open pvtr); (case h2 => kspl_open pvev); (case h3 => kspl_open pvev)))
theorem fn_stairs : PW.fns "_law_stairs" = some (fnAt pw 68) := by kernel_rfl
def mxL (r : List Nat) : Nat := r.foldl max 0
def kids (r : List Nat) : List (List Nat) := ((List.range (mxL r + 1)).map fun s => r ++ [s]) ++ ((List.range (mxL r + 2)).map fun s => (r.map fun o => if s ≤ o then o + 1 else o) ++ [s])
def WO : Nat → List (List Nat)
  | 0 => [[0]]
  | k + 1 => (WO k).flatMap kids
abbrev encN (r : List Nat) : D := .list (r.map fun x => .int (x : Nat))
def isInts : List D → List Nat → Bool
  | [], [] => true
  | .int i :: ds, x :: r => decide (i = (x : Int)) && isInts ds r
  | _, _ => false
theorem isInts_eq : ∀ {ds : List D} {r : List Nat}, isInts ds r = true → ds = r.map fun x => .int (x : Nat)
  | [], [], _ => rfl
  | .int i :: ds, x :: r, h => by
    simp only [isInts, Bool.and_eq_true, decide_eq_true_eq] at h
    rw [List.map_cons, h.1, ← isInts_eq h.2]
def isRows : List D → List (List Nat) → Bool
  | [], [] => true
  | .list u :: ds, x :: r => isInts u x && isRows ds r
  | _, _ => false
theorem isRows_eq : ∀ {ds : List D} {r : List (List Nat)}, isRows ds r = true → ds = r.map encN
  | [], [], _ => rfl
  | .list u :: ds, x :: r, h => by
    simp only [isRows, Bool.and_eq_true] at h
    rw [List.map_cons, isInts_eq h.1, ← isRows_eq h.2]
def isDs : Option (List D) → List (List Nat) → Bool
  | some ds, r => isRows ds r
  | none, _ => false
theorem all_eqDs {f : List Nat → Option (List D)} {g : List Nat → List (List Nat)} {l : List (List Nat)} (h : (l.all fun x => isDs (f x) (g x)) = true) : ∀ x ∈ l, f x = some ((g x).map encN) := by
  intro x hx
  have := List.all_eq_true.mp h x hx
  cases e : f x with
  | none => rw [e] at this; cases this
  | some ds => rw [e] at this; rw [isRows_eq this]
def isI : Option D → Nat → Bool
  | some (.int i), x => decide (i = (x : Int))
  | _, _ => false
theorem isI_eq {d : Option D} {x : Nat} (h : isI d x = true) : d = some (.int (x : Nat)) := by
  unfold isI at h
  split at h
  · rw [of_decide_eq_true h]
  · cases h
theorem WO_all : ((List.range 4).all fun k => (WO k).all fun r => decide (r.length = k + 1) && (r.all fun x => decide (x < 4)) && isI (bltD "max" [encN r]) (mxL r)) = true := by kernel_rfl
theorem WO_facts {k : Nat} (hk : k < 4) {r : List Nat} (hr : r ∈ WO k) : r.length = k + 1 ∧ (∀ x ∈ r, x < 4) ∧ bltD "max" [encN r] = some (.int (mxL r : Nat)) := by
  have h := WO_all
  simp only [List.all_eq_true, List.mem_range, Bool.and_eq_true, decide_eq_true_eq] at h
  obtain ⟨⟨a, b⟩, c⟩ := h k hk r hr
  exact ⟨a, b, isI_eq c⟩
theorem WO_lens : (WO 0).length = 1 ∧ (WO 1).length = 3 ∧ (WO 2).length = 13 ∧ (WO 3).length = 75 := by decide +kernel
abbrev rowV (v : Nat → D) : D := .list [v 0, v 1, v 2, v 3]
abbrev seenV (v : Nat → D) : D := .list [rowV v, rowV v, rowV v, rowV v]
structure Asc (v : Nat → D) : Prop where
  lt : ∀ i j, i < 4 → j < 4 → cmpD .Lt (v i) (v j) = some (decide (i < j))
  gt : ∀ i j, i < 4 → j < 4 → cmpD .Gt (v i) (v j) = some (decide (j < i))
theorem im_rowV {v : Nat → D} {i : Nat} (h : i < 4) : itemD (rowV v) (.int (i : Nat)) = some (v i) := by
  rcases (show i = 0 ∨ i = 1 ∨ i = 2 ∨ i = 3 by omega) with rfl | rfl | rfl | rfl <;> kernel_rfl
theorem im_seenV {v : Nat → D} {i : Int} (h : 0 ≤ i ∧ i < 4) : itemD (seenV v) (.int i) = some (rowV v) := by
  rcases (show i = 0 ∨ i = 1 ∨ i = 2 ∨ i = 3 by omega) with rfl | rfl | rfl | rfl <;> kernel_rfl
theorem im_encN {r : List Nat} {i : Int} (h : 0 ≤ i ∧ i.toNat < r.length) (hl : r.length ≤ 100) : itemD (encN r) (.int i) = some (.int (r.getD i.toNat 0 : Nat)) := by
  have := im_map (fun x : Nat => D.int (x : Nat)) r 0 h.2 (by omega)
  rwa [show (0 : Int) + (i.toNat : Int) = i by omega] at this
theorem getD_lt {r : List Nat} {i : Nat} (hi : i < r.length) (h : ∀ x ∈ r, x < 4) : r.getD i 0 < 4 := by
  rw [List.getD_eq_getElem?_getD, List.getElem?_eq_getElem hi]
  exact h _ (List.getElem_mem hi)
def stOk (s : T3) (r : List Nat) : Bool := ((!decide (s.2.1 = 21) && (decide (r.getD s.1.toNat 0 < r.getD s.2.2.toNat 0) && true)) || ((!decide (s.2.1 = 20) && (decide (r.getD s.2.2.toNat 0 < r.getD s.1.toNat 0) && true)) || false))
def srMk (l sn : D) (rows : List (List Nat)) (name : Int) (ko : Option (D × D × D)) : St :=
  match ko with
  | none => ⟨(fnAt pw 68).scope.names, [("statements", l), ("seen", sn), ("rows", .list (rows.map encN)), ("name", .int name)], none⟩
  | some (a, b, c) => ⟨(fnAt pw 68).scope.names, [("statements", l), ("seen", sn), ("rows", .list (rows.map encN)), ("name", .int name), ("one", a), ("sign", b), ("two", c)], none⟩
def stF (k : Nat) (rows : List (List Nat)) (s : T3) : List (List Nat) := if (if s.1 < s.2.2 then s.2.2 else s.1) = (k : Int) then rows.filter (stOk s) else rows
abbrev inner : List Stmt := (bodyOf (fnAt pw 68).body).drop 1
set_option maxHeartbeats 4000000 in
theorem sr_turn {n k : Nat} {l : D} {v : Nat → D} {rows : List (List Nat)} {s : T3} {ko : Option (D × D × D)} (hv : Asc v) (hk : k < 4) (hs : OkT s) (hsub : ∀ x ∈ rows, x ∈ WO k) (hl : rows.length ≤ 1000) :
    stepT (xs PW (rc PW (callN PW n) 40) 18) (targetOf inner) (bodyOf inner) (srMk l (seenV v) rows (k : Nat) ko) (encT s) = some (.next (srMk l (seenV v) (stF k rows s) (k : Nat) (some (.int s.1, .int s.2.1, .int s.2.2)))) := by
  obtain ⟨one, sign, two⟩ := s
  obtain ⟨h1, h2, h3, h4, h5, h6⟩ := hs
  simp only at h1 h2 h3 h4 h5 h6
  show stepT _ (.Tuple _ _ _) (_ :: _) _ (.tuple [.int one, .int sign, .int two]) = _
  refine' st_of (σ' := upd (upd (upd (srMk l (seenV v) rows (k : Nat) ko) "one" (.int one)) "sign" (.int sign)) "two" (.int two)) ?bt ?es
  case bt => refine' bt_tup rfl (by kernel_rfl) (sa_cons (by cases ko <;> kernel_rfl) (sa_cons (by cases ko <;> kernel_rfl) (sa_cons (by cases ko <;> kernel_rfl) sa_nil)))
  case es =>
    have e : upd (upd (upd (srMk l (seenV v) rows (k : Nat) ko) "one" (.int one)) "sign" (.int sign)) "two" (.int two) = srMk l (seenV v) rows (k : Nat) (some (.int one, .int sign, .int two)) := by
      cases ko with
      | none => kernel_rfl
      | some q => obtain ⟨a, b, c⟩ := q; kernel_rfl
    rw [e]
    unfold stF
    simp only
    show exsD _ (⟨_, [_, _, _, _, _, _, _], _⟩ : St) (_ :: _) = _
    by_cases d : (if one < two then two else one) = (k : Int)
    · rw [if_pos d]
      have hlr : (rows.map encN).length ≤ 1048576 := by simp only [List.length_map]; omega
      have o1 : one.toNat < k + 1 := by split at d <;> omega
      have o2 : two.toNat < k + 1 := by split at d <;> omega
      with_reducible refine' es_next (ex_if_t ?q1 ?q2 (es_next ?q5 es_nil)) ?q7
      case q1 => kspl_open pvtr
      case q2 => simp [d]
      case q5 =>
        with_reducible refine' ex_asg ?a0 ?a1 ?a2
        case a0 => rfl
        case a1 => kernel_rfl
        case a2 =>
          with_reducible refine' ev_comp ?c0 ?c1 ?c2 ?c3 ?c4
          case c1 => kspl_open pvev
          case c2 => kspl_open pvitems
          case c3 =>
            with_reducible refine' cd_of ?l1 ?l2
            case l1 => kernel_rfl
            case l2 =>
              with_reducible refine' fl_filter (fun x hx => ?l3)
              case l3 =>
                obtain ⟨w1, w2, _⟩ := WO_facts hk (hsub x hx)
                have g1 := im_encN (r := x) (i := one) ⟨h1, by omega⟩ (by omega)
                have g2 := im_encN (r := x) (i := two) ⟨h3, by omega⟩ (by omega)
                have p1 : x.getD one.toNat 0 < 4 := getD_lt (by omega) w2
                have p2 : x.getD two.toNat 0 < 4 := getD_lt (by omega) w2
                have g3 := im_seenV (v := v) (i := one) ⟨h1, h2⟩
                have g4 := im_seenV (v := v) (i := two) ⟨h3, h4⟩
                have g5 := im_rowV (v := v) p1
                have g6 := im_rowV (v := v) p2
                have g7 := hv.lt _ _ p1 p2
                have g8 := hv.gt _ _ p1 p2
                kspl_open pvturn
          case c4 =>
            rw [List.length_map]
            exact Nat.le_trans (List.length_filter_le _ _) (by omega)
          case c0 => kernel_rfl
      case q7 => kspl_open pvend
    · rw [if_neg d]
      with_reducible refine' es_next (ex_if_f ?r1 ?r2 es_nil) ?r7
      case r1 => kspl_open pvtr
      case r2 => simp [d]
      case r7 => kspl_open pvend
end
section
open PySem

local macro_rules | `(tactic| kspl_open pvev) => `(tactic| ((with_reducible refine' ev_ifI ?h1 ?h2 ?h3); (case h1 => kspl_open pvtr); (case h2 => kspl_open pvev); (case h3 => kspl_open pvev)))
theorem sub_flatMap {α β : Type} (f : α → List β) {a b : List α} (h : a.Sublist b) : (a.flatMap f).Sublist (b.flatMap f) := by
  induction h with
  | slnil => exact List.Sublist.refl _
  | cons x _ ih => rw [List.flatMap_cons]; exact List.sublist_append_of_sublist_right ih
  | cons_cons x _ ih => rw [List.flatMap_cons, List.flatMap_cons]; exact List.Sublist.append (List.Sublist.refl _) ih
theorem WO_len {k : Nat} (hk : k < 4) {rows : List (List Nat)} (h : rows.Sublist (WO k)) : rows.length ≤ 75 := by
  have h1 := h.length_le
  obtain ⟨a, b, c, d⟩ := WO_lens
  rcases (show k = 0 ∨ k = 1 ∨ k = 2 ∨ k = 3 by omega) with rfl | rfl | rfl | rfl <;> omega
theorem stF_sub (k : Nat) (rows : List (List Nat)) (s : T3) : (stF k rows s).Sublist rows := by
  unfold stF
  by_cases h : (if s.1 < s.2.2 then s.2.2 else s.1) = (k : Int)
  · rw [if_pos h]; exact List.filter_sublist
  · rw [if_neg h]; exact List.Sublist.refl _
theorem foldF_sub (k : Nat) : ∀ (l : List T3) (rows : List (List Nat)), (l.foldl (stF k) rows).Sublist rows
  | [], _ => List.Sublist.refl _
  | s :: l, rows => (foldF_sub k l (stF k rows s)).trans (stF_sub k rows s)
theorem sr_loop {n k : Nat} {l0 : D} {v : Nat → D} (hv : Asc v) (hk : k < 4) : ∀ (l : List T3) (rows : List (List Nat)) (ko : Option (D × D × D)), (∀ s ∈ l, OkT s) → rows.Sublist (WO k) →
    ∃ k', forD (xs PW (rc PW (callN PW n) 40) 18) (targetOf inner) (bodyOf inner) (srMk l0 (seenV v) rows (k : Nat) ko) (l.map encT) = some (.next (srMk l0 (seenV v) (l.foldl (stF k) rows) (k : Nat) k'))
  | [], rows, ko, _, _ => ⟨ko, rfl⟩
  | s :: l, rows, ko, h1, h2 => by
    have e := sr_turn (n := n) (l := l0) (ko := ko) hv hk (h1 s List.mem_cons_self) (fun x hx => h2.subset hx) (Nat.le_trans (WO_len hk h2) (by omega))
    obtain ⟨k2, e2⟩ := sr_loop (n := n) (l0 := l0) hv hk l (stF k rows s) _ (fun x hx => h1 x (List.mem_cons_of_mem _ hx)) ((stF_sub k rows s).trans h2)
    exact ⟨k2, fo_first e e2⟩
def grow (k : Nat) (rows : List (List Nat)) : List (List Nat) := if k = 0 then rows else rows.flatMap kids
def stage (l : List T3) (rows : List (List Nat)) (k : Nat) : List (List Nat) := l.foldl (stF k) (grow k rows)
theorem grow_sub {k : Nat} {rows : List (List Nat)} (h : rows.Sublist (WO (k - 1))) : (grow k rows).Sublist (WO k) := by
  unfold grow
  cases k with
  | zero => exact h
  | succ k => rw [if_neg (by omega)]; exact sub_flatMap kids h
theorem stage_sub {l : List T3} {k : Nat} {rows : List (List Nat)} (h : rows.Sublist (WO (k - 1))) : (stage l rows k).Sublist (WO k) := (foldF_sub k l _).trans (grow_sub h)
def osMk (l sn : D) (rows : List (List Nat)) : Option (Int × Option (D × D × D)) → St
  | none => ⟨(fnAt pw 68).scope.names, [("statements", l), ("seen", sn), ("rows", .list (rows.map encN))], none⟩
  | some (name, ko) => srMk l sn rows name ko
set_option maxHeartbeats 8000000 in
theorem grow_step {n k : Nat} {l sn : D} {rows : List (List Nat)} {ko : Option (D × D × D)} (hk : k < 4) (h : rows.Sublist (WO (k - 1))) :
    xs PW (rc PW (callN PW n) 40) 19 (srMk l sn rows (k : Nat) ko) ((bodyOf (fnAt pw 68).body).headD (.Pass ⟨0, 0, 0, 0⟩)) = some (.next (srMk l sn (grow k rows) (k : Nat) ko)) := by
  have hlr : (rows.map encN).length ≤ 1048576 := by
    simp only [List.length_map]
    have := WO_len (k := k - 1) (by omega) h
    omega
  have hlg := WO_len hk (grow_sub h)
  by_cases k0 : k = 0
  · subst k0
    cases ko with
    | none =>
      show xs _ _ _ (⟨_, [_, _, _, _], _⟩ : St) (.If _ _ _ _) = _
      refine' ex_if_f ?q1 ?q2 es_nil
      case q1 => kspl_open pvtr
      case q2 => simp
    | some q =>
      obtain ⟨a, b, c⟩ := q
      show xs _ _ _ (⟨_, [_, _, _, _, _, _, _], _⟩ : St) (.If _ _ _ _) = _
      refine' ex_if_f ?r1 ?r2 es_nil
      case r1 => kspl_open pvtr
      case r2 => simp
  · have e : grow k rows = rows.flatMap kids := by unfold grow; rw [if_neg k0]
    rw [e] at hlg ⊢
    have e2 : (rows.flatMap kids).map encN = rows.flatMap fun x => (kids x).map encN := by rw [List.map_flatMap]
    rcases (show k = 1 ∨ k = 2 ∨ k = 3 by omega) with rfl | rfl | rfl
    all_goals
      cases ko with
      | none =>
        show xs _ _ _ (⟨_, [_, _, _, _], _⟩ : St) (.If _ _ _ _) = _
        unfold srMk
        rw [e2]
        refine' ex_if_t ?q1 ?q2 (es_next ?q5 ?q7)
        case q1 => kspl_open pvtr
        case q2 => simp
        case q5 =>
          with_reducible refine' ex_asg ?a0 ?a1 ?a2
          case a0 => rfl
          case a1 => kernel_rfl
          case a2 =>
            with_reducible refine' ev_comp ?c0 ?c1 ?c2 ?c3 ?c4
            case c1 => kspl_open pvev
            case c2 => kspl_open pvitems
            case c3 =>
              with_reducible refine' cd_of ?l1 ?l2
              case l1 => kernel_rfl
              case l2 =>
                with_reducible refine' fl_map (h := fun x => (kids x).map encN) ?l3
                case l3 =>
                  intro x hx
                  have hx2 := h.subset hx
                  clear hx
                  revert x
                  refine all_eqDs (g := kids) ?_
                  kernel_rfl
            case c4 => rw [← e2, List.length_map]; omega
            case c0 => kernel_rfl
        case q7 => kspl_open pvend
      | some q =>
        obtain ⟨a, b, c⟩ := q
        show xs _ _ _ (⟨_, [_, _, _, _, _, _, _], _⟩ : St) (.If _ _ _ _) = _
        unfold srMk
        rw [e2]
        refine' ex_if_t ?r1 ?r2 (es_next ?r5 ?r7)
        case r1 => kspl_open pvtr
        case r2 => simp
        case r5 =>
          with_reducible refine' ex_asg ?b0 ?b1 ?b2
          case b0 => rfl
          case b1 => kernel_rfl
          case b2 =>
            with_reducible refine' ev_comp ?d0 ?d1 ?d2 ?d3 ?d4
            case d1 => kspl_open pvev
            case d2 => kspl_open pvitems
            case d3 =>
              with_reducible refine' cd_of ?m1 ?m2
              case m1 => kernel_rfl
              case m2 =>
                with_reducible refine' fl_map (h := fun x => (kids x).map encN) ?m3
                case m3 =>
                  intro x hx
                  have hx2 := h.subset hx
                  clear hx
                  revert x
                  refine all_eqDs (g := kids) ?_
                  kernel_rfl
            case d4 => rw [← e2, List.length_map]; omega
            case d0 => kernel_rfl
        case r7 => kspl_open pvend
end
section
open PySem

local macro_rules | `(tactic| kspl_open pvev) => `(tactic| ((with_reducible refine' ev_ifI ?h1 ?h2 ?h3); (case h1 => kspl_open pvtr); (case h2 => kspl_open pvev); (case h3 => kspl_open pvev)))
set_option maxHeartbeats 4000000 in
theorem os_turn {n k : Nat} {v : Nat → D} {l : List T3} {rows : List (List Nat)} {ko : Option (Int × Option (D × D × D))} (hv : Asc v) (hk : k < 4) (hl : l.length ≤ 100) (hok : ∀ s ∈ l, OkT s) (h : rows.Sublist (WO (k - 1))) :
    ∃ k', stepT (xs PW (rc PW (callN PW n) 40) 19) (targetOf (fnAt pw 68).body) (bodyOf (fnAt pw 68).body) (osMk (.list (l.map encT)) (seenV v) rows ko) (.int (k : Nat)) = some (.next (osMk (.list (l.map encT)) (seenV v) (stage l rows k) (some ((k : Nat), k')))) := by
  have hb : ∃ q, upd (osMk (.list (l.map encT)) (seenV v) rows ko) "name" (.int (k : Nat)) = srMk (.list (l.map encT)) (seenV v) rows (k : Nat) q := by
    cases ko with
    | none => exact ⟨none, by kernel_rfl⟩
    | some p =>
      obtain ⟨a, b⟩ := p
      refine ⟨b, ?_⟩
      cases b with
      | none => kernel_rfl
      | some c => obtain ⟨c1, c2, c3⟩ := c; kernel_rfl
  obtain ⟨q, hq⟩ := hb
  obtain ⟨k', e1⟩ := sr_loop (n := n) (l0 := .list (l.map encT)) hv hk l (grow k rows) q hok (grow_sub h)
  refine ⟨k', ?_⟩
  show stepT _ (.Name _ _) (_ :: _ :: []) _ _ = _
  refine' st_of (σ' := srMk (.list (l.map encT)) (seenV v) rows (k : Nat) q) ?bt ?es
  case bt =>
    rw [← hq]
    cases ko with
    | none => exact bt_name (by kernel_rfl)
    | some p =>
      obtain ⟨a, b⟩ := p
      cases b with
      | none => exact bt_name (by kernel_rfl)
      | some c => obtain ⟨c1, c2, c3⟩ := c; exact bt_name (by kernel_rfl)
  case es =>
    have hll : (l.map encT).length ≤ 1048576 := by simp only [List.length_map]; omega
    refine es_next (grow_step hk h) (es_next (ex_for0 (by cases q <;> kernel_rfl) rfl ?p3 (it_list hll) e1) es_nil)
    case p3 =>
      cases q with
      | none => show Rc.ev _ (⟨_, [_, _, _, _], _⟩ : St) _ = _; kspl_open pvev
      | some c => obtain ⟨c1, c2, c3⟩ := c; show Rc.ev _ (⟨_, [_, _, _, _, _, _, _], _⟩ : St) _ = _; kspl_open pvev
def stairsR (l : List T3) : List (List Nat) := stage l (stage l (stage l (stage l [[0]] 0) 1) 2) 3
def signsOf (l : List T3) (r : List Nat) : List Int := l.map fun s => if decide (r.getD s.1.toNat 0 < r.getD s.2.2.toNat 0) then 20 else 21
abbrev encS (l : List T3) (r : List Nat) : D := .tuple [.list ((signsOf l r).map .int), .int (mxL r + 1)]
theorem stairsR_sub (l : List T3) : (stairsR l).Sublist (WO 3) := stage_sub (stage_sub (stage_sub (stage_sub (List.Sublist.refl _))))
set_option maxHeartbeats 8000000 in
theorem stairs_end {n : Nat} {v : Nat → D} {l : List T3} {rows : List (List Nat)} {k' : Option (D × D × D)} (hv : Asc v) (hl : l.length ≤ 100) (hok : ∀ s ∈ l, OkT s) (h : rows.Sublist (WO 3)) :
    exsD (xs PW (rc PW (callN PW n) 40) 20) (srMk (.list (l.map encT)) (seenV v) rows 3 k') ((fnAt pw 68).body.drop 2) = some (.ret (.list (rows.map (encS l)))) := by
  have hlr : (rows.map encN).length ≤ 1048576 := by
    simp only [List.length_map]
    have := WO_len (k := 3) (by omega) h
    omega
  have hll : (l.map encT).length ≤ 1048576 := by simp only [List.length_map]; omega
  have hmap : rows.map (encS l) = rows.map fun r => .tuple [.list (l.map fun s => .int (if decide (r.getD s.1.toNat 0 < r.getD s.2.2.toNat 0) then 20 else 21)), .int (mxL r + 1)] := by
    refine List.map_congr_left fun r _ => ?_
    unfold encS signsOf; rw [List.map_map]; rfl
  have hfacts : ∀ x ∈ rows, ∀ s ∈ l, itemD (encN x) (.int s.1) = some (.int (x.getD s.1.toNat 0 : Nat)) ∧ itemD (encN x) (.int s.2.2) = some (.int (x.getD s.2.2.toNat 0 : Nat)) ∧
      itemD (seenV v) (.int s.1) = some (rowV v) ∧ itemD (seenV v) (.int s.2.2) = some (rowV v) ∧ itemD (rowV v) (.int (x.getD s.1.toNat 0 : Nat)) = some (v (x.getD s.1.toNat 0)) ∧
      itemD (rowV v) (.int (x.getD s.2.2.toNat 0 : Nat)) = some (v (x.getD s.2.2.toNat 0)) ∧ cmpD .Lt (v (x.getD s.1.toNat 0)) (v (x.getD s.2.2.toNat 0)) = some (decide (x.getD s.1.toNat 0 < x.getD s.2.2.toNat 0)) := by
    intro x hx s hs
    obtain ⟨w1, w2, w3⟩ := WO_facts (by omega) (h.subset hx)
    obtain ⟨h1, h2, h3, h4, h5, h6⟩ := hok s hs
    have p1 : x.getD s.1.toNat 0 < 4 := getD_lt (by omega) w2
    have p2 : x.getD s.2.2.toNat 0 < 4 := getD_lt (by omega) w2
    exact ⟨im_encN ⟨h1, by omega⟩ (by omega), im_encN ⟨h3, by omega⟩ (by omega), im_seenV ⟨h1, h2⟩, im_seenV ⟨h3, h4⟩, im_rowV p1, im_rowV p2, hv.lt _ _ p1 p2⟩
  cases k' with
  | none =>
    show exsD _ (⟨_, [_, _, _, _], _⟩ : St) (_ :: _) = _
    rw [hmap]
    refine' es_ret (ex_ret0 rfl ?e1)
    case e1 =>
      with_reducible refine' ev_comp ?c0 ?c1 ?c2 ?c3 ?c4
      case c1 => kspl_open pvev
      case c2 => kspl_open pvitems
      case c3 =>
        with_reducible refine' cd_of ?l1 ?l2
        case l1 => kernel_rfl
        case l2 =>
          with_reducible refine' fl_map1 (fun x hx => ?l3)
          case l3 =>
            obtain ⟨w1, w2, w3⟩ := WO_facts (by omega) (h.subset hx)
            have hfx := hfacts x hx
            with_reducible refine' tv_one ?h1 ?h2
            case h1 => kspl_open pvbt
            case h2 =>
              with_reducible refine' ev_tuple ?t1 ?t2
              case t1 =>
                with_reducible refine' mo_cons ?m1 ?m2
                case m1 =>
                  with_reducible refine' ev_comp ?d0 ?d1 ?d2 ?d3 ?d4
                  case d1 => kspl_open pvev
                  case d2 => kspl_open pvitems
                  case d3 =>
                    with_reducible refine' cd_of ?n1 ?n2
                    case n1 => kernel_rfl
                    case n2 =>
                      with_reducible refine' fl_map1 (fun s hs => ?n3)
                      case n3 =>
                        obtain ⟨f1, f2, f3, f4, f5, f6, f7⟩ := hfx s hs
                        kspl_open pvturn
                  case d4 => rw [List.length_map]; omega
                  case d0 => kernel_rfl
                case m2 => kspl_open pvmo
              case t2 => kernel_rfl
      case c4 =>
        rw [List.length_map] at hlr ⊢
        omega
      case c0 => kernel_rfl
  | some q =>
    obtain ⟨q1, q2, q3⟩ := q
    show exsD _ (⟨_, [_, _, _, _, _, _, _], _⟩ : St) (_ :: _) = _
    rw [hmap]
    refine' es_ret (ex_ret0 rfl ?e1z)
    case e1z =>
      with_reducible refine' ev_comp ?c0z ?c1z ?c2z ?c3z ?c4z
      case c1z => kspl_open pvev
      case c2z => kspl_open pvitems
      case c3z =>
        with_reducible refine' cd_of ?l1z ?l2z
        case l1z => kernel_rfl
        case l2z =>
          with_reducible refine' fl_map1 (fun x hx => ?l3z)
          case l3z =>
            obtain ⟨w1, w2, w3⟩ := WO_facts (by omega) (h.subset hx)
            have hfx := hfacts x hx
            with_reducible refine' tv_one ?h1z ?h2z
            case h1z => kspl_open pvbt
            case h2z =>
              with_reducible refine' ev_tuple ?t1z ?t2z
              case t1z =>
                with_reducible refine' mo_cons ?m1z ?m2z
                case m1z =>
                  with_reducible refine' ev_comp ?d0z ?d1z ?d2z ?d3z ?d4z
                  case d1z => kspl_open pvev
                  case d2z => kspl_open pvitems
                  case d3z =>
                    with_reducible refine' cd_of ?n1z ?n2z
                    case n1z => kernel_rfl
                    case n2z =>
                      with_reducible refine' fl_map1 (fun s hs => ?n3z)
                      case n3z =>
                        obtain ⟨f1, f2, f3, f4, f5, f6, f7⟩ := hfx s hs
                        kspl_open pvturn
                  case d4z => rw [List.length_map]; omega
                  case d0z => kernel_rfl
                case m2z => kspl_open pvmo
              case t2z => kernel_rfl
      case c4z =>
        rw [List.length_map] at hlr ⊢
        omega
      case c0z => kernel_rfl

set_option maxHeartbeats 4000000 in
theorem stairs_spec {n : Nat} {v : Nat → D} {l : List T3} (hv : Asc v) (hl : l.length ≤ 100) (hok : ∀ s ∈ l, OkT s) :
    callN PW (n + 1) "_law_stairs" [.list (l.map encT), seenV v] = some (.list ((stairsR l).map (encS l))) := by
  refine call_of (σ := ⟨(fnAt pw 68).scope.names, [("statements", .list (l.map encT)), ("seen", seenV v)], none⟩) fn_stairs ?h1 ?h2 ?h3
  case h1 => kernel_rfl
  case h2 => kernel_rfl
  case h3 =>
    have s0 : ([[0]] : List (List Nat)).Sublist (WO (0 - 1)) := List.Sublist.refl _
    obtain ⟨k0, e0⟩ := os_turn (n := n) (ko := none) hv (show 0 < 4 by omega) hl hok s0
    have s1 := stage_sub (l := l) s0
    obtain ⟨k1, e1⟩ := os_turn (n := n) (ko := some ((0 : Nat), k0)) hv (show 1 < 4 by omega) hl hok s1
    have s2 := stage_sub (l := l) (k := 1) s1
    obtain ⟨k2, e2⟩ := os_turn (n := n) (ko := some ((1 : Nat), k1)) hv (show 2 < 4 by omega) hl hok s2
    have s3 := stage_sub (l := l) (k := 2) s2
    obtain ⟨k3, e3⟩ := os_turn (n := n) (ko := some ((2 : Nat), k2)) hv (show 3 < 4 by omega) hl hok s3
    have s4 := stage_sub (l := l) (k := 3) s3
    have hf := fo_first e0 (fo_first e1 (fo_first e2 (fo_first e3 (f := .next _) (r := []) rfl)))
    kspl_open pvbody
    refine' es_next (σ' := osMk (.list (l.map encT)) (seenV v) [[0]] none) ?z1 (es_next (ex_for0 ?y1 rfl ?y3 ?y4 hf) ?z2)
    case z1 =>
      have ee : osMk (.list (l.map encT)) (seenV v) [[0]] none = upd ⟨(fnAt pw 68).scope.names, [("statements", .list (l.map encT)), ("seen", seenV v)], none⟩ "rows" (.list [.list [.int 0]]) := by kernel_rfl
      rw [ee]
      kspl_open pvasg
    case y1 => kernel_rfl
    case y3 => show Rc.ev _ (⟨_, [_, _, _], _⟩ : St) _ = _; kspl_open pvev
    case y4 => kernel_rfl
    case z2 => exact stairs_end hv hl hok s4
end
section
open PySem
def mxS (s : T3) : Int := if s.1 < s.2.2 then s.2.2 else s.1
theorem foldF_eq (k : Nat) : ∀ (l : List T3) (rows : List (List Nat)), l.foldl (stF k) rows = rows.filter fun r => l.all fun s => !decide (mxS s = (k : Int)) || stOk s r
  | [], rows => (List.filter_eq_self.mpr fun _ _ => rfl).symm
  | s :: l, rows => by
    rw [List.foldl_cons, foldF_eq k l]
    unfold stF
    by_cases h : (if s.1 < s.2.2 then s.2.2 else s.1) = (k : Int)
    · have h2 : mxS s = (k : Int) := h
      rw [if_pos h, List.filter_filter]
      apply List.filter_congr
      intro r _
      simp only [List.all_cons, h2, decide_true, Bool.not_true, Bool.false_or]
      rw [Bool.and_comm]
    · have h2 : ¬ mxS s = (k : Int) := h
      rw [if_neg h]
      apply List.filter_congr
      intro r _
      simp only [List.all_cons, h2, decide_false, Bool.not_false, Bool.true_or, Bool.true_and]
def Qk (l : List T3) (k : Nat) (r : List Nat) : Bool := l.all fun s => !decide (mxS s ≤ (k : Int)) || stOk s r
theorem filter_flatMap {α β : Type} {f : α → List β} {q : α → Bool} {q' : β → Bool} : ∀ {l : List α}, (∀ r ∈ l, ∀ c ∈ f r, q' c = q r) → (l.filter q).flatMap f = (l.flatMap f).filter q'
  | [], _ => rfl
  | r :: l, h => by
    have ih := filter_flatMap (l := l) fun r hr => h r (List.mem_cons_of_mem _ hr)
    rw [List.flatMap_cons, List.filter_append, ← ih]
    have h1 := h r List.mem_cons_self
    cases e : q r with
    | true =>
      rw [List.filter_cons_of_pos e, List.flatMap_cons]
      congr 1
      symm
      rw [List.filter_eq_self]
      intro c hc; rw [h1 c hc, e]
    | false =>
      rw [List.filter_cons_of_neg (by rw [e]; decide)]
      have : (f r).filter q' = [] := by
        rw [List.filter_eq_nil_iff]
        intro c hc; rw [h1 c hc, e]; decide
      rw [this, List.nil_append]
theorem kids_all : ((List.range 3).all fun k => (WO k).all fun r => (kids r).all fun c => (List.range (k + 1)).all fun i => (List.range (k + 1)).all fun j => decide (c.getD i 0 < c.getD j 0) == decide (r.getD i 0 < r.getD j 0)) = true := by decide +kernel
theorem kids_cmp {k : Nat} (hk : k < 3) {r c : List Nat} (hr : r ∈ WO k) (hc : c ∈ kids r) {i j : Nat} (hi : i ≤ k) (hj : j ≤ k) : decide (c.getD i 0 < c.getD j 0) = decide (r.getD i 0 < r.getD j 0) := by
  have h := kids_all
  simp only [List.all_eq_true, List.mem_range] at h
  exact beq_iff_eq.mp (h k hk r hr c hc i (by omega) j (by omega))
theorem all_congr' {α : Type} {p q : α → Bool} : ∀ {l : List α}, (∀ x ∈ l, p x = q x) → l.all p = l.all q
  | [], _ => rfl
  | x :: l, h => by rw [List.all_cons, List.all_cons, h x List.mem_cons_self, all_congr' fun y hy => h y (List.mem_cons_of_mem _ hy)]
theorem mxS_le {s : T3} {k : Int} (h : mxS s ≤ k) : s.1 ≤ k ∧ s.2.2 ≤ k := by
  unfold mxS at h; split at h <;> omega
theorem Qk_kids {l : List T3} (hok : ∀ s ∈ l, OkT s) {k : Nat} (hk : k < 3) {r c : List Nat} (hr : r ∈ WO k) (hc : c ∈ kids r) : Qk l k c = Qk l k r := by
  unfold Qk
  refine all_congr' fun s hs => ?_
  by_cases h : mxS s ≤ (k : Int)
  · obtain ⟨a, b⟩ := mxS_le h
    obtain ⟨h1, h2, h3, h4, _⟩ := hok s hs
    simp only [h, decide_true, Bool.not_true, Bool.false_or]
    unfold stOk
    rw [kids_cmp hk hr hc (i := s.1.toNat) (j := s.2.2.toNat) (by omega) (by omega), kids_cmp hk hr hc (i := s.2.2.toNat) (j := s.1.toNat) (by omega) (by omega)]
  · simp [h]
theorem Qk_step {l : List T3} {k : Nat} (r : List Nat) : (Qk l k r && l.all fun s => !decide (mxS s = ((k + 1 : Nat) : Int)) || stOk s r) = Qk l (k + 1) r := by
  unfold Qk
  induction l with
  | nil => rfl
  | cons s l ih =>
    simp only [List.all_cons]
    rw [← ih]
    have e : (!decide (mxS s ≤ ((k + 1 : Nat) : Int)) || stOk s r) = ((!decide (mxS s ≤ (k : Int)) || stOk s r) && (!decide (mxS s = ((k + 1 : Nat) : Int)) || stOk s r)) := by
      by_cases a : mxS s ≤ (k : Int)
      · have b : mxS s ≤ ((k + 1 : Nat) : Int) := by omega
        have c : ¬ mxS s = ((k + 1 : Nat) : Int) := by omega
        rw [decide_eq_true a, decide_eq_true b, decide_eq_false c]; cases stOk s r <;> rfl
      · by_cases c : mxS s = ((k + 1 : Nat) : Int)
        · have b : mxS s ≤ ((k + 1 : Nat) : Int) := by omega
          rw [decide_eq_false a, decide_eq_true b, decide_eq_true c]; cases stOk s r <;> rfl
        · have b : ¬ mxS s ≤ ((k + 1 : Nat) : Int) := by omega
          rw [decide_eq_false a, decide_eq_false b, decide_eq_false c]; cases stOk s r <;> rfl
    rw [e]
    generalize (!decide (mxS s ≤ (k : Int)) || stOk s r) = u
    generalize (!decide (mxS s = ((k + 1 : Nat) : Int)) || stOk s r) = v
    cases u <;> cases v <;> simp
theorem stage_next {l : List T3} (hok : ∀ s ∈ l, OkT s) {k : Nat} (hk : k < 3) {rows : List (List Nat)} (h : rows = (WO k).filter (Qk l k)) : stage l rows (k + 1) = (WO (k + 1)).filter (Qk l (k + 1)) := by
  unfold stage
  rw [foldF_eq]
  have e : grow (k + 1) rows = (WO (k + 1)).filter (Qk l k) := by
    unfold grow
    rw [if_neg (by omega), h]
    exact filter_flatMap fun r hr c hc => Qk_kids hok hk hr hc
  rw [e, List.filter_filter]
  apply List.filter_congr
  intro r _
  rw [← Qk_step, Bool.and_comm]
theorem stairsR_eq {l : List T3} (hok : ∀ s ∈ l, OkT s) : stairsR l = (WO 3).filter fun r => l.all fun s => stOk s r := by
  have h0 : stage l [[0]] 0 = (WO 0).filter (Qk l 0) := by
    unfold stage
    rw [foldF_eq]
    show List.filter _ (grow 0 [[0]]) = List.filter _ [[0]]
    apply List.filter_congr
    intro r _
    unfold Qk
    refine all_congr' fun s hs => ?_
    obtain ⟨h1, h2, h3, h4, _⟩ := hok s hs
    have : (mxS s ≤ ((0 : Nat) : Int)) ↔ (mxS s = ((0 : Nat) : Int)) := by unfold mxS; split <;> omega
    simp only [this]
  have h1 := stage_next hok (by omega) h0
  have h2 := stage_next hok (by omega) h1
  have h3 := stage_next hok (by omega) h2
  show stage l (stage l (stage l (stage l [[0]] 0) 1) 2) 3 = _
  rw [h3]
  apply List.filter_congr
  intro r _
  unfold Qk
  refine all_congr' fun s hs => ?_
  obtain ⟨a1, a2, a3, a4, _⟩ := hok s hs
  have : mxS s ≤ ((0 + 1 + 1 + 1 : Nat) : Int) := by unfold mxS; split <;> omega
  rw [decide_eq_true this]; rfl
/-- the signs that an order writes -/
def sgO (l : List T3) (x : List Nat) : List Int := l.map fun s => if before s.1.toNat s.2.2.toNat x then 20 else 21
theorem wyOk_fst (s : T3) (x : List Nat) (a b : List Int) : wyOk s (x, a) = wyOk s (x, b) := rfl
theorem ways_fold : ∀ (l : List T3) (ws : List Way), l.foldl wyStep ws = (ws.filter fun x => l.all fun s => wyOk s x).map fun x => (x.1, x.2 ++ sgO l x.1)
  | [], ws => by
    have h : (ws.filter fun x => ([] : List T3).all fun s => wyOk s x) = ws := List.filter_eq_self.mpr fun _ _ => rfl
    rw [h]
    simp [sgO]
  | s :: l, ws => by
    rw [List.foldl_cons, ways_fold l]
    unfold wyStep
    rw [List.filter_map, List.filter_filter, List.map_map]
    have : (fun x : Way => ((fun x : Way => l.all fun s => wyOk s x) ∘ wyNew s) x && wyOk s x) = fun x : Way => (s :: l).all fun s => wyOk s x := by
      funext x
      simp only [Function.comp, List.all_cons]
      rw [Bool.and_comm]
      rfl
    rw [this]
    refine List.map_congr_left fun x _ => ?_
    show ((wyNew s x).1, (wyNew s x).2 ++ sgO l (wyNew s x).1) = (x.1, x.2 ++ sgO (s :: l) x.1)
    unfold wyNew sgO
    rw [List.map_cons, List.append_assoc]
    rfl
theorem wr_mem (r : List Int) : ∀ (l : List Way) (W : List (List Int)), r ∈ l.foldl wrStep W ↔ r ∈ W ∨ ∃ x ∈ l, x.2 = r
  | [], W => by simp
  | x :: l, W => by
    rw [List.foldl_cons, wr_mem r l]
    unfold wrStep
    split
    · rename_i h
      constructor
      · rintro (a | ⟨y, hy, e⟩)
        · exact .inl a
        · exact .inr ⟨y, List.mem_cons_of_mem _ hy, e⟩
      · rintro (a | ⟨y, hy, e⟩)
        · exact .inl a
        · rcases List.mem_cons.mp hy with rfl | hy
          · exact .inl (e ▸ h)
          · exact .inr ⟨y, hy, e⟩
    · rename_i h
      constructor
      · rintro (a | ⟨y, hy, e⟩)
        · rcases List.mem_append.mp a with a | a
          · exact .inl a
          · exact .inr ⟨x, List.mem_cons_self, (List.mem_singleton.mp a).symm⟩
        · exact .inr ⟨y, List.mem_cons_of_mem _ hy, e⟩
      · rintro (a | ⟨y, hy, e⟩)
        · exact .inl (List.mem_append.mpr (.inl a))
        · rcases List.mem_cons.mp hy with rfl | hy
          · exact .inl (List.mem_append.mpr (.inr (List.mem_singleton.mpr e.symm)))
          · exact .inr ⟨y, hy, e⟩
theorem writings_mem {l : List T3} {r : List Int} : r ∈ writingsL l ↔ ∃ x ∈ ordersL, (∀ s ∈ l, wyOk s (x, []) = true) ∧ sgO l x = r := by
  unfold writingsL
  rw [wr_mem, ways_fold]
  unfold ways0
  constructor
  · rintro (h | ⟨y, hy, e⟩)
    · cases h
    · obtain ⟨z, hz, rfl⟩ := List.mem_map.mp hy
      obtain ⟨hz1, hz2⟩ := List.mem_filter.mp hz
      obtain ⟨x, hx, rfl⟩ := List.mem_map.mp hz1
      refine ⟨x, hx, fun s hs => List.all_eq_true.mp hz2 s hs, ?_⟩
      simpa using e
  · rintro ⟨x, hx, h1, h2⟩
    refine .inr ⟨(x, sgO l x), List.mem_map.mpr ⟨(x, []), List.mem_filter.mpr ⟨List.mem_map.mpr ⟨x, hx, rfl⟩, List.all_eq_true.mpr h1⟩, by simp⟩, h2⟩
theorem lin_all : ((WO 3).all fun w => ordersL.any fun x => (List.range 4).all fun o => (List.range 4).all fun t => (!decide (w.getD o 0 < w.getD t 0) || before o t x) && (!decide (w.getD t 0 < w.getD o 0) || !before o t x)) = true := by decide +kernel
theorem lin_of {w : List Nat} (hw : w ∈ WO 3) : ∃ x ∈ ordersL, ∀ o t, o < 4 → t < 4 → (w.getD o 0 < w.getD t 0 → before o t x = true) ∧ (w.getD t 0 < w.getD o 0 → before o t x = false) := by
  have h := lin_all
  simp only [List.all_eq_true, List.any_eq_true, List.mem_range, Bool.and_eq_true, Bool.or_eq_true, Bool.not_eq_true', decide_eq_false_iff_not] at h
  obtain ⟨x, hx, h⟩ := h w hw
  refine ⟨x, hx, fun o t ho ht => ?_⟩
  obtain ⟨a, b⟩ := h o ho t ht
  exact ⟨fun c => a.resolve_left fun d => d c, fun c => b.resolve_left fun d => d c⟩
theorem signs_in {l : List T3} (hok : ∀ s ∈ l, OkT s) {w : List Nat} (hw : w ∈ stairsR l) : signsOf l w ∈ writingsL l := by
  rw [stairsR_eq hok, List.mem_filter, List.all_eq_true] at hw
  obtain ⟨hw1, hw2⟩ := hw
  obtain ⟨x, hx, hl⟩ := lin_of hw1
  rw [writings_mem]
  have key : ∀ s ∈ l, wyOk s (x, []) = true ∧ before s.1.toNat s.2.2.toNat x = decide (w.getD s.1.toNat 0 < w.getD s.2.2.toNat 0) := by
    intro s hs
    obtain ⟨h1, h2, h3, h4, _⟩ := hok s hs
    have a := hw2 s hs
    obtain ⟨b, c⟩ := hl s.1.toNat s.2.2.toNat (by omega) (by omega)
    unfold stOk at a
    unfold wyOk
    simp only [Bool.or_eq_true, Bool.and_eq_true, Bool.not_eq_true', decide_eq_true_eq, decide_eq_false_iff_not, and_true, or_false, Bool.false_eq_true] at a ⊢
    rcases a with ⟨a1, a2⟩ | ⟨a1, a2⟩
    · exact ⟨.inl ⟨b a2, a1⟩, by rw [b a2, decide_eq_true a2]⟩
    · refine ⟨.inr ⟨c a2, fun e => ?_, a1⟩, by rw [c a2, decide_eq_false (by omega)]⟩
      rw [e] at a2; omega
  refine ⟨x, hx, fun s hs => (key s hs).1, ?_⟩
  unfold sgO signsOf
  refine List.map_congr_left fun s hs => ?_
  rw [(key s hs).2]
end
section
open PySem
def agO (w x : List Nat) (o t : Nat) : Bool := if before o t x then decide (w.getD o 0 < w.getD t 0) else decide (w.getD t 0 < w.getD o 0)
def bits6 (a b c d e f : Bool) : Nat := a.toNat + 2 * b.toNat + 4 * c.toNat + 8 * d.toNat + 16 * e.toNat + 32 * f.toNat
def maskO (w x : List Nat) : Nat := bits6 (agO w x 0 1) (agO w x 0 2) (agO w x 0 3) (agO w x 1 2) (agO w x 1 3) (agO w x 2 3)
def isP (o t : Nat) (s : T3) : Bool := (decide (s.1.toNat = o) && decide (s.2.2.toNat = t)) || (decide (s.1.toNat = t) && decide (s.2.2.toNat = o))
def maskE (l : List T3) : Nat := bits6 (l.any (isP 0 1)) (l.any (isP 0 2)) (l.any (isP 0 3)) (l.any (isP 1 2)) (l.any (isP 1 3)) (l.any (isP 2 3))
def sgW (w : List Nat) : Int := 1 - 2 * ((mxL w + 1 : Int) % 2)
def imp (a b : Bool) : Bool := !a || b
theorem bits_and : ∀ a b c d e f u v w x y z : Bool, (bits6 a b c d e f &&& bits6 u v w x y z == bits6 a b c d e f) = (imp a u && imp b v && imp c w && imp d x && imp e y && imp f z) := by decide +kernel
theorem bits_lt (a b c d e f : Bool) : bits6 a b c d e f < 64 := by revert a b c d e f; decide +kernel
def tab02 : List (List (Nat × Int)) := [[(0, -1), (52, 1), (0, 1), (30, 1), (10, 1), (62, -1), (30, -1), (10, -1), (32, 1), (0, 1), (52, -1), (32, -1), (0, -1), (7, 1), (3, 1), (55, -1), (7, -1), (3, -1), (37, 1), (1, 1), (53, -1), (37, -1), (1, -1), (31, -1), (15, -1), (11, -1), (63, 1), (31, 1), (15, 1), (11, 1), (39, -1), (7, -1), (3, -1), (55, 1), (39, 1), (7, 1), (3, 1), (37, -1), (33, -1), (1, -1), (53, 1), (37, 1), (33, 1), (1, 1), (24, 1), (8, 1), (60, -1), (24, -1), (8, -1), (48, 1), (0, 1), (52, -1), (48, -1), (0, -1), (30, -1), (26, -1), (10, -1), (62, 1), (30, 1), (26, 1), (10, 1), (56, -1), (24, -1), (8, -1), (60, 1), (56, 1), (24, 1), (8, 1), (48, -1), (32, -1), (0, -1), (52, 1), (48, 1), (32, 1), (0, 1)],
  [(0, -1), (20, 1), (32, 1), (30, 1), (42, 1), (30, -1), (62, -1), (42, -1), (0, 1), (0, 1), (20, -1), (0, -1), (32, -1), (7, 1), (35, 1), (23, -1), (39, -1), (35, -1), (5, 1), (1, 1), (21, -1), (5, -1), (33, -1), (31, -1), (47, -1), (43, -1), (31, 1), (63, 1), (47, 1), (43, 1), (7, -1), (7, -1), (35, -1), (23, 1), (7, 1), (39, 1), (35, 1), (5, -1), (1, -1), (1, -1), (21, 1), (5, 1), (1, 1), (33, 1), (24, 1), (40, 1), (28, -1), (56, -1), (40, -1), (16, 1), (0, 1), (20, -1), (16, -1), (32, -1), (30, -1), (58, -1), (42, -1), (30, 1), (62, 1), (58, 1), (42, 1), (24, -1), (24, -1), (40, -1), (28, 1), (24, 1), (56, 1), (40, 1), (16, -1), (0, -1), (0, -1), (20, 1), (16, 1), (0, 1), (32, 1)],
  [(0, -1), (4, 1), (48, 1), (14, 1), (42, 1), (14, -1), (46, -1), (58, -1), (0, 1), (16, 1), (4, -1), (16, -1), (48, -1), (7, 1), (51, 1), (7, -1), (55, -1), (51, -1), (5, 1), (17, 1), (5, -1), (21, -1), (49, -1), (15, -1), (47, -1), (59, -1), (15, 1), (47, 1), (63, 1), (59, 1), (7, -1), (23, -1), (51, -1), (7, 1), (23, 1), (55, 1), (51, 1), (5, -1), (17, -1), (17, -1), (5, 1), (21, 1), (17, 1), (49, 1), (8, 1), (40, 1), (12, -1), (40, -1), (56, -1), (0, 1), (0, 1), (4, -1), (0, -1), (48, -1), (14, -1), (42, -1), (42, -1), (14, 1), (46, 1), (42, 1), (58, 1), (8, -1), (8, -1), (40, -1), (12, 1), (8, 1), (40, 1), (56, 1), (0, -1), (0, -1), (16, -1), (4, 1), (0, 1), (16, 1), (48, 1)],
  [(0, -1), (0, 1), (52, 1), (10, 1), (42, 1), (10, -1), (42, -1), (62, -1), (0, 1), (20, 1), (0, -1), (20, -1), (52, -1), (3, 1), (51, 1), (3, -1), (51, -1), (55, -1), (1, 1), (17, 1), (1, -1), (17, -1), (53, -1), (11, -1), (43, -1), (59, -1), (11, 1), (43, 1), (59, 1), (63, 1), (3, -1), (19, -1), (51, -1), (3, 1), (19, 1), (51, 1), (55, 1), (1, -1), (17, -1), (21, -1), (1, 1), (17, 1), (21, 1), (53, 1), (8, 1), (44, 1), (8, -1), (44, -1), (60, -1), (0, 1), (4, 1), (0, -1), (4, -1), (52, -1), (10, -1), (42, -1), (46, -1), (10, 1), (42, 1), (46, 1), (62, 1), (8, -1), (12, -1), (44, -1), (8, 1), (12, 1), (44, 1), (60, 1), (0, -1), (4, -1), (20, -1), (0, 1), (4, 1), (20, 1), (52, 1)],
  [(0, -1), (52, 1), (0, 1), (22, 1), (2, 1), (54, -1), (22, -1), (2, -1), (40, 1), (8, 1), (60, -1), (40, -1), (8, -1), (7, 1), (3, 1), (55, -1), (7, -1), (3, -1), (45, 1), (9, 1), (61, -1), (45, -1), (9, -1), (23, -1), (7, -1), (3, -1), (55, 1), (23, 1), (7, 1), (3, 1), (47, -1), (15, -1), (11, -1), (63, 1), (47, 1), (15, 1), (11, 1), (45, -1), (41, -1), (9, -1), (61, 1), (45, 1), (41, 1), (9, 1), (16, 1), (0, 1), (52, -1), (16, -1), (0, -1), (48, 1), (0, 1), (52, -1), (48, -1), (0, -1), (22, -1), (18, -1), (2, -1), (54, 1), (22, 1), (18, 1), (2, 1), (48, -1), (16, -1), (0, -1), (52, 1), (48, 1), (16, 1), (0, 1), (56, -1), (40, -1), (8, -1), (60, 1), (56, 1), (40, 1), (8, 1)],
  [(0, -1), (36, 1), (16, 1), (6, 1), (2, 1), (38, -1), (6, -1), (18, -1), (40, 1), (24, 1), (44, -1), (56, -1), (24, -1), (7, 1), (19, 1), (39, -1), (23, -1), (19, -1), (45, 1), (25, 1), (45, -1), (61, -1), (25, -1), (7, -1), (7, -1), (19, -1), (39, 1), (7, 1), (23, 1), (19, 1), (47, -1), (31, -1), (27, -1), (47, 1), (63, 1), (31, 1), (27, 1), (45, -1), (57, -1), (25, -1), (45, 1), (61, 1), (57, 1), (25, 1), (0, 1), (0, 1), (36, -1), (0, -1), (16, -1), (32, 1), (0, 1), (36, -1), (32, -1), (16, -1), (6, -1), (2, -1), (2, -1), (38, 1), (6, 1), (2, 1), (18, 1), (32, -1), (0, -1), (0, -1), (36, 1), (32, 1), (0, 1), (16, 1), (40, -1), (40, -1), (24, -1), (44, 1), (40, 1), (56, 1), (24, 1)],
  [(0, -1), (4, 1), (48, 1), (6, 1), (34, 1), (6, -1), (38, -1), (50, -1), (8, 1), (24, 1), (12, -1), (24, -1), (56, -1), (7, 1), (51, 1), (7, -1), (55, -1), (51, -1), (13, 1), (25, 1), (13, -1), (29, -1), (57, -1), (7, -1), (39, -1), (51, -1), (7, 1), (39, 1), (55, 1), (51, 1), (15, -1), (31, -1), (59, -1), (15, 1), (31, 1), (63, 1), (59, 1), (13, -1), (25, -1), (25, -1), (13, 1), (29, 1), (25, 1), (57, 1), (0, 1), (32, 1), (4, -1), (32, -1), (48, -1), (0, 1), (0, 1), (4, -1), (0, -1), (48, -1), (6, -1), (34, -1), (34, -1), (6, 1), (38, 1), (34, 1), (50, 1), (0, -1), (0, -1), (32, -1), (4, 1), (0, 1), (32, 1), (48, 1), (8, -1), (8, -1), (24, -1), (12, 1), (8, 1), (24, 1), (56, 1)],
  [(0, -1), (0, 1), (52, 1), (2, 1), (34, 1), (2, -1), (34, -1), (54, -1), (8, 1), (28, 1), (8, -1), (28, -1), (60, -1), (3, 1), (51, 1), (3, -1), (51, -1), (55, -1), (9, 1), (25, 1), (9, -1), (25, -1), (61, -1), (3, -1), (35, -1), (51, -1), (3, 1), (35, 1), (51, 1), (55, 1), (11, -1), (27, -1), (59, -1), (11, 1), (27, 1), (59, 1), (63, 1), (9, -1), (25, -1), (29, -1), (9, 1), (25, 1), (29, 1), (61, 1), (0, 1), (36, 1), (0, -1), (36, -1), (52, -1), (0, 1), (4, 1), (0, -1), (4, -1), (52, -1), (2, -1), (34, -1), (38, -1), (2, 1), (34, 1), (38, 1), (54, 1), (0, -1), (4, -1), (36, -1), (0, 1), (4, 1), (36, 1), (52, 1), (8, -1), (12, -1), (28, -1), (8, 1), (12, 1), (28, 1), (60, 1)],
  [(0, -1), (52, 1), (0, 1), (20, 1), (0, 1), (52, -1), (20, -1), (0, -1), (42, 1), (10, 1), (62, -1), (42, -1), (10, -1), (5, 1), (1, 1), (53, -1), (5, -1), (1, -1), (45, 1), (9, 1), (61, -1), (45, -1), (9, -1), (21, -1), (5, -1), (1, -1), (53, 1), (21, 1), (5, 1), (1, 1), (45, -1), (13, -1), (9, -1), (61, 1), (45, 1), (13, 1), (9, 1), (47, -1), (43, -1), (11, -1), (63, 1), (47, 1), (43, 1), (11, 1), (16, 1), (0, 1), (52, -1), (16, -1), (0, -1), (50, 1), (2, 1), (54, -1), (50, -1), (2, -1), (20, -1), (16, -1), (0, -1), (52, 1), (20, 1), (16, 1), (0, 1), (50, -1), (18, -1), (2, -1), (54, 1), (50, 1), (18, 1), (2, 1), (58, -1), (42, -1), (10, -1), (62, 1), (58, 1), (42, 1), (10, 1)],
  [(0, -1), (36, 1), (16, 1), (4, 1), (0, 1), (36, -1), (4, -1), (16, -1), (42, 1), (26, 1), (46, -1), (58, -1), (26, -1), (5, 1), (17, 1), (37, -1), (21, -1), (17, -1), (45, 1), (25, 1), (45, -1), (61, -1), (25, -1), (5, -1), (5, -1), (17, -1), (37, 1), (5, 1), (21, 1), (17, 1), (45, -1), (29, -1), (25, -1), (45, 1), (61, 1), (29, 1), (25, 1), (47, -1), (59, -1), (27, -1), (47, 1), (63, 1), (59, 1), (27, 1), (0, 1), (0, 1), (36, -1), (0, -1), (16, -1), (34, 1), (2, 1), (38, -1), (34, -1), (18, -1), (4, -1), (0, -1), (0, -1), (36, 1), (4, 1), (0, 1), (16, 1), (34, -1), (2, -1), (2, -1), (38, 1), (34, 1), (2, 1), (18, 1), (42, -1), (42, -1), (26, -1), (46, 1), (42, 1), (58, 1), (26, 1)],
  [(0, -1), (32, 1), (20, 1), (0, 1), (0, 1), (32, -1), (0, -1), (20, -1), (42, 1), (30, 1), (42, -1), (62, -1), (30, -1), (1, 1), (17, 1), (33, -1), (17, -1), (21, -1), (41, 1), (25, 1), (41, -1), (57, -1), (29, -1), (1, -1), (1, -1), (17, -1), (33, 1), (1, 1), (17, 1), (21, 1), (41, -1), (25, -1), (25, -1), (41, 1), (57, 1), (25, 1), (29, 1), (43, -1), (59, -1), (31, -1), (43, 1), (59, 1), (63, 1), (31, 1), (0, 1), (4, 1), (32, -1), (4, -1), (20, -1), (34, 1), (6, 1), (34, -1), (38, -1), (22, -1), (0, -1), (0, -1), (4, -1), (32, 1), (0, 1), (4, 1), (20, 1), (34, -1), (6, -1), (6, -1), (34, 1), (38, 1), (6, 1), (22, 1), (42, -1), (46, -1), (30, -1), (42, 1), (46, 1), (62, 1), (30, 1)],
  [(0, -1), (0, 1), (52, 1), (0, 1), (32, 1), (0, -1), (32, -1), (52, -1), (10, 1), (30, 1), (10, -1), (30, -1), (62, -1), (1, 1), (49, 1), (1, -1), (49, -1), (53, -1), (9, 1), (25, 1), (9, -1), (25, -1), (61, -1), (1, -1), (33, -1), (49, -1), (1, 1), (33, 1), (49, 1), (53, 1), (9, -1), (25, -1), (57, -1), (9, 1), (25, 1), (57, 1), (61, 1), (11, -1), (27, -1), (31, -1), (11, 1), (27, 1), (31, 1), (63, 1), (0, 1), (36, 1), (0, -1), (36, -1), (52, -1), (2, 1), (6, 1), (2, -1), (6, -1), (54, -1), (0, -1), (32, -1), (36, -1), (0, 1), (32, 1), (36, 1), (52, 1), (2, -1), (6, -1), (38, -1), (2, 1), (6, 1), (38, 1), (54, 1), (10, -1), (14, -1), (30, -1), (10, 1), (14, 1), (30, 1), (62, 1)],
  [(0, -1), (52, 1), (0, 1), (30, 1), (10, 1), (62, -1), (30, -1), (10, -1), (32, 1), (0, 1), (52, -1), (32, -1), (0, -1), (6, 1), (2, 1), (54, -1), (6, -1), (2, -1), (36, 1), (0, 1), (52, -1), (36, -1), (0, -1), (30, -1), (14, -1), (10, -1), (62, 1), (30, 1), (14, 1), (10, 1), (38, -1), (6, -1), (2, -1), (54, 1), (38, 1), (6, 1), (2, 1), (36, -1), (32, -1), (0, -1), (52, 1), (36, 1), (32, 1), (0, 1), (25, 1), (9, 1), (61, -1), (25, -1), (9, -1), (49, 1), (1, 1), (53, -1), (49, -1), (1, -1), (31, -1), (27, -1), (11, -1), (63, 1), (31, 1), (27, 1), (11, 1), (57, -1), (25, -1), (9, -1), (61, 1), (57, 1), (25, 1), (9, 1), (49, -1), (33, -1), (1, -1), (53, 1), (49, 1), (33, 1), (1, 1)],
  [(0, -1), (20, 1), (32, 1), (30, 1), (42, 1), (30, -1), (62, -1), (42, -1), (0, 1), (0, 1), (20, -1), (0, -1), (32, -1), (6, 1), (34, 1), (22, -1), (38, -1), (34, -1), (4, 1), (0, 1), (20, -1), (4, -1), (32, -1), (30, -1), (46, -1), (42, -1), (30, 1), (62, 1), (46, 1), (42, 1), (6, -1), (6, -1), (34, -1), (22, 1), (6, 1), (38, 1), (34, 1), (4, -1), (0, -1), (0, -1), (20, 1), (4, 1), (0, 1), (32, 1), (25, 1), (41, 1), (29, -1), (57, -1), (41, -1), (17, 1), (1, 1), (21, -1), (17, -1), (33, -1), (31, -1), (59, -1), (43, -1), (31, 1), (63, 1), (59, 1), (43, 1), (25, -1), (25, -1), (41, -1), (29, 1), (25, 1), (57, 1), (41, 1), (17, -1), (1, -1), (1, -1), (21, 1), (17, 1), (1, 1), (33, 1)],
  [(0, -1), (16, 1), (36, 1), (26, 1), (42, 1), (26, -1), (58, -1), (46, -1), (0, 1), (4, 1), (16, -1), (4, -1), (36, -1), (2, 1), (34, 1), (18, -1), (34, -1), (38, -1), (0, 1), (0, 1), (16, -1), (0, -1), (36, -1), (26, -1), (42, -1), (42, -1), (26, 1), (58, 1), (42, 1), (46, 1), (2, -1), (2, -1), (34, -1), (18, 1), (2, 1), (34, 1), (38, 1), (0, -1), (0, -1), (4, -1), (16, 1), (0, 1), (4, 1), (36, 1), (25, 1), (45, 1), (25, -1), (61, -1), (45, -1), (17, 1), (5, 1), (17, -1), (21, -1), (37, -1), (27, -1), (59, -1), (47, -1), (27, 1), (59, 1), (63, 1), (47, 1), (25, -1), (29, -1), (45, -1), (25, 1), (29, 1), (61, 1), (45, 1), (17, -1), (5, -1), (5, -1), (17, 1), (21, 1), (5, 1), (37, 1)],
  [(0, -1), (0, 1), (52, 1), (10, 1), (42, 1), (10, -1), (42, -1), (62, -1), (0, 1), (20, 1), (0, -1), (20, -1), (52, -1), (2, 1), (50, 1), (2, -1), (50, -1), (54, -1), (0, 1), (16, 1), (0, -1), (16, -1), (52, -1), (10, -1), (42, -1), (58, -1), (10, 1), (42, 1), (58, 1), (62, 1), (2, -1), (18, -1), (50, -1), (2, 1), (18, 1), (50, 1), (54, 1), (0, -1), (16, -1), (20, -1), (0, 1), (16, 1), (20, 1), (52, 1), (9, 1), (45, 1), (9, -1), (45, -1), (61, -1), (1, 1), (5, 1), (1, -1), (5, -1), (53, -1), (11, -1), (43, -1), (47, -1), (11, 1), (43, 1), (47, 1), (63, 1), (9, -1), (13, -1), (45, -1), (9, 1), (13, 1), (45, 1), (61, 1), (1, -1), (5, -1), (21, -1), (1, 1), (5, 1), (21, 1), (53, 1)],
  [(0, -1), (52, 1), (0, 1), (28, 1), (8, 1), (60, -1), (28, -1), (8, -1), (34, 1), (2, 1), (54, -1), (34, -1), (2, -1), (4, 1), (0, 1), (52, -1), (4, -1), (0, -1), (36, 1), (0, 1), (52, -1), (36, -1), (0, -1), (28, -1), (12, -1), (8, -1), (60, 1), (28, 1), (12, 1), (8, 1), (36, -1), (4, -1), (0, -1), (52, 1), (36, 1), (4, 1), (0, 1), (38, -1), (34, -1), (2, -1), (54, 1), (38, 1), (34, 1), (2, 1), (25, 1), (9, 1), (61, -1), (25, -1), (9, -1), (51, 1), (3, 1), (55, -1), (51, -1), (3, -1), (29, -1), (25, -1), (9, -1), (61, 1), (29, 1), (25, 1), (9, 1), (59, -1), (27, -1), (11, -1), (63, 1), (59, 1), (27, 1), (11, 1), (51, -1), (35, -1), (3, -1), (55, 1), (51, 1), (35, 1), (3, 1)],
  [(0, -1), (48, 1), (4, 1), (24, 1), (8, 1), (56, -1), (24, -1), (12, -1), (34, 1), (6, 1), (50, -1), (38, -1), (6, -1), (0, 1), (0, 1), (48, -1), (0, -1), (4, -1), (32, 1), (0, 1), (48, -1), (32, -1), (4, -1), (24, -1), (8, -1), (8, -1), (56, 1), (24, 1), (8, 1), (12, 1), (32, -1), (0, -1), (0, -1), (48, 1), (32, 1), (0, 1), (4, 1), (34, -1), (34, -1), (6, -1), (50, 1), (34, 1), (38, 1), (6, 1), (25, 1), (13, 1), (57, -1), (29, -1), (13, -1), (51, 1), (7, 1), (51, -1), (55, -1), (7, -1), (25, -1), (25, -1), (13, -1), (57, 1), (25, 1), (29, 1), (13, 1), (59, -1), (31, -1), (15, -1), (59, 1), (63, 1), (31, 1), (15, 1), (51, -1), (39, -1), (7, -1), (51, 1), (55, 1), (39, 1), (7, 1)],
  [(0, -1), (16, 1), (36, 1), (24, 1), (40, 1), (24, -1), (56, -1), (44, -1), (2, 1), (6, 1), (18, -1), (6, -1), (38, -1), (0, 1), (32, 1), (16, -1), (32, -1), (36, -1), (0, 1), (0, 1), (16, -1), (0, -1), (36, -1), (24, -1), (40, -1), (40, -1), (24, 1), (56, 1), (40, 1), (44, 1), (0, -1), (0, -1), (32, -1), (16, 1), (0, 1), (32, 1), (36, 1), (2, -1), (2, -1), (6, -1), (18, 1), (2, 1), (6, 1), (38, 1), (25, 1), (45, 1), (25, -1), (61, -1), (45, -1), (19, 1), (7, 1), (19, -1), (23, -1), (39, -1), (25, -1), (57, -1), (45, -1), (25, 1), (57, 1), (61, 1), (45, 1), (27, -1), (31, -1), (47, -1), (27, 1), (31, 1), (63, 1), (47, 1), (19, -1), (7, -1), (7, -1), (19, 1), (23, 1), (7, 1), (39, 1)],
  [(0, -1), (0, 1), (52, 1), (8, 1), (40, 1), (8, -1), (40, -1), (60, -1), (2, 1), (22, 1), (2, -1), (22, -1), (54, -1), (0, 1), (48, 1), (0, -1), (48, -1), (52, -1), (0, 1), (16, 1), (0, -1), (16, -1), (52, -1), (8, -1), (40, -1), (56, -1), (8, 1), (40, 1), (56, 1), (60, 1), (0, -1), (16, -1), (48, -1), (0, 1), (16, 1), (48, 1), (52, 1), (2, -1), (18, -1), (22, -1), (2, 1), (18, 1), (22, 1), (54, 1), (9, 1), (45, 1), (9, -1), (45, -1), (61, -1), (3, 1), (7, 1), (3, -1), (7, -1), (55, -1), (9, -1), (41, -1), (45, -1), (9, 1), (41, 1), (45, 1), (61, 1), (11, -1), (15, -1), (47, -1), (11, 1), (15, 1), (47, 1), (63, 1), (3, -1), (7, -1), (23, -1), (3, 1), (7, 1), (23, 1), (55, 1)],
  [(0, -1), (52, 1), (0, 1), (20, 1), (0, 1), (52, -1), (20, -1), (0, -1), (42, 1), (10, 1), (62, -1), (42, -1), (10, -1), (4, 1), (0, 1), (52, -1), (4, -1), (0, -1), (44, 1), (8, 1), (60, -1), (44, -1), (8, -1), (20, -1), (4, -1), (0, -1), (52, 1), (20, 1), (4, 1), (0, 1), (44, -1), (12, -1), (8, -1), (60, 1), (44, 1), (12, 1), (8, 1), (46, -1), (42, -1), (10, -1), (62, 1), (46, 1), (42, 1), (10, 1), (17, 1), (1, 1), (53, -1), (17, -1), (1, -1), (51, 1), (3, 1), (55, -1), (51, -1), (3, -1), (21, -1), (17, -1), (1, -1), (53, 1), (21, 1), (17, 1), (1, 1), (51, -1), (19, -1), (3, -1), (55, 1), (51, 1), (19, 1), (3, 1), (59, -1), (43, -1), (11, -1), (63, 1), (59, 1), (43, 1), (11, 1)],
  [(0, -1), (48, 1), (4, 1), (16, 1), (0, 1), (48, -1), (16, -1), (4, -1), (42, 1), (14, 1), (58, -1), (46, -1), (14, -1), (0, 1), (0, 1), (48, -1), (0, -1), (4, -1), (40, 1), (8, 1), (56, -1), (40, -1), (12, -1), (16, -1), (0, -1), (0, -1), (48, 1), (16, 1), (0, 1), (4, 1), (40, -1), (8, -1), (8, -1), (56, 1), (40, 1), (8, 1), (12, 1), (42, -1), (42, -1), (14, -1), (58, 1), (42, 1), (46, 1), (14, 1), (17, 1), (5, 1), (49, -1), (21, -1), (5, -1), (51, 1), (7, 1), (51, -1), (55, -1), (7, -1), (17, -1), (17, -1), (5, -1), (49, 1), (17, 1), (21, 1), (5, 1), (51, -1), (23, -1), (7, -1), (51, 1), (55, 1), (23, 1), (7, 1), (59, -1), (47, -1), (15, -1), (59, 1), (63, 1), (47, 1), (15, 1)],
  [(0, -1), (32, 1), (20, 1), (0, 1), (0, 1), (32, -1), (0, -1), (20, -1), (42, 1), (30, 1), (42, -1), (62, -1), (30, -1), (0, 1), (16, 1), (32, -1), (16, -1), (20, -1), (40, 1), (24, 1), (40, -1), (56, -1), (28, -1), (0, -1), (0, -1), (16, -1), (32, 1), (0, 1), (16, 1), (20, 1), (40, -1), (24, -1), (24, -1), (40, 1), (56, 1), (24, 1), (28, 1), (42, -1), (58, -1), (30, -1), (42, 1), (58, 1), (62, 1), (30, 1), (1, 1), (5, 1), (33, -1), (5, -1), (21, -1), (35, 1), (7, 1), (35, -1), (39, -1), (23, -1), (1, -1), (1, -1), (5, -1), (33, 1), (1, 1), (5, 1), (21, 1), (35, -1), (7, -1), (7, -1), (35, 1), (39, 1), (7, 1), (23, 1), (43, -1), (47, -1), (31, -1), (43, 1), (47, 1), (63, 1), (31, 1)],
  [(0, -1), (0, 1), (52, 1), (0, 1), (32, 1), (0, -1), (32, -1), (52, -1), (10, 1), (30, 1), (10, -1), (30, -1), (62, -1), (0, 1), (48, 1), (0, -1), (48, -1), (52, -1), (8, 1), (24, 1), (8, -1), (24, -1), (60, -1), (0, -1), (32, -1), (48, -1), (0, 1), (32, 1), (48, 1), (52, 1), (8, -1), (24, -1), (56, -1), (8, 1), (24, 1), (56, 1), (60, 1), (10, -1), (26, -1), (30, -1), (10, 1), (26, 1), (30, 1), (62, 1), (1, 1), (37, 1), (1, -1), (37, -1), (53, -1), (3, 1), (7, 1), (3, -1), (7, -1), (55, -1), (1, -1), (33, -1), (37, -1), (1, 1), (33, 1), (37, 1), (53, 1), (3, -1), (7, -1), (39, -1), (3, 1), (7, 1), (39, 1), (55, 1), (11, -1), (15, -1), (31, -1), (11, 1), (15, 1), (31, 1), (63, 1)]]
theorem tab_ok : (ordersL.map fun x => (WO 3).map fun w => (maskO w x, sgW w)) = tab02 := by decide +kernel
theorem tab_sum : (tab02.all fun row => (List.range 64).all fun E => decide (((row.filter fun p => E &&& p.1 == E).map fun p => p.2).sum = 1)) = true := by decide +kernel
theorem sum_one {x : List Nat} (hx : x ∈ ordersL) {E : Nat} (hE : E < 64) : (((WO 3).filter fun w => E &&& maskO w x == E).map sgW).sum = 1 := by
  have h := tab_sum
  rw [← tab_ok] at h
  simp only [List.all_eq_true, List.mem_map, List.mem_range, decide_eq_true_eq] at h
  have h2 := h _ ⟨x, hx, rfl⟩ E hE
  rw [List.filter_map, List.map_map] at h2
  exact h2
theorem sym_all : (ordersL.all fun x => (List.range 4).all fun o => (List.range 4).all fun t => decide (o = t) || (before t o x == !before o t x)) = true := by decide +kernel
theorem ag_sym {w x : List Nat} (hx : x ∈ ordersL) {o t : Nat} (ho : o < 4) (ht : t < 4) (h : o ≠ t) : agO w x t o = agO w x o t := by
  have a := sym_all
  simp only [List.all_eq_true, List.mem_range, Bool.or_eq_true, decide_eq_true_eq, beq_iff_eq] at a
  have b := (a x hx o ho t ht).resolve_left h
  unfold agO
  rw [b]
  cases before o t x <;> rfl
theorem any_ag {l : List T3} {w x : List Nat} (hx : x ∈ ordersL) {o t : Nat} (ho : o < 4) (ht : t < 4) (h : o ≠ t) (ha : ∀ s ∈ l, agO w x s.1.toNat s.2.2.toNat = true) : imp (l.any (isP o t)) (agO w x o t) = true := by
  unfold imp
  cases e : l.any (isP o t) with
  | false => rfl
  | true =>
    obtain ⟨s, hs, hp⟩ := List.any_eq_true.mp e
    have := ha s hs
    unfold isP at hp
    simp only [Bool.or_eq_true, Bool.and_eq_true, decide_eq_true_eq] at hp
    rcases hp with ⟨a, b⟩ | ⟨a, b⟩
    · rw [a, b] at this; simp [this]
    · rw [a, b, ag_sym hx ho ht h] at this; simp [this]
theorem ag_any {l : List T3} {w x : List Nat} {s : T3} (hs : s ∈ l) {o t : Nat} (ho : s.1.toNat = o) (ht : s.2.2.toNat = t) (hi : imp (l.any (isP o t)) (agO w x o t) = true) : agO w x o t = true := by
  have : l.any (isP o t) = true := List.any_eq_true.mpr ⟨s, hs, by unfold isP; simp [ho, ht]⟩
  unfold imp at hi
  rw [this] at hi
  simpa using hi
theorem ag_any' {l : List T3} {w x : List Nat} (hx : x ∈ ordersL) {s : T3} (hs : s ∈ l) {o t : Nat} (h1 : o < 4) (h2 : t < 4) (h3 : o ≠ t) (ho : s.1.toNat = t) (ht : s.2.2.toNat = o) (hi : imp (l.any (isP o t)) (agO w x o t) = true) : agO w x t o = true := by
  have : l.any (isP o t) = true := List.any_eq_true.mpr ⟨s, hs, by unfold isP; simp [ho, ht]⟩
  unfold imp at hi
  rw [this] at hi
  rw [ag_sym hx h1 h2 h3]
  simpa using hi
theorem all_mask {l : List T3} {w x : List Nat} (hx : x ∈ ordersL) (hok : ∀ s ∈ l, OkT s) (hne : ∀ s ∈ l, s.1 ≠ s.2.2) : (l.all fun s => agO w x s.1.toNat s.2.2.toNat) = (maskE l &&& maskO w x == maskE l) := by
  unfold maskE maskO
  rw [bits_and, Bool.eq_iff_iff, List.all_eq_true]
  simp only [Bool.and_eq_true]
  constructor
  · intro h
    exact ⟨⟨⟨⟨⟨any_ag hx (by omega) (by omega) (by omega) h, any_ag hx (by omega) (by omega) (by omega) h⟩, any_ag hx (by omega) (by omega) (by omega) h⟩, any_ag hx (by omega) (by omega) (by omega) h⟩, any_ag hx (by omega) (by omega) (by omega) h⟩, any_ag hx (by omega) (by omega) (by omega) h⟩
  · rintro ⟨⟨⟨⟨⟨a1, a2⟩, a3⟩, a4⟩, a5⟩, a6⟩ s hs
    obtain ⟨h1, h2, h3, h4, _⟩ := hok s hs
    have hn := hne s hs
    rcases (show s.1.toNat = 0 ∨ s.1.toNat = 1 ∨ s.1.toNat = 2 ∨ s.1.toNat = 3 by omega) with e | e | e | e <;>
      rcases (show s.2.2.toNat = 0 ∨ s.2.2.toNat = 1 ∨ s.2.2.toNat = 2 ∨ s.2.2.toNat = 3 by omega) with g | g | g | g <;> rw [e, g] <;>
      first
      | (exfalso; omega)
      | exact ag_any hs e g (by assumption)
      | exact ag_any' hx hs (by omega) (by omega) (by omega) e g (by assumption)
theorem sums_one {l : List T3} (hok : ∀ s ∈ l, OkT s) {r : List Int} (hr : r ∈ writingsL l) : (((stairsR l).filter fun w => decide (signsOf l w = r)).map sgW).sum = 1 := by
  obtain ⟨x, hx, h1, rfl⟩ := writings_mem.mp hr
  have hne : ∀ s ∈ l, s.1 ≠ s.2.2 := by
    intro s hs e
    have a := h1 s hs
    unfold wyOk at a
    have b : before s.1.toNat s.2.2.toNat x = false := by rw [e]; unfold before; simp
    rw [b] at a
    simp [e] at a
  have key : ∀ w ∈ WO 3, ((decide (signsOf l w = sgO l x)) && l.all fun s => stOk s w) = (maskE l &&& maskO w x == maskE l) := by
    intro w _
    rw [← all_mask hx hok hne, Bool.eq_iff_iff, Bool.and_eq_true, List.all_eq_true, List.all_eq_true, decide_eq_true_eq]
    unfold signsOf sgO
    rw [List.map_inj_left]
    refine Iff.trans (show _ ↔ ∀ s ∈ l, _ ∧ _ from ⟨fun h s hs => ⟨h.1 s hs, h.2 s hs⟩, fun h => ⟨fun s hs => (h s hs).1, fun s hs => (h s hs).2⟩⟩) ?_
    refine forall_congr' fun s => forall_congr' fun hs => ?_
    have a := h1 s hs
    unfold wyOk at a
    unfold stOk agO
    generalize w.getD s.1.toNat 0 = u at *
    generalize w.getD s.2.2.toNat 0 = v at *
    cases b : before s.1.toNat s.2.2.toNat x with
    | true =>
      simp only [b, Bool.or_eq_true, Bool.and_eq_true, Bool.not_eq_true', decide_eq_true_eq, decide_eq_false_iff_not, and_true, or_false, Bool.false_eq_true, Bool.not_true, false_and, if_true] at a ⊢
      by_cases c : u < v
      · simp [c, a]
      · simp [c]
    | false =>
      simp only [b, Bool.or_eq_true, Bool.and_eq_true, Bool.not_eq_true', decide_eq_true_eq, decide_eq_false_iff_not, and_true, or_false, Bool.false_eq_true, Bool.not_false, false_and, if_false, false_or, true_and] at a ⊢
      by_cases c : u < v
      · have : ¬ v < u := by omega
        simp [c, this]
      · simp [c, a]
  rw [stairsR_eq hok, List.filter_filter, List.filter_congr key]
  exact sum_one hx (bits_lt _ _ _ _ _ _)
end
section
open PySem

theorem bl_sumM {α : Type} {l : List α} {g : α → Int} (h : l.length ≤ 1000 ∧ ∀ x, (g x).natAbs < 1000) : bltD "sum" [.list (l.map fun x => .int (g x))] = some (.int (l.map g).sum) :=
  bl_sum ints_map ⟨by rw [List.length_map]; omega, fun i hi => by
    obtain ⟨x, _, rfl⟩ := List.mem_map.mp hi
    have := h.2 x; omega⟩
local macro_rules | `(tactic| kspl_open pvcmp) => `(tactic| first
  | with_reducible exact cm_ninInts | with_reducible exact cm_eqInts | with_reducible exact cm_neNil | with_reducible exact cm_eqNil)
abbrev LX (n : Nat) := xs PW (rc PW (callN PW n) 40) 20
abbrev LB (k : Nat) : List Stmt := (fnAt pw 71).body.drop k
abbrev pairT (d : D) : D := .tuple [d, .bool true]
abbrev SG (v : Nat → D) (a b : D) : D := .list [pairT (v 0), pairT (v 1), pairT (v 2), pairT (v 3), pairT (v 0), pairT (v 1), pairT (v 2), pairT (v 3), pairT (v 0), pairT (v 1), pairT (v 2), pairT (v 3), pairT (v 0), pairT (v 1), pairT (v 2), pairT (v 3), pairT a, pairT b]
set_option maxHeartbeats 8000000 in
theorem law_end {n : Nat} {v0 v1 v2 v3 v4 v5 v6 v7 v8 : D} {l : List T3} (hl : l.length ≤ 5) (hok : ∀ s ∈ l, OkT s) :
    exsD (LX n) (⟨(fnAt pw 71).scope.names, [("script", v0), ("cells", v1), ("draws", v2), ("drawn", v3), ("symbols", v4), ("statements", .list (l.map encT)), ("hues", v5), ("shades", v6), ("sights", v7), ("orders", v8), ("stairs", .list ((stairsR l).map (encS l))), ("writings", .list ((writingsL l).map encR))], none⟩ : St) (LB 15) = some (.ret (.bool true)) := by
  have hst := WO_len (k := 3) (by omega) (stairsR_sub l)
  have hsl : ((stairsR l).map (encS l)).length ≤ 1048576 := by simp only [List.length_map]; omega
  have hwr : (writingsL l).length ≤ 24 := by
    unfold writingsL
    have a := fold_wy_len l ways0
    have b : ways0.length = 24 := by unfold ways0; rw [List.length_map, ordersL_len]
    have c : ∀ (l : List Way) (W : List (List Int)), (l.foldl wrStep W).length ≤ W.length + l.length := by
      intro l
      induction l with
      | nil => intro W; simp
      | cons x l ih =>
        intro W
        rw [List.foldl_cons]
        refine Nat.le_trans (ih _) ?_
        unfold wrStep
        split
        · simp only [List.length_cons]; omega
        · rw [List.length_append]; simp only [List.length_cons, List.length_nil]; omega
    have d := c (l.foldl wyStep ways0) []
    simp only [List.length_nil] at d
    omega
  have hwl : ((writingsL l).map encR).length ≤ 1048576 := by simp only [List.length_map]; omega
  show exsD _ (⟨_, [_, _, _, _, _, _, _, _, _, _, _, _], _⟩ : St) (_ :: _) = _
  with_reducible refine' es_next (ex_if_f ?q1 ?q2 es_nil) ?q3
  case q1 =>
    with_reducible refine' tr_of ?t0 ?t1 ?t2
    case t0 => rfl
    case t1 =>
      with_reducible refine' ev_cmp ?u0 ?u1 ?u2 ?u3
      case u0 => rfl
      case u1 =>
        with_reducible refine' pk_of ?v1 ?v2
        case v1 => rfl
        case v2 =>
          with_reducible refine' ev_comp ?c0 ?c1 ?c2 ?c3 ?c4
          case c1 => kspl_open pvev
          case c2 => kspl_open pvitems
          case c3 =>
            with_reducible refine' cd_of ?l1 ?l2
            case l1 => kernel_rfl
            case l2 =>
              with_reducible refine' fl_filter (fun x hx => ?l3)
              case l3 => kspl_open pvturn
          case c4 =>
            rw [List.length_map]
            exact Nat.le_trans (List.length_filter_le _ _) (by omega)
          case c0 => kernel_rfl
      case u2 => kspl_open pvpk
      case u3 => with_reducible exact cm_neNil
    case t2 => kspl_open pvtruth
  case q2 =>
    simp only [Bool.not_eq_false', decide_eq_true_eq, List.map_eq_nil_iff, List.filter_eq_nil_iff, Bool.not_eq_true', decide_eq_false_iff_not, Decidable.not_not]
    exact fun w hw => signs_in hok hw
  case q3 =>
    show exsD _ (⟨_, [_, _, _, _, _, _, _, _, _, _, _, _], _⟩ : St) (_ :: _) = _
    refine' es_retq rfl ?r1 ?r2
    case r1 =>
      with_reducible refine' ev_cmp ?w0 ?w1 ?w2 ?w3
      case w0 => rfl
      case w1 =>
        with_reducible refine' pk_of ?x1 ?x2
        case x1 => rfl
        case x2 =>
          with_reducible refine' ev_comp ?d0 ?d1 ?d2 ?d3 ?d4
          case d1 => kspl_open pvev
          case d2 => kspl_open pvitems
          case d3 =>
            with_reducible refine' cd_of ?m1 ?m2
            case m1 => kernel_rfl
            case m2 =>
              with_reducible refine' fl_filter (fun x hx => ?m3)
              case m3 =>
                with_reducible refine' tv_if ?tv1 ?tv2 (fun hc => ?tv3)
                case tv1 => kspl_open pvbt
                case tv3 => kspl_open pvev
                case tv2 =>
                  with_reducible refine' tr_of ?f0 ?f1 ?f2
                  case f0 => rfl
                  case f1 =>
                    with_reducible refine' ev_cmp ?g0 ?g1 ?g2 ?g3
                    case g0 => rfl
                    case g1 =>
                      with_reducible refine' pk_of ?h1 ?h2
                      case h1 => rfl
                      case h2 =>
                        with_reducible refine' ev_blt ?i0 ?i1 ?i2
                        case i1 =>
                          with_reducible refine' mo_cons ?j1 ?j2
                          case j1 =>
                            with_reducible refine' pk_of ?pp1 ?pp2
                            case pp1 => rfl
                            case pp2 =>
                              with_reducible refine' ev_comp ?k0 ?k1 ?k2 ?k3 ?k4
                              case k1 => kspl_open pvev
                              case k2 => kspl_open pvitems
                              case k3 =>
                                with_reducible refine' cd_of ?n1 ?n2
                                case n1 => kernel_rfl
                                case n2 =>
                                  with_reducible refine' fl_filter (fun y hy => ?n3)
                                  case n3 => kspl_open pvturn
                              case k4 =>
                                rw [List.length_map]
                                exact Nat.le_trans (List.length_filter_le _ _) (by omega)
                              case k0 => kernel_rfl
                          case j2 => kspl_open pvmo
                        case i2 =>
                          with_reducible refine' bl_sumM ⟨?s1, ?s2⟩
                          case s1 => exact Nat.le_trans (List.length_filter_le _ _) (by omega)
                          case s2 => intro y; omega
                        case i0 => kernel_rfl
                    case g2 => kspl_open pvpk
                    case g3 => kspl_open pvcmp
                  case f2 => kspl_open pvtruth
          case d4 =>
            rw [List.length_map]
            exact Nat.le_trans (List.length_filter_le _ _) (by omega)
          case d0 => kernel_rfl
      case w2 => kspl_open pvpk
      case w3 => with_reducible exact cm_eqNil
    case r2 =>
      refine congrArg D.bool (decide_eq_true ?_)
      rw [List.map_eq_nil_iff, List.filter_eq_nil_iff]
      intro r hr
      have := sums_one hok hr
      simp only [Bool.not_eq_true', decide_eq_false_iff_not, Decidable.not_not]
      exact this
end
section
open PySem

local macro_rules | `(tactic| kspl_open pvfn) => `(tactic| (with_reducible assumption))
local macro_rules | `(tactic| kspl_open pvitem) => `(tactic| (with_reducible assumption))
set_option maxHeartbeats 8000000 in
theorem law_mid {n : Nat} {v0 v1 v3 v4 v5 v6 a b : D} {v : Nat → D} {l : List T3} {d0 d1 d2 d3 d4 d5 d6 : Int} (hl : l.length ≤ 5) (hok : ∀ s ∈ l, OkT s) (hv : Asc v) (hd : 0 ≤ d6 ∧ d6 < 1000000000) :
    exsD (LX (n + 2)) (⟨(fnAt pw 71).scope.names, [("script", v0), ("cells", v1), ("draws", .list [.int d0, .int d1, .int d2, .int d3, .int d4, .int d5, .int d6]), ("drawn", v3), ("symbols", v4), ("statements", .list (l.map encT)), ("hues", v5), ("shades", v6), ("sights", SG v a b)], none⟩ : St) (LB 11) = some (.ret (.bool true)) := by
  have ho : callN PW (n + 2) "_law_orders" [] = some (.list (ordersL.map fun o => .str (S o))) := orders_spec
  have i6 : itemD (.list [.int d0, .int d1, .int d2, .int d3, .int d4, .int d5, .int d6]) (.int 6) = some (.int d6) := by kernel_rfl
  have hk : (d6 / 65536 % 24).toNat < ordersL.length := by rw [ordersL_len]; omega
  have io := im_map (fun o : List Nat => D.str (S o)) ordersL [] hk (by rw [ordersL_len]; omega)
  rw [show (0 : Int) + ((d6 / 65536 % 24).toNat : Int) = d6 / 65536 % 24 by omega] at io
  have hmem : ordersL.getD (d6 / 65536 % 24).toNat [] ∈ ordersL := by
    rw [List.getD_eq_getElem?_getD, List.getElem?_eq_getElem hk]; exact List.getElem_mem _
  have ht := taken_of (n := n) hmem
  have hs : callN PW (n + 2) _ _ = _ := stairs_spec (n := n + 1) hv (show l.length ≤ 100 by omega) hok
  have hw := ways_spec (n := n) (show l.length ≤ 100 by omega) hok
  have hend : exsD (xs PW (rc PW (callN PW (n + 2)) 40) 20) _ _ = _ := law_end (n := n + 2) (v0 := v0) (v1 := v1) (v2 := .list [.int d0, .int d1, .int d2, .int d3, .int d4, .int d5, .int d6]) (v3 := v3) (v4 := v4) (v5 := v5) (v6 := v6) (v7 := SG v a b) (v8 := .list (ordersL.map fun o => .str (S o))) hl hok
  show exsD (xs PW (rc PW (callN PW (n + 2)) 40) 20) (⟨_, [_, _, _, _, _, _, _, _, _], _⟩ : St) (_ :: _) = _
  generalize callN PW (n + 2) = CC at *
  generalize hOL : (ordersL.map fun o : List Nat => D.str (S o)) = OL at *
  generalize ordersL.getD (d6 / 65536 % 24).toNat [] = oo at *
  generalize hWL : (writingsL l).map encR = WL at *
  generalize hSL : (stairsR l).map (encS l) = SL at *
  refine' es_next ?a1 (es_next (ex_if_f ?a2 ?a3 es_nil) (es_next ?a4 (es_next ?a5 ?a6)))
  case a1 => kspl_open pvasg
  case a2 => kspl_open pvtr
  case a3 => rfl
  case a4 =>
    with_reducible refine' ex_asg ?b0 ?b1 ?b2
    case b0 => rfl
    case b1 => kernel_rfl
    case b2 =>
      with_reducible refine' ev_call (ds := [.list (l.map encT), seenV v]) ?c0 ?c1 ?c2
      case c1 => kernel_rfl
      case c2 => kspl_open pvfn
      case c0 => kernel_rfl
  case a5 => kspl_open pvasg
  case a6 =>
    refine Eq.trans (congrArg (fun σ => exsD (xs PW (rc PW CC 40) 20) σ (LB 15)) ?_) hend
    kernel_rfl
end
section
open PySem

local macro_rules | `(tactic| kspl_open pvev) => `(tactic| ((with_reducible refine' ev_ifI ?h1 ?h2 ?h3); (case h1 => kspl_open pvtr); (case h2 => kspl_open pvev); (case h3 => kspl_open pvev)))
local macro_rules | `(tactic| kspl_open pvitem) => `(tactic| (with_reducible assumption))
local macro_rules | `(tactic| kspl_open pvbin) => `(tactic| (with_reducible assumption))
def huF (d6 : Int) (x : Nat) : Int := 16 * (x : Int) + d6 / (16 ^ x) % 16
def shF (d5 : Int) (x : Nat) : Int := (d5 / 6 + 37 * (x : Int)) % 96
def clF (d5 d6 : Int) (x : Nat) : Int := hueOf (huF d6 (x % 4)) (if !decide ((0 : Int) + x = 16) then shF d5 x % 4 + 1 else 0) (if !decide ((0 : Int) + x = 17) then shF d5 x / 4 % 4 + 1 else 0)
theorem huF_b {d6 : Int} {x : Nat} (h : x < 4) : 16 * (x : Int) ≤ huF d6 x ∧ huF d6 x ≤ 16 * (x : Int) + 15 := by
  unfold huF
  generalize d6 / 16 ^ x = q
  omega
theorem clF_lo {d5 d6 : Int} {x : Nat} (h : x < 16) : clF d5 d6 x = 8 * huF d6 (x % 4) := by
  unfold clF
  rw [if_pos (by simp; omega), if_pos (by simp; omega)]
  unfold hueOf
  rw [if_pos]
  exact Int.mul_pos (by omega) (by omega)
abbrev drL (d0 d1 d2 d3 d4 d5 d6 : Int) : D := .list [.int d0, .int d1, .int d2, .int d3, .int d4, .int d5, .int d6]
theorem asc_hu (d6 : Int) : Asc fun i => .float (Fx (8 * huF d6 i)) where
  lt i j hi hj := by
    have a := huF_b (d6 := d6) hi
    have b := huF_b (d6 := d6) hj
    rw [cx_lt (by omega)]
    congr 1
    rw [decide_eq_decide]
    rcases (show i = j ∨ i < j ∨ j < i by omega) with rfl | h | h <;> omega
  gt i j hi hj := by
    have a := huF_b (d6 := d6) hi
    have b := huF_b (d6 := d6) hj
    rw [cx_gt (by omega)]
    congr 1
    rw [decide_eq_decide]
    rcases (show i = j ∨ i < j ∨ j < i by omega) with rfl | h | h <;> omega
set_option maxHeartbeats 8000000 in
theorem law_hues {n : Nat} {v0 v1 v3 v4 : D} {l : List T3} {d0 d1 d2 d3 d4 d5 d6 : Int} (hl : l.length ≤ 5) (hok : ∀ s ∈ l, OkT s) (h5 : 0 ≤ d5 ∧ d5 < 1000000000) (h6 : 0 ≤ d6 ∧ d6 < 1000000000) :
    exsD (LX (n + 2)) (⟨(fnAt pw 71).scope.names, [("script", v0), ("cells", v1), ("draws", drL d0 d1 d2 d3 d4 d5 d6), ("drawn", v3), ("symbols", v4), ("statements", .list (l.map encT))], none⟩ : St) (LB 7) = some (.ret (.bool true)) := by
  have i6 : itemD (drL d0 d1 d2 d3 d4 d5 d6) (.int 6) = some (.int d6) := by kernel_rfl
  have i5 : itemD (drL d0 d1 d2 d3 d4 d5 d6) (.int 5) = some (.int d5) := by kernel_rfl
  have hend : ∀ w5 w6 : D, exsD (xs PW (rc PW (callN PW (n + 2)) 40) 20) _ _ = _ := fun w5 w6 => law_mid (n := n) (v0 := v0) (v1 := v1) (v3 := v3) (v4 := v4) (v5 := w5) (v6 := w6) (a := .float (Fx (clF d5 d6 16))) (b := .float (Fx (clF d5 d6 17))) (d0 := d0) (d1 := d1) (d2 := d2) (d3 := d3) (d4 := d4) (d5 := d5) hl hok (asc_hu d6) h6
  have hsee : ∀ p s k c : Int, 0 ≤ p ∧ p ≤ 63 ∧ 0 ≤ s ∧ s ≤ 4 ∧ 0 ≤ k ∧ k ≤ 4 ∧ 0 ≤ c ∧ c ≤ 5 → callN PW (n + 2) "_law_sight" [.int p, .int s, .int k, .int c] = some (.tuple [.float (Fx (hueOf p s k)), .bool true]) := fun p s k c h => sight_spec (sights h) h
  show exsD (xs PW (rc PW (callN PW (n + 2)) 40) 20) (⟨_, [_, _, _, _, _, _], _⟩ : St) (_ :: _) = _
  generalize callN PW (n + 2) = CC at *
  have e4 : ((4 : Int) - 0).toNat = 4 := rfl
  have e18 : ((18 : Int) - 0).toNat = 18 := rfl
  have bmod : ∀ i : Int, binD .Mod (.int i) (.int 16) = some (.int (i % 16)) := fun i => bi_mod (by omega)
  refine' es_next (ex_asg (d := .list ((List.range ((4 : Int) - 0).toNat).map fun x => .int (huF d6 x))) ?b0 ?b1 ?b2) ?a2
  case b0 => rfl
  case b1 => kernel_rfl
  case b2 =>
    with_reducible refine' ev_comp ?c0 ?c1 ?c2 ?c3 ?c4
    case c1 => kspl_open pvev
    case c2 => kspl_open pvitems
    case c3 =>
      with_reducible refine' cd_of ?l1 ?l2
      case l1 => kernel_rfl
      case l2 =>
        with_reducible refine' fl_map1 (fun x hx => ?l3)
        case l3 =>
          have hx' : x < 4 := by rw [e4, List.mem_range] at hx; exact hx
          have g1 : binD .Mult (.int 16) (.int (0 + (x : Int))) = some (.int (16 * (x : Int))) := by rw [Int.zero_add]; exact bi_mul (small_of (by omega)) (small_of (by omega))
          have g2 : binD .Pow (.int 16) (.int (0 + (x : Int))) = some (.int (16 ^ x)) := by
            rcases (show x = 0 ∨ x = 1 ∨ x = 2 ∨ x = 3 by omega) with rfl | rfl | rfl | rfl <;> kernel_rfl
          have g3 : binD .FloorDiv (.int d6) (.int (16 ^ x)) = some (.int (d6 / 16 ^ x)) := by
            rcases (show x = 0 ∨ x = 1 ∨ x = 2 ∨ x = 3 by omega) with rfl | rfl | rfl | rfl <;> exact bi_fdiv (by decide) (by decide)
          have g4 := bmod (d6 / 16 ^ x)
          have g5 : binD .Add (.int (16 * (x : Int))) (.int (d6 / 16 ^ x % 16)) = some (.int (huF d6 x)) := bi_add
          kspl_open pvturn
    case c4 => rw [List.length_map, List.length_range]; decide
    case c0 => kernel_rfl
  case a2 =>
    show exsD (xs PW (rc PW CC 40) 20) (⟨(fnAt pw 71).scope.names, [("script", v0), ("cells", v1), ("draws", drL d0 d1 d2 d3 d4 d5 d6), ("drawn", v3), ("symbols", v4), ("statements", .list (l.map encT)), ("hues", .list ((List.range 4).map fun x => .int (huF d6 x)))], none⟩ : St) (_ :: _) = _
    refine' es_next (ex_asg (d := .list ((List.range ((18 : Int) - 0).toNat).map fun x => .int (shF d5 x))) ?g0 ?g1 ?g2) ?f2
    case g0 => rfl
    case g1 => kernel_rfl
    case g2 =>
      with_reducible refine' ev_comp ?h0 ?h1 ?h2 ?h3 ?h4
      case h1 => kspl_open pvev
      case h2 => kspl_open pvitems
      case h3 =>
        with_reducible refine' cd_of ?m1 ?m2
        case m1 => kernel_rfl
        case m2 =>
          with_reducible refine' fl_map1 (fun x hx => ?m3)
          case m3 =>
            have hx' : x < 18 := by rw [e18, List.mem_range] at hx; exact hx
            have g1 : binD .Mult (.int 37) (.int (0 + (x : Int))) = some (.int (37 * (x : Int))) := by rw [Int.zero_add]; exact bi_mul (small_of (by omega)) (small_of (by omega))
            have g3 : binD .FloorDiv (.int d5) (.int 6) = some (.int (d5 / 6)) := bi_fdiv (by decide) (by decide)
            have g4 : binD .Add (.int (d5 / 6)) (.int (37 * (x : Int))) = some (.int (d5 / 6 + 37 * (x : Int))) := bi_add
            have g5 : binD .Mod (.int (d5 / 6 + 37 * (x : Int))) (.int 96) = some (.int (shF d5 x)) := bi_mod (by omega)
            kspl_open pvturn
      case h4 => rw [List.length_map, List.length_range]; decide
      case h0 => kernel_rfl
    case f2 =>
      show exsD (xs PW (rc PW CC 40) 20) (⟨(fnAt pw 71).scope.names, [("script", v0), ("cells", v1), ("draws", drL d0 d1 d2 d3 d4 d5 d6), ("drawn", v3), ("symbols", v4), ("statements", .list (l.map encT)), ("hues", .list ((List.range 4).map fun x => .int (huF d6 x))), ("shades", .list ((List.range 18).map fun x => .int (shF d5 x)))], none⟩ : St) (_ :: _) = _
      refine' es_next (ex_asg (d := .list ((List.range ((18 : Int) - 0).toNat).map fun x => pairT (.float (Fx (clF d5 d6 x))))) ?q0 ?q1 ?q2) ?p2
      case q0 => rfl
      case q1 => kernel_rfl
      case q2 =>
        with_reducible refine' ev_comp ?r0 ?r1 ?r2 ?r3 ?r4
        case r1 => kspl_open pvev
        case r2 => kspl_open pvitems
        case r3 =>
          with_reducible refine' cd_of ?n1 ?n2
          case n1 => kernel_rfl
          case n2 =>
            with_reducible refine' fl_map1 (fun x hx => ?n3)
            case n3 =>
              have hx' : x < 18 := by rw [e18, List.mem_range] at hx; exact hx
              have g1 : binD .Mod (.int (0 + (x : Int))) (.int 4) = some (.int (0 + ((x % 4 : Nat) : Int))) := by rw [bi_mod (by omega)]; congr 2; omega
              have g2 : itemD (.list ((List.range 4).map fun x => .int (huF d6 x))) (.int (0 + ((x % 4 : Nat) : Int))) = some (.int (huF d6 (x % 4))) := by
                rcases (show x % 4 = 0 ∨ x % 4 = 1 ∨ x % 4 = 2 ∨ x % 4 = 3 by omega) with e | e | e | e <;> rw [e] <;> kernel_rfl
              have g3 : itemD (.list ((List.range 18).map fun x => .int (shF d5 x))) (.int (0 + (x : Int))) = some (.int (shF d5 x)) := by
                have := im_map (fun k : Nat => D.int (shF d5 k)) (List.range 18) 0 (k := x) (by simpa using hx') (by simp)
                rw [this]
                simp [hx']
              have g4 : binD .Mod (.int (shF d5 x)) (.int 4) = some (.int (shF d5 x % 4)) := bi_mod (by omega)
              have g5 : binD .FloorDiv (.int (shF d5 x)) (.int 4) = some (.int (shF d5 x / 4)) := bi_fdiv (by decide) (by decide)
              have g6 : binD .Mod (.int (shF d5 x / 4)) (.int 4) = some (.int (shF d5 x / 4 % 4)) := bi_mod (by omega)
              have g7 : binD .FloorDiv (.int (shF d5 x)) (.int 16) = some (.int (shF d5 x / 16)) := bi_fdiv (by decide) (by decide)
              have g8 : binD .Add (.int (shF d5 x % 4)) (.int 1) = some (.int (shF d5 x % 4 + 1)) := bi_add
              have g9 : binD .Add (.int (shF d5 x / 4 % 4)) (.int 1) = some (.int (shF d5 x / 4 % 4 + 1)) := bi_add
              have hb : 0 ≤ shF d5 x ∧ shF d5 x < 96 := by unfold shF; omega
              have hp := huF_b (d6 := d6) (show x % 4 < 4 by omega)
              with_reducible refine' tv_one ?t1 ?t2
              case t1 => kspl_open pvbt
              case t2 =>
                with_reducible refine' ev_call ?u0 ?u1 ?u2
                case u1 => kspl_open pvmo
                case u2 =>
                  refine hsee _ _ _ _ ⟨by omega, by omega, ?_, ?_, ?_, ?_, by omega, by omega⟩
                  all_goals split <;> omega
                case u0 => kernel_rfl
        case r4 => rw [List.length_map, List.length_range]; decide
        case r0 => kernel_rfl
      case p2 =>
        show exsD (xs PW (rc PW CC 40) 20) (⟨(fnAt pw 71).scope.names, [("script", v0), ("cells", v1), ("draws", drL d0 d1 d2 d3 d4 d5 d6), ("drawn", v3), ("symbols", v4), ("statements", .list (l.map encT)), ("hues", .list ((List.range 4).map fun x => .int (huF d6 x))), ("shades", .list ((List.range 18).map fun x => .int (shF d5 x))), ("sights", .list ((List.range 18).map fun x => pairT (.float (Fx (clF d5 d6 x)))))], none⟩ : St) (_ :: _) = _
        have esg : ((List.range 18).map fun x => pairT (.float (Fx (clF d5 d6 x)))) = [pairT (.float (Fx (8 * huF d6 0))), pairT (.float (Fx (8 * huF d6 1))), pairT (.float (Fx (8 * huF d6 2))), pairT (.float (Fx (8 * huF d6 3))), pairT (.float (Fx (8 * huF d6 0))), pairT (.float (Fx (8 * huF d6 1))), pairT (.float (Fx (8 * huF d6 2))), pairT (.float (Fx (8 * huF d6 3))), pairT (.float (Fx (8 * huF d6 0))), pairT (.float (Fx (8 * huF d6 1))), pairT (.float (Fx (8 * huF d6 2))), pairT (.float (Fx (8 * huF d6 3))), pairT (.float (Fx (8 * huF d6 0))), pairT (.float (Fx (8 * huF d6 1))), pairT (.float (Fx (8 * huF d6 2))), pairT (.float (Fx (8 * huF d6 3))), pairT (.float (Fx (clF d5 d6 16))), pairT (.float (Fx (clF d5 d6 17)))] := by
          have e : List.range 18 = [0, 1, 2, 3, 4, 5, 6, 7, 8, 9, 10, 11, 12, 13, 14, 15, 16, 17] := by decide
          rw [e]
          simp only [List.map_cons, List.map_nil]
          rw [clF_lo (x := 0) (by omega), clF_lo (x := 1) (by omega), clF_lo (x := 2) (by omega), clF_lo (x := 3) (by omega), clF_lo (x := 4) (by omega), clF_lo (x := 5) (by omega), clF_lo (x := 6) (by omega), clF_lo (x := 7) (by omega), clF_lo (x := 8) (by omega), clF_lo (x := 9) (by omega), clF_lo (x := 10) (by omega), clF_lo (x := 11) (by omega), clF_lo (x := 12) (by omega), clF_lo (x := 13) (by omega), clF_lo (x := 14) (by omega), clF_lo (x := 15) (by omega)]
        rw [esg]
        refine' es_next (ex_if_f (c := false) ?w1 rfl es_nil) (hend _ _)
        case w1 => kernel_rfl
end
section
open PySem

local macro_rules | `(tactic| kspl_open pvev) => `(tactic| ((with_reducible refine' ev_ifI ?h1 ?h2 ?h3); (case h1 => kspl_open pvtr); (case h2 => kspl_open pvev); (case h3 => kspl_open pvev)))
local macro_rules | `(tactic| kspl_open pvitem) => `(tactic| (with_reducible assumption))
local macro_rules | `(tactic| kspl_open pvfn) => `(tactic| (with_reducible assumption))
local macro_rules | `(tactic| kspl_open pvbin) => `(tactic| (with_reducible assumption))
def gOf (y : Int) : Nat := if y % 4 = 1 then 1 else if y % 4 = 3 then 2 else 0
def toS (y : Int) : St3 := ((y / 4 % 4).toNat, gOf y, ((y / 4 + (if decide (y / 16 % 13 < 12) then y / 16 % 13 % 3 + 1 else 0)) % 4).toNat)
theorem toS_ok (y : Int) : Ok3 (toS y) := by
  refine ⟨?_, ?_, ?_⟩
  · show (y / 4 % 4).toNat < 4; omega
  · show gOf y < 3
    unfold gOf
    split
    · omega
    · split <;> omega
  · show ((y / 4 + (if decide (y / 16 % 13 < 12) then y / 16 % 13 % 3 + 1 else 0)) % 4).toNat < 4; omega
theorem eq_encT (n : Nat) : ∀ l : List T3, eqD (n + 3) (.list (l.map encT)) (.list (l.map encT)) = some true := by
  intro l
  show (if (l.map encT).length = (l.map encT).length then allPairs (eqD (n + 2)) (l.map encT) (l.map encT) else some false) = _
  rw [if_pos rfl]
  induction l with
  | nil => rfl
  | cons x l ih =>
    obtain ⟨a, b, c⟩ := x
    have h1 : eqD (n + 2) (encT (a, b, c)) (encT (a, b, c)) = some true := by
      show (if ([D.int a, D.int b, D.int c] : List D).length = ([D.int a, D.int b, D.int c] : List D).length then allPairs (eqD (n + 1)) [D.int a, D.int b, D.int c] [D.int a, D.int b, D.int c] else some false) = _
      rw [if_pos rfl]
      have h : ∀ i : Int, eqD (n + 1) (.int i) (.int i) = some true := fun i => by show some (i == i) = _; simp
      simp [allPairs, h]
    simp only [List.map_cons, allPairs, h1, Option.bind_some, ih]
    rfl
theorem OkT_toT {x : St3} (h : Ok3 x) : OkT (toT x) := by
  obtain ⟨o, g, w⟩ := x
  obtain ⟨h1, h2, h3⟩ := h
  obtain ⟨p1, p2, _⟩ := sgV_facts h2
  have : sgV g ≤ 100 := by
    simp only at h2
    rcases (show g = 0 ∨ g = 1 ∨ g = 2 by omega) with rfl | rfl | rfl <;> decide
  have p : 0 < sgV g := p1
  simp only at h1 h3
  exact ⟨by show (0 : Int) ≤ (o : Nat); omega, by show ((o : Nat) : Int) < 4; omega, by show (0 : Int) ≤ (w : Nat); omega, by show ((w : Nat) : Int) < 4; omega, by show 0 ≤ sgV g; omega, this⟩
set_option maxHeartbeats 8000000 in
theorem law_drawn {n : Nat} {v0 v1 : D} {d0 d1 d2 d3 d4 d5 d6 : Int} (h5 : 0 ≤ d5 ∧ d5 < 1000000000) (h6 : 0 ≤ d6 ∧ d6 < 1000000000) :
    exsD (LX (n + 2)) (⟨(fnAt pw 71).scope.names, [("script", v0), ("cells", v1), ("draws", drL d0 d1 d2 d3 d4 d5 d6)], none⟩ : St) (LB 2) = some (.ret (.bool true)) := by
  have i5 : itemD (drL d0 d1 d2 d3 d4 d5 d6) (.int 5) = some (.int d5) := by kernel_rfl
  have b5 : binD .Mod (.int d5) (.int 6) = some (.int (d5 % 6)) := bi_mod (by omega)
  have hsl : sliceD (drL d0 d1 d2 d3 d4 d5 d6) none (some (d5 % 6)) none = some (.list (([d0, d1, d2, d3, d4, d5, d6].take (d5 % 6).toNat).map .int)) := by
    rcases (show d5 % 6 = 0 ∨ d5 % 6 = 1 ∨ d5 % 6 = 2 ∨ d5 % 6 = 3 ∨ d5 % 6 = 4 ∨ d5 % 6 = 5 by omega) with e | e | e | e | e | e <;> rw [e] <;> kernel_rfl
  have hlen : ([d0, d1, d2, d3, d4, d5, d6].take (d5 % 6).toNat).length ≤ 5 := by rw [List.length_take]; omega
  generalize [d0, d1, d2, d3, d4, d5, d6].take (d5 % 6).toNat = ys at *
  have hL : (ys.map toS).length ≤ 5 := by rw [List.length_map]; exact hlen
  have hok : ∀ x ∈ ys.map toS, Ok3 x := fun x hx => by
    obtain ⟨y, _, rfl⟩ := List.mem_map.mp hx
    exact toS_ok y
  have f1 := text_spec (n := n + 1) hL hok
  have f2 := symbols_of (n := n + 1) hL hok
  have f3 := statements_of (n := n) hL hok
  have t1 : ∀ x : Int, callN PW (n + 2) "ISTERMINAL" [.int x] = some (.bool (decide (x < 256))) := fun x => ist_spec (n := n + 1)
  have t2 : ∀ x : Int, callN PW (n + 2) "ISNONTERMINAL" [.int x] = some (.bool (decide (256 ≤ x))) := fun x => isn_spec (n := n + 1)
  have t3 : ∀ x : Int, callN PW (n + 2) "ISEOF" [.int x] = some (.bool (decide (x = 0))) := fun x => eof_spec (n := n + 1)
  have hend : ∀ w3 w4 : D, exsD (xs PW (rc PW (callN PW (n + 2)) 40) 20) _ _ = _ := fun w3 w4 => law_hues (n := n) (v0 := v0) (v1 := v1) (v3 := w3) (v4 := w4) (d0 := d0) (d1 := d1) (d2 := d2) (d3 := d3) (d4 := d4) (d5 := d5) (d6 := d6) (l := (ys.map toS).map toT) (by rw [List.length_map]; exact hL) (fun s hs => by
    obtain ⟨x, hx, rfl⟩ := List.mem_map.mp hs
    exact OkT_toT (hok x hx)) h5 h6
  have hsy : (syR true (-1) (ys.map toS)).length ≤ 100 := by have := syR_len (ys.map toS) true (-1); omega
  have esy : (syR true (-1) (ys.map toS)).map D.int ++ [.int 0] = (syR true (-1) (ys.map toS) ++ [0]).map D.int := by simp
  rw [esy] at f2 f3
  have hsy2 : (syR true (-1) (ys.map toS) ++ [0]).length ≤ 101 := by rw [List.length_append]; simp only [List.length_cons, List.length_nil]; omega
  have k1 : Str.ofString "!=" = S [33, 61] := by decide +kernel
  have k2 : Str.ofString "<" = S [60] := by decide +kernel
  have k3 : Str.ofString ">" = S [62] := by decide +kernel
  show exsD (xs PW (rc PW (callN PW (n + 2)) 40) 20) (⟨_, [_, _, _], _⟩ : St) (_ :: _) = _
  change callN PW (n + 2) _ _ = _ at f1
  change callN PW (n + 2) _ _ = _ at f2
  generalize callN PW (n + 2) = CC at *
  generalize (syR true (-1) (ys.map toS) ++ [0]) = sy at *
  have hyl : (ys.map D.int).length ≤ 1048576 := by rw [List.length_map]; omega
  have hdl : ((ys.map toS).map enc1).length ≤ 1048576 := by rw [List.length_map]; omega
  have hsyl : (sy.map D.int).length ≤ 1048576 := by rw [List.length_map]; omega
  have ee : ys.map (fun y => enc1 (toS y)) = (ys.map toS).map enc1 := by rw [List.map_map]; rfl
  refine' es_next (ex_asg (d := .list (ys.map fun y => enc1 (toS y))) ?b0 ?b1 ?b2) ?a2
  case b0 => rfl
  case b1 => kernel_rfl
  case b2 =>
    with_reducible refine' ev_comp ?c0 ?c1 ?c2 ?c3 ?c4
    case c1 => kspl_open pvev
    case c2 => kspl_open pvitems
    case c3 =>
      with_reducible refine' cd_of ?l1 ?l2
      case l1 => kernel_rfl
      case l2 =>
        with_reducible refine' fl_map1 (fun y hy => ?l3)
        case l3 =>
          have q1 : binD .FloorDiv (.int y) (.int 4) = some (.int (y / 4)) := bi_fdiv (by decide) (by decide)
          have q2 : binD .Mod (.int (y / 4)) (.int 4) = some (.int (((toS y).1 : Nat) : Int)) := by
            rw [bi_mod (by omega)]; congr 2; show y / 4 % 4 = (((y / 4 % 4).toNat : Nat) : Int); omega
          have q3 : binD .Mod (.int y) (.int 4) = some (.int (y % 4)) := bi_mod (by omega)
          have q4 : itemD (.tuple [.str (S [33, 61]), .str (S [60]), .str (S [33, 61]), .str (S [62])]) (.int (y % 4)) = some (.str (S (sgL (toS y).2.1))) := by
            show _ = some (D.str (S (sgL (gOf y))))
            unfold gOf
            rcases (show y % 4 = 0 ∨ y % 4 = 1 ∨ y % 4 = 2 ∨ y % 4 = 3 by omega) with e | e | e | e <;> rw [e] <;> kernel_rfl
          have q5 : binD .FloorDiv (.int y) (.int 16) = some (.int (y / 16)) := bi_fdiv (by decide) (by decide)
          have q6 : binD .Mod (.int (y / 16)) (.int 13) = some (.int (y / 16 % 13)) := bi_mod (by omega)
          have q7 : binD .Mod (.int (y / 16 % 13)) (.int 3) = some (.int (y / 16 % 13 % 3)) := bi_mod (by omega)
          have q8 : binD .Add (.int (y / 16 % 13 % 3)) (.int 1) = some (.int (y / 16 % 13 % 3 + 1)) := bi_add
          have q9 : binD .Add (.int (y / 4)) (.int (if decide (y / 16 % 13 < 12) then y / 16 % 13 % 3 + 1 else 0)) = some (.int (y / 4 + (if decide (y / 16 % 13 < 12) then y / 16 % 13 % 3 + 1 else 0))) := bi_add
          have q10 : binD .Mod (.int (y / 4 + (if decide (y / 16 % 13 < 12) then y / 16 % 13 % 3 + 1 else 0))) (.int 4) = some (.int (((toS y).2.2 : Nat) : Int)) := by
            rw [bi_mod (by omega)]; congr 2; show _ = (((_ : Int).toNat : Nat) : Int); omega
          kspl_open pvturn
    case c4 => rw [List.length_map]; omega
    case c0 => kernel_rfl
  case a2 =>
    rw [ee]
    show exsD (xs PW (rc PW CC 40) 20) (⟨_, [_, _, _, _], _⟩ : St) (_ :: _) = _
    refine' es_next ?s1 ?s2
    case s1 => kspl_open pvasg
    case s2 =>
      show exsD (xs PW (rc PW CC 40) 20) (⟨_, [_, _, _, _, _], _⟩ : St) (_ :: _) = _
      with_reducible refine' es_next (ex_if_f ?q1 ?q2 es_nil) ?q3
      case q1 =>
        with_reducible refine' tr_of ?t0 ?t1 ?t2
        case t0 => rfl
        case t1 =>
          with_reducible refine' ev_cmp ?u0 ?u1 ?u2 ?u3
          case u0 => rfl
          case u1 =>
            with_reducible refine' pk_of ?v1 ?v2
            case v1 => rfl
            case v2 =>
              with_reducible refine' ev_comp ?d0 ?d1 ?d2 ?d3 ?d4
              case d1 => kspl_open pvev
              case d2 => kspl_open pvitems
              case d3 =>
                with_reducible refine' cd_of ?m1 ?m2
                case m1 => kernel_rfl
                case m2 =>
                  with_reducible refine' fl_filter (fun x hx => ?m3)
                  case m3 =>
                    have r1 := t1 x
                    have r2 := t2 x
                    have r3 := t3 x
                    kspl_open pvturn
              case d4 =>
                rw [List.length_map]
                exact Nat.le_trans (List.length_filter_le _ _) (by omega)
              case d0 => kernel_rfl
          case u2 => kspl_open pvpk
          case u3 => with_reducible exact cm_neNil
        case t2 => kspl_open pvtruth
      case q2 =>
        simp only [Bool.not_eq_false', decide_eq_true_eq, List.map_eq_nil_iff, List.filter_eq_nil_iff]
        intro x _
        have : decide (256 ≤ x) = decide (255 < x) := decide_eq_decide.mpr (by omega)
        simp [this]
      case q3 =>
        refine' es_next ?y1 ?y2
        case y1 => kspl_open pvasg
        case y2 =>
          show exsD (xs PW (rc PW CC 40) 20) (⟨_, [_, _, _, _, _, _], _⟩ : St) (_ :: _) = _
          refine' es_next (ex_if_f (c := false) ?z1 rfl es_nil) (hend _ _)
          case z1 =>
            have eq1 : ((ys.map toS).map toT).map encT = (ys.map toS).map fun y => encT (toT y) := by rw [List.map_map]; rfl
            have eq2 : cmpD .NotEq (.list (((ys.map toS).map toT).map encT)) (.list ((ys.map toS).map fun y => encT (toT y))) = some false := by
              rw [← eq1]
              show (eqD 8 _ _).map (!·) = _
              rw [eq_encT 5]; rfl
            with_reducible refine' tr_of ?e0 ?e1 ?e2
            case e0 => rfl
            case e1 =>
              with_reducible refine' ev_cmp ?g0 ?g1 ?g2 ?g3
              case g0 => rfl
              case g1 => kspl_open pvpk
              case g2 =>
                with_reducible refine' pk_of (d := .list ((ys.map toS).map fun y => encT (toT y))) ?h1 ?h2
                case h1 => rfl
                case h2 =>
                  with_reducible refine' ev_comp ?i0 ?i1 ?i2 ?i3 ?i4
                  case i1 => kspl_open pvev
                  case i2 => kspl_open pvitems
                  case i3 =>
                    with_reducible refine' cd_of ?n1 ?n2
                    case n1 => kernel_rfl
                    case n2 =>
                      with_reducible refine' fl_map1 (fun y hy => ?n3)
                      case n3 =>
                        have hy3 := hok y hy
                        obtain ⟨o, g, w⟩ := y
                        have hg : g < 3 := hy3.2.1
                        have s1 : cmpD .Eq (.str (S (sgL 0))) (.str (S [33, 61])) = some true := by kernel_rfl
                        have s2 : cmpD .Eq (.str (S (sgL 1))) (.str (S [33, 61])) = some false := by kernel_rfl
                        have s3 : cmpD .Eq (.str (S (sgL 1))) (.str (S [60])) = some true := by kernel_rfl
                        have s4 : cmpD .Eq (.str (S (sgL 2))) (.str (S [33, 61])) = some false := by kernel_rfl
                        have s5 : cmpD .Eq (.str (S (sgL 2))) (.str (S [60])) = some false := by kernel_rfl
                        rcases (show g = 0 ∨ g = 1 ∨ g = 2 by omega) with rfl | rfl | rfl
                        · show turnD _ _ _ _ _ (.tuple [.int (o : Nat), .str (S (sgL 0)), .int (w : Nat)]) = some [D.tuple [D.int (o : Nat), D.int 28, D.int (w : Nat)]]
                          kspl_open pvturn
                        · show turnD _ _ _ _ _ (.tuple [.int (o : Nat), .str (S (sgL 1)), .int (w : Nat)]) = some [D.tuple [D.int (o : Nat), D.int 20, D.int (w : Nat)]]
                          kspl_open pvturn
                        · show turnD _ _ _ _ _ (.tuple [.int (o : Nat), .str (S (sgL 2)), .int (w : Nat)]) = some [D.tuple [D.int (o : Nat), D.int 21, D.int (w : Nat)]]
                          kspl_open pvturn
                  case i4 => rw [List.length_map]; omega
                  case i0 => kernel_rfl
              case g3 => exact eq2
            case e2 => kspl_open pvtruth
end
section
open PySem

local macro_rules | `(tactic| kspl_open pvitem) => `(tactic| (with_reducible assumption))
local macro_rules | `(tactic| kspl_open pvfn) => `(tactic| (with_reducible assumption))
local macro_rules | `(tactic| kspl_open pvblt) => `(tactic| (with_reducible assumption))
local macro_rules | `(tactic| kspl_open pvslice) => `(tactic| (with_reducible assumption))
local macro_rules | `(tactic| kspl_open pvbin) => `(tactic| (with_reducible assumption))
theorem pick_map {α β : Type} (f : α → β) (l : List α) (lo hi st : Option Int) : pick (l.map f) lo hi st = (pick l lo hi st).map f := by
  unfold pick
  simp only [List.length_map, List.map_filterMap, List.getElem?_map]
theorem pick_mem {α : Type} {l : List α} {lo hi st : Option Int} {x : α} (h : x ∈ pick l lo hi st) : x ∈ l := by
  unfold pick at h
  obtain ⟨i, _, h⟩ := List.mem_filterMap.mp h
  exact List.mem_of_getElem? h
theorem b60 : ((List.range 64).all fun n => decide ((sliceRange (sliceBounds none (some 60) none n).1 (sliceBounds none (some 60) none n).2.1 (sliceBounds none (some 60) none n).2.2).length ≤ 60)) = true := by decide +kernel
theorem b7 : ((List.range 64).all fun n => (List.range 7).all fun k => decide ((sliceRange (sliceBounds (some (0 + (k : Int))) none (some 7) n).1 (sliceBounds (some (0 + (k : Int))) none (some 7) n).2.1 (sliceBounds (some (0 + (k : Int))) none (some 7) n).2.2).length ≤ 63)) = true := by decide +kernel
theorem pick60 {α : Type} {l : List α} (h : l.length ≤ 63) : (pick l none (some 60) none).length ≤ 60 := by
  have a := b60
  simp only [List.all_eq_true, List.mem_range, decide_eq_true_eq] at a
  exact Nat.le_trans (List.length_filterMap_le _ _) (a l.length (by omega))
theorem pick7 {α : Type} {l : List α} {k : Nat} (h : l.length ≤ 63) (hk : k < 7) : (pick l (some (0 + (k : Int))) none (some 7)).length ≤ 63 := by
  have a := b7
  simp only [List.all_eq_true, List.mem_range, decide_eq_true_eq] at a
  exact Nat.le_trans (List.length_filterMap_le _ _) (a l.length (by omega) k hk)
theorem sum_b : ∀ l : List Int, (∀ x ∈ l, 0 ≤ x ∧ x < 1000000) → 0 ≤ l.sum ∧ l.sum ≤ 1000000 * (l.length : Int)
  | [], _ => by simp
  | x :: l, h => by
    have a := h x List.mem_cons_self
    have b := sum_b l fun y hy => h y (List.mem_cons_of_mem _ hy)
    rw [List.sum_cons, List.length_cons]
    omega
def c7 (k : Nat) : Int := [157, 102, 24, 48, 11, 88, 44377].getD k 0
def drF (cs : List Int) (k : Nat) : Int := c7 k + (pick cs (some (0 + (k : Int))) none (some 7)).sum
theorem drF_b {cs : List Int} (hl : cs.length ≤ 63) (hc : ∀ x ∈ cs, 0 ≤ x ∧ x < 1000000) {k : Nat} (hk : k < 7) : 0 ≤ drF cs k ∧ drF cs k < 1000000000 := by
  have a := pick7 hl hk
  have b := sum_b (pick cs (some (0 + (k : Int))) none (some 7)) fun x hx => hc x (pick_mem hx)
  have c : 0 ≤ c7 k ∧ c7 k ≤ 44377 := by
    rcases (show k = 0 ∨ k = 1 ∨ k = 2 ∨ k = 3 ∨ k = 4 ∨ k = 5 ∨ k = 6 by omega) with rfl | rfl | rfl | rfl | rfl | rfl | rfl <;> decide
  unfold drF
  omega
theorem fn_law : PW.fns "law" = some (fnAt pw 71) := by kernel_rfl
set_option maxHeartbeats 8000000 in
theorem law_start {n : Nat} {ns : List Int} (h : ns.length ≤ 63) : callN PW (n + 3) "law" [.list (ns.map .int)] = some (.bool true) := by
  refine call_of (σ := ⟨(fnAt pw 71).scope.names, [("script", .list (ns.map .int))], none⟩) fn_law ?h1 ?h2 ?h3
  case h1 => kernel_rfl
  case h2 => kernel_rfl
  case h3 =>
    have hms := pick60 h
    have hs0 : sliceD (.list (ns.map .int)) none (some 60) none = some (.list ((pick ns none (some 60) none).map .int)) := by
      rw [sl_list ⟨by rw [List.length_map]; omega, by simp⟩, pick_map]
    generalize pick ns none (some 60) none = ms at *
    have p6 : binD .Pow (.int 10) (.int 6) = some (.int 1000000) := by kernel_rfl
    have hml : (ms.map D.int).length ≤ 1048576 := by rw [List.length_map]; omega
    have hcl : (ms.map fun x => x % 1000000).length ≤ 63 := by rw [List.length_map]; omega
    have hcb : ∀ x ∈ (ms.map fun x => x % 1000000), 0 ≤ x ∧ x < 1000000 := by
      intro x hx
      obtain ⟨y, _, rfl⟩ := List.mem_map.mp hx
      omega
    have ecs : ms.map (fun x => D.int (x % 1000000)) = (ms.map fun x => x % 1000000).map D.int := by rw [List.map_map]; rfl
    have hend : ∀ w1 : D, exsD (xs PW (rc PW (callN PW (n + 2)) 40) 20) _ _ = _ := fun w1 => law_drawn (n := n) (v0 := .list (ns.map .int)) (v1 := w1) (d0 := drF (ms.map fun x => x % 1000000) 0) (d1 := drF (ms.map fun x => x % 1000000) 1) (d2 := drF (ms.map fun x => x % 1000000) 2) (d3 := drF (ms.map fun x => x % 1000000) 3) (d4 := drF (ms.map fun x => x % 1000000) 4) (drF_b hcl hcb (show 5 < 7 by omega)) (drF_b hcl hcb (show 6 < 7 by omega))
    show exsD (xs PW (rc PW (callN PW (n + 2)) 40) 20) (⟨_, [_], _⟩ : St) (_ :: _) = _
    generalize callN PW (n + 2) = CC at *
    refine' es_next (ex_asg (d := .list (ms.map fun x => .int (x % 1000000))) ?b0 ?b1 ?b2) ?a2
    case b0 => rfl
    case b1 => kernel_rfl
    case b2 =>
      with_reducible refine' ev_comp ?c0 ?c1 ?c2 ?c3 ?c4
      case c1 => kspl_open pvev
      case c2 => kspl_open pvitems
      case c3 =>
        with_reducible refine' cd_of ?l1 ?l2
        case l1 => kernel_rfl
        case l2 =>
          with_reducible refine' fl_map1 (fun y hy => ?l3)
          case l3 =>
            have q1 : binD .Mod (.int y) (.int 1000000) = some (.int (y % 1000000)) := bi_mod (by omega)
            kspl_open pvturn
      case c4 => rw [List.length_map]; omega
      case c0 => kernel_rfl
    case a2 =>
      rw [ecs]
      generalize (ms.map fun x => x % 1000000) = cs at *
      have hcl2 : (cs.map D.int).length ≤ 1048576 := by rw [List.length_map]; omega
      have e7 : ((7 : Int) - 0).toNat = 7 := rfl
      have r7 : bltD "range" [.int 7] = some (.rng 0 7) := by kernel_rfl
      show exsD (xs PW (rc PW CC 40) 20) (⟨_, [_, _], _⟩ : St) (_ :: _) = _
      refine' es_next (ex_asg (d := .list ((List.range ((7 : Int) - 0).toNat).map fun k => .int (drF cs k))) ?f0 ?f1 ?f2) ?a3
      case f0 => rfl
      case f1 => kernel_rfl
      case f2 =>
        with_reducible refine' ev_comp ?g0 ?g1 ?g2 ?g3 ?g4
        case g1 => kspl_open pvev
        case g2 => kspl_open pvitems
        case g3 =>
          with_reducible refine' cd_of ?m1 ?m2
          case m1 => kernel_rfl
          case m2 =>
            with_reducible refine' fl_map1 (fun k hk => ?m3)
            case m3 =>
              have hk' : k < 7 := by rw [e7, List.mem_range] at hk; exact hk
              have q1 : itemD (.tuple [.int 157, .int 102, .int 24, .int 48, .int 11, .int 88, .int 44377]) (.int (0 + (k : Int))) = some (.int (c7 k)) := by
                rcases (show k = 0 ∨ k = 1 ∨ k = 2 ∨ k = 3 ∨ k = 4 ∨ k = 5 ∨ k = 6 by omega) with rfl | rfl | rfl | rfl | rfl | rfl | rfl <;> kernel_rfl
              have q2 : sliceD (.list (cs.map .int)) (some (0 + (k : Int))) none (some 7) = some (.list ((pick cs (some (0 + (k : Int))) none (some 7)).map .int)) := by
                rw [sl_list ⟨by rw [List.length_map]; omega, by simp⟩, pick_map]
              have q3 : bltD "sum" [.list ((pick cs (some (0 + (k : Int))) none (some 7)).map .int)] = some (.int (pick cs (some (0 + (k : Int))) none (some 7)).sum) :=
                bl_sum ints_all ⟨by have := pick7 hcl hk'; omega, fun i hi => by
                  have := hcb i (pick_mem hi)
                  omega⟩
              have q4 : binD .Add (.int (c7 k)) (.int (pick cs (some (0 + (k : Int))) none (some 7)).sum) = some (.int (drF cs k)) := bi_add
              kspl_open pvturn
        case g4 => rw [List.length_map, List.length_range]; decide
        case g0 => kernel_rfl
      case a3 =>
        have ed : ((List.range ((7 : Int) - 0).toNat).map fun k => D.int (drF cs k)) = [.int (drF cs 0), .int (drF cs 1), .int (drF cs 2), .int (drF cs 3), .int (drF cs 4), .int (drF cs 5), .int (drF cs 6)] := by
          rw [e7]; rfl
        rw [ed]
        exact hend _
end
theorem law02 (ns : List Int) (h : ns.length ≤ 63) : callN (piX PySem.Challenge.pw_rs0155_02) 6 "law" [.list (ns.map .int)] = some (.bool true) := law_start (n := 3) h
end Mine
open PySem PySem.W PyProof.Rows PySem.W.X
set_option maxHeartbeats 8000000
namespace Mine
def rowOf (e : DictEntry) : Option (Str × Nat × Int × Nat) := match e.key, e.val with
  | .str x t, .int i u => some (x, t, i, u)
  | _, _ => none
def rowsAt (K : Frag) (a : Addr) : List (Str × Nat × Int × Nat) := match K.lookup a with
  | some o => (match o.data with
    | .dict es _ => es.toList.filterMap rowOf
    | _ => [])
  | none => []
end Mine
theorem PySem.Challenge.cw_rs0155_02_holds : PySem.Challenge.rw_rs0155_02.Holds := by
  w_on; o_law; z_head; (case hw => w_witness2)
  k_fill
  intro w s₀ s₁ mg mb G y fa o pm cd doc dV kV ho hd hcd hD hmg hg args vals as L hpre hlay hrd hwl hlo
  z_open y L KX ZH ZN ZT
  refine Ground.open G ?_
  intro T B D TE TW
  clear hd hcd hD
  wrow_args hpre hlay hrd hwl hlo
  have htk := script_toks L ZT
  rename_i ns hs h0 h1 h2 h3 h4 h5 aa vs x1 hl x2 x3 x4 hi x6 hlen x7
  have hl' := script_obj L hl
  refine Mine.top_ok (pw := PySem.Challenge.pw_rs0155_02) T KX ?X (ns := ns) (Nat.lt_of_lt_of_le (by decide) htk) hmg ⟨_, hl'⟩ hi (Mine.law02 ns (by omega)) ?Q
  case X =>
    refine ⟨⟨_, _, rfl, rfl⟩, ?_, ?_, ?_, ?_, ⟨_, _, _, _, _, _, _, Mine.rowsAt (PySem.Challenge.cw_rs0155_02_holds.heap_154 w.params) 43, rfl, rfl, rfl, rfl, rfl, ⟨rfl, rfl, rfl⟩, rfl, ?_, ?_, ?_, ?_, ?_⟩⟩
    · kernel_rfl
    · kernel_rfl
    · kernel_rfl
    · kernel_rfl
    · kernel_rfl
    · kernel_rfl
    · intro x hx
      simp only [Mine.bltNames, List.mem_cons, List.not_mem_nil, or_false] at hx
      rcases hx with rfl | rfl | rfl | rfl | rfl | rfl | rfl <;> kernel_rfl
    · kernel_rfl
    · kernel_rfl
  case Q =>
    intro s' k
    obtain ⟨h', tk', rfl, kk⟩ := k
    refine ⟨.inl ⟨_, _, [], rfl, fun _ => rfl, ReadsW.bool true, ?_, fun _ => ⟨List.nodup_nil, fun _ hm => (nomatch hm)⟩⟩, OldK.of_keep kk, rfl, .of_eq ?_⟩
    · first | rfl | wrow_post
    · exact hg
