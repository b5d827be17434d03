import PyProof.Rows.All
import Wide.All
import OpenK.AllK
import Wide.FinOn
import Lean
import PySem.Challenge.RW_rs0155_02
set_option Elab.async false
set_option maxRecDepth 100000
noncomputable section
namespace Mine
open PySem
noncomputable section
set_option genSizeOf false
/-- plain data -/
inductive D where
  | none
  | bool (b : Bool)
  | int (i : Int)
  | float (x : UInt64)
  | str (s : Str)
  | list (l : List D)
  | tuple (l : List D)
  | rng (a b : Int)
  | sdict (l : List (Str × Int))
  | isdict (l : List (Int × Str))
  | iidict (l : List (Int × Int))
/-- what never changes -/
structure Gx where
  prog : Program
  w : World
  h0 : Heap
  mg : Str → Option Value
  mb : Str → Option Value
noncomputable abbrev Wp (G : Gx) (A : Around) {α : Type} (t : Sem α) (Q : α → Shared → Prop) (s : Shared) : Prop := wpAny (model G.prog G.w) A t Q (fun _ _ => False) s
/-- an object at a place outside W -/
structure At (W : Addr → Prop) (h : Heap) (v : Value) (a : Addr) (o : Obj) : Prop where
  v : v = .ref a
  w : ¬ W a
  e : h.get? a = some o
noncomputable def LObj (o : Obj) (vs : Array Value) : Prop := ∃ n, o = { cls := .type "list", data := .seq vs n }
noncomputable def TObj (o : Obj) (vs : Array Value) : Prop := o.cls = .type "tuple" ∧ ∃ n, o.data = .seq vs n
noncomputable def RObj (o : Obj) (x y : Int) : Prop := ∃ t u w, o = { cls := .type "range", dict := none, data := .fields #[.int x t, .int y u, .int 1 w], slots := #[] }
structure SDict (G : Gx) (a : Addr) (o : Obj) (l : List (Str × Int)) : Prop where
  sys : (a == sysModules) = false
  m : ∃ es ep, o.ExactDict ∧ o.data = .dict es ep ∧ KeysOf (strKind G.prog G.w) es ∧ ∀ k : Str, match l.lookup k with | some i => ∃ t, findBy (strKind G.prog G.w).is es k = some (.int i t) | none => findBy (strKind G.prog G.w).is es k = none
structure IDict (G : Gx) (a : Addr) (o : Obj) (l : List (Int × Str)) : Prop where
  sys : (a == sysModules) = false
  m : ∃ es ep, o.ExactDict ∧ o.data = .dict es ep ∧ KeysOf (intKind G.prog G.w) es ∧ ∀ k : Int, match l.lookup k with | some i => ∃ t, findBy (intKind G.prog G.w).is es k = some (.str i t) | none => findBy (intKind G.prog G.w).is es k = none
structure IIDict (G : Gx) (a : Addr) (o : Obj) (l : List (Int × Int)) : Prop where
  sys : (a == sysModules) = false
  m : ∃ es ep kvs, o.ExactDict ∧ o.data = .dict es ep ∧ KeysOf (intKind G.prog G.w) es ∧ Pairs (intKind G.prog G.w) es.toList kvs ∧ (kvs.map (·.1)).Nodup ∧ kvs.length = l.length ∧ ∀ k : Int, match l.lookup k with | some i => ∃ t, valueAt kvs k = some (.int i t) | none => valueAt kvs k = none
section
variable (G : Gx) (W : Addr → Prop) (h : Heap)
/-- a value stands for data -/
noncomputable def Rep (v : Value) (d : D) : Prop := @D.rec (fun _ => Value → Prop) (fun _ => List Value → Prop) (fun v => v = .none) (fun b v => v = .bool b) (fun i v => ∃ t, v = .int i t) (fun x v => ∃ t, v = .float x t ∧ t ≠ 0) (fun x v => ∃ t, v = .str x t)
  (fun _ ih v => ∃ a o vs, At W h v a o ∧ LObj o vs ∧ ih vs.toList) (fun _ ih v => ∃ a o vs, At W h v a o ∧ TObj o vs ∧ ih vs.toList) (fun x y v => ∃ a o, At W h v a o ∧ RObj o x y) (fun l v => ∃ a o, At W h v a o ∧ SDict G a o l) (fun l v => ∃ a o, At W h v a o ∧ IDict G a o l) (fun l v => ∃ a o, At W h v a o ∧ IIDict G a o l)
  (fun vs => vs = []) (fun _ _ i1 i2 vs => ∃ v r, vs = v :: r ∧ i1 v ∧ i2 r) d v
noncomputable def Reps (vs : List Value) (ds : List D) : Prop := @List.rec D (fun _ => List Value → Prop) (fun vs => vs = []) (fun d _ ih vs => ∃ v r, vs = v :: r ∧ Rep G W h v d ∧ ih r) ds vs
/-- the top's own place may lie in W -/
noncomputable def RepT (v : Value) (d : D) : Prop := match d with
  | .list ds => ∃ a o vs, (v = .ref a ∧ h.get? a = some o) ∧ LObj o vs ∧ Reps G W h vs.toList ds
  | .iidict l => ∃ a o, (v = .ref a ∧ h.get? a = some o) ∧ IIDict G a o l
  | d => Rep G W h v d
end
/-- all objects are kept -/
noncomputable abbrev Kp (h h' : Heap) : Prop := ∀ b o, h.get? b = some o → h'.get? b = some o
/-- all objects but those of W are kept -/
noncomputable abbrev KpB (W : Addr → Prop) (h h' : Heap) : Prop := ∀ b o, ¬ W b → h.get? b = some o → h'.get? b = some o
/-- what is no place of W stays, and is none of W' -/
noncomputable def Mv (W : Addr → Prop) (h : Heap) (W' : Addr → Prop) (h' : Heap) : Prop := ∀ a o, ¬ W a → h.get? a = some o → ¬ W' a ∧ h'.get? a = some o
variable {G : Gx} {W W' : Addr → Prop} {h h' : Heap} {v : Value} {d : D} {vs : List Value} {ds : List D} {s s' : Shared}
theorem Mv.kp (k : KpB W h h') : Mv W h W h' := fun a o hw e => ⟨hw, k a o hw e⟩
theorem Mv.of (k : Kp h h') : Mv W h W h' := fun a o hw e => ⟨hw, k a o e⟩
theorem Mv.anti (k : ∀ a, W' a → W a ∨ h.get? a = Option.none) : Mv W h W' h := fun a o hw e => ⟨fun q => (k a q).elim hw fun z => (by rw [z] at e; cases e), e⟩
theorem At.mv {a : Addr} {o : Obj} (m : Mv W h W' h') (x : At W h v a o) : At W' h' v a o := ⟨x.v, (m _ _ x.w x.e).1, (m _ _ x.w x.e).2⟩
theorem At.r {a : Addr} {o : Obj} (x : At W h v a o) : v = .ref a ∧ h.get? a = some o := ⟨x.v, x.e⟩
theorem reps_eq {ds : List D} {vs : List Value} : @D.rec_1 (fun _ => Value → Prop) (fun _ => List Value → Prop) (fun v => v = .none) (fun b v => v = .bool b) (fun i v => ∃ t, v = .int i t) (fun x v => ∃ t, v = .float x t ∧ t ≠ 0) (fun x v => ∃ t, v = .str x t)
  (fun _ ih v => ∃ a o vs, At W h v a o ∧ LObj o vs ∧ ih vs.toList) (fun _ ih v => ∃ a o vs, At W h v a o ∧ TObj o vs ∧ ih vs.toList) (fun x y v => ∃ a o, At W h v a o ∧ RObj o x y) (fun l v => ∃ a o, At W h v a o ∧ SDict G a o l) (fun l v => ∃ a o, At W h v a o ∧ IDict G a o l) (fun l v => ∃ a o, At W h v a o ∧ IIDict G a o l)
  (fun vs => vs = []) (fun _ _ i1 i2 vs => ∃ v r, vs = v :: r ∧ i1 v ∧ i2 r) ds vs ↔ Reps G W h vs ds := by
  induction ds generalizing vs with
  | nil => exact Iff.rfl
  | cons d ds ih => exact exists_congr fun v => exists_congr fun r => and_congr_right fun _ => and_congr_right fun _ => ih
theorem Rep.list_iff {ds : List D} : Rep G W h v (.list ds) ↔ ∃ a o vs, At W h v a o ∧ LObj o vs ∧ Reps G W h vs.toList ds :=
  exists_congr fun _ => exists_congr fun _ => exists_congr fun _ => and_congr_right fun _ => and_congr_right fun _ => reps_eq
theorem Rep.tuple_iff {ds : List D} : Rep G W h v (.tuple ds) ↔ ∃ a o vs, At W h v a o ∧ TObj o vs ∧ Reps G W h vs.toList ds :=
  exists_congr fun _ => exists_congr fun _ => exists_congr fun _ => and_congr_right fun _ => and_congr_right fun _ => reps_eq
theorem ex_mv {P : Addr → Obj → Prop} (m : Mv W h W' h') : (∃ a o, At W h v a o ∧ P a o) → ∃ a o, At W' h' v a o ∧ P a o := fun ⟨a, o, x, y⟩ => ⟨a, o, x.mv m, y⟩
theorem ex_mv3 {P : Obj → Array Value → Prop} {R R' : List Value → Prop} (m : Mv W h W' h') (i : ∀ vs, R vs → R' vs) : (∃ a o vs, At W h v a o ∧ P o vs ∧ R vs.toList) → ∃ a o vs, At W' h' v a o ∧ P o vs ∧ R' vs.toList := fun ⟨a, o, vs, x, y, z⟩ => ⟨a, o, vs, x.mv m, y, i _ z⟩
theorem Rep.mv (m : Mv W h W' h') (x : Rep G W h v d) : Rep G W' h' v d :=
  @D.rec (fun d => ∀ v, Rep G W h v d → Rep G W' h' v d) (fun ds => ∀ vs, Reps G W h vs ds → Reps G W' h' vs ds) (fun _ x => x) (fun _ _ x => x) (fun _ _ x => x) (fun _ _ x => x) (fun _ _ x => x)
    (fun _ ih _ x => Rep.list_iff.mpr (ex_mv3 m ih (Rep.list_iff.mp x))) (fun _ ih _ x => Rep.tuple_iff.mpr (ex_mv3 m ih (Rep.tuple_iff.mp x))) (fun _ _ _ x => ex_mv m x) (fun _ _ x => ex_mv m x) (fun _ _ x => ex_mv m x) (fun _ _ x => ex_mv m x)
    (fun _ x => x) (fun _ _ i1 i2 _ ⟨v, r, x, y, z⟩ => ⟨v, r, x, i1 _ y, i2 _ z⟩) d v x
theorem Reps.mv (m : Mv W h W' h') (x : Reps G W h vs ds) : Reps G W' h' vs ds := by
  induction ds generalizing vs with
  | nil => exact x
  | cons d ds ih => exact let ⟨v, r, a, b, c⟩ := x; ⟨v, r, a, b.mv m, ih c⟩
theorem RepT.of (x : Rep G W h v d) : RepT G W h v d := match d, x with
  | .list _, x => let ⟨a, o, vs, x, y, z⟩ := Rep.list_iff.mp x; ⟨a, o, vs, x.r, y, z⟩
  | .iidict _, x => let ⟨a, o, x, y⟩ := x; ⟨a, o, x.r, y⟩
  | .none, x | .bool _, x | .int _, x | .float _, x | .str _, x | .tuple _, x | .rng _ _, x | .sdict _, x | .isdict _, x => x
theorem RepT.mv (m : Mv W h W' h') (k : Kp h h') (x : RepT G W h v d) : RepT G W' h' v d := match d, x with
  | .list _, x => let ⟨a, o, vs, x, y, z⟩ := x; ⟨a, o, vs, ⟨x.1, k _ _ x.2⟩, y, z.mv m⟩
  | .iidict _, x => let ⟨a, o, x, y⟩ := x; ⟨a, o, ⟨x.1, k _ _ x.2⟩, y⟩
  | .none, x | .bool _, x | .int _, x | .float _, x | .str _, x => x
  | .tuple l, x => Rep.mv (d := .tuple l) m x
  | .rng a b, x => Rep.mv (G := G) (d := .rng a b) m x
  | .sdict l, x => Rep.mv (d := .sdict l) m x
  | .isdict l, x => Rep.mv (d := .isdict l) m x
theorem Reps.nil : Reps G W h [] [] := rfl
theorem Reps.cons (x : Rep G W h v d) (y : Reps G W h vs ds) : Reps G W h (v :: vs) (d :: ds) := ⟨v, vs, rfl, x, y⟩
theorem Reps.length (x : Reps G W h vs ds) : vs.length = ds.length := by
  induction ds generalizing vs with
  | nil => exact x ▸ rfl
  | cons d ds ih => exact let ⟨_, _, a, _, c⟩ := x; a ▸ congrArg (· + 1) (ih c)
theorem Reps.size {vs : Array Value} (x : Reps G W h vs.toList ds) : vs.size = ds.length := x.length
theorem Reps.get (x : Reps G W h vs ds) (i : Nat) (d : D) (e : ds[i]? = some d) : ∃ v, vs[i]? = some v ∧ Rep G W h v d := by
  induction ds generalizing vs i with
  | nil => exact nomatch e
  | cons d ds ih =>
    obtain ⟨v, r, rfl, b, c⟩ := x
    match i, e with
    | 0, e => exact ⟨v, rfl, Option.some.inj e ▸ b⟩
    | i + 1, e => exact ih c i e
theorem Reps.get' (x : Reps G W h vs ds) (i : Nat) (v : Value) (e : vs[i]? = some v) : ∃ d, ds[i]? = some d ∧ Rep G W h v d := by
  have hi : i < ds.length := x.length ▸ (List.getElem?_eq_some_iff.mp e).1
  obtain ⟨u, e', r⟩ := x.get i ds[i] (List.getElem?_eq_getElem hi)
  exact ⟨ds[i], List.getElem?_eq_getElem hi, Option.some.inj (e'.symm.trans e) ▸ r⟩
theorem Reps.append {vs' : List Value} {ds' : List D} (x : Reps G W h vs ds) (y : Reps G W h vs' ds') : Reps G W h (vs ++ vs') (ds ++ ds') := by
  induction ds generalizing vs with
  | nil => exact (show vs = [] from x) ▸ y
  | cons d ds ih => exact let ⟨v, r, a, b, c⟩ := x; a ▸ ⟨v, r ++ vs', rfl, b, ih c⟩
theorem Reps.snoc {vs : Array Value} (x : Reps G W h vs.toList ds) (y : Rep G W h v d) : Reps G W h (vs.push v).toList (ds ++ [d]) := by rw [Array.toList_push]; exact x.append (.cons y .nil)
theorem rBool {b : Bool} : Rep G W h (.bool b) (.bool b) := rfl
theorem rInt {i : Int} {t : Tok} : Rep G W h (.int i t) (.int i) := ⟨t, rfl⟩
theorem rFlt {i : UInt64} {t : Tok} (e : t ≠ 0) : Rep G W h (.float i t) (.float i) := ⟨t, rfl, e⟩
theorem rStr {i : Str} {t : Tok} : Rep G W h (.str i t) (.str i) := ⟨t, rfl⟩
theorem RepT.flt {i : UInt64} (x : RepT G W h v (.float i)) : ∃ t, v = .float i t ∧ t ≠ 0 := x
theorem RepT.str {i : Str} (x : RepT G W h v (.str i)) : ∃ t, v = .str i t := x
theorem RepT.bool {i : Bool} (x : RepT G W h v (.bool i)) : v = .bool i := x
theorem RepT.list (x : RepT G W h v (.list ds)) : ∃ a vs, v = .ref a ∧ h.PlainList a vs ∧ Reps G W h vs.toList ds := let ⟨a, _, vs, x, ⟨n, y⟩, z⟩ := x; ⟨a, vs, x.1, ⟨n, y ▸ x.2⟩, z⟩
theorem RepT.tuple (x : RepT G W h v (.tuple ds)) : ∃ a vs, v = .ref a ∧ h.IsTuple a vs ∧ Reps G W h vs.toList ds := let ⟨a, o, vs, x, y, z⟩ := Rep.tuple_iff.mp x; ⟨a, vs, x.v, ⟨o, x.e, y⟩, z⟩
theorem rList {a : Addr} {vs : Array Value} {n} (w : ¬ W a) (e : h.get? a = some { cls := .type "list", data := .seq vs n }) (r : Reps G W h vs.toList ds) : Rep G W h (.ref a) (.list ds) := Rep.list_iff.mpr ⟨a, _, vs, ⟨rfl, w, e⟩, ⟨n, rfl⟩, r⟩
theorem rTup {a : Addr} {vs : Array Value} {n} (w : ¬ W a) (e : h.get? a = some { cls := .type "tuple", data := .seq vs n }) (r : Reps G W h vs.toList ds) : Rep G W h (.ref a) (.tuple ds) := Rep.tuple_iff.mpr ⟨a, _, vs, ⟨rfl, w, e⟩, ⟨rfl, n, rfl⟩, r⟩
theorem rRng {a : Addr} {x y : Int} {t u w : Tok} (hw : ¬ W a) (e : IsRange h a x y 1 t u w) : Rep G W h (.ref a) (.rng x y) := ⟨a, _, ⟨rfl, hw, e⟩, t, u, w, rfl⟩
theorem kRefl (s : Shared) : Keeps s s := ⟨s.heap, s.toks, rfl, fun _ _ e => e⟩
theorem kTrans {s'' : Shared} (a : Keeps s s') (b : Keeps s' s'') : Keeps s s'' := by
  obtain ⟨_, _, rfl, k1⟩ := a
  obtain ⟨h2, t2, rfl, k2⟩ := b
  exact ⟨h2, t2, rfl, fun b o e => k2 b o (k1 b o e)⟩
theorem kKp (a : Keeps s s') : Kp s.heap s'.heap := by
  obtain ⟨_, _, rfl, k1⟩ := a
  exact k1
theorem kTok {t : Nat} : Keeps s { s with toks := t } := ⟨s.heap, t, rfl, fun _ _ e => e⟩
theorem kpPush {o : Obj} : Kp h (h.push o) := fun _ _ e => Heap.get?_push_of_some _ e
theorem kPush {o : Obj} {t : Nat} : Keeps s { s with heap := s.heap.push o, toks := t } := ⟨_, _, rfl, kpPush⟩
theorem kOf {t : Nat} (k : Kp s.heap h) : Keeps s { s with heap := h, toks := t } := ⟨_, _, rfl, k⟩
theorem get_ge {a : Addr} (q : h.objs.size ≤ a) : h.get? a = Option.none := by
  cases e : h.get? a with
  | none => rfl
  | some o => exact absurd (Heap.lt_size e) (Nat.not_lt.mpr q)
theorem get_size (h : Heap) : h.get? h.objs.size = Option.none := get_ge (Nat.le_refl _)
theorem Rep.keeps (x : Rep G W s.heap v d) (k : Keeps s s') : Rep G W s'.heap v d := x.mv (.of (kKp k))
theorem Reps.keeps (x : Reps G W s.heap vs ds) (k : Keeps s s') : Reps G W s'.heap vs ds := x.mv (.of (kKp k))
end
noncomputable section
set_option genSizeOf false
/-- a frame's table of names, the bound names, the one name whose list or dict the frame may still change -/
structure St where
  names : List (Str × NameKind)
  vars : List (Str × D)
  own : Option Str
structure Fn where
  params : Arguments
  body : List Stmt
  scope : Scope
noncomputable def fnsOf (body : List Stmt) (x : Str) : Option Fn :=
  match body.find? (fun s => match s with | .FunctionDef n .. => n == x | _ => false) with
  | some (.FunctionDef _ a b _ _ _ sc _ _ _) => some ⟨a, b, sc⟩
  | _ => none
noncomputable def tk (x : Str) (i : Int) : Str × Int := (x, i)
noncomputable def tokTbl : List (Str × Int) := [tk "!" 54, tk "!=" 28, tk "%" 24, tk "%=" 40, tk "&" 19, tk "&=" 41, tk "(" 7, tk ")" 8, tk "*" 16, tk "**" 35, tk "**=" 46, tk "*=" 38, tk "+" 14, tk "+=" 36, tk "," 12, tk "-" 15, tk "-=" 37, tk "->" 51, tk "." 23, tk "..." 52, tk "/" 17, tk "//" 47, tk "//=" 48, tk "/=" 39, tk ":" 11, tk ":=" 53, tk ";" 13, tk "<" 20, tk "<<" 33, tk "<<=" 44, tk "<=" 29, tk "=" 22, tk "==" 27, tk ">" 21, tk ">=" 30, tk ">>" 34, tk ">>=" 45, tk "@" 49, tk "@=" 50, tk "[" 9, tk "]" 10, tk "^" 32, tk "^=" 43, tk "{" 25, tk "|" 18, tk "|=" 42, tk "}" 26, tk "~" 31]
noncomputable def cstT : List (Str × D) := [("EXACT_TOKEN_TYPES", .sdict tokTbl), ("NT_OFFSET", .int 256), ("ENDMARKER", .int 0), ("ELLIPSIS_MARKER", .str "...")]
noncomputable def bltT : List (Str × Value) := [("len", .builtin "len"), ("sum", .builtin "sum"), ("max", .builtin "max"), ("min", .builtin "min"), ("int", .type "int"), ("range", .type "range"), ("sorted", .builtin "sorted"), ("isinstance", .builtin "isinstance"), ("float", .type "float")]
@[irreducible] def fns (f : Str) : Option Fn := fnsOf PySem.Challenge.pw_rs0155_02.main.body f
/-- the globals -/
structure GOk (G : Gx) : Prop where
  g : G.h0.Ns mainGlobals G.mg
  b : G.h0.Ns builtinsNs G.mb
  lim : G.h0.NoLimit
  nb : NoneBooked G.h0
  fn : ∀ f i, fns f = some i → ∃ a o pm cd doc, G.mg f = some (.ref a) ∧ G.h0.get? a = some o ∧ o.data = .func (PySem.Calls.docDef f i.params i.body i.scope pm cd doc) ∧ G.h0.CodeRec cd f
  const : ∀ x d, cstT.lookup x = some d → ∃ v, G.mg x = some v ∧ Rep G (fun a => G.h0.objs.size ≤ a) G.h0 v d
  blt : ∀ f v, bltT.lookup f = some v → G.mg f = none ∧ G.mb f = some v
/-- an owned place -/
noncomputable def OwnD (G : Gx) (W : Addr → Prop) (h : Heap) (a : Addr) (o : Obj) (d : D) : Prop := match d with
  | .list ds => ∃ vs, LObj o vs ∧ Reps G W h vs.toList ds
  | .iidict l => IIDict G a o l
  | _ => False
noncomputable def notCell (o : Obj) : Prop := ∀ v, o.data ≠ .cell v
structure OwnR (G : Gx) (W : Addr → Prop) (h : Heap) (O : Addr → Prop) (L : Addr) (v : Value) (d : D) (a : Addr) (o : Obj) : Prop where
  v : v = .ref a
  io : O a
  l : a ≠ L
  e : h.get? a = some o
  d : OwnD G W h a o d
/-- a name's value stands for its data -/
structure VRep (G : Gx) (W : Addr → Prop) (h : Heap) (O : Addr → Prop) (L : Addr) (own : Option Str) (x : Str) (v : Value) (d : D) : Prop where
  y : own = some x → ∃ a o, OwnR G W h O L v d a o
  n : own ≠ some x → Rep G W h v d
noncomputable def isCellKind (k : Option NameKind) : Bool := k == some .cell || k == some .free
noncomputable def isVarKind (k : Option NameKind) : Bool := k == some .local || isCellKind k
/-- where a name's value lies -/
noncomputable def Has (env : Env) (h : Heap) (x : Str) (v : Value) : Prop :=
  (env.kindOf x = some .local ∧ ∃ l, h.Ns env.locals l ∧ l x = some v) ∨ ((env.kindOf x = some .cell ∨ env.kindOf x = some .free) ∧ ∃ c, env.cells.lookup x = some c ∧ h.IsCell c (some v))
/-- the frame's own objects -/
noncomputable def FrA (env : Env) (ns : List (Str × NameKind)) (a : Addr) : Prop := a = env.locals ∨ ∃ x, isCellKind (ns.lookup x) = true ∧ env.cells.lookup x = some a
structure EnvS (env : Env) (ns : List (Str × NameKind)) : Prop where
  kind : env.scope.kind = .function
  gl : env.globals = mainGlobals
  bl : env.builtins = builtinsNs
  nm : ∀ x k, ns.lookup x = some k → env.kindOf x = some k ∨ (k = .free ∧ env.kindOf x = some .cell)
  cd : ∀ x k, ns.lookup x = some k → (x == ("__classdict__" : Str)) = false
  apart : ∀ x y a, env.cells.lookup x = some a → env.cells.lookup y = some a → x = y
noncomputable def WB (G : Gx) (W : Addr → Prop) (h : Heap) : Prop := ∀ a, W a → G.h0.objs.size ≤ a ∧ ∃ o, h.get? a = some o
structure Sit (G : Gx) (W : Addr → Prop) (O : Addr → Prop) (env : Env) (σ : St) (s : Shared) : Prop where
  ok : GOk G
  tk : 0 < s.toks
  kp : Kp G.h0 s.heap
  wb : WB G W s.heap
  st : EnvS env σ.names
  lex : ∃ l, s.heap.Ns env.locals l
  cex : ∀ x, isCellKind (σ.names.lookup x) = true → ∃ c u, env.cells.lookup x = some c ∧ s.heap.IsCell c u
  fr : ∀ a, FrA env σ.names a → W a
  val : ∀ x d, isVarKind (σ.names.lookup x) = true → σ.vars.lookup x = some d → ∃ v, Has env s.heap x v ∧ VRep G W s.heap O env.locals σ.own x v d
  ow : ∀ a, O a → W a
variable {G : Gx} {W W' : Addr → Prop} {h h' : Heap} {v : Value} {d : D} {s s' : Shared} {O O' : Addr → Prop} {L : Addr} {own own' : Option Str} {x : Str} {a : Addr} {o : Obj} {env : Env} {σ σ' : St}
theorem OwnD.notCell (x : OwnD G W h a o d) : notCell o := match d, x with
  | .list _, ⟨_, ⟨_, e⟩, _⟩ => fun v q => by rw [e] at q; cases q
  | .iidict _, ⟨_, _, _, _, _, e, _⟩ => fun v q => by rw [e] at q; cases q
theorem OwnD.mv (m : Mv W h W' h') (x : OwnD G W h a o d) : OwnD G W' h' a o d := match d, x with
  | .list _, ⟨vs, y, z⟩ => ⟨vs, y, z.mv m⟩
  | .iidict _, x => x
theorem OwnR.mv (m : Mv W h W' h') (k : ∀ a o, O a → a ≠ L → h.get? a = some o → notCell o → O' a ∧ h'.get? a = some o) (x : OwnR G W h O L v d a o) : OwnR G W' h' O' L v d a o :=
  ⟨x.v, (k _ _ x.io x.l x.e x.d.notCell).1, x.l, (k _ _ x.io x.l x.e x.d.notCell).2, x.d.mv m⟩
theorem VRep.mv (m : Mv W h W' h') (k : ∀ a o, O a → a ≠ L → h.get? a = some o → notCell o → O' a ∧ h'.get? a = some o) (r : VRep G W h O L own x v d) : VRep G W' h' O' L own x v d :=
  ⟨fun e => let ⟨a, o, q⟩ := r.y e; ⟨a, o, q.mv m k⟩, fun e => (r.n e).mv m⟩
theorem VRep.ownC (e : own' = some x ↔ own = some x) (r : VRep G W h O L own x v d) : VRep G W h O L own' x v d := ⟨fun q => r.y (e.mp q), fun q => r.n fun z => q (e.mpr z)⟩
theorem VRep.of (r : Rep G W h v d) (e : own ≠ some x) : VRep G W h O L own x v d := ⟨fun q => absurd q e, fun _ => r⟩
theorem OwnD.toT (e : h.get? a = some o) (x : OwnD G W h a o d) : RepT G W h (.ref a) d := match d, x with
  | .list _, ⟨vs, y, z⟩ => ⟨a, o, vs, ⟨rfl, e⟩, y, z⟩
  | .iidict _, x => ⟨a, o, ⟨rfl, e⟩, x⟩
theorem VRep.toT (r : VRep G W h O L own x v d) : RepT G W h v d := by
  by_cases e : own = some x
  · obtain ⟨a, o, q⟩ := r.y e
    exact q.v ▸ q.d.toT q.e
  · exact .of (r.n e)
theorem Ns.mv {L : Addr} {l : Str → Option Value} (x : h.Ns L l) (k : ∀ o, h.get? L = some o → h'.get? L = some o) : h'.Ns L l := let ⟨o, es, ep, e, q⟩ := x; ⟨o, es, ep, k o e, q⟩
theorem isCell_of {k : Option NameKind} (e : k = some .cell ∨ k = some .free) : isCellKind k = true := by rcases e with e | e <;> rw [e] <;> rfl
theorem EnvS.kindC {ns : List (Str × NameKind)} (S : EnvS env ns) (hx : isVarKind (ns.lookup x) = true) (h : env.kindOf x = some .cell ∨ env.kindOf x = some .free) : isCellKind (ns.lookup x) = true := by
  cases e : ns.lookup x with
  | none => rw [e] at hx; cases hx
  | some k =>
    rcases S.nm x k e with q | ⟨rfl, _⟩
    · rw [q] at h; exact isCell_of h
    · rfl
theorem Sit.mv (S : Sit G W O env σ s) (tk : 0 < s'.toks) (kp : Kp G.h0 s'.heap) (m : Mv W s.heap W' s'.heap) (wb : WB G W' s'.heap) (kf : ∀ a o, FrA env σ.names a → s.heap.get? a = some o → s'.heap.get? a = some o) (wf : ∀ a, FrA env σ.names a → W' a)
    (ko : ∀ a o, O a → a ≠ env.locals → s.heap.get? a = some o → notCell o → O' a ∧ s'.heap.get? a = some o) (ow : ∀ a, O' a → W' a) : Sit G W' O' env σ s' where
  ok := S.ok
  tk := tk
  kp := kp
  wb := wb
  st := S.st
  lex := let ⟨l, q⟩ := S.lex; ⟨l, Ns.mv q fun o => kf _ o (.inl rfl)⟩
  cex := fun x e => let ⟨c, u, q, o, e', r⟩ := S.cex x e; ⟨c, u, q, o, kf _ _ (.inr ⟨x, e, q⟩) e', r⟩
  fr := wf
  val := fun x d e1 e2 => let ⟨v, q, r⟩ := S.val x d e1 e2; ⟨v, q.elim (fun q => .inl ⟨q.1, let ⟨l, q1, q2⟩ := q.2; ⟨l, Ns.mv q1 fun o => kf _ o (.inl rfl), q2⟩⟩) fun q => .inr ⟨q.1, let ⟨c, q1, o, q2, q3⟩ := q.2; ⟨c, q1, o, kf _ _ (.inr ⟨x, S.st.kindC e1 q.1, q1⟩) q2, q3⟩⟩, r.mv m ko⟩
  ow := ow
theorem Sit.next (S : Sit G W O env σ s) (k : Keeps s s') (t : s.toks ≤ s'.toks) : Sit G W O env σ s' :=
  S.mv (Nat.lt_of_lt_of_le S.tk t) (fun b o e => kKp k b o (S.kp b o e)) (.of (kKp k)) (fun a q => let ⟨z, o, e⟩ := S.wb a q; ⟨z, o, kKp k _ _ e⟩) (fun a o _ e => kKp k a o e) S.fr (fun a o q _ e _ => ⟨q, kKp k a o e⟩) S.ow
theorem WB.fresh (wb : WB G W h) : ¬ W h.objs.size := fun q => by
  obtain ⟨_, o, e⟩ := wb _ q
  rw [get_size] at e; cases e
theorem WB.lt (wb : WB G W h) (q : W a) : a < h.objs.size := let ⟨_, _, e⟩ := wb a q; Heap.lt_size e
/-- names that the frame knows less of -/
theorem Sit.weak (S : Sit G W O env σ s) (hn : σ'.names = σ.names) (ho : σ'.own = σ.own) (hv : ∀ x d, σ'.vars.lookup x = some d → σ.vars.lookup x = some d) : Sit G W O env σ' s where
  ok := S.ok
  tk := S.tk
  kp := S.kp
  wb := S.wb
  st := hn ▸ S.st
  lex := S.lex
  cex := hn ▸ S.cex
  fr := hn ▸ S.fr
  val := fun x d e1 e2 => ho ▸ S.val x d (hn ▸ e1) (hv x d e2)
  ow := S.ow
end
noncomputable section
open PyProof.Rows PySem.SeqAt
/-- room for n calls, one in the other -/
structure Good (n : Nat) (A : Around) : Prop where
  h : A.handled = none
  d : A.depth + n ≤ recursionLimit
  u : A.units + 3 * n + 10 < cLine
/-- what an expression's end says -/
structure Post (G : Gx) (W : Addr → Prop) (s : Shared) (d : D) (v : Value) (s' : Shared) : Prop where
  k : Keeps s s'
  r : Rep G W s'.heap v d
structure PostT (G : Gx) (W : Addr → Prop) (s : Shared) (d : D) (v : Value) (s' : Shared) : Prop where
  k : Keeps s s'
  r : RepT G W s'.heap v d
structure PostB (s : Shared) (b b' : Bool) (s' : Shared) : Prop where
  e : b' = b
  k : Keeps s s'
noncomputable def Ev (n : Nat) (σ : St) (e : Expr) (d : D) : Prop := ∀ {G A W O env s}, Good n A → Sit G W O env σ s → Wp G A (eval e env) (Post G W s d) s
noncomputable def Pk (n : Nat) (σ : St) (e : Expr) (d : D) : Prop := ∀ {G A W O env s}, Good n A → Sit G W O env σ s → Wp G A (eval e env) (PostT G W s d) s
noncomputable def Tr (n : Nat) (σ : St) (e : Expr) (b : Bool) : Prop := ∀ {G A W O env s}, Good n A → Sit G W O env σ s → Wp G A (isTrue e env (eval e env)) (PostB s b) s
variable {G : Gx} {A : Around} {W W' : Addr → Prop} {v u : Value} {d : D} {s s' : Shared} {n : Nat}
theorem Wp.mono {α : Type} {t : Sem α} {Q R : α → Shared → Prop} (h : Wp G A t Q s) (f : ∀ v s', Q v s' → R v s') : Wp G A t R s := wpAny_mono h f fun _ _ q => q
theorem Wp.go {α : Type} {t : Sem α} {Q R : α → Shared → Prop} (h : Wp G A t Q s) (f : ∀ v s', s.toks ≤ s'.toks → Q v s' → R v s') : Wp G A t R s := wpAny_mono (wpAny_toks_of (Nat.le_refl _) h) (fun v s' q => f v s' q.1 q.2) fun _ _ q => q.2
theorem Post.up (k : Keeps s s') {s'' : Shared} (q : Post G W s' d v s'') : Post G W s d v s'' := ⟨kTrans k q.k, q.r⟩
theorem Wp.up {t : Sem Value} (k : Keeps s s') (h : Wp G A t (Post G W s' d) s') : Wp G A t (Post G W s d) s' := h.mono fun _ _ q => q.up k
theorem pkEv {σ : St} {e : Expr} (h : Ev n σ e d) : Pk n σ e d := fun hA S => (h hA S).mono fun _ _ q => ⟨q.k, .of q.r⟩
theorem pInt {i : Int} {t k : Nat} : Post G W s (.int i) (.int i t) { s with toks := k } := ⟨kTok, rInt⟩
theorem pBool {b : Bool} {k : Nat} : Post G W s (.bool b) (.bool b) { s with toks := k } := ⟨kTok, rBool⟩
theorem pBool' {b : Bool} : Post G W s (.bool b) (.bool b) s := ⟨kRefl _, rBool⟩
theorem pStr {b : Str} {t k : Nat} : Post G W s (.str b) (.str b t) { s with toks := k } := ⟨kTok, rStr⟩
theorem pFlt (h : 0 < s.toks) {b : UInt64} {k : Nat} : Post G W s (.float b) (.float b s.toks) { s with toks := k } := ⟨kTok, rFlt (Nat.ne_of_gt h)⟩
/-! likeness -/
structure EqOk (n : Nat) (a b : D) (k : Bool) : Prop where
  same : ∀ {G W h v}, RepT G W h v a → RepT G W h v b → k = true
  rc : ∀ {G A W s va vb}, A.units + n < cLine → NoneBooked s.heap → RepT G W s.heap va a → RepT G W s.heap vb b → RcAt A s va vb k ∧ RcNeAt A s va vb (!k)
  eq : ∀ {G A W s va vb}, A.units + n < cLine → NoneBooked s.heap → RepT G W s.heap va a → RepT G W s.heap vb b → EqAt A s va vb k
theorem eqAt_of {a b : Value} {k : Bool} (hs : a = b → k = true) (hf : ∀ x t y u, a = .float x t → b ≠ .float y u) (h : RcAt A s a b k) : EqAt A s a b k := fun prog w E Q hq => by
  unfold eqBool
  refine wpAny_holding ?_
  refine wpAny_ite_split (fun hab => ?_) (fun _ => ?_)
  · rw [hs (eq_of_beq hab)] at hq
    exact wpAny_bind (wpAny_rule (wpAny_pure hq))
  · split
    · rename_i h1
      cases h1
      exact absurd rfl (hf _ _ _ _ rfl)
    · exact wpAny_bind (h prog w E _ (wpAny_truthy_bool hq))
theorem eqAt_float {x y : UInt64} {t u : Tok} (ht : t ≠ 0) (hu : u ≠ 0) (hb : NoneBooked s.heap) (hk : (Float64.cmp x y == some .eq) = true) : EqAt A s (.float x t) (.float y u) true := fun prog w E Q hq => by
  unfold eqBool
  refine wpAny_holding ?_
  refine wpAny_ite_split (fun _ => wpAny_bind (wpAny_rule (wpAny_pure hq))) (fun _ => ?_)
  have last : wpAny (model prog w) A (richCompare CmpOp.Eq (.float x t) (.float y u) >>= truthOfDropped) Q E s := wpAny_bind (AutoFloatOps.eq_0 (hk ▸ wpAny_truthy_bool hq))
  show wpAny (model prog w) A (isSame (.float x t) (.float y u) >>= fun c => if c = true then pure true else (richCompare CmpOp.Eq (.float x t) (.float y u) >>= truthOfDropped)) Q E s
  refine wpAny_bind ?_
  have fin : ∀ b : Bool, wpAny (model prog w) A (if b = true then pure true else (richCompare CmpOp.Eq (.float x t) (.float y u) >>= truthOfDropped)) Q E s := fun b => by
    cases b with
    | true => exact wpAny_pure hq
    | false => exact last
  show wpAny (model prog w) A (isSame.created (x == y && !Float64.isNaN x) t u) _ E s
  unfold isSame.created
  refine wpAny_ite_split (fun q => by simp [ht, hu] at q) fun _ => wpAny_ite_split (fun _ => wpAny_pure (fin _)) fun _ => wpAny_ite_split (fun _ => wpAny_pure (fin _)) fun _ => ?_
  refine wpAny_bind (wpAny_sharingNotTold_none hb ?_)
  simp only [Bool.false_eq_true, if_false]
  refine wpAny_bind (wpAny_sharingNotTold_none hb ?_)
  simp only [Bool.false_eq_true, if_false]
  exact wpAny_bind (wpAny_rule (wpAny_bind (wpAny_askSetting (wpAny_pure (fin _)))))
theorem eq_int {i j : Int} : EqOk n (.int i) (.int j) (i == j) :=
  ⟨fun ⟨_, a⟩ ⟨_, b⟩ => by rw [a] at b; injection b with b; simp [b], fun _ _ ⟨_, a⟩ ⟨_, b⟩ => a ▸ b ▸ ⟨.int_int _ _ _ _, .int_int _ _ _ _⟩, fun _ _ ⟨_, a⟩ ⟨_, b⟩ => a ▸ b ▸ .int_int _ _ _ _⟩
theorem eq_str {i j : Str} : EqOk n (.str i) (.str j) (i == j) :=
  ⟨fun ⟨_, a⟩ ⟨_, b⟩ => by rw [a] at b; injection b with b; simp [b], fun _ _ ⟨_, a⟩ ⟨_, b⟩ => a ▸ b ▸ ⟨.str_str _ _ _ _, .str_str _ _ _ _⟩, fun _ _ ⟨_, a⟩ ⟨_, b⟩ => a ▸ b ▸ .str_str _ _ _ _⟩
theorem eq_flt {x y : UInt64} (h : (Float64.cmp x y == some .eq) = true) : EqOk n (.float x) (.float y) true :=
  ⟨fun _ _ => rfl, fun _ _ ⟨_, a, _⟩ ⟨_, b, _⟩ => a ▸ b ▸ ⟨fun _ _ _ _ q => AutoFloatOps.eq_0 (by rw [h]; exact q), fun _ _ _ _ q => AutoFloatOps.ne_0 (by rw [bne, h]; exact q)⟩, fun _ hb ⟨_, a, ht⟩ ⟨_, b, hu⟩ => a ▸ b ▸ eqAt_float ht hu hb h⟩
theorem eq_fi {x : UInt64} {i : Int} : EqOk n (.float x) (.int i) (Float64.cmpInt x i == some .eq) :=
  ⟨fun ⟨_, a, _⟩ ⟨_, b⟩ => (nomatch a.symm.trans b), fun _ _ ⟨_, a, _⟩ ⟨_, b⟩ => a ▸ b ▸ ⟨fun _ _ _ _ q => PyProof.Rows.eq_fi q, fun _ _ _ _ q => PyProof.Rows.ne_fi q⟩,
    fun _ _ ⟨_, a, _⟩ ⟨_, b⟩ => a ▸ b ▸ eqAt_of (fun q => (nomatch q)) (fun _ _ _ _ _ q => (nomatch q)) fun _ _ _ _ q => PyProof.Rows.eq_fi q⟩
/-- item by item -/
inductive EqAll (n : Nat) : List D → List D → List Bool → Prop
  | nil : EqAll n [] [] []
  | cons {a b r t k ks} : EqOk n a b k → EqAll n r t ks → EqAll n (a :: r) (b :: t) (k :: ks)
theorem EqAll.get {xs ys : List D} {ks : List Bool} (h : EqAll n xs ys ks) : xs.length = ks.length ∧ ys.length = ks.length ∧ ∀ (i : Nat) (k : Bool), ks[i]? = some k → ∃ x y, xs[i]? = some x ∧ ys[i]? = some y ∧ EqOk n x y k := by
  induction h with
  | nil => exact ⟨rfl, rfl, fun _ _ e => nomatch e⟩
  | cons a _ ih =>
    refine ⟨congrArg (· + 1) ih.1, congrArg (· + 1) ih.2.1, fun i k e => ?_⟩
    match i, e with
    | 0, e => exact Option.some.inj e ▸ ⟨_, _, rfl, rfl, a⟩
    | i + 1, e => exact ih.2.2 i k e
/-- the items' values, one by one -/
theorem EqAll.vals {h : Heap} {xs ys : List D} {ks : List Bool} (H : EqAll n xs ys ks) {vs us : Array Value} (r1 : Reps G W h vs.toList xs) (r2 : Reps G W h us.toList ys) :
    vs.size = us.size ∧ (List.range vs.size).all (fun i => (ks[i]?).getD true) = ks.all id ∧ ∀ j (h1 : j < vs.size) (h2 : j < us.size), ∃ x y, Rep G W h vs[j] x ∧ Rep G W h us[j] y ∧ EqOk n x y ((ks[j]?).getD true) := by
  obtain ⟨g1, g2, g3⟩ := H.get
  have l1 := r1.size.trans g1
  refine ⟨l1.trans (g2.symm.trans r2.size.symm), ?_, fun j h1 h2 => ?_⟩
  · rw [l1]
    clear H g1 g2 g3 l1 r1 r2
    have : (List.range ks.length).map (fun i => (ks[i]?).getD true) = ks := List.ext_getElem (by simp) fun i h1 h2 => by simp [h2]
    conv => rhs; rw [← this]
    rw [List.all_map]; rfl
  · have hj : j < ks.length := l1 ▸ h1
    have e := List.getElem?_eq_getElem hj
    obtain ⟨x, y, q1, q2, q3⟩ := g3 j ks[j] e
    obtain ⟨v, e1, p1⟩ := r1.get j x q1
    obtain ⟨u, e2, p2⟩ := r2.get j y q2
    have f1 : vs[j] = v := Option.some.inj ((List.getElem?_eq_getElem h1).symm.trans e1)
    have f2 : us[j] = u := Option.some.inj ((List.getElem?_eq_getElem h2).symm.trans e2)
    exact ⟨x, y, f1 ▸ p1, f2 ▸ p2, e ▸ q3⟩
theorem units_in1 {A : Around} (h : A.units + (n + 1) < cLine) : A.in1.units + n < cLine := (Nat.add_right_comm A.units 1 n) ▸ h
theorem eq_seq {X : List D → D} {P : Heap → Addr → Array Value → Prop} (inv : ∀ {G W h v ds}, RepT G W h v (X ds) → ∃ a vs, v = .ref a ∧ P h a vs ∧ Reps G W h vs.toList ds) (uq : ∀ {h a vs us}, P h a vs → P h a us → vs = us)
    (rcs : ∀ {A s l b e} {vs us : Array Value}, P s.heap l vs → P s.heap b us → vs.size = us.size → A.units < cLine → (∀ j (h1 : j < vs.size) (h2 : j < us.size), EqAt A.in1 s vs[j] us[j] (e j)) → RcAt A s (.ref l) (.ref b) ((List.range vs.size).all e) ∧ RcNeAt A s (.ref l) (.ref b) (!(List.range vs.size).all e))
    {xs ys : List D} {ks : List Bool} (H : EqAll n xs ys ks) : EqOk (n + 1) (X xs) (X ys) (ks.all id) := by
  have rc : ∀ {G A W s va vb}, A.units + (n + 1) < cLine → NoneBooked s.heap → RepT G W s.heap va (X xs) → RepT G W s.heap vb (X ys) → RcAt A s va vb (ks.all id) ∧ RcNeAt A s va vb (!ks.all id) := fun hu hb a b => by
    obtain ⟨_, _, rfl, p1, r1⟩ := inv a; obtain ⟨_, _, rfl, p2, r2⟩ := inv b
    obtain ⟨hz, g, f⟩ := H.vals r1 r2
    exact g ▸ rcs p1 p2 hz (Nat.lt_of_le_of_lt (Nat.le_add_right _ _) hu) fun j h1 h2 => let ⟨_, _, q1, q2, q⟩ := f j h1 h2; q.eq (units_in1 hu) hb (.of q1) (.of q2)
  have same : ∀ {G W h v}, RepT G W h v (X xs) → RepT G W h v (X ys) → ks.all id = true := fun a b => by
    obtain ⟨a', vs, e1, p1, r1⟩ := inv a; obtain ⟨_, _, e2, p2, r2⟩ := inv b
    rw [e1] at e2; injection e2 with e2; subst e2
    rw [uq p2 p1] at r2
    obtain ⟨_, g, f⟩ := H.vals r1 r2
    rw [← g, List.all_eq_true]
    intro i hi
    have hi := List.mem_range.mp hi
    obtain ⟨x, y, p1, p2, q⟩ := f i hi hi
    exact q.same (.of p1) (.of p2)
  exact ⟨same, rc, fun hu hb a b => eqAt_of (fun q => same a (q ▸ b)) (fun _ _ _ _ q => by obtain ⟨_, _, e, _⟩ := inv a; rw [e] at q; cases q) (rc hu hb a b).1⟩
theorem eq_list {xs ys : List D} {ks : List Bool} (H : EqAll n xs ys ks) : EqOk (n + 1) (.list xs) (.list ys) (ks.all id) :=
  eq_seq (P := Heap.PlainList) RepT.list (fun ⟨_, e⟩ ⟨_, e'⟩ => by rw [e] at e'; injection e' with e'; injection e' with _ _ e'; injection e') (fun p q z u e => ⟨RcAt.lists p.isList q.isList z u e, RcNeAt.lists p.isList q.isList z u e⟩) H
theorem eq_tuple {xs ys : List D} {ks : List Bool} (H : EqAll n xs ys ks) : EqOk (n + 1) (.tuple xs) (.tuple ys) (ks.all id) :=
  eq_seq (P := Heap.IsTuple) RepT.tuple (fun ⟨_, e, _, _, f⟩ ⟨_, e', _, _, f'⟩ => by rw [e] at e'; injection e' with e'; rw [e', f'] at f; injection f with f; exact f.symm)
    (fun {A s l b e vs us} p q z u i => by
      have hk : ((List.range (min vs.size us.size)).all e && vs.size == us.size) = (List.range vs.size).all e := by rw [← z, Nat.min_self]; simp
      exact hk ▸ ⟨RcAt.tuples p q u i, RcNeAt.tuples p q u i⟩) H
end
noncomputable section
open PyProof.Rows PySem.SeqAt
variable {G : Gx} {A : Around} {W W' : Addr → Prop} {v u : Value} {d : D} {s s' : Shared} {n : Nat}
noncomputable def BinOk (op : Operator) (a b d : D) : Prop := ∀ {G A W s va vb}, 0 < s.toks → WB G W s.heap → RepT G W s.heap va a → RepT G W s.heap vb b → Wp G A (binaryOp op va vb) (Post G W s d) s
theorem bin_ii {op : Operator} {i j : Int} (h : ∀ {G A W s t u}, 0 < s.toks → Wp G A (binaryOp op (.int i t) (.int j u)) (Post G W s d) s) : BinOk op (.int i) (.int j) d := fun z _ ⟨_, a⟩ ⟨_, b⟩ => a ▸ b ▸ h z
theorem bin_ff {op : Operator} {i j : UInt64} (h : ∀ {G A W s t u}, 0 < s.toks → Wp G A (binaryOp op (.float i t) (.float j u)) (Post G W s d) s) : BinOk op (.float i) (.float j) d := fun z _ ⟨_, a, _⟩ ⟨_, b, _⟩ => a ▸ b ▸ h z
noncomputable def small (i : Int) : Prop := -(2 ^ 62) < i ∧ i < 2 ^ 62
theorem small_lt {i : Int} (h : small i) : i.natAbs < 2 ^ 62 := by unfold small at h; omega
theorem mul_ok {a b : Int} (ha : small a) : IntMulOk a b := by
  refine IntMulOk.of_left ?_
  unfold Builtin.Int.intBits
  split
  · decide
  · rename_i h0
    have : a.natAbs.log2 < 62 := (Nat.log2_lt (by simpa using h0)).mpr (small_lt ha)
    omega
theorem div_ok {a b : Int} (hb : small b) : Builtin.divisionGoesByPylong a b = false := by
  unfold Builtin.divisionGoesByPylong
  by_cases h0 : b = 0
  · subst h0; simp
  · have h1 : b.natAbs.log2 < 62 := (Nat.log2_lt (by omega)).mpr (small_lt hb)
    have h2 : (b == 0) = false := by simpa using h0
    simp only [h2, Bool.false_eq_true, if_false, Bool.and_eq_false_iff, decide_eq_false_iff_not]
    left; omega
set_option exponentiation.threshold 2000 in
theorem lt1023 {n : Int} (h : small n) : n.natAbs < 2 ^ 1023 := Nat.lt_of_lt_of_le (small_lt h) (Nat.pow_le_pow_right (by decide) (by decide))
theorem bi_add {i j : Int} : BinOk .Add (.int i) (.int j) (.int (i + j)) := bin_ii fun _ => PyProof.Rows.add_int pInt
theorem bi_sub {i j : Int} : BinOk .Sub (.int i) (.int j) (.int (i - j)) := bin_ii fun _ => PyProof.Rows.sub_int pInt
theorem bi_mul {i j : Int} (h : small i) : BinOk .Mult (.int i) (.int j) (.int (i * j)) := bin_ii fun _ => PyProof.Rows.mul_int pInt (mul_ok h)
theorem bi_fdiv {i j : Int} (h1 : 0 < j) (h2 : small j) : BinOk .FloorDiv (.int i) (.int j) (.int (i / j)) := by
  rw [← Int.fdiv_eq_ediv_of_nonneg i (Int.le_of_lt h1)]
  exact bin_ii fun _ => PyProof.Rows.floordiv_int (Int.ne_of_gt h1) pInt (.inl (div_ok h2))
theorem bi_mod {i j : Int} (h1 : 0 < j) : BinOk .Mod (.int i) (.int j) (.int (i % j)) := by
  rw [← Int.fmod_eq_emod_of_nonneg i (Int.le_of_lt h1)]
  exact bin_ii fun _ => PyProof.Rows.mod_int' (Int.ne_of_gt h1) pInt
theorem bi_pow {i j : Int} (h0 : 0 ≤ j) (h1 : j ≤ 100) (h : small i) : BinOk .Pow (.int i) (.int j) (.int (i ^ j.toNat)) := bin_ii fun _ => PyProof.Rows.pow_int_small h0 (Int.le_trans h1 (by decide)) (Nat.lt_of_lt_of_le (small_lt h) (by decide)) pInt
theorem bi_divII {i j : Int} (h1 : j ≠ 0) (h2 : Float64.isInf (Float64.ofFrac (decide (i < 0) != decide (j < 0)) i.natAbs j.natAbs) = false) : BinOk .Div (.int i) (.int j) (.float (Float64.ofFrac (decide (i < 0) != decide (j < 0)) i.natAbs j.natAbs)) :=
  bin_ii fun z => AutoIntOps.truediv_2 (by simpa using h1) (by simpa using h2) (pFlt z)
theorem bi_fadd {x y : UInt64} : BinOk .Add (.float x) (.float y) (.float (Float64.add x y)) := bin_ff fun z => PyProof.Rows.add_float (pFlt z)
theorem bi_fsub {x y : UInt64} : BinOk .Sub (.float x) (.float y) (.float (Float64.sub x y)) := bin_ff fun z => PyProof.Rows.sub_float (pFlt z)
theorem bi_fmul {x y : UInt64} : BinOk .Mult (.float x) (.float y) (.float (Float64.mul x y)) := bin_ff fun z => PyProof.Rows.mul_float (pFlt z)
theorem bi_fdivF {x y : UInt64} (h : Float64.isZero y = false) : BinOk .Div (.float x) (.float y) (.float (Float64.div x y)) := bin_ff fun z => AutoFloatOps.truediv_1 (by simpa using h) (pFlt z)
theorem bi_fmod {x y : UInt64} (h : Float64.isZero y = false) : BinOk .Mod (.float x) (.float y) (.float (Float64.divmod x y).2) := bin_ff fun z => AutoFloatOps.mod_1 (by simpa using h) (pFlt z)
theorem bi_fsubI {x : UInt64} {j : Int} (h : small j) : BinOk .Sub (.float x) (.int j) (.float (Float64.sub x (Float64.ofInt j))) := fun z _ ⟨_, a, _⟩ ⟨_, b⟩ => a ▸ b ▸ PyProof.Rows.sub_fi_fits (lt1023 h) (pFlt z)
theorem bi_cat {x y : Str} (h : x.length + y.length ≤ 1048576) : BinOk .Add (.str x) (.str y) (.str (x ++ y)) := fun _ _ ⟨_, a⟩ ⟨_, b⟩ => a ▸ b ▸ PyProof.Rows.add_str (fun _ _ => pStr) (Nat.le_trans h (by decide))
theorem WB.new (wb : WB G W s.heap) {vs : Array Value} {ds : List D} (r : Reps G W s.heap vs.toList ds) {t : Nat} : Post G W s (.list ds) (.ref s.heap.objs.size) { s with heap := s.heap.push { cls := .type "list", data := .seq vs }, toks := t } :=
  ⟨kPush, rList wb.fresh (Heap.get?_push_size _ rfl) (r.mv (.of kpPush))⟩
theorem bi_app {x y : List D} (h : x.length + y.length ≤ 1048576) : BinOk .Add (.list x) (.list y) (.list (x ++ y)) := fun _ wb a b => by
  obtain ⟨_, va, rfl, ⟨_, e1⟩, r1⟩ := a.list; obtain ⟨_, vb, rfl, ⟨_, e2⟩, r2⟩ := b.list
  exact P.add_list e1 e2 (wb.new (by rw [Array.toList_append]; exact r1.append r2)) (Nat.le_trans (by rw [r1.size, r2.size]; exact h) (by decide))
/-! comparisons -/
noncomputable def CmpOk (op : CmpOp) (a b : D) (k : Bool) : Prop := ∀ {G A W s va vb}, A.units + 10 < cLine → NoneBooked s.heap → RepT G W s.heap va a → RepT G W s.heap vb b → Wp G A (compareOp op va vb) (Post G W s (.bool k)) s
theorem cmp_ii {op : CmpOp} {i j : Int} {k : Bool} (h : ∀ {G A W s t u}, Wp G A (compareOp op (.int i t) (.int j u)) (Post G W s (.bool k)) s) : CmpOk op (.int i) (.int j) k := fun _ _ ⟨_, a⟩ ⟨_, b⟩ => a ▸ b ▸ h
theorem cmp_ff {op : CmpOp} {i j : UInt64} {k : Bool} (h : ∀ {G A W s t u}, Wp G A (compareOp op (.float i t) (.float j u)) (Post G W s (.bool k)) s) : CmpOk op (.float i) (.float j) k := fun _ _ ⟨_, a, _⟩ ⟨_, b, _⟩ => a ▸ b ▸ h
theorem cm_eq {a b : D} {k : Bool} (h : EqOk 8 a b k) : CmpOk .Eq a b k := fun hu hb r1 r2 => (h.rc (Nat.lt_of_le_of_lt (Nat.add_le_add_left (by decide) _) hu) hb r1 r2).1 _ _ _ _ pBool'
theorem cm_ne {a b : D} {k : Bool} (h : EqOk 8 a b k) : CmpOk .NotEq a b (!k) := fun hu hb r1 r2 => (h.rc (Nat.lt_of_le_of_lt (Nat.add_le_add_left (by decide) _) hu) hb r1 r2).2 _ _ _ _ pBool'
theorem cm_eqI {i j : Int} : CmpOk .Eq (.int i) (.int j) (decide (i = j)) := cm_eq eq_int
theorem cm_neI {i j : Int} : CmpOk .NotEq (.int i) (.int j) (!decide (i = j)) := cm_ne eq_int
theorem cm_eqS {i j : Str} : CmpOk .Eq (.str i) (.str j) (decide (i = j)) := cm_eq eq_str
theorem cm_neS {i j : Str} : CmpOk .NotEq (.str i) (.str j) (!decide (i = j)) := cm_ne eq_str
theorem cm_ltI {i j : Int} : CmpOk .Lt (.int i) (.int j) (decide (i < j)) := cmp_ii (PyProof.Rows.lt_int pBool')
theorem cm_gtI {i j : Int} : CmpOk .Gt (.int i) (.int j) (decide (j < i)) := cmp_ii (PyProof.Rows.gt_int pBool')
theorem cm_geI {i j : Int} : CmpOk .GtE (.int i) (.int j) (decide (j ≤ i)) := cmp_ii (PyProof.Rows.ge_int pBool')
theorem cm_eqF {i j : UInt64} : CmpOk .Eq (.float i) (.float j) (Float64.cmp i j == some .eq) := cmp_ff (AutoFloatOps.eq_0 pBool')
theorem cm_ltF {i j : UInt64} : CmpOk .Lt (.float i) (.float j) (Float64.cmp i j == some .lt) := cmp_ff (AutoFloatOps.lt_0 pBool')
theorem cm_gtF {i j : UInt64} : CmpOk .Gt (.float i) (.float j) (Float64.cmp i j == some .gt) := cmp_ff (AutoFloatOps.gt_0 pBool')
theorem cm_leF {i j : UInt64} : CmpOk .LtE (.float i) (.float j) (Float64.cmp i j == some .lt || Float64.cmp i j == some .eq) := cmp_ff (AutoFloatOps.le_0 pBool')
theorem cm_ninS {i j : Str} : CmpOk .NotIn (.str i) (.str j) (!Txt.contains j i) := fun _ _ ⟨_, a⟩ ⟨_, b⟩ => a ▸ b ▸ SB.notContains pBool'
theorem vbool_beq {i j : Bool} : (Value.bool i == Value.bool j) = (i == j) := by cases i <;> cases j <;> rfl
theorem cm_isB {i j : Bool} : CmpOk .Is (.bool i) (.bool j) (i == j) := fun _ _ a b => a.bool ▸ b.bool ▸ vbool_beq ▸ wpAny_is_plain rfl pBool'
theorem cm_isnB {i j : Bool} : CmpOk .IsNot (.bool i) (.bool j) (!(i == j)) := fun _ _ a b => a.bool ▸ b.bool ▸ vbool_beq ▸ wpAny_isNot_plain rfl pBool'
theorem sdict_at {h : Heap} {l : List (Str × Int)} (x : Rep G W h v (.sdict l)) : ∃ a f, v = .ref a ∧ (a == sysModules) = false ∧ h.MapOf (PySem.strKind G.prog G.w) a f ∧ ∀ k, match l.lookup k with | some i => ∃ t, f k = some (.int i t) | none => f k = none :=
  let ⟨a, o, x, y, es, ep, p, q, r, z⟩ := x; ⟨a, _, x.v, y, ⟨o, es, ep, x.e, p, q, r, fun _ => rfl⟩, z⟩
theorem cm_inT {i : Str} {l : List (Str × Int)} : CmpOk .In (.str i) (.sdict l) (l.lookup i).isSome := fun _ _ ⟨_, a⟩ b => by
  subst a
  obtain ⟨c, f, rfl, y, m, hf⟩ := sdict_at b
  have : (l.lookup i).isSome = (f i).isSome := by
    have q := hf i
    cases h : l.lookup i with
    | none => rw [h] at q; rw [q]; rfl
    | some j => rw [h] at q; obtain ⟨t, e⟩ := q; rw [e]; rfl
  rw [this]
  exact wpAny_in_of (knd := PySem.strKind _ _) (by simp [PySem.strKind, Value.isStrOf]) y m pBool
/-- an item like d -/
inductive AnyEq (n : Nat) (d : D) : List D → Bool → Prop
  | nil : AnyEq n d [] false
  | cons {a r k j} : EqOk n a d k → AnyEq n d r j → AnyEq n d (a :: r) (k || j)
theorem AnyEq.get {l : List D} {k : Bool} (H : AnyEq n d l k) : ∃ ks : List Bool, ks.length = l.length ∧ k = ks.any id ∧ ∀ (i : Nat) (x : D), l[i]? = some x → ∃ j, ks[i]? = some j ∧ EqOk n x d j := by
  induction H with
  | nil => exact ⟨[], rfl, rfl, fun _ _ e => nomatch e⟩
  | cons a _ ih =>
    obtain ⟨ks, h1, h2, h3⟩ := ih
    refine ⟨_ :: ks, congrArg (· + 1) h1, by rw [h2]; rfl, fun i x e => ?_⟩
    match i, e with
    | 0, e => exact ⟨_, rfl, Option.some.inj e ▸ a⟩
    | i + 1, e => exact h3 i x e
theorem AnyEq.vals {l : List D} {k : Bool} (H : AnyEq n d l k) (hu : A.units + n < cLine) (hb : NoneBooked s.heap) {vs : Array Value} (rs : Reps G W s.heap vs.toList l) (rx : RepT G W s.heap v d) :
    ∃ f : Value → Bool, vs.any f = k ∧ ∀ y, y ∈ vs → EqAt A s y v (f y) := by
  obtain ⟨ks, h1, rfl, h3⟩ := H.get
  classical
  have key : ∀ i (hi : i < vs.size), ∃ j, ks[i]? = some j ∧ EqAt A s vs[i] v j := fun i hi => by
    obtain ⟨x, e, r⟩ := rs.get' i vs[i] (List.getElem?_eq_getElem hi)
    obtain ⟨j, e', q⟩ := h3 i x e
    exact ⟨j, e', q.eq hu hb (.of r) rx⟩
  refine ⟨fun (y : Value) => decide (∃ i : Nat, vs[i]? = some y ∧ ks[i]? = some true), ?_, fun y hy => ?_⟩
  · rw [Bool.eq_iff_iff, Array.any_eq_true, List.any_eq_true]
    constructor
    · rintro ⟨i, hi, q⟩
      obtain ⟨j, _, q⟩ := of_decide_eq_true q
      exact ⟨true, List.mem_of_getElem? q, rfl⟩
    · rintro ⟨b, hb', q⟩
      obtain ⟨i, hi, rfl⟩ := List.mem_iff_getElem.mp hb'
      have hi' : i < vs.size := rs.size ▸ h1 ▸ hi
      exact ⟨i, hi', decide_eq_true ⟨i, Array.getElem?_eq_getElem hi', by rw [List.getElem?_eq_getElem hi]; exact congrArg some q⟩⟩
  · by_cases c : ∃ i : Nat, vs[i]? = some y ∧ ks[i]? = some true
    · obtain ⟨i, e1, e2⟩ := id c
      obtain ⟨hi, rfl⟩ := Array.getElem?_eq_some_iff.mp e1
      obtain ⟨j, e3, q⟩ := key i hi
      rw [e2] at e3; injection e3 with e3; subst e3
      show EqAt A s _ v (decide _)
      rw [decide_eq_true c]; exact q
    · obtain ⟨i, hi, rfl⟩ := Array.mem_iff_getElem.mp hy
      obtain ⟨j, e3, q⟩ := key i hi
      show EqAt A s _ v (decide _)
      rw [decide_eq_false c]
      cases j with
      | false => exact q
      | true => exact absurd ⟨i, Array.getElem?_eq_getElem hi, e3⟩ c
theorem in_units (hu : A.units + 10 < cLine) : A.in1.units + 6 < cLine := by show A.units + 1 + 6 < cLine; omega
theorem cm_ninL {l : List D} {k : Bool} (H : AnyEq 6 d l k) : CmpOk .NotIn d (.list l) (!k) := fun hu hb a b => by
  obtain ⟨_, vs, rfl, p, r⟩ := b.list
  obtain ⟨f, hf, he⟩ := H.vals (in_units hu) hb r a
  exact notIn_listAt f p.isList he (hf ▸ pBool')
end
noncomputable section
open PyProof.Rows PySem.SeqAt
variable {G : Gx} {A : Around} {W W' : Addr → Prop} {v u : Value} {d : D} {s s' : Shared} {n : Nat}
noncomputable def pick {α : Type} (l : List α) (lo hi st : Option Int) : List α :=
  (sliceRange (sliceBounds lo hi st l.length).1 (sliceBounds lo hi st l.length).2.1 (sliceBounds lo hi st l.length).2.2).filterMap (l[·]?)
theorem sub_ops (slice : Expr) (o i : Value) : ∃ ops, subscripted slice false o i = operate ops (getItem o i) := by
  cases slice with
  | Slice a b c p => cases c <;> exact ⟨_, rfl⟩
  | _ => exact ⟨_, rfl⟩
theorem sq_nat {k : Int} {n : Nat} (h1 : 0 ≤ k) (h2 : k < n) : seqIndex? k n = some k.toNat := by
  unfold seqIndex?
  simp [Int.not_lt.mpr h1, h1, h2]
theorem szl {n : Nat} (h : n ≤ 1048576) : n ≤ sizeLine := Nat.le_trans h (by decide)
noncomputable def ItemOk (a i d : D) : Prop := ∀ {G A W s va vi value slice}, RepT G W s.heap va a → RepT G W s.heap vi i → Wp G A (subscriptTail value slice va vi) (Post G W s d) s
theorem sub_tail {T id : String} {value slice : Expr} {o i : Value} (hT : s.TypeIs o T) (hl : typeLookup (.type T) "__getitem__" = pure (some (.builtin id))) (hg : Wp G A (getItem o i) (Post G W s d) s) : Wp G A (subscriptTail value slice o i) (Post G W s d) s :=
  let ⟨_, h⟩ := sub_ops slice o i; tail_any hT hl hg h
theorem nat63 {j n : Nat} (h : j < n) (hn : n ≤ 1048576) : (j : Int) < 2 ^ 63 := Int.lt_of_lt_of_le (Int.ofNat_lt.mpr (Nat.lt_of_lt_of_le h hn)) (by decide)
theorem im_list {l : List D} {k : Int} {j : Nat} (hk : k = j) (hl : l.length ≤ 1048576) (hx : l[j]? = some d) : ItemOk (.list l) (.int k) d := fun a ⟨_, b⟩ => by
  subst b hk
  obtain ⟨_, vs, rfl, p, r⟩ := a.list
  obtain ⟨v, e, rv⟩ := r.get j d hx
  exact sub_tail p.isList.typeIs slot_list_getitem.lookup (wpAny_getItem_list p.isList (Int.natCast_nonneg j) (nat63 (List.getElem?_eq_some_iff.mp hx).1 hl) (Array.getElem?_toList.symm.trans e) ⟨kRefl _, rv⟩)
theorem im_last {l : List D} : ItemOk (.list (l ++ [d])) (.int (-1)) d := fun a ⟨_, b⟩ => by
  subst b
  obtain ⟨_, vs, rfl, p, r⟩ := a.list
  obtain ⟨v, e, rv⟩ := r.get l.length d (by simp)
  have z : vs.size = l.length + 1 := r.size.trans (by simp)
  exact sub_tail p.isList.typeIs slot_list_getitem.lookup (wpAny_getItem_list_neg p.isList (by decide) (by rw [z]; omega) (by decide) (by rw [z, show ((-1 : Int) + ((l.length + 1 : Nat) : Int)).toNat = l.length by omega]; exact Array.getElem?_toList.symm.trans e) ⟨kRefl _, rv⟩)
theorem im_tuple {l : List D} {k : Int} {j : Nat} (hk : k = j) (hl : l.length ≤ 1048576) (hx : l[j]? = some d) : ItemOk (.tuple l) (.int k) d := fun a ⟨_, b⟩ => by
  subst b hk
  obtain ⟨_, vs, rfl, p, r⟩ := a.tuple
  obtain ⟨v, e, rv⟩ := r.get j d hx
  have hj := (List.getElem?_eq_some_iff.mp hx).1
  have ht : IsTup _ _ vs := p
  exact sub_tail ht.typeIs slot_tuple_getitem.lookup (PyProof.Rows.getItem_tuple ht (Int.le_trans (by decide) (Int.natCast_nonneg j)) (nat63 hj hl) (sq_nat (Int.natCast_nonneg j) (by rw [r.size]; exact Int.ofNat_lt.mpr hj)) (Array.getElem?_toList.symm.trans e) ⟨kRefl _, rv⟩)
theorem im_str {x : Str} {k : Int} (h : fitsSsize k = true) (hc : (Txt.charAt x k).isSome = true) : ItemOk (.str x) (.int k) (.str (Txt.item x k)) := fun ⟨_, a⟩ ⟨_, b⟩ => by
  subst a b
  exact sub_tail (typeIs_str _ _ _) F.slot_str_getitem.lookup (SB.getItem h hc pStr)
theorem im_tab {l : List (Str × Int)} {k : Str} {i : Int} (h : l.lookup k = some i) : ItemOk (.sdict l) (.str k) (.int i) := fun a ⟨_, b⟩ => by
  subst b
  obtain ⟨_, f, rfl, _, m, hf⟩ := sdict_at a
  have q := hf k
  rw [h] at q
  obtain ⟨t, e⟩ := q
  exact sub_tail m.typeIs slot_dict_getitem.lookup (wpAny_getItem_of (knd := PySem.strKind _ _) (by simp [PySem.strKind, Value.isStrOf]) m e pInt)
/-! slices -/
noncomputable def SliceOk (a : D) (lo hi st : Option Int) (d : D) : Prop := ∀ {G A W s va sl vl vu vs value slice}, WB G W s.heap → RepT G W s.heap va a → s.heap.IsSliceOf sl vl vu vs → IsPart vl lo → IsPart vu hi → IsPart vs st → Wp G A (subscriptTail value slice va (.ref sl)) (Post G W s d) s
theorem pick_reps {h : Heap} {vs : Array Value} {ds : List D} (r : Reps G W h vs.toList ds) (lo hi st : Option Int) : Reps G W h (slicePick vs lo hi st).toList (pick ds lo hi st) := by
  unfold slicePick pick
  rw [r.size]
  generalize sliceRange _ _ _ = is
  show Reps G W h (is.filterMap (vs[·]?)) (is.filterMap (ds[·]?))
  induction is with
  | nil => exact rfl
  | cons i is ih =>
    simp only [List.filterMap_cons]
    cases e : ds[i]? with
    | none => rw [Array.getElem?_eq_none (r.size ▸ List.getElem?_eq_none_iff.mp e)]; exact ih
    | some d =>
      obtain ⟨v, hv, rv⟩ := r.get i d e
      rw [show vs[i]? = some v by simpa using hv]; exact .cons rv ih
theorem sl_list {l : List D} {lo hi st : Option Int} (h1 : l.length ≤ 1048576) (h2 : st ≠ some 0) : SliceOk (.list l) lo hi st (.list (pick l lo hi st)) := fun wb a hs pl pu ps => by
  obtain ⟨_, vs, rfl, p, r⟩ := a.list
  exact sub_tail p.isList.typeIs slot_list_getitem.lookup (wpAny_getItem_list_slice p.isList hs pl pu ps h2 (wb.new (pick_reps r lo hi st)) (szl (r.size ▸ h1)))
theorem part_shape {v : Value} {i : Option Int} (p : IsPart v i) : ∃ l : Option (Int × Tok), v = partValue l ∧ l.map (·.1) = i := by
  cases p with
  | none => exact ⟨none, rfl, rfl⟩
  | int j t => exact ⟨some (j, t), rfl, rfl⟩
theorem sl_str {x : Str} {lo hi : Option Int} (h1 : x.length ≤ 1048576) : SliceOk (.str x) lo hi none (.str (Txt.slice x lo hi)) := fun wb ⟨_, a⟩ hs pl pu ps => by
  subst a
  cases ps
  obtain ⟨l, rfl, rfl⟩ := part_shape pl
  obtain ⟨u, rfl, rfl⟩ := part_shape pu
  have hz : (Txt.slice x (l.map (·.1)) (u.map (·.1))).length ≤ sizeLine := Nat.le_trans (Txt.slice_le x _ _) (Nat.le_trans h1 (by decide))
  refine sub_tail (typeIs_str _ _ _) F.slot_str_getitem.lookup (wpAny_getItem_str_slice (l := l) (u := u) (st := none) (by obtain ⟨o, h1, h2, h3⟩ := hs; exact ⟨o, h1, h2, h3⟩) rfl ?_)
  unfold sliceMade slicePicked
  unfold Txt.slice at hz ⊢
  simp only [Option.map_none, Option.getD_none] at hz ⊢
  split
  · exact ⟨kRefl _, rStr⟩
  · rename_i hc
    rw [if_neg hc] at hz
    exact ⟨hz, pStr⟩
/-! built-in functions -/
noncomputable def RepTs (G : Gx) (W : Addr → Prop) (h : Heap) (vs : List Value) (ds : List D) : Prop := @List.rec D (fun _ => List Value → Prop) (fun vs => vs = []) (fun d _ ih vs => ∃ v r, vs = v :: r ∧ RepT G W h v d ∧ ih r) ds vs
noncomputable def BltOk (f : Value) (as : List D) (d : D) : Prop := ∀ {G A W s vs}, A.handled = none → 0 < s.toks → WB G W s.heap → RepTs G W s.heap vs as → Wp G A (call f vs) (Post G W s d) s
theorem blt1 {f : Value} {a : D} (h : ∀ {G A W s v}, A.handled = none → 0 < s.toks → WB G W s.heap → RepT G W s.heap v a → Wp G A (call f [v]) (Post G W s d) s) : BltOk f [a] d := fun hA z wb ⟨_, _, e, r, e'⟩ => e ▸ (show _ = [] from e') ▸ h hA z wb r
theorem blt2 {f : Value} {a b : D} (h : ∀ {G A W s v u}, A.handled = none → 0 < s.toks → WB G W s.heap → RepT G W s.heap v a → RepT G W s.heap u b → Wp G A (call f [v, u]) (Post G W s d) s) : BltOk f [a, b] d :=
  fun hA z wb ⟨_, _, e, r, _, _, e1, r1, e'⟩ => e ▸ e1 ▸ (show _ = [] from e') ▸ h hA z wb r r1
theorem bl_lenS {x : Str} (h : x.length ≤ 1048576) : BltOk (.builtin "len") [.str x] (.int x.length) := blt1 (a := .str x) fun _ _ _ ⟨_, a⟩ => a ▸ PyProof.Rows.len_str (by omega) pInt
theorem bl_lenL {l : List D} (h : l.length ≤ 1048576) : BltOk (.builtin "len") [.list l] (.int l.length) := blt1 fun _ _ _ a => by
  obtain ⟨_, vs, rfl, p, r⟩ := a.list
  exact r.size ▸ PyProof.Rows.len_list p.isList (by rw [r.size]; omega) pInt
/-- a list of ints -/
theorem ints_of {h : Heap} {is : List Int} : ∀ {vs : List Value}, Reps G W h vs (is.map .int) → ∃ xs : List (Int × Tok), vs = xs.map (fun p => .int p.1 p.2) ∧ xs.map (·.1) = is := by
  induction is with
  | nil => exact fun x => ⟨[], x, rfl⟩
  | cons i is ih =>
    rintro _ ⟨_, r, rfl, ⟨t, rfl⟩, c⟩
    obtain ⟨xs, h1, h2⟩ := ih c
    exact ⟨(i, t) :: xs, by rw [h1]; rfl, by rw [← h2]; rfl⟩
theorem preSum_eq (f : Nat → Int) (is : List Int) (h : ∀ i, f i = (is[i]?).getD 0) : ∀ n, n ≤ is.length → preSum f n = (is.take n).sum
  | 0, _ => rfl
  | n + 1, hn => by
    rw [preSum, preSum_eq f is h n (Nat.le_of_lt hn), List.take_succ_eq_append_getElem hn, List.sum_append, h, List.getElem?_eq_getElem hn]
    simp
theorem bl_sum {is : List Int} : BltOk (.builtin "sum") [.list (is.map .int)] (.int is.sum) := blt1 fun hA _ _ a => by
  obtain ⟨_, vs, rfl, p, r⟩ := a.list
  obtain ⟨xs, h1, h2⟩ := ints_of r
  have h1 : vs = intItems xs.toArray := by apply Array.toList_inj.mp; rw [h1]; simp [intItems]
  subst h1
  refine sum_intListG hA p.isList fun h' tk t' hk => ?_
  have z : xs.toArray.size = is.length := by rw [← h2]; simp
  rw [z, preSum_eq _ is (fun i => by simp [numAt, ← h2]) _ (Nat.le_refl _), List.take_length]
  exact ⟨kOf hk, rInt⟩
theorem bl_max2 {i j : Int} : BltOk (.builtin "max") [.int i, .int j] (.int (if i < j then j else i)) := blt2 (a := .int i) (b := .int j) fun hA _ _ ⟨_, a⟩ ⟨_, b⟩ => a ▸ b ▸ max_two_ints hA fun h' tk hk => ⟨kOf hk, by split <;> exact rInt⟩
theorem bl_min2 {i j : Int} : BltOk (.builtin "min") [.int i, .int j] (.int (if j < i then j else i)) := blt2 (a := .int i) (b := .int j) fun hA _ _ ⟨_, a⟩ ⟨_, b⟩ => a ▸ b ▸ min_two_ints hA fun h' tk hk => ⟨kOf hk, by split <;> exact rInt⟩
theorem bl_int {x : UInt64} {sg : Bool} {m : Nat} {e : Int} (h : Float64.decode x = .fin sg m e) : BltOk (.type "int") [.float x] (.int (Float64.truncOf sg m e)) := blt1 (a := .float x) fun _ _ _ ⟨_, a, _⟩ => a ▸ call_int_float h pInt
theorem bl_rng1 {i : Int} : BltOk (.type "range") [.int i] (.rng 0 i) := blt1 (a := .int i) fun _ _ wb ⟨_, a⟩ => a ▸ call_range_1 ⟨kPush, rRng wb.fresh (IsRange.new _ _ _ _ _ _ _)⟩
noncomputable def best3 (c : UInt64 → UInt64 → Bool) (x y z : UInt64) : UInt64 := if c z (if c y x then y else x) then z else (if c y x then y else x)
theorem three {op : CmpOp} {c : UInt64 → UInt64 → Bool} (hc : ∀ {prog w A E s x y t u} {Q : Value → Shared → Prop}, Q (.bool (c x y)) s → wpAny (model prog w) A (richCompare op (.float x t) (.float y u)) Q E s) {x y z : UInt64} {t u v : Tok} (hh : A.handled = none) (q1 : t ≠ 0) (q2 : u ≠ 0) (q3 : v ≠ 0) :
    Wp G A.in1 (pyIter (.ref s.heap.objs.size)) (fun it s₂ => ∃ I fp wr n P St bt, it = .ref I ∧ Walks G.prog G.w A.in1 I fp wr n P St ∧ St 0 s₂.heap ∧ (∀ b ∈ fp, b < s₂.heap.objs.size) ∧ 0 < n ∧ CmpOf G.prog G.w A.in1 op P bt ∧
      ∀ v h' tk, P (argBest bt (n - 1)) v → (∀ b o, b ∉ wr → s₂.heap.get? b = some o → h'.get? b = some o) → Post G W s (.float (best3 c x y z)) v { s₂ with heap := h', toks := tk }) { s with heap := s.heap.push { cls := .type "tuple", data := .seq #[.float x t, .float y u, .float z v] } } := by
  have hT : (s.heap.push { cls := .type "tuple", data := .seq #[.float x t, .float y u, .float z v] }).IsTuple s.heap.objs.size #[.float x t, .float y u, .float z v] := ⟨_, Heap.get?_push_size _ rfl, rfl, 0, rfl⟩
  have hsz : (s.heap.push { cls := .type "tuple", data := .seq #[.float x t, .float y u, .float z v] }).objs.size = s.heap.objs.size + 1 := Heap.size_push ..
  let fs : Nat → UInt64 := fun i => match i with | 0 => x | 1 => y | _ => z
  have at3 : ∀ (i : Nat) (b : Value), (#[Value.float x t, Value.float y u, Value.float z v] : Array Value)[i]? = some b → ∃ k : Tok, b = .float (fs i) k ∧ k ≠ 0
    | 0, b, h => ⟨t, by simpa [fs] using h.symm, q1⟩
    | 1, b, h => ⟨u, by simpa [fs] using h.symm, q2⟩
    | 2, b, h => ⟨v, by simpa [fs] using h.symm, q3⟩
    | n + 3, b, h => by simp at h
  refine wpAny_pyIter_tuple hT ⟨_, [_, s.heap.objs.size], [_], _, _, _, fun i j => c (fs i) (fs j), rfl, Walks.tuple (A := A.in1) hh _ s.heap.objs.size (by rw [hsz]; exact Nat.ne_of_lt (Nat.lt_succ_self _)) #[.float x t, .float y u, .float z v],
    ⟨⟨_, Heap.get?_push_size _ rfl, rfl, rfl⟩, hT.push _⟩, fun d hd => ?_, by simp, fun i j vi vj s' Q E hi hj hQ => ?_, fun b h' tk hP hk => ⟨kOf fun d o e => hk d o (fun hm => ?_) (kpPush _ _ (kpPush _ _ e)), ?_⟩⟩
  · show d < ((s.heap.push _).push _).objs.size
    rw [Heap.size_push, hsz]
    rcases List.mem_cons.mp hd with rfl | hd
    · rw [hsz]; exact Nat.lt_succ_self _
    · rw [List.mem_singleton.mp hd]; exact Nat.lt_succ_of_lt (Nat.lt_succ_self _)
  · obtain ⟨t, rfl, _⟩ := at3 i vi hi
    obtain ⟨u, rfl, _⟩ := at3 j vj hj
    exact hc hQ
  · have := Heap.lt_size e
    rw [List.mem_singleton.mp hm, hsz] at this
    exact Nat.not_succ_lt_self this
  · obtain ⟨k, rfl, hk⟩ := at3 _ b hP
    have e : fs (argBest (fun i j => c (fs i) (fs j)) 2) = best3 c x y z := by
      unfold best3
      simp only [argBest]
      by_cases h1 : c y x = true
      · by_cases h2 : c z y = true <;> simp [fs, h1, h2]
      · by_cases h2 : c z x = true <;> simp [fs, h1, h2]
    exact e ▸ rFlt hk
noncomputable def gtF (x y : UInt64) : Bool := Float64.cmp x y == some .gt
noncomputable def ltF (x y : UInt64) : Bool := Float64.cmp x y == some .lt
theorem blt3 {f : Value} {a b c : D} (h : ∀ {G A W s v u w}, A.handled = none → RepT G W s.heap v a → RepT G W s.heap u b → RepT G W s.heap w c → Wp G A (call f [v, u, w]) (Post G W s d) s) : BltOk f [a, b, c] d := fun hA _ _ H => by
  obtain ⟨_, _, rfl, r, _, _, rfl, r1, _, _, rfl, r2, e⟩ := H
  exact (show _ = [] from e) ▸ h hA r r1 r2
theorem bl_max3 {x y z : UInt64} : BltOk (.builtin "max") [.float x, .float y, .float z] (.float (best3 gtF x y z)) := blt3 (a := .float x) (b := .float y) (c := .float z) fun hA a b c => by
  obtain ⟨_, rfl, q1⟩ := a.flt; obtain ⟨_, rfl, q2⟩ := b.flt; obtain ⟨_, rfl, q3⟩ := c.flt
  exact call_max_three (three (op := .Gt) (c := gtF) (fun h => AutoFloatOps.gt_0 (by unfold gtF at h; exact h)) hA q1 q2 q3)
theorem bl_min3 {x y z : UInt64} : BltOk (.builtin "min") [.float x, .float y, .float z] (.float (best3 ltF x y z)) := blt3 (a := .float x) (b := .float y) (c := .float z) fun hA a b c => by
  obtain ⟨_, rfl, q1⟩ := a.flt; obtain ⟨_, rfl, q2⟩ := b.flt; obtain ⟨_, rfl, q3⟩ := c.flt
  exact call_min_three (three (op := .Lt) (c := ltF) (fun h => AutoFloatOps.lt_0 (by unfold ltF at h; exact h)) hA q1 q2 q3)
end
noncomputable section
open PyProof.Rows PySem.SeqAt PySem.Builtin PySem.Builtin.Str
variable {G : Gx} {A : Around} {W W' : Addr → Prop} {v u : Value} {d : D} {s s' : Shared} {n : Nat}
/-- what a method's call needs -/
structure MethOk (a : D) (m : Str) (as : List D) (d : D) (Ty id : String) : Prop where
  pa : PlainAttrs Ty
  slot : Slot Ty m id
  ty : typeOf (.builtin id) = pure (.type "method_descriptor")
  self : ∀ {G : Gx} {W : Addr → Prop} {s : Shared} {va : Value}, RepT G W s.heap va a → s.TypeIs va Ty ∧ ∀ b, va = .ref b → ∃ ob, s.heap.get? b = some ob ∧ ob.dict = Option.none
  call : ∀ {G : Gx} {A : Around} {W : Addr → Prop} {s : Shared} {va : Value} {vs : List Value}, A.handled = none → A.units + 10 < cLine → WB G W s.heap → NoneBooked s.heap → RepT G W s.heap va a → RepTs G W s.heap vs as → Wp G A (PySem.call (.builtin id) (va :: vs)) (Post G W s d) s
theorem strSelf {x : Str} {va : Value} (r : RepT G W s.heap va (.str x)) : s.TypeIs va "str" ∧ ∀ b, va = .ref b → ∃ ob, s.heap.get? b = some ob ∧ ob.dict = Option.none := by
  obtain ⟨t, rfl⟩ := r.str
  exact ⟨typeIs_str _ _ _, fun a e => nomatch e⟩
theorem str1 {x : Str} {m : Str} {a : D} {id : String} (slot : Slot "str" m id) (ty : typeOf (.builtin id) = pure (.type "method_descriptor"))
    (h : ∀ {G : Gx} {A : Around} {W : Addr → Prop} {s : Shared} {t : Tok} {u : Value}, A.handled = none → RepT G W s.heap u a → Wp G A (PySem.call (.builtin id) [.str x t, u]) (Post G W s d) s) : MethOk (.str x) m [a] d "str" id :=
  ⟨F.plainAttrs_str, slot, ty, strSelf, fun hA _ _ _ ⟨_, e⟩ ⟨_, _, e1, r, e2⟩ => e ▸ e1 ▸ (show _ = [] from e2) ▸ h hA r⟩
theorem md_starts {x y : Str} : MethOk (.str x) "startswith" [.str y] (.bool (Txt.startswith x y)) "str" "str.startswith" := str1 (a := .str y) F.slot_str_startswith F.type_str_startswith fun _ ⟨_, b⟩ => b ▸ SC.startswith pBool'
theorem md_ends {x y : Str} : MethOk (.str x) "endswith" [.str y] (.bool (Txt.endswith x y)) "str" "str.endswith" := str1 (a := .str y) F.slot_str_endswith F.type_str_endswith fun _ ⟨_, b⟩ => b ▸ SC.endswith pBool'
theorem md_index {x y : Str} (h : Txt.contains x y = true) : MethOk (.str x) "index" [.str y] (.int (Txt.find x y)) "str" "str.index" := str1 (a := .str y) F.slot_str_index F.type_str_index fun hA ⟨_, b⟩ => b ▸ PyProof.Rows.index_or hA (fun _ h2 => by unfold Txt.contains at h; rw [h2] at h; cases h) fun _ _ => pInt
theorem strs_of {h : Heap} {is : List Str} : ∀ {vs : List Value}, Reps G W h vs (is.map .str) → ∃ l : List (Str × Tok), vs = strValues l ∧ l.map (·.1) = is := by
  induction is with
  | nil => exact fun x => ⟨[], x, rfl⟩
  | cons i is ih =>
    rintro _ ⟨_, r, rfl, ⟨t, rfl⟩, c⟩
    obtain ⟨xs, h1, h2⟩ := ih c
    exact ⟨(i, t) :: xs, by rw [h1]; rfl, by rw [← h2]; rfl⟩
theorem md_join {x : Str} {ss : List Str} (h : JoinOk x ss = true) : MethOk (.str x) "join" [.list (ss.map .str)] (.str (Txt.join x ss)) "str" "str.join" := str1 (a := .list (ss.map .str)) F.slot_str_join F.type_str_join fun _ b => by
  obtain ⟨_, vs, rfl, p, r⟩ := b.list
  obtain ⟨l, h1, h2⟩ := strs_of r
  exact SC.join (l := l) (by rw [← h1]; exact p.isList) h2 h fun _ _ => pStr
noncomputable def findV (x y : Str) (i j : Int) : Int := match occurrences x y i.toNat (min j.toNat x.length) 1 with | k :: _ => (k : Int) | [] => -1
theorem gives_find4 (x y : Str) (i j : Int) (t u v v' : Tok) : Gives («str.find» ⟨[.str x t, .str y u, .int i v, .int j v'], []⟩)
    (.int (match occurrences x y (fromIndex x.length i) (min (max 0 (if j < 0 then j + x.length else j)).toNat x.length) 1 with | k :: _ => (k : Int) | [] => -1)) := by
  show Gives (match occurrences x y (fromIndex x.length i) (min (max 0 (if j < 0 then j + x.length else j)).toNat x.length) 1 with | k :: _ => retInt k | [] => (do rule "str.find.not-found"; retInt (-1))) _
  cases occurrences x y (fromIndex x.length i) (min (max 0 (if j < 0 then j + x.length else j)).toNat x.length) 1 with
  | nil => exact .rule (.of_eq rfl)
  | cons k _ => exact .of_eq rfl
theorem md_find {x y : Str} {i j : Int} (h1 : 0 ≤ i) (h2 : 0 ≤ j) : MethOk (.str x) "find" [.str y, .int i, .int j] (.int (findV x y i j)) "str" "str.find" :=
  ⟨F.plainAttrs_str, F.slot_str_find, F.type_str_find, strSelf, fun _ _ _ _ a b => by
    obtain ⟨t, rfl⟩ := a.str
    obtain ⟨_, _, rfl, ⟨u, rfl⟩, _, _, rfl, ⟨v, rfl⟩, _, _, rfl, ⟨z, rfl⟩, e⟩ := b
    have g := gives_find4 x y i j t u v z
    rw [show fromIndex x.length i = i.toNat by unfold fromIndex; rw [if_neg (Int.not_lt.mpr h1), Int.max_eq_right h1], if_neg (Int.not_lt.mpr h2), Int.max_eq_right h2] at g
    exact (show _ = [] from e) ▸ call_gives F.slot_str_find (typeIs_str _ _ _) F.entry_str_find (F.args_str_find_4 _ _ _ _) g pInt⟩
/-- split, with the new list's place -/
theorem split_at {x y : Str} {t u : Tok} {Q : Value → Shared → Prop} (hy : (y.length == 0) = false)
    (hq : ∀ (l : List (Str × Tok)) tk, l.map (·.1) = Txt.split x y → Q (.ref s.heap.objs.size) { s with heap := s.heap.push { cls := .type "list", data := .seq (strValues l).toArray }, toks := tk }) (hsz : x.length ≤ 1048576) : Wp G A (call (.builtin "str.split") [.str x t, .str y u]) Q s := by
  have hp : (partsBetween x (occurrences x y 0 x.length (x.length + 1)) y.length).length ≤ sizeLine := by
    have h : (occurrences x y 0 x.length (x.length + 1)).length ≤ x.length + 1 := StrLaws.occ_length_le x y 0 x.length (x.length + 1)
    refine Nat.le_trans ?_ (show 1048578 ≤ sizeLine by decide)
    unfold partsBetween
    simp
    omega
  cases h1 : (decide (x.length < y.length) || decide (Str.strKind x < Str.strKind y))
  · cases hf : (occurrences x y 0 x.length (x.length + 1)).isEmpty
    · refine call_meets F.slot_str_split (typeIs_str _ _ _) F.entry_str_split (F.args_str_split_2 _ _) (meets_str_split_sep x y t u h1 hy hf (szl hsz) hp) ?_
      show wants Q _ _ { s with toks := _, heap := s.heap.push { cls := .type "list", data := .seq (strsFrom s.toks (partsBetween x (occurrences x y 0 x.length (x.length + 1)) y.length)).toArray } }
      rw [strsFrom_eq]
      exact hq (numbered s.toks _) _ ((numbered_texts _ _).trans ((if_neg (ne_true_of_eq_false h1)).trans (if_neg (ne_true_of_eq_false hf))).symm)
    · exact call_meets F.slot_str_split (typeIs_str _ _ _) F.entry_str_split (F.args_str_split_2 _ _) (meets_str_split_not_found x y t u h1 hy hf)
        (hq [(x, t)] s.toks ((if_neg (ne_true_of_eq_false h1)).trans (if_pos hf)).symm)
  · exact call_meets F.slot_str_split (typeIs_str _ _ _) F.entry_str_split (F.args_str_split_2 _ _) (meets_str_split_cannot_occur x y t u h1)
      (hq [(x, t)] s.toks (if_pos h1).symm)
theorem reps_strs {h : Heap} : ∀ (l : List (Str × Tok)), Reps G W h (strValues l) ((l.map (·.1)).map .str)
  | [] => rfl
  | (x, t) :: r => .cons rStr (reps_strs r)
end
noncomputable section
open PyProof.Rows PySem.SeqAt
variable {G : Gx} {A : Around} {W W' O : Addr → Prop} {v u : Value} {d a b : D} {s s' : Shared} {n : Nat} {σ σ' : St} {env : Env} {x : Str} {e l r : Expr} {p q ap : Pos} {c k : Bool}
theorem load_of (S : EnvS env σ.names) (hx : isVarKind (σ.names.lookup x) = true) (h : Has env s.heap x v) {Q : Value → Shared → Prop} (hQ : Q v s) : Wp G A (loadName env x) Q s := by
  rcases h with ⟨k, l, h1, h2⟩ | ⟨k | k, c, h1, h2⟩
  · exact wpAny_loadName_local S.kind k h1 h2 hQ
  · exact wpAny_loadName_cell S.kind k h1 h2 hQ
  · refine wpAny_loadName_free S.kind k h1 h2 hQ ?_
    cases e : σ.names.lookup x with
    | none => rw [e] at hx; cases hx
    | some j => exact S.cd x j e
noncomputable def plainName (x : Str) : Bool := x != ("__debug__" : Str) && x != ("super" : Str)
theorem no_debug (hp : plainName x = true) : (x == ("__debug__" : Str)) = false := by
  have h := (Bool.and_eq_true_iff.mp hp).1
  rwa [bne, Bool.not_eq_true'] at h
theorem nm_var (hp : plainName x = true) (hx : isVarKind (σ.names.lookup x) = true) (hv : σ.vars.lookup x = some d) (S : Sit G W O env σ s) {Q : Value → Shared → Prop} (hQ : ∀ v, Has env s.heap x v → VRep G W s.heap O env.locals σ.own x v d → Q v s) : Wp G A (eval (.Name x p) env) Q s :=
  let ⟨v, h, r⟩ := S.val x d hx hv; wpAny_Name (load_of S.st hx h (hQ v h r)) (no_debug hp)
/-- a bound name: at the k-th place of the table -/
noncomputable def nth {α : Type} : List α → Nat → Option α
  | [], _ => none
  | a :: _, 0 => some a
  | _ :: r, k + 1 => nth r k
noncomputable def chkV (σ : St) (x : Str) (k : Nat) : Bool := plainName x && isVarKind (σ.names.lookup x) && ((σ.vars.map (·.1)).findIdx? (x == ·) == some k)
theorem chk_look : ∀ {l : List (Str × D)} {k : Nat} {y : Str}, ((l.map (·.1)).findIdx? (x == ·) == some k) = true → nth l k = some (y, d) → l.lookup x = some d
  | [], _, _, _, h => nomatch h
  | (z, f) :: l, k, y, h, e => by
    rw [beq_iff_eq, List.map_cons, List.findIdx?_cons] at h
    rw [List.lookup_cons]
    cases hz : x == z with
    | true =>
      simp only [hz, if_true, Option.some.injEq] at h
      subst h
      exact congrArg some (congrArg Prod.snd (Option.some.inj e))
    | false =>
      simp only [hz] at h
      obtain ⟨j, hj, rfl⟩ := Option.map_eq_some_iff.mp h
      exact chk_look (beq_iff_eq.mpr hj) e
theorem chk_use {i : Nat} {y : Str} (h : chkV σ x i = true) (e : nth σ.vars i = some (y, d)) : plainName x = true ∧ isVarKind (σ.names.lookup x) = true ∧ σ.vars.lookup x = some d :=
  let ⟨h1, h2⟩ := Bool.and_eq_true_iff.mp h; ⟨(Bool.and_eq_true_iff.mp h1).1, (Bool.and_eq_true_iff.mp h1).2, chk_look h2 e⟩
theorem ev_var (i : Nat) {y : Str} (e : nth σ.vars i = some (y, d)) (h : (chkV σ x i && !(σ.own == some x)) = true) : Ev n σ (.Name x p) d := fun _ S =>
  let ⟨h', ho⟩ := Bool.and_eq_true_iff.mp h; let ⟨h1, h2, h3⟩ := chk_use h' e; nm_var h1 h2 h3 S fun _ _ r => ⟨kRefl _, r.n (by simpa using ho)⟩
noncomputable def isGlob (σ : St) (x : Str) : Bool := plainName x && σ.names.lookup x == some .globalImplicit
theorem glob_kind (hg : isGlob σ x = true) (S : EnvS env σ.names) : env.kindOf x = some .globalImplicit := by
  rcases S.nm x _ (beq_iff_eq.mp (Bool.and_eq_true_iff.mp hg).2) with h | ⟨h, _⟩
  · exact h
  · cases h
theorem glob_go (hg : isGlob σ x = true) (S : Sit G W O env σ s) (h1 : G.mg x = some v) {Q : Value → Shared → Prop} (hQ : Q v s) : Wp G A (eval (.Name x p) env) Q s :=
  PySem.Calls.Name_function_global S.st.kind (glob_kind hg S.st) (PySem.Calls.loadGlobal_global (mg := G.mg) (by rw [S.st.gl]; exact S.ok.g.keeps S.kp) h1 hQ) (no_debug (Bool.and_eq_true_iff.mp hg).1)
theorem blt_go (hg : isGlob σ x = true) (S : Sit G W O env σ s) (h1 : bltT.lookup x = some v) {Q : Value → Shared → Prop} (hQ : Q v s) : Wp G A (eval (.Name x p) env) Q s :=
  let ⟨m1, m2⟩ := S.ok.blt x v h1
  PySem.Calls.Name_function_global S.st.kind (glob_kind hg S.st) (PySem.Calls.loadGlobal_builtin (mg := G.mg) (mb := G.mb) (by rw [S.st.gl]; exact S.ok.g.keeps S.kp) m1 (by rw [S.st.bl]; exact S.ok.b.keeps S.kp) m2 hQ) (no_debug (Bool.and_eq_true_iff.mp hg).1)
theorem ev_glob (h : isGlob σ x = true) (hv : cstT.lookup x = some d) : Ev n σ (.Name x p) d := fun _ S =>
  let ⟨_, h1, r⟩ := S.ok.const x d hv; glob_go h S h1 ⟨kRefl _, r.mv fun a o q e => ⟨fun w => q (S.wb a w).1, S.kp a o e⟩⟩
theorem ev_int {i : Int} {z} : Ev n σ (.Constant (.int i) z p) (.int i) := fun _ _ => wpAny_Constant_int pInt
theorem ev_str {i : Str} {z} : Ev n σ (.Constant (.str i) z p) (.str i) := fun _ _ => wpAny_Constant_str pStr
theorem ev_flt {i : UInt64} {z} : Ev n σ (.Constant (.float i) z p) (.float i) := fun _ S => PySem.wpAny_Constant_float (pFlt S.tk)
theorem ev_bool {i : Bool} {z} : Ev n σ (.Constant (.bool i) z p) (.bool i) := fun _ _ => wpAny_Constant_bool pBool'
theorem Pk.go (h : Pk n σ e d) (hA : Good n A) (S : Sit G W O env σ s) {Q : Value → Shared → Prop} (f : ∀ v s', Keeps s s' → RepT G W s'.heap v d → Sit G W O env σ s' → Q v s') : Wp G A (eval e env) Q s := (h hA S).go fun v s' t q => f v s' q.k q.r (S.next q.k t)
theorem Ev.go (h : Ev n σ e d) (hA : Good n A) (S : Sit G W O env σ s) {Q : Value → Shared → Prop} (f : ∀ v s', Keeps s s' → Rep G W s'.heap v d → Sit G W O env σ s' → Q v s') : Wp G A (eval e env) Q s := (h hA S).go fun v s' t q => f v s' q.k q.r (S.next q.k t)
theorem Tr.go (h : Tr n σ e c) (hA : Good n A) (S : Sit G W O env σ s) {Q : Bool → Shared → Prop} (f : ∀ s', Keeps s s' → Sit G W O env σ s' → Q c s') : Wp G A (isTrue e env (eval e env)) Q s := (h hA S).go fun _ s' t q => q.e ▸ f s' q.k (S.next q.k t)
/-- two looks -/
theorem pk2 (h1 : Pk n σ l a) (h2 : Pk n σ r b) (hA : Good n A) (S : Sit G W O env σ s) {t : Value → Value → Sem Value} {Q : Value → Shared → Prop} (h : ∀ va vb s₁, Keeps s s₁ → Sit G W O env σ s₁ → RepT G W s₁.heap va a → RepT G W s₁.heap vb b → Wp G A (t va vb) Q s₁) :
    Wp G A (eval l env) (fun va s₁ => Wp G A (eval r env) (fun vb s₂ => Wp G A (t va vb) Q s₂) s₁) s :=
  h1.go hA S fun _ _ k1 r1 S1 => h2.go hA S1 fun _ _ k2 r2 S2 => h _ _ _ (kTrans k1 k2) S2 (r1.mv (.of (kKp k2)) (kKp k2)) r2
theorem ev_bin {op : Operator} (h1 : Pk n σ l a) (h2 : Pk n σ r b) (h3 : BinOk op a b d) : Ev n σ (.BinOp l op r p) d := fun hA S => wpAny_BinOp (pk2 h1 h2 hA S fun _ _ _ k S1 r1 r2 => Wp.up k (h3 S1.tk S1.wb r1 r2))
theorem Sit.booked (S : Sit G W O env σ s) : NoneBooked s.heap := let ⟨m, h1, h2⟩ := S.ok.nb; ⟨m, h1.keeps S.kp, h2⟩
theorem Good.u10 (hA : Good n A) : A.units + 10 < cLine := Nat.lt_of_le_of_lt (Nat.add_le_add_right (Nat.le_add_right _ _) _) hA.u
theorem ev_cmp {op : CmpOp} (hs : behindInMarks op r = false) (h1 : Pk n σ l a) (h2 : Pk n σ r b) (h3 : CmpOk op a b k) : Ev n σ (.Compare l [op] [r] p) (.bool k) := fun hA S =>
  wpAny_Compare1 (pk2 h1 h2 hA S fun _ _ _ z S1 r1 r2 => Wp.up z (h3 hA.u10 S1.booked r1 r2)) hs
theorem tr_cmp {op : CmpOp} (hs : behindInMarks op r = false) (h1 : Pk n σ l a) (h2 : Pk n σ r b) (h3 : CmpOk op a b k) : Tr n σ (.Compare l [op] [r] p) k := fun hA S =>
  wpAny_isTrue_Compare1 (h1.go hA S fun _ _ k1 r1 S1 => h2.go hA S1 fun _ _ k2 r2 S2 => (h3 hA.u10 S2.booked (r1.mv (.of (kKp k2)) (kKp k2)) r2).mono fun v _ q => (show v = .bool k from q.r) ▸ wpAny_truthy_bool ⟨rfl, kTrans (kTrans k1 k2) q.k⟩) hs
/-- truth -/
inductive Truth : D → Bool → Prop
  | bool {b : Bool} : Truth (.bool b) b
  | str {x : Str} : x.length ≤ 1048576 → Truth (.str x) (x.length != 0)
theorem Truth.ok (h : Truth d c) (r : Rep G W s.heap v d) : Wp G A (truthy v) (PostB s c) s := by
  cases h with
  | bool => exact (show v = .bool c from r) ▸ wpAny_truthy_bool ⟨rfl, kRefl _⟩
  | str hx =>
    obtain ⟨t, rfl⟩ := r
    refine PySem.P.truthy_str (by omega) ⟨?_, kTok⟩
    rw [Bool.eq_iff_iff]
    simp
noncomputable def plainT (e : Expr) : Prop := ∀ env, isTrue e env (eval e env) = (do let v ← eval e env; standAt e.pos; holding [v] (truthy v))
theorem tr_of (hp : plainT e) (h : Ev n σ e d) (ht : Truth d c) : Tr n σ e c := fun hA S => isTrue_plain (h.go hA S fun _ _ k1 r1 _ => (ht.ok r1).mono fun _ _ q => ⟨q.e, kTrans k1 q.k⟩) (hp _)
theorem tr_not (h : Tr n σ e c) : Tr n σ (.UnaryOp .Not e p) (!c) := fun hA S => PyProof.Rows.isTrue_not (h.go hA S fun _ k _ => ⟨rfl, k⟩)
theorem ev_neg {i : Int} (h : Ev n σ e (.int i)) : Ev n σ (.UnaryOp .USub e p) (.int (-i)) := fun hA S => wpAny_UnaryOp (h.go hA S fun _ _ k1 ⟨_, r⟩ _ => r ▸ Wp.up k1 (PySem.P.neg_int pInt))
theorem ev_if {t x y : Expr} (h1 : Tr n σ t c) (h2 : c = true → Ev n σ x d) (h3 : c = false → Ev n σ y d) : Ev n σ (.IfExp t x y p) d := fun hA S => wpAny_IfExp (h1.go hA S fun _ k S1 => by
  cases c with
  | true => exact Wp.up k (h2 rfl hA S1)
  | false => exact Wp.up k (h3 rfl hA S1))
/-- one after the other, to the first that decides -/
noncomputable def TrAll (n : Nat) (σ : St) (op : BoolOp) (es : List Expr) (c : Bool) : Prop := ∀ {G A W O env s}, Good n A → Sit G W O env σ s → Wp G A (allTrue op es env) (PostB s c) s
theorem ta_and0 : TrAll n σ .And [] true := fun _ _ => wpAny_pure ⟨rfl, kRefl _⟩
theorem ta_or0 : TrAll n σ .Or [] false := fun _ _ => wpAny_pure ⟨rfl, kRefl _⟩
theorem ta_and {es : List Expr} {c k : Bool} (h1 : Tr n σ e c) (h2 : c = true → TrAll n σ .And es k) : TrAll n σ .And (e :: es) (c && k) := fun hA S => wpAny_bind (h1.go hA S fun _ k1 S1 => by
  cases c with
  | true => exact (h2 rfl hA S1).mono fun _ _ q => ⟨q.e, kTrans k1 q.k⟩
  | false => exact wpAny_pure ⟨rfl, k1⟩)
theorem ta_or {es : List Expr} {c k : Bool} (h1 : Tr n σ e c) (h2 : c = false → TrAll n σ .Or es k) : TrAll n σ .Or (e :: es) (c || k) := fun hA S => wpAny_bind (h1.go hA S fun _ k1 S1 => by
  cases c with
  | false => exact (h2 rfl hA S1).mono fun _ _ q => ⟨q.e, kTrans k1 q.k⟩
  | true => exact wpAny_pure ⟨rfl, k1⟩)
theorem tr_boolop {op : BoolOp} {es : List Expr} (h : TrAll n σ op es c) : Tr n σ (.BoolOp op es p) c := fun hA S => h hA S
/-- the same for values, all of them bools -/
noncomputable def BoAll (n : Nat) (σ : St) (op : BoolOp) (es : List Expr) (d : D) : Prop := ∀ {G A W O env s p}, Good n A → Sit G W O env σ s → Wp G A (boolOp p op (evalEach es env)) (Post G W s d) s
theorem bo_last {op : BoolOp} (h : Ev n σ e d) : BoAll n σ op [e] d := fun hA S => h hA S
theorem bo_and {e' : Expr} {t : List Expr} {u v : Bool} (h1 : Ev n σ e (.bool u)) (h2 : u = true → BoAll n σ .And (e' :: t) (.bool v)) : BoAll n σ .And (e :: e' :: t) (.bool (u && v)) := fun hA S =>
  wpAny_bind (h1.go hA S fun w _ k1 r1 S1 => (show w = .bool u from r1) ▸ wpAny_bind (wpAny_standAt (wpAny_bind (wpAny_holding (wpAny_truthy_bool (by
    cases u with
    | true => exact Wp.up k1 (h2 rfl hA S1)
    | false => exact wpAny_pure ⟨k1, rfl⟩))))))
theorem ev_boolop {op : BoolOp} {es : List Expr} (h : BoAll n σ op es d) : Ev n σ (.BoolOp op es p) d := fun hA S => h hA S
end
noncomputable section
open PyProof.Rows PySem.SeqAt
variable {G : Gx} {A : Around} {W W' O : Addr → Prop} {v u : Value} {d a b : D} {s s' : Shared} {n : Nat} {σ σ' : St} {env : Env} {x f : Str} {e l r o : Expr} {p q ap : Pos} {as : List Expr} {ds : List D}
noncomputable def tsOf (as : List Expr) (env : Env) : List (Bool × Sem Value) := as.map fun e => (false, eval e env)
theorem tsOf_st : ∀ (as : List Expr) (env : Env), (tsOf as env).any (·.1) = false
  | [], _ => rfl
  | _ :: as, env => tsOf_st as env
/-- arguments, looked at -/
structure PkAll (n : Nat) (σ : St) (as : List Expr) (ds : List D) : Prop where
  ok : ∀ {G A W O env s}, Good n A → Sit G W O env σ s → Wp G A (spliced (tsOf as env)) (fun vs s' => Keeps s s' ∧ RepTs G W s'.heap vs ds) s
/-- arguments, handed on -/
structure EvAll (n : Nat) (σ : St) (as : List Expr) (ds : List D) : Prop where
  ok : ∀ {G A W O env s}, Good n A → Sit G W O env σ s → Wp G A (spliced (tsOf as env)) (fun vs s' => Keeps s s' ∧ Reps G W s'.heap vs ds) s
theorem pa_nil : PkAll n σ [] [] := ⟨fun _ _ => PySem.Calls.spliced_nil ⟨kRefl _, rfl⟩⟩
theorem pa_cons (h1 : Pk n σ e d) (h2 : PkAll n σ as ds) : PkAll n σ (e :: as) (d :: ds) := ⟨fun hA S =>
  PySem.Calls.spliced_cons (h1.go hA S fun _ _ k1 r1 S1 => (h2.ok hA S1).mono fun _ _ q => ⟨kTrans k1 q.1, _, _, rfl, r1.mv (.of (kKp q.1)) (kKp q.1), q.2⟩)⟩
theorem ea_nil : EvAll n σ [] [] := ⟨fun _ _ => PySem.Calls.spliced_nil ⟨kRefl _, rfl⟩⟩
theorem ea_cons (h1 : Ev n σ e d) (h2 : EvAll n σ as ds) : EvAll n σ (e :: as) (d :: ds) := ⟨fun hA S =>
  PySem.Calls.spliced_cons (h1.go hA S fun _ _ k1 r1 S1 => (h2.ok hA S1).mono fun _ _ q => ⟨kTrans k1 q.1, _, _, rfl, r1.keeps q.1, q.2⟩)⟩
theorem EvAll.go (h : EvAll n σ as ds) (hA : Good n A) (S : Sit G W O env σ s) {Q : List Value → Shared → Prop} (f : ∀ vs s', Keeps s s' → Reps G W s'.heap vs ds → Sit G W O env σ s' → Q vs s') : Wp G A (spliced (tsOf as env)) Q s := (h.ok hA S).go fun vs s' t q => f vs s' q.1 q.2 (S.next q.1 t)
theorem PkAll.go (h : PkAll n σ as ds) (hA : Good n A) (S : Sit G W O env σ s) {Q : List Value → Shared → Prop} (f : ∀ vs s', Keeps s s' → RepTs G W s'.heap vs ds → Sit G W O env σ s' → Q vs s') : Wp G A (spliced (tsOf as env)) Q s := (h.ok hA S).go fun vs s' t q => f vs s' q.1 q.2 (S.next q.1 t)
theorem args_go {fv : Value} {tr : List (Bool × Sem Value)} {Q : Args → Shared → Prop} (hs : tr.any (·.1) = false) (h : Wp G A (spliced tr) (fun vs s' => Q ⟨vs, []⟩ s') s) : Wp G A (evalArgs fv true tr []) Q s := by
  match tr, hs, h with
  | [], _, h =>
    unfold evalArgs
    exact wpAny_bind (h.mono fun _ _ h' => wpAny_holding (wpAny_bind (wpAny_pure (wpAny_bind (wpAny_pure (wpAny_pure h'))))))
  | (false, _) :: _, _, h => exact PySem.Calls.evalArgs_plain h
theorem ev_list (ht : ∀ env, backTo p (starEach as env) = tsOf as env) (hl : ds.length ≤ 1048576) (h : EvAll n σ as ds) : Ev n σ (.List as p) (.list ds) := fun hA S => wpAny_List (by
  rw [ht]
  exact h.go hA S fun vs s1 k1 r1 S1 => ⟨r1.length ▸ szl hl, (S1.wb.new (vs := vs.toArray) r1).up k1⟩)
theorem ev_tuple {z} (ht : ∀ env, backTo p (starEach as env) = tsOf as env) (hl : ds.length ≤ 1048576) (h : EvAll n σ as ds) : Ev n σ (.Tuple as z p) (.tuple ds) := fun hA S => wpAny_Tuple (by
  rw [ht]
  exact h.go hA S fun vs s1 k1 r1 S1 => ⟨r1.length ▸ szl hl, kTrans k1 kPush, rTup (vs := vs.toArray) S1.wb.fresh (Heap.get?_push_size _ rfl) (r1.mv (.of kpPush))⟩)
theorem few (ht : backTo p (starEach as env) = tsOf as env) (hn : as.length + 0 + 0 < 30) : ((backTo p (starEach as env)).all (fun x => !x.1) && (backToKw p (keywordEach [] env)).all (fun x => x.1.isSome)
      && decide (as.length + ([] : List Keyword).length + (if ([] : List Keyword).isEmpty then 0 else 1) < 30)) = true := by
  rw [ht, List.all_eq_not_any_not]
  simp only [Bool.not_not, tsOf_st]
  exact decide_eq_true hn
theorem ev_meth {m : Str} {Ty id : String} (hb : ∀ env, attributeBase o m env (eval o env) = eval o env) (hl : (ap.endLine == p.line) = true) (hn : as.length + 0 + 0 < 30) (ht : ∀ env, backTo p (starEach as env) = tsOf as env) (h1 : Pk n σ o a) (h2 : PkAll n σ as ds) (h3 : MethOk a m ds d Ty id) :
    Ev n σ (.Call (.Attribute o m ap) as [] p) d := fun hA S => by
  refine wpAny_Call_method (hb _) (few (ht _) hn) hl h3.pa h3.slot h3.ty (h1.go hA S fun va s1 k1 r1 S1 => ?_)
  obtain ⟨c1, c2⟩ := h3.self r1
  rw [ht]
  exact ⟨c1, c2, PySem.Calls.callWith_builtin (tsOf_st as _) (args_go (tsOf_st as _) (h2.go hA S1 fun vs s2 k2 r2 S2 => Wp.up (kTrans k1 k2) (h3.call hA.h hA.u10 S2.wb S2.booked (r1.mv (.of (kKp k2)) (kKp k2)) r2)))⟩
theorem ev_blt {fv : Value} (hg : isGlob σ f = true) (hf : bltT.lookup f = some fv) (ht : ∀ env, backTo p (starEach as env) = tsOf as env) (h2 : PkAll n σ as ds) (h3 : BltOk fv ds d) : Ev n σ (.Call (.Name f q) as [] p) d := fun hA S => by
  have key : (∃ i, fv = .builtin i) ∨ ∃ i, fv = .type i := by
    have : (bltT.all fun e => match e.2 with | .builtin _ => true | .type _ => true | _ => false) = true := by rfl
    obtain ⟨l1, l2, e, _⟩ := List.lookup_eq_some_iff.mp hf
    have z := List.all_eq_true.mp this (f, fv) (by rw [e]; simp)
    cases fv with
    | builtin i => exact .inl ⟨i, rfl⟩
    | type i => exact .inr ⟨i, rfl⟩
    | _ => cases z
  refine wpAny_Call_NameR (blt_go hg S hf ?_)
  rw [ht]
  rcases key with ⟨i, rfl⟩ | ⟨i, rfl⟩
  · exact PySem.Calls.callWith_builtin (tsOf_st as _) (args_go (tsOf_st as _) (h2.go hA S fun vs s2 k2 r2 S2 => Wp.up k2 (h3 hA.h S2.tk S2.wb r2)))
  · exact PySem.callWith_type (tsOf_st as _) (args_go (tsOf_st as _) (h2.go hA S fun vs s2 k2 r2 S2 => Wp.up k2 (h3 hA.h S2.tk S2.wb r2)))
/-- a function's call -/
noncomputable def Call (n : Nat) (f : Str) (ds : List D) (d : D) : Prop := (∃ i, fns f = some i) ∧ ∀ {G A W s vs a}, Good n A → GOk G → 0 < s.toks → Kp G.h0 s.heap → G.h0.objs.size ≤ s.heap.objs.size → WB G W s.heap → G.mg f = some (.ref a) → Reps G W s.heap vs ds → Wp G A (call (.ref a) vs) (Post G W s d) s
theorem ev_call (hg : isGlob σ f = true) (ht : ∀ env, backTo p (starEach as env) = tsOf as env) (h2 : EvAll n σ as ds) (h3 : Call n f ds d) : Ev n σ (.Call (.Name f q) as [] p) d := fun hA S => by
  obtain ⟨i, hi⟩ := h3.1
  obtain ⟨a, o, pm, cd, doc, m1, m2, m3, m4⟩ := S.ok.fn f i hi
  refine wpAny_Call_NameR (glob_go hg S m1 ?_)
  rw [ht]
  exact PySem.Calls.callWith_function (o := o) (fd := PySem.Calls.docDef f i.params i.body i.scope pm cd doc) (args_go (tsOf_st as _) (h2.go hA S fun vs s2 k2 r2 S2 => ⟨⟨S2.kp _ _ m2, m3⟩, Wp.up k2 (h3.2 hA S2.ok S2.tk S2.kp (Nat.le_of_lt (Nat.lt_of_le_of_lt (S2.wb _ (S2.fr _ (.inl rfl))).1 (S2.wb.lt (S2.fr _ (.inl rfl))))) S2.wb m1 r2)⟩))
theorem ev_item {w i : Expr} {k : D} (h1 : Pk n σ w a) (h2 : Ev n σ i k) (h3 : ItemOk a k d) : Ev n σ (.Subscript w i p) d := fun hA S =>
  Subscript_ (h1.go hA S fun _ _ k1 r1 S1 => h2.go hA S1 fun _ _ k2 r2 _ => Wp.up (kTrans k1 k2) (h3 (r1.mv (.of (kKp k2)) (kKp k2)) (.of r2)))
/-- a slice's part -/
noncomputable def PartOk (n : Nat) (σ : St) (e : Option Expr) (i : Option Int) : Prop := ∀ {G A W O env s}, Good n A → Sit G W O env σ s → Wp G A (evalPart e env) (fun v s' => IsPart v i ∧ Keeps s s') s
theorem pt_none : PartOk n σ none none := fun _ _ => wpAny_pure ⟨.none, kRefl _⟩
theorem pt_some {i : Int} (h : Ev n σ e (.int i)) : PartOk n σ (some e) (some i) := fun hA S => h.go hA S fun _ _ k ⟨_, r⟩ _ => r ▸ ⟨.int _ _, k⟩
theorem PartOk.go {e : Option Expr} {i : Option Int} (h : PartOk n σ e i) (hA : Good n A) (S : Sit G W O env σ s) {Q : Value → Shared → Prop} (f : ∀ v s', Keeps s s' → IsPart v i → Sit G W O env σ s' → Q v s') : Wp G A (evalPart e env) Q s := (h hA S).go fun v s' t q => f v s' q.2 q.1 (S.next q.2 t)
theorem ev_slice {w : Expr} {lo hi st : Option Expr} {i j k : Option Int} (h1 : Pk n σ w a) (h2 : PartOk n σ lo i) (h3 : PartOk n σ hi j) (h4 : PartOk n σ st k) (h5 : SliceOk a i j k d) : Ev n σ (.Subscript w (.Slice lo hi st q) p) d := fun hA S =>
  Subscript_ (h1.go hA S fun _ _ k1 r1 S1 => wpAny_Slice (h2.go hA S1 fun vl _ k2 p2 S2 => h3.go hA S2 fun vu _ k3 p3 S3 => h4.go hA S3 fun vx s4 k4 p4 S4 => by
    have k5 : Keeps s4 { s4 with heap := s4.heap.push { cls := .type "slice", data := .fields #[vl, vu, vx] } } := kPush
    have kk := kTrans k2 (kTrans k3 (kTrans k4 k5))
    exact Wp.up (kTrans k1 kk) (h5 (S4.next k5 (Nat.le_refl _)).wb (r1.mv (.of (kKp kk)) (kKp kk)) (Heap.IsSliceOf.new ..) p2 p3 p4)))
end
noncomputable section
open PyProof.Rows PySem.SeqAt
variable {G : Gx} {A : Around} {W W' W'' O O' O'' : Addr → Prop} {v u : Value} {d a b : D} {s s' s'' : Shared} {n : Nat} {σ σ' : St} {env : Env} {x : Str} {e : Expr} {ns : List (Str × NameKind)}
/-- the frame's objects that it may change -/
noncomputable def Mut (env : Env) (ns : List (Str × NameKind)) (a : Addr) : Prop := a = env.locals ∨ ∃ x, ns.lookup x = some .cell ∧ env.cells.lookup x = some a
theorem Mut.fr {a : Addr} (h : Mut env ns a) : FrA env ns a := h.imp_right fun ⟨x, h, e⟩ => ⟨x, by rw [h]; rfl, e⟩
theorem Sit.mut (S : Sit G W O env σ s) (a : Addr) (h : Mut env σ.names a) : W a := S.fr a h.fr
/-- all objects but those of W are kept -/
noncomputable def KeepsB (W : Addr → Prop) (s s' : Shared) : Prop := ∃ h' tk, s' = { s with heap := h', toks := tk } ∧ KpB W s.heap h'
theorem KeepsB.of (k : Keeps s s') : KeepsB W s s' := let ⟨h', tk, e, k⟩ := k; ⟨h', tk, e, fun b o _ q => k b o q⟩
theorem KeepsB.kp (k : KeepsB W s s') : KpB W s.heap s'.heap := by
  obtain ⟨h1, t1, rfl, k1⟩ := k
  exact k1
theorem KeepsB.trans' {X Y : Addr → Prop} (k : KeepsB X s s') (j : KeepsB Y s' s'') (h : ∀ a o, ¬ W a → s.heap.get? a = some o → ¬ X a ∧ ¬ Y a) : KeepsB W s s'' := by
  obtain ⟨h1, t1, rfl, k1⟩ := k
  obtain ⟨h2, t2, rfl, k2⟩ := j
  exact ⟨h2, t2, rfl, fun a o w q => k2 a o (h a o w q).2 (k1 a o (h a o w q).1 q)⟩
theorem KeepsB.trans (k : KeepsB W s s') (j : KeepsB W s' s'') : KeepsB W s s'' := k.trans' j fun _ _ h _ => ⟨h, h⟩
theorem KeepsB.sub {M : Addr → Prop} (h : ∀ a, M a → W a) (k : KeepsB M s s') : KeepsB W s s' := let ⟨h', tk, e, k⟩ := k; ⟨h', tk, e, fun b o hb q => k b o (fun q' => hb (h b q')) q⟩
/-- what statements may do to the places -/
structure Stp (env : Env) (ns : List (Str × NameKind)) (W O : Addr → Prop) (s : Shared) (W' O' : Addr → Prop) (s' : Shared) : Prop where
  keep : KeepsB (fun a => Mut env ns a ∨ O a) s s'
  wn : ∀ a, W' a → W a ∨ s.heap.get? a = none
  on : ∀ a, O' a → O a ∨ s.heap.get? a = none
  wo : ∀ a, W a → W' a ∨ O a
theorem Stp.keeps (k : Keeps s s') : Stp env ns W O s W O s' := ⟨.of k, fun _ => .inl, fun _ => .inl, fun _ => .inl⟩
theorem Stp.mut (k : KeepsB (Mut env ns) s s') : Stp env ns W O s W O s' := ⟨k.sub fun _ => .inl, fun _ => .inl, fun _ => .inl, fun _ => .inl⟩
theorem Stp.gone {c : Addr} (a : Stp env ns W O s W' O' s') (w : ∀ c, Mut env ns c ∨ O c → W c) (q : s'.heap.get? c = none) : W c ∨ s.heap.get? c = none := by
  cases e : s.heap.get? c with
  | none => exact .inr rfl
  | some o => exact .inl (w c (Classical.byContradiction fun h => by rw [a.keep.kp c o h e] at q; cases q))
theorem Stp.trans (S : Sit G W O env σ s) (hn : σ.names = ns) (S' : Sit G W' O' env σ' s') (a : Stp env ns W O s W' O' s') (b : Stp env ns W' O' s' W'' O'' s'') : Stp env ns W O s W'' O'' s'' := by
  have w : ∀ c, Mut env ns c ∨ O c → W c := fun c q => q.elim (fun q => S.mut c (hn ▸ q)) (S.ow c)
  refine ⟨a.keep.trans' b.keep fun c o h e => ⟨h, fun q => h (q.imp_right fun q => (a.on c q).resolve_right fun z => by rw [z] at e; cases e)⟩, fun c q => (b.wn c q).elim (a.wn c) (a.gone w), fun c q => (b.on c q).elim (a.on c) fun z => ?_, fun c q => ?_⟩
  · refine (a.gone w z).elim (fun q => ?_) .inr
    exact (a.wo c q).elim (fun q => let ⟨_, o, e⟩ := S'.wb c q; by rw [z] at e; cases e) .inl
  · exact (a.wo c q).elim (fun q' => (b.wo c q').elim .inl fun q' => (a.on c q').elim .inr fun z => let ⟨_, o, e⟩ := S.wb c q; by rw [z] at e; cases e) .inr
/-! stores -/
noncomputable def putV (σ : St) (x : Str) (d : D) (own : Option Str) : St := ⟨σ.names, (x, d) :: σ.vars, own⟩
noncomputable def storeK (k : Option NameKind) : Bool := k == some .local || k == some .cell
theorem cell_ne {h : Heap} {a L : Addr} {v : Option Value} {l} (hc : h.IsCell a v) (hn : h.Ns L l) : a ≠ L := fun e => by
  subst e
  obtain ⟨o, h1, h2⟩ := hc
  obtain ⟨o', es, ep, h3, h4, _⟩ := hn
  rw [h1] at h3; cases h3
  rw [h2] at h4; cases h4
theorem Ns.same {h h' : Heap} {L X : Addr} {l} (x : h.Ns L l) (k : ∀ b o, b ≠ X → h.get? b = some o → h'.get? b = some o) (e : L ≠ X) : h'.Ns L l := Ns.mv x fun o => k L o e
theorem cell_same {h h' : Heap} {c X : Addr} {u} (x : h.IsCell c u) (k : ∀ b o, b ≠ X → h.get? b = some o → h'.get? b = some o) (e : c ≠ X) : h'.IsCell c u := let ⟨o, q, r⟩ := x; ⟨o, k c o e q, r⟩
theorem Ns.eq {h : Heap} {L : Addr} {l m} (p : h.Ns L l) (q : h.Ns L m) (y : Str) : l y = m y := by
  obtain ⟨o, es, ep, h1, h2, _, h4⟩ := p
  obtain ⟨o', es', ep', g1, g2, _, g4⟩ := q
  rw [h1] at g1; cases g1
  rw [h2] at g2; cases g2
  exact (h4 y).symm.trans (g4 y)
/-- one place X of the frame is changed -/
theorem Sit.put {X : Addr} {own' : Option Str} (S : Sit G W O env σ s) (tk : 0 < s'.toks) (hX : FrA env σ.names X) (k : ∀ b o, b ≠ X → s.heap.get? b = some o → s'.heap.get? b = some o) (hO : ∀ o, O X → X ≠ env.locals → s.heap.get? X = some o → notCell o → False)
    (lex : ∃ l, s'.heap.Ns env.locals l) (cex : ∀ y, isCellKind (σ.names.lookup y) = true → ∃ c u, env.cells.lookup y = some c ∧ s'.heap.IsCell c u) (hs : Has env s'.heap x v) (ho : ∀ y u, y ≠ x → isVarKind (σ.names.lookup y) = true → Has env s.heap y u → Has env s'.heap y u)
    (hv : VRep G W s.heap O env.locals own' x v d) (hn : ∀ y, y ≠ x → (own' = some y ↔ σ.own = some y)) : Sit G W O env (putV σ x d own') s' := by
  have m : Mv W s.heap W s'.heap := .kp fun b o h e => k b o (fun q => h (q ▸ S.fr X hX)) e
  have ko : ∀ a o, O a → a ≠ env.locals → s.heap.get? a = some o → notCell o → O a ∧ s'.heap.get? a = some o := fun a o q h e z => ⟨q, k a o (fun w => hO o (w ▸ q) (w ▸ h) (w ▸ e) z) e⟩
  have xe : ∃ o, s'.heap.get? X = some o := hX.elim (fun e => let ⟨_, o, _, _, q, _⟩ := lex; ⟨o, e ▸ q⟩) fun ⟨y, h1, h2⟩ => let ⟨c, _, h3, o, h4, _⟩ := cex y h1; ⟨o, by rw [h2] at h3; cases h3; exact h4⟩
  refine ⟨S.ok, tk, fun b o e => k b o (fun q => Nat.lt_irrefl _ (Nat.lt_of_lt_of_le (Heap.lt_size (q ▸ e)) (S.wb X (S.fr X hX)).1)) (S.kp b o e), fun a q => ⟨(S.wb a q).1, ?_⟩, S.st, lex, cex, S.fr, fun y d' h1 g2 => ?_, S.ow⟩
  · by_cases w : a = X
    · exact w ▸ xe
    · obtain ⟨_, o, e⟩ := S.wb a q
      exact ⟨o, k a o w e⟩
  · have h2 : ((x, d) :: σ.vars).lookup y = some d' := g2
    rw [List.lookup_cons] at h2
    cases hy : y == x with
    | true =>
      rw [hy] at h2
      cases beq_iff_eq.mp hy
      cases Option.some.inj h2
      exact ⟨v, hs, hv.mv m ko⟩
    | false =>
      rw [hy] at h2
      have hy : y ≠ x := fun q => by simp [q] at hy
      obtain ⟨u, h3, r⟩ := S.val y d' h1 h2
      exact ⟨u, ho y u hy h1 h3, (r.ownC (hn y hy)).mv m ko⟩
theorem store_gen {own' : Option Str} {Q : Unit → Shared → Prop} (S : Sit G W O env σ s) (hx : storeK (σ.names.lookup x) = true) (hv : VRep G W s.heap O env.locals own' x v d) (hn : ∀ y, y ≠ x → (own' = some y ↔ σ.own = some y))
    (hQ : ∀ s', Sit G W O env (putV σ x d own') s' → KeepsB (Mut env σ.names) s s' → Q () s') : Wp G A (storeName env x v) Q s := by
  obtain ⟨l, hl⟩ := S.lex
  have kind : ∀ k, σ.names.lookup x = some k → k ≠ .free → env.kindOf x = some k := fun k e h => (S.st.nm x k e).elim id fun q => absurd q.1 h
  rcases Bool.or_eq_true_iff.mp hx with hx | hx <;> have hx := beq_iff_eq.mp hx
  · have kx := kind _ hx (by decide)
    refine wpAny_storeName_local kx hl (fun h' hl' hs' => ?_) (by rw [S.st.kind]; rfl)
    have k : ∀ b o, b ≠ env.locals → s.heap.get? b = some o → h'.get? b = some o := fun b o hb e => hs'.extBut b o hb e
    refine hQ _ (S.put (Nat.succ_pos _) (.inl rfl) k (fun o _ h _ _ => h rfl) ⟨_, hl'⟩ (fun y hy => let ⟨c, u, e, q⟩ := S.cex y hy; ⟨c, u, e, cell_same q k (cell_ne q hl)⟩) (.inl ⟨kx, _, hl', if_pos rfl⟩) (fun y u hy _ h => ?_) hv hn) ⟨h', _, rfl, fun b o hb e => k b o (fun q => hb (.inl q)) e⟩
    exact h.imp (fun ⟨e, m, h1, h2⟩ => ⟨e, _, hl', by rw [if_neg hy]; exact (Ns.eq h1 hl y).symm.trans h2⟩) fun ⟨e, c, h1, h2⟩ => ⟨e, c, h1, cell_same h2 k (cell_ne h2 hl)⟩
  · have kx := kind _ hx (by decide)
    have hcx : isCellKind (σ.names.lookup x) = true := by rw [hx]; rfl
    obtain ⟨c, u, h1, h2⟩ := S.cex x hcx
    refine wpAny_storeName_cell S.st.kind kx h1 h2 fun h' hc' hs' => ?_
    have k : ∀ b o, b ≠ c → s.heap.get? b = some o → h'.get? b = some o := fun b o hb e => hs'.extBut b o hb e
    have hL : env.locals ≠ c := (cell_ne h2 hl).symm
    refine hQ _ (S.put S.tk (.inr ⟨x, hcx, h1⟩) k (fun o _ _ e z => let ⟨o', e', q⟩ := h2; z _ (by rw [e] at e'; cases e'; exact q)) ⟨l, Ns.same hl k hL⟩ (fun y hy => ?_) (.inr ⟨.inl kx, c, h1, hc'⟩) (fun y w hy hk h => ?_) hv hn) ⟨h', _, rfl, fun b o hb e => k b o (fun q => hb (.inr ⟨x, hx, q ▸ h1⟩)) e⟩
    · by_cases e : y = x
      · exact e ▸ ⟨c, _, h1, hc'⟩
      · obtain ⟨c', u', e1, q⟩ := S.cex y hy
        exact ⟨c', u', e1, cell_same q k fun z => e (S.st.apart y x c (z ▸ e1) h1)⟩
    · exact h.imp (fun ⟨e, m, q1, q2⟩ => ⟨e, m, Ns.same q1 k hL, q2⟩) fun ⟨e, c', q1, q2⟩ => ⟨e, c', q1, cell_same q2 k fun z => hy (S.st.apart y x c (z ▸ q1) h1)⟩
/-- a name is bound -/
noncomputable def setV (σ : St) (x : Str) (d : D) : St := putV σ x d (if σ.own = some x then none else σ.own)
theorem store_ok {Q : Unit → Shared → Prop} (S : Sit G W O env σ s) (hx : storeK (σ.names.lookup x) = true) (r : Rep G W s.heap v d) (hQ : ∀ s', Sit G W O env (setV σ x d) s' → KeepsB (Mut env σ.names) s s' → Q () s') : Wp G A (storeName env x v) Q s := by
  refine store_gen S hx (.of r ?_) (fun y hy => ?_) hQ <;> by_cases h : σ.own = some x
  · rw [if_pos h]; exact nofun
  · rw [if_neg h]; exact h
  · rw [if_pos h, h]; exact ⟨nofun, fun q => absurd (Option.some.inj q).symm hy⟩
  · rw [if_neg h]
/-- a target is bound -/
noncomputable def Bind (σ : St) (t : Expr) (d : D) (σ' : St) : Prop := ∀ {G A W O env s v} {Q : Unit → Shared → Prop}, A.handled = none → Sit G W O env σ s → Rep G W s.heap v d → (∀ s', Sit G W O env σ' s' → KeepsB (Mut env σ.names) s s' → Q () s') → Wp G A (assign t env v) Q s
theorem bt_name {p : Pos} (hx : storeK (σ.names.lookup x) = true) : Bind σ (.Name x p) d (setV σ x d) := fun _ S r hQ => wpAny_assign_Name (store_ok S hx r hQ)
/-- several names, in order -/
inductive Binds : St → List Expr → List D → St → Prop
  | nil {σ : St} : Binds σ [] [] σ
  | cons {σ : St} {x : Str} {p : Pos} {d : D} {es : List Expr} {ds : List D} {σ' : St} : storeK (σ.names.lookup x) = true → Binds (setV σ x d) es ds σ' → Binds σ (.Name x p :: es) (d :: ds) σ'
theorem Binds.ok {es : List Expr} {ds : List D} (h : Binds σ es ds σ') : ∀ {s vs} {Q : Unit → Shared → Prop}, Sit G W O env σ s → Reps G W s.heap vs ds → (∀ s', Sit G W O env σ' s' → KeepsB (Mut env σ.names) s s' → Q () s') → Wp G A (assignInOrder (es.map (fun t => assign t env)) vs) Q s := by
  induction h with
  | nil => exact fun S r hQ => (show _ = [] from r) ▸ wpAny_assignInOrder_none (hQ _ S (.of (kRefl _)))
  | cons hx _ ih =>
    intro s vs Q S ⟨_, _, e, r1, r2⟩ hQ
    subst e
    exact wpAny_assignInOrder_more (wpAny_assign_Name (store_ok S hx r1 fun s1 S1 k1 => ih S1 (Reps.mv (.kp fun b o h e => k1.kp b o (fun q => h (S.mut b q)) e) r2) fun s2 S2 k2 => hQ s2 S2 (k1.trans k2)))
theorem Binds.shape {es : List Expr} {ds : List D} (h : Binds σ es ds σ') : (assignEach es env).findIdx? (·.1) = none ∧ (assignEach es env).map (·.2) = es.map (fun t => assign t env) ∧ es.length = ds.length ∧ (assignEach es env).length = ds.length := by
  induction h with
  | nil => exact ⟨rfl, rfl, rfl, rfl⟩
  | cons _ _ ih => exact ⟨(List.findIdx?_cons (xs := assignEach _ env)).trans (by rw [ih.1]; rfl), congrArg (_ :: ·) ih.2.1, congrArg (· + 1) ih.2.2.1, congrArg (· + 1) ih.2.2.2⟩
theorem bt_tup {es : List Expr} {z} {p : Pos} {ds : List D} (h : Binds σ es ds σ') : Bind σ (.Tuple es z p) (.tuple ds) σ' := fun {G A W O env s v Q} hA S r hQ => by
  obtain ⟨_, vs, rfl, ht, r⟩ := (RepT.of r).tuple
  obtain ⟨g1, g2, g3, g4⟩ := h.shape (env := env)
  refine wpAny_assign_Tuple hA ht (g4.trans r.size.symm) g1 fun h' he' => ?_
  have k : Keeps s { s with heap := h' } := kOf fun b o q => he' b o (Nat.ne_of_lt (Heap.lt_size q)) q
  rw [g2]
  exact h.ok (S.next k (Nat.le_refl _)) (r.keeps k) fun s2 S2 k2 => hQ s2 S2 ((KeepsB.of k).trans k2)
end
noncomputable section
open PyProof.Rows PySem.SeqAt
variable {G : Gx} {A : Around} {W W' W'' O O' : Addr → Prop} {v u : Value} {d a b : D} {s s' s'' : Shared} {n : Nat} {σ σ' : St} {env : Env} {x : Str} {e elt : Expr} {ds items outs : List D} {I D₀ : Addr} {fp : List Addr} {PP : Nat → Value → Prop} {Sti : Nat → Heap → Prop}
noncomputable def plainIter (n : String) : Bool := !["enumerate", "zip", "dict_itemiterator", "dict_reverseitemiterator", "odict_iterator", "itertools.zip_longest", "itertools.pairwise"].contains n
structure IterObj (h : Heap) (I : Addr) (o : Obj) (n : String) (vs : Array Value) : Prop where
  e : h.get? I = some o
  c : o.cls = .type n
  p : plainIter n = true
  d : o.data = .fields vs
/-- an iterator over items -/
structure IsIter (G : Gx) (A : Around) (W : Addr → Prop) (h : Heap) (I : Addr) (ds : List D) (fp : List Addr) (PP : Nat → Value → Prop) (St : Nat → Heap → Prop) : Prop where
  walks : Walks G.prog G.w A I fp [I] ds.length PP St
  fps : ∀ b ∈ fp, b ≠ I → ¬ W b ∧ ∃ o, h.get? b = some o
  item : ∀ i v, PP i v → ∃ d, ds[i]? = some d ∧ Rep G W h v d
  cls : ∀ i h', St i h' → ∃ o n vs, IterObj h' I o n vs
theorem IsIter.mv {h h' : Heap} (m : Mv W h W' h') (x : IsIter G A W h I ds fp PP Sti) : IsIter G A W' h' I ds fp PP Sti :=
  ⟨x.walks, fun b hb hb' => let ⟨q, o, e⟩ := x.fps b hb hb'; ⟨(m b o q e).1, o, (m b o q e).2⟩, fun i v hv => let ⟨d, h1, h2⟩ := x.item i v hv; ⟨d, h1, h2.mv m⟩, x.cls⟩
/-- what can be gone through -/
noncomputable def Iter (d : D) (ds : List D) : Prop := ∀ {G A W s v} {Q : Value → Shared → Prop}, A.handled = none → Rep G W s.heap v d →
  (∀ o fp PP St, IsIter G A W s.heap s.heap.objs.size ds fp PP St → St 0 (s.heap.push o) → o.isFreed = false → Q (.ref s.heap.objs.size) { s with heap := s.heap.push o }) → Wp G A (pyIter v) Q s
theorem fps_two {h : Heap} {a : Addr} {o : Obj} (hw : ¬ W a) (e : h.get? a = some o) : ∀ b ∈ [I, a], b ≠ I → ¬ W b ∧ ∃ o, h.get? b = some o := fun b hb hb' => by
  rcases List.mem_cons.mp hb with q | hb
  · exact absurd q hb'
  · exact (List.mem_singleton.mp hb) ▸ ⟨hw, o, e⟩
theorem fps_one {h : Heap} : ∀ b ∈ [I], b ≠ I → ¬ W b ∧ ∃ o, h.get? b = some o := fun _ hb hb' => absurd (List.mem_singleton.mp hb) hb'
theorem at_ne {h : Heap} {a : Addr} {o : Obj} (e : h.get? a = some o) : a ≠ h.objs.size := fun q => Nat.lt_irrefl _ (q ▸ Heap.lt_size e)
theorem it_list : Iter (.list ds) ds := fun {G A W s v Q} hh r hQ => by
  obtain ⟨a, o, vs, hw, ⟨n, rfl⟩, hr⟩ := Rep.list_iff.mp r
  have hl : s.heap.PlainList a vs := ⟨n, hw.e⟩
  rw [hw.v]
  exact wpAny_pyIter_list hl.isList (hQ _ _ _ _ ⟨hr.size ▸ Walks.list hh _ a (at_ne hw.e) vs, fps_two hw.w hw.e, fun i v hv => hr.get' i v (Array.getElem?_toList (xs := vs) ▸ hv), fun i h' ⟨⟨o, h1, h2, h3⟩, _⟩ => ⟨o, _, _, h1, h2, rfl, h3⟩⟩ ⟨⟨_, Heap.get?_push_size _ rfl, rfl, rfl⟩, hl.isList.push _⟩ rfl)
theorem it_tuple : Iter (.tuple ds) ds := fun {G A W s v Q} hh r hQ => by
  obtain ⟨a, o, vs, hw, ⟨hc, n, hd⟩, hr⟩ := Rep.tuple_iff.mp r
  have hl : s.heap.IsTuple a vs := ⟨o, hw.e, hc, n, hd⟩
  rw [hw.v]
  exact wpAny_pyIter_tuple hl (hQ _ _ _ _ ⟨hr.size ▸ Walks.tuple hh _ a (at_ne hw.e) vs, fps_two hw.w hw.e, fun i v hv => hr.get' i v (Array.getElem?_toList (xs := vs) ▸ hv), fun i h' ⟨⟨o, h1, h2, h3⟩, _⟩ => ⟨o, _, _, h1, h2, rfl, h3⟩⟩ ⟨⟨_, Heap.get?_push_size _ rfl, rfl, rfl⟩, hl.push _⟩ rfl)
theorem it_str {x : Str} : Iter (.str x) (x.cps.toList.map fun c => .str ⟨#[c]⟩) := fun {G A W s v Q} hh r hQ => by
  obtain ⟨t, rfl⟩ := r
  have hl : x.cps.size = (x.cps.toList.map fun c => D.str ⟨#[c]⟩).length := by simp
  have hit : ∀ i v, SignAt x i v → ∃ d, (x.cps.toList.map fun c => D.str ⟨#[c]⟩)[i]? = some d ∧ Rep G W s.heap v d := fun i v ⟨c, u, h1, h2⟩ => h2 ▸ ⟨.str ⟨#[c]⟩, by simp [h1], rStr⟩
  cases ha : x.cps.all (· < 128)
  · exact wpAny_pyIter_wide ha (hQ _ _ _ _ ⟨hl ▸ Walks.strWide hh _ x t, fps_one, hit, fun i h' ⟨o, h1, h2, h3⟩ => ⟨o, _, _, h1, h2, rfl, h3⟩⟩ ⟨_, Heap.get?_push_size _ rfl, rfl, rfl⟩ rfl)
  · exact wpAny_pyIter_ascii ha (hQ _ _ _ _ ⟨hl ▸ Walks.strAscii hh _ x t, fps_one, hit, fun i h' ⟨o, h1, h2, h3⟩ => ⟨o, _, _, h1, h2, rfl, h3⟩⟩ ⟨_, Heap.get?_push_size _ rfl, rfl, rfl⟩ rfl)
theorem it_rng {n : Nat} {a b : Int} (hn : (n : Int) = b - a) (h1 : -1048576 ≤ a) (h2 : b ≤ 1048576) : Iter (.rng a b) ((List.range n).map fun k : Nat => .int (a + k)) := fun {G A W s v Q} hh r hQ => by
  obtain ⟨ad, o, hw, t, u, w, rfl⟩ := r
  have hr : Builtin.Range.rangeSize a b 1 = (n : Int) := by rw [rangeSize_one]; split <;> omega
  have hl : n = ((List.range n).map fun (k : Nat) => D.int (a + k)).length := by simp
  rw [hw.v]
  refine wpAny_pyIter_range (show IsRange s.heap ad a b 1 t u w from hw.e) (small_one (by omega) (by omega) (by omega) (by omega)) (hQ _ [_] (fun i v => i < n ∧ ∃ t, v = .int (a + i * 1) t) (fun i h => IsRangeIter h s.heap.objs.size (a + (i : Nat) * 1) ((n : Int) - (i : Nat)) 1) ⟨by rw [← hl]; exact (Walks.range hh _ a 1 n).bound, fps_one, fun i v hv => ?_, fun i h' st => ⟨_, _, _, st, rfl, rfl, rfl⟩⟩ ?_ rfl)
  · obtain ⟨h1, t, rfl⟩ := hv
    exact ⟨.int (a + i), by simp [h1], by rw [Int.mul_one]; exact rInt⟩
  · show IsRangeIter _ _ (a + ((0 : Nat) : Int) * 1) ((n : Int) - ((0 : Nat) : Int)) 1
    rw [hr, Int.natCast_zero, Int.zero_mul, Int.add_zero, Int.sub_zero]
    exact Heap.get?_push_size _ rfl
theorem letOwned_ok {target : Expr} {v : Value} {Q : Unit → Shared → Prop} (hc : ∃ o n vs, IterObj s.heap I o n vs) (h : Q () s) : Wp G A (letOwnedTupleGo target (.ref I) v) Q s := by
  obtain ⟨o, n, vs, h1, h2, h3, h4⟩ := hc
  have key : Wp G A (match (Value.ref I, v) with
      | (.ref r, .ref a) => do
        let o ← load r
        match o.cls, o.data with
        | .type n, .fields vs =>
          if ["enumerate", "zip", "dict_itemiterator", "dict_reverseitemiterator", "odict_iterator", "itertools.zip_longest", "itertools.pairwise"].contains n && vs[0]? == some (rawInt a) then do
            rule "for.unpacks-the-owned-tuple"
            updateField r 0 .none
          else pure ()
        | _, _ => pure ()
      | _ => pure () : Sem Unit) Q s := by
    cases v with
    | ref a =>
      refine wpAny_bind (wpAny_load h1 ?_)
      rw [h2, h4]
      dsimp only
      unfold plainIter at h3
      rw [Bool.not_eq_true'] at h3
      rw [h3]
      exact wpAny_pure h
    | _ => exact wpAny_pure h
  unfold letOwnedTupleGo
  split
  · exact key
  · exact key
  · exact wpAny_pure h
/-- the tests of a clause -/
noncomputable def theTests (env : Env) (ifs : List Expr) (b : Bool) : Sem Bool := forIn ifs b fun c r => if r = true then do let ok ← isTrue c env (eval c env); pure (ForInStep.yield ok) else pure (ForInStep.yield r)
noncomputable def Tests (n : Nat) (σ : St) (ifs : List Expr) (b : Bool) : Prop := ∀ {G A W O env s}, Good n A → Sit G W O env σ s → Wp G A (theTests env ifs true) (PostB s b) s
theorem ts_nil : Tests n σ [] true := fun _ _ => wpAny_pure ⟨rfl, kRefl _⟩
theorem ts_one {c : Bool} (h : Tr n σ e c) : Tests n σ [e] c := fun hA S => by
  unfold theTests
  rw [List.forIn_cons]
  exact wpAny_bind (wpAny_bind (h.go hA S fun _ k _ => wpAny_pure (wpAny_pure ⟨rfl, k⟩)))
noncomputable def plainSet (e : Expr) : Prop := ∀ env v, foldedSetIterable e env v = pure v
structure GenOk (g : Comprehension) : Prop where
  a : g.is_async = 0
  s : plainSet g.iter
theorem loop_gen {R : Result → Shared → Prop} {gens : List Comprehension} {scope : Scope} {pos : Pos} {depth : Nat} {g : Comprehension} {it acc : Value} (hg : gens[depth]? = some g) (hok : ∀ g ∈ gens, GenOk g) (I : Nat → Shared → Prop)
    (turn : ∀ n s, I n s → Wp G A (pyNext it) (fun r s₁ => match r with
      | none => R (.ok .next) s₁
      | some v => Wp G A (letOwnedTupleGo g.target it v) (fun _ s₁' => Wp G A (assign g.target env v) (fun _ s₂ =>
          Wp G A (theTests env g.ifs true) (fun ok s₃ =>
            if ok = true then (match gens[depth + 1]? with
              | some g' => Wp G A (eval g'.iter env) (fun x s₄ => Wp G A (pyIter x) (fun it' s₅ =>
                  codeAny (model G.prog G.w) A (.compStart (.ListComp elt gens scope pos) (depth + 1) it' acc env) (fun r s₆ => match r with | .ok _ => ∃ m, m < n ∧ I m s₆ | .error _ => False) s₅) s₄) s₃
              | none => Wp G A (eval elt env) (fun x s₄ => Wp G A (call (.builtin "list.append") [acc, x]) (fun _ s₅ => ∃ m, m < n ∧ I m s₅) s₄) s₃)
            else ∃ m, m < n ∧ I m s₃) s₂) s₁') s₁) s)
    (n : Nat) (h : I n s) : codeAny (model G.prog G.w) A (.compLoop (.ListComp elt gens scope pos) depth it acc env) R s := by
  refine codeAny_loop rfl I (fun n s hI => ?_) n h
  show wpAny _ A ((compTurn (.ListComp elt gens scope pos) depth it acc env).onRaise (fun x => do noteFrame x env; theTreesLotGoes x)) _ _ s
  refine wpAny_noted ?_
  refine wpAny_mono (E := fun _ _ => False) ?_ (fun _ _ q => q) (fun _ _ q => q.elim)
  unfold compTurn
  simp only [hg]
  rw [(hok g (List.mem_of_getElem? hg)).a]
  simp only [bne_self_eq_false, Bool.false_eq_true, if_false]
  refine wpAny_bind (wpAny_standAt (wpAny_bind (Wp.mono (turn n s hI) (fun r s₁ h₁ => ?_))))
  cases r with
  | none => exact wpAny_pure h₁
  | some v =>
    refine wpAny_bind (Wp.mono h₁ (fun _ s₁' h₁' => wpAny_bind (Wp.mono h₁' (fun _ s₂ h₂ => wpAny_bind (Wp.mono h₂ (fun ok s₃ h₃ => ?_))))))
    cases ok with
    | false => exact wpAny_pure ⟨rfl, h₃⟩
    | true =>
      simp only [if_true] at h₃ ⊢
      cases hg' : gens[depth + 1]? with
      | none =>
        rw [hg'] at h₃
        exact wpAny_bind (wpAny_bind (Wp.mono h₃ (fun x s₄ h₄ => wpAny_bind (Wp.mono h₄ (fun _ s₅ h₅ => wpAny_pure (wpAny_pure ⟨rfl, h₅⟩))))))
      | some g' =>
        rw [hg'] at h₃
        obtain ⟨b1, b2⟩ := hok g' (List.mem_of_getElem? hg')
        simp only [b1, bne_self_eq_false, Bool.false_eq_true, if_false]
        refine wpAny_bind (Wp.mono h₃ (fun x s₄ h₄ => wpAny_bind (wpAny_standAt (wpAny_bind (wpAny_of_eq (b2 _ x) (wpAny_bind (wpAny_holding (Wp.mono h₄ (fun it' s₅ h₅ => ?_)))))))))
        refine wpAny_bind (wpAny_runOwn (h := none) (codeAny_mono h₅ fun r s₆ h₆ => ?_))
        cases r with
        | ok f => exact wpAny_pure ⟨rfl, h₆⟩
        | error e => exact h₆.elim
theorem start_gen {R : Result → Shared → Prop} {gens : List Comprehension} {scope : Scope} {pos : Pos} {depth : Nat} {g : Comprehension} {it acc : Value} (hg : gens[depth]? = some g) (ha : GenOk g)
    (hl : codeAny (model G.prog G.w) A (.compLoop (.ListComp elt gens scope pos) depth it acc env) R s) (hself : ∀ (Q : Value → Shared → Prop), Q it s → Wp G A (pyIter it) Q s) :
    codeAny (model G.prog G.w) A (.compStart (.ListComp elt gens scope pos) depth it acc env) R s := by
  refine codeAny_of_tree ?_
  show wpAny _ A ((compStart (.ListComp elt gens scope pos) depth it acc env).onRaise (fun x => do noteFrame x env; standAt theWindowsPlace)) _ _ s
  refine wpAny_notedAt ?_
  refine wpAny_mono (E := fun _ _ => False) ?_ (fun _ _ q => q) (fun _ _ q => q.elim)
  unfold compStart
  have hc : (clausesOf (.ListComp elt gens scope pos))[depth]? = some g := hg
  simp only [hc, Option.elim_some, ha.a, bne_self_eq_false, Bool.false_eq_true, if_false]
  refine wpAny_bind (wpAny_askSetting (wpAny_ite ?_))
  split
  · first
      | exact wpAny_bind (wpAny_pure (wpAny_pure (And.intro rfl hl)))
      | exact wpAny_pure (And.intro rfl hl)
  · exact wpAny_bind (wpAny_rule (wpAny_bind (wpAny_standAt (wpAny_bind (hself _ (wpAny_pure (And.intro rfl hl)))))))
end
noncomputable section
open PyProof.Rows PySem.SeqAt
variable {G : Gx} {A : Around} {W W' W'' O O' X Y : Addr → Prop} {v u : Value} {d a b : D} {s s' s'' : Shared} {n : Nat} {σ σ' σ₀ : St} {env : Env} {x : Str} {e elt : Expr} {ds items outs out0 o : List D} {I D₀ : Addr} {fp : List Addr} {PP : Nat → Value → Prop} {Sti : Nat → Heap → Prop}
/-- names kept by binding a new target -/
structure Ext (σ σ' : St) : Prop where
  n : σ'.names = σ.names
  o : σ'.own = σ.own
  v : ∀ x d, σ.vars.lookup x = some d → σ'.vars.lookup x = some d
noncomputable def newN (σ : St) (x : Str) : Bool := (σ.vars.map (·.1)).all (· != x) && !(σ.own == some x)
theorem look_none : ∀ {l : List (Str × D)}, (l.map (·.1)).all (· != x) = true → l.lookup x ≠ some d
  | (y, _) :: l, h, e => by
    rw [List.map_cons, List.all_cons, Bool.and_eq_true, bne_iff_ne] at h
    rw [List.lookup_cons, beq_eq_false_iff_ne.mpr h.1.symm] at e
    exact look_none h.2 e
theorem Ext.refl : Ext σ σ := ⟨rfl, rfl, fun _ _ => id⟩
theorem Ext.setV (h : Ext σ₀ σ) (hx : newN σ₀ x = true) : Ext σ₀ (setV σ x d) := by
  obtain ⟨h1, h2⟩ := Bool.and_eq_true_iff.mp hx
  have h2 : σ.own ≠ some x := by rw [h.o]; simpa using h2
  refine ⟨h.n, (if_neg h2).trans h.o, fun y c e => ?_⟩
  show ((x, d) :: σ.vars).lookup y = some c
  rw [List.lookup_cons]
  cases hy : y == x with
  | true => exact absurd (beq_iff_eq.mp hy ▸ e) (look_none h1)
  | false => exact h.v y c e
inductive NewAll (σ : St) : List Expr → Prop
  | nil : NewAll σ []
  | cons {x : Str} {p : Pos} {es : List Expr} : newN σ x = true → NewAll σ es → NewAll σ (.Name x p :: es)
theorem Binds.ext {es : List Expr} (h : Binds σ es ds σ') : NewAll σ₀ es → Ext σ₀ σ → Ext σ₀ σ' := by
  induction h with
  | nil => exact fun _ q => q
  | cons _ _ ih => exact fun (.cons h r) q => ih r (q.setV h)
/-- a new target -/
structure BindN (σ : St) (t : Expr) (d : D) (σ' : St) : Prop where
  b : Bind σ t d σ'
  x : Ext σ σ'
theorem bn_name {p : Pos} (h : (storeK (σ.names.lookup x) && newN σ x) = true) : BindN σ (.Name x p) d (setV σ x d) := let ⟨h1, h2⟩ := Bool.and_eq_true_iff.mp h; ⟨bt_name h1, Ext.refl.setV h2⟩
theorem bn_tup {es : List Expr} {z} {p : Pos} (h : Binds σ es ds σ') (hn : NewAll σ es) : BindN σ (.Tuple es z p) (.tuple ds) σ' := ⟨bt_tup h, h.ext hn .refl⟩
/-- one turn of a clause -/
structure Turn (n : Nat) (T : St → List D → Prop) (g : Comprehension) (σ : St) (it : D) (o : List D) (σ₁ : St) (c : Bool) : Prop where
  b : BindN σ g.target it σ₁
  t : Tests n σ₁ g.ifs c
  y : c = true → T σ₁ o
  z : c = false → o = []
noncomputable def CompL (n : Nat) (T : St → List D → Prop) (g : Comprehension) (σ : St) : List D → List D → Prop
  | [], os => os = []
  | it :: r, os => ∃ o os', os = o ++ os' ∧ (∃ σ₁ b, Turn n T g σ it o σ₁ b) ∧ CompL n T g σ r os'
/-- the clauses behind, then the item -/
noncomputable def CompT (n : Nat) (elt : Expr) : List Comprehension → St → List D → Prop
  | [], σ, out => ∃ d, Ev n σ elt d ∧ out = [d]
  | g :: gs, σ, out => ∃ src its, Ev n σ g.iter src ∧ Iter src its ∧ CompL n (CompT n elt gs) g σ its out
theorem CompL.map {α : Type} {T : St → List D → Prop} {g : Comprehension} (f : α → D) (o : α → List D) : ∀ (l : List α), (∀ a ∈ l, ∃ σ₁ b, Turn n T g σ (f a) (o a) σ₁ b) → CompL n T g σ (l.map f) (l.flatMap o)
  | [], _ => rfl
  | a :: r, h => ⟨o a, r.flatMap o, List.flatMap_cons, h a List.mem_cons_self, CompL.map f o r fun b hb => h b (List.mem_cons_of_mem _ hb)⟩
/-- what a loop may do -/
structure Grow (X W : Addr → Prop) (s : Shared) (W' : Addr → Prop) (s' : Shared) : Prop where
  keep : KeepsB X s s'
  wn : ∀ a, W' a → W a ∨ s.heap.get? a = none
  wo : ∀ a, W a → W' a
theorem Grow.of (k : KeepsB X s s') : Grow X W s W s' := ⟨k, fun _ => .inl, fun _ => id⟩
theorem Grow.trans (a : Grow X W s W' s') (hX : ∀ c, X c → W c) (b : Grow Y W' s' W'' s'') (hY : ∀ c, Y c → X c ∨ s.heap.get? c = none) : Grow X W s W'' s'' := by
  refine ⟨a.keep.trans' b.keep fun c o h e => ⟨h, fun q => (hY c q).elim h fun z => by rw [z] at e; cases e⟩, fun c q => (b.wn c q).elim (a.wn c) fun q => ?_, fun c q => b.wo c (a.wo c q)⟩
  cases e : s.heap.get? c with
  | none => exact .inr rfl
  | some o => exact .inl (hX c (Classical.byContradiction fun h => by rw [a.keep.kp c o h e] at q; cases q))
theorem Grow.mv (a : Grow X W s W' s') (hX : ∀ c, X c → W c) : Mv W s.heap W' s'.heap := fun c o h e => ⟨fun q => (a.wn c q).elim h fun z => (by rw [z] at e; cases e), a.keep.kp c o (fun q => h (hX c q)) e⟩
structure Free (env : Env) (ns : List (Str × NameKind)) (W O : Addr → Prop) (X : Addr) : Prop where
  w : W X
  f : ¬ FrA env ns X
  o : ¬ O X
theorem Free.mono {ns : List (Str × NameKind)} (f : Free env ns W O I) (h : ∀ a, W a → W' a) : Free env ns W' O I := ⟨h _ f.w, f.f, f.o⟩
/-- one place that is none of the frame's changes -/
theorem Sit.other (S : Sit G W O env σ s) (f : Free env σ.names W O I) (k : ∀ b o, b ≠ I → s.heap.get? b = some o → s'.heap.get? b = some o) (hX : ∃ o, s'.heap.get? I = some o) (tk : 0 < s'.toks) : Sit G W O env σ s' :=
  S.mv tk (fun b o e => k b o (fun q => Nat.lt_irrefl _ (Nat.lt_of_lt_of_le (Heap.lt_size (q ▸ e)) (S.wb I f.w).1)) (S.kp b o e)) (.kp fun b o h e => k b o (fun q => h (q ▸ f.w)) e)
    (fun a q => ⟨(S.wb a q).1, (Classical.em (a = I)).elim (fun w => w ▸ hX) fun w => let ⟨_, o, e⟩ := S.wb a q; ⟨o, k a o w e⟩⟩)
    (fun a o q e => k a o (fun w => f.f (w ▸ q)) e) S.fr (fun a o q _ e _ => ⟨q, k a o (fun w => f.o (w ▸ q)) e⟩) S.ow
theorem Sit.sizeLe (S : Sit G W O env σ s) : G.h0.objs.size ≤ s.heap.objs.size := Nat.le_of_lt (Nat.lt_of_le_of_lt (S.wb _ (S.fr _ (.inl rfl))).1 (S.wb.lt (S.fr _ (.inl rfl))))
/-- new places join W -/
theorem Sit.wide (S : Sit G W O env σ s) (k : Keeps s s') (t : s.toks ≤ s'.toks) (w : ∀ a, W a → W' a) (hn : ∀ a, W' a → W a ∨ s.heap.get? a = none) (wb : WB G W' s'.heap) : Sit G W' O env σ s' :=
  S.mv (Nat.lt_of_lt_of_le S.tk t) (fun b o e => kKp k b o (S.kp b o e)) (fun a o h e => ⟨fun q => (hn a q).elim h fun z => (by rw [z] at e; cases e), kKp k a o e⟩) wb (fun a o _ e => kKp k a o e) (fun a q => w a (S.fr a q)) (fun a o q _ e _ => ⟨q, kKp k a o e⟩) fun a q => w a (S.ow a q)
noncomputable def wPlus (W : Addr → Prop) (n : Nat) (a : Addr) : Prop := W a ∨ a = n
theorem wPlus_new {a : Addr} (q : wPlus W s.heap.objs.size a) : W a ∨ s.heap.get? a = none := Or.imp_right (fun (e : a = _) => e ▸ get_size _) q
theorem Sit.pushW {ob : Obj} (S : Sit G W O env σ s) (ho : ob.isFreed = false) : Sit G (wPlus W s.heap.objs.size) O env σ { s with heap := s.heap.push ob } :=
  S.wide (kPush (t := s.toks)) (Nat.le_refl _) (fun _ => .inl) (fun _ => wPlus_new) fun a q => q.elim (fun q => let ⟨z, o, e⟩ := S.wb a q; ⟨z, o, kpPush _ _ e⟩) fun q => (show a = s.heap.objs.size from q) ▸ ⟨S.sizeLe, ob, Heap.get?_push_size _ ho⟩
theorem Sit.freeNew (S : Sit G W O env σ s) : Free env σ.names (wPlus W s.heap.objs.size) O s.heap.objs.size := ⟨.inr rfl, fun q => S.wb.fresh (S.fr _ q), fun q => S.wb.fresh (S.ow _ q)⟩
/-- a list under way -/
structure Acc (G : Gx) (W O : Addr → Prop) (env : Env) (σ : St) (s : Shared) (D₀ : Addr) (o : List D) : Prop where
  S : Sit G W O env σ s
  d : Free env σ.names W O D₀
  r : ∃ ys, s.heap.PlainList D₀ ys ∧ Reps G W s.heap ys.toList o
theorem Acc.mv (a : Acc G W O env σ s D₀ o) (S : Sit G W' O env σ' s') (hn : σ'.names = σ.names) (g : Grow X W s W' s') (hX : ∀ c, X c → W c) (hD : ¬ X D₀) : Acc G W' O env σ' s' D₀ o :=
  ⟨S, hn ▸ a.d.mono g.wo, let ⟨ys, ⟨n, p⟩, r⟩ := a.r; ⟨ys, ⟨n, g.keep.kp _ _ hD p⟩, r.mv (g.mv hX)⟩⟩
noncomputable def frPlus (env : Env) (ns : List (Str × NameKind)) (X : Addr → Prop) (a : Addr) : Prop := Mut env ns a ∨ X a
theorem Sit.frPlus (S : Sit G W O env σ s) (hX : ∀ a, X a → W a) : ∀ a, frPlus env σ.names X a → W a := fun a q => q.elim (S.mut a) (hX a)
noncomputable def less (W : Addr → Prop) (I a : Addr) : Prop := W a ∧ a ≠ I
/-- what comes behind the tests -/
noncomputable def TailGoal (G : Gx) (A : Around) (env : Env) (elt : Expr) (gens : List Comprehension) (scope : Scope) (pos : Pos) (depth : Nat) (D₀ : Addr) (Fin : Shared → Prop) (s₃ : Shared) : Prop := match gens[depth + 1]? with
  | some g' => Wp G A (eval g'.iter env) (fun x s₄ => Wp G A (pyIter x) (fun it' s₅ => codeAny (model G.prog G.w) A (.compStart (.ListComp elt gens scope pos) (depth + 1) it' (.ref D₀) env) (fun r s₆ => match r with | .ok _ => Fin s₆ | .error _ => False) s₅) s₄) s₃
  | none => Wp G A (eval elt env) (fun x s₄ => Wp G A (call (.builtin "list.append") [.ref D₀, x]) (fun _ s₅ => Fin s₅) s₄) s₃
noncomputable def TailOk (G : Gx) (A : Around) (O : Addr → Prop) (env : Env) (elt : Expr) (gens : List Comprehension) (scope : Scope) (pos : Pos) (D₀ : Addr) (depth : Nat) (T : St → List D → Prop) : Prop :=
  ∀ {σ : St} {W : Addr → Prop} {b o : List D} {s : Shared} {Fin : Shared → Prop}, T σ b → Acc G W O env σ s D₀ o → o.length + b.length ≤ 2097152 →
    (∀ s' W', Acc G W' O env σ s' D₀ (o ++ b) → Grow (frPlus env σ.names (· = D₀)) W s W' s' → Fin s') → TailGoal G A env elt gens scope pos depth D₀ Fin s
noncomputable def LoopOk (n : Nat) (G : Gx) (A : Around) (O : Addr → Prop) (env : Env) (elt : Expr) (gens : List Comprehension) (scope : Scope) (pos : Pos) (D₀ : Addr) (depth : Nat) (T : St → List D → Prop) (g : Comprehension) : Prop :=
  ∀ {W : Addr → Prop} {σ : St} {items outs o : List D} {s : Shared} {I : Addr} {fp : List Addr} {PP : Nat → Value → Prop} {Sti : Nat → Heap → Prop} {Rk : Result → Shared → Prop},
    Acc G W O env σ s D₀ o → Free env σ.names W O I → I ≠ D₀ → IsIter G A W s.heap I items fp PP Sti → Sti 0 s.heap → CompL n T g σ items outs → o.length + outs.length ≤ 2097152 →
    (∀ s' W', Acc G W' O env σ s' D₀ (o ++ outs) → Grow (frPlus env σ.names (fun a => a = D₀ ∨ a = I)) (less W I) s W' s' → Rk (.ok .next) s') →
    codeAny (model G.prog G.w) A (.compLoop (.ListComp elt gens scope pos) depth (.ref I) (.ref D₀) env) Rk s
structure LoopI (n : Nat) (G : Gx) (A : Around) (O : Addr → Prop) (env : Env) (D₀ : Addr) (T : St → List D → Prop) (g : Comprehension) (W : Addr → Prop) (σ : St) (items outs o : List D) (s : Shared) (I : Addr) (fp : List Addr) (PP : Nat → Value → Prop) (Sti : Nat → Heap → Prop) (m : Nat) (s' : Shared) (i : Nat) (W' : Addr → Prop) (o1 o2 : List D) : Prop where
  m : m + i = items.length + 1
  l : i ≤ items.length
  a : Acc G W' O env σ s' D₀ (o ++ o1)
  gr : Grow (frPlus env σ.names (fun a => a = D₀ ∨ a = I)) W s W' s'
  it : IsIter G A W' s'.heap I items fp PP Sti
  st : Sti i s'.heap
  c : CompL n T g σ (items.drop i) o2
  e : outs = o1 ++ o2
theorem IsIter.st {s' : Shared} {i : Nat} (It : IsIter G A W s.heap I items fp PP Sti) (st : Sti i s.heap) (k : KeepsB X s s') (hX : ∀ c, X c → W c) (hI : ¬ X I) : Sti i s'.heap :=
  It.walks.frame _ _ _ st fun b hb o e => k.kp b o (fun q => (Classical.em (b = I)).elim (fun z => hI (z ▸ q)) fun z => (It.fps b hb z).1 (hX b q)) e
theorem turns {gens : List Comprehension} {scope : Scope} {pos : Pos} {depth : Nat} {g : Comprehension} {T : St → List D → Prop} (hA : Good n A) (hg : gens[depth]? = some g) (hok : ∀ g ∈ gens, GenOk g) (tail : TailOk G A O env elt gens scope pos D₀ depth T) : LoopOk n G A O env elt gens scope pos D₀ depth T g := by
  intro W σ items outs o s I fp PP Sti Rk acc fI hID It st hc hl hR
  refine loop_gen hg hok (fun m s' => ∃ i W' o1 o2, LoopI n G A O env D₀ T g W σ items outs o s I fp PP Sti m s' i W' o1 o2) ?_ (items.length + 1)
    ⟨0, W, [], outs, rfl, Nat.zero_le _, by rw [List.append_nil]; exact acc, .of (.of (kRefl _)), It, st, hc, rfl⟩
  rintro m s' ⟨i, W', o1, o2, L⟩
  have S := L.a.S
  have fI' := fI.mono L.gr.wo
  have xW : ∀ c, frPlus env σ.names (fun a => a = D₀ ∨ a = I) c → W c := acc.S.frPlus fun c q => q.elim (· ▸ acc.d.w) (· ▸ fI.w)
  have xW' : ∀ c, frPlus env σ.names (fun a => a = D₀ ∨ a = I) c → W' c := fun c q => L.gr.wo c (xW c q)
  have iW' : ∀ c, c = I → W' c := fun c q => q ▸ fI'.w
  obtain ⟨o₁, n₁, vs₁, c1⟩ := L.it.cls _ _ L.st
  by_cases hlt : i < items.length
  · have c := L.c
    rw [List.drop_eq_getElem_cons hlt] at c
    obtain ⟨b, os, e2, ⟨σ₁, k, hb⟩, c⟩ := c
    refine wpAny_with_toks (n := s'.toks) (Nat.le_refl _) (L.it.walks.item i _ _ _ hlt L.st fun v h₁ tk₁ hP hst₁ hk₁ htk₁ => ?_)
    have k1 : ∀ b o, b ≠ I → s'.heap.get? b = some o → h₁.get? b = some o := fun b o hb e => hk₁ b o (fun q => hb (List.mem_singleton.mp q)) e
    obtain ⟨o₂, n₂, vs₂, c2⟩ := L.it.cls _ _ hst₁
    have kb1 : KeepsB (· = I) s' { s' with heap := h₁, toks := tk₁ } := ⟨h₁, tk₁, rfl, k1⟩
    have g1 : Grow (· = I) W' s' W' { s' with heap := h₁, toks := tk₁ } := .of kb1
    have S₁ : Sit G W' O env σ { s' with heap := h₁, toks := tk₁ } := S.other fI' k1 ⟨o₂, c2.e⟩ (Nat.lt_of_lt_of_le S.tk htk₁)
    obtain ⟨d, hd1, hd2⟩ := L.it.item i v hP
    have hdi : d = items[i] := Option.some.inj (hd1.symm.trans (List.getElem?_eq_getElem hlt))
    subst hdi
    refine letOwned_ok ⟨o₂, n₂, vs₂, c2⟩ (hb.b.b hA.h S₁ (hd2.mv (g1.mv iW')) fun s₂ S₂ k₂ => (hb.t hA S₂).go fun ok s₃ t q => ?_)
    obtain ⟨rfl, q⟩ := q
    have S₃ := S₂.next q t
    have nn := hb.b.x.n
    have kb2 : KeepsB (Mut env σ.names) { s' with heap := h₁, toks := tk₁ } s₃ := k₂.trans (.of q)
    have kb3 : KeepsB (frPlus env σ.names (fun a => a = D₀ ∨ a = I)) s' s₃ := kb1.trans' kb2 fun a _ h _ => ⟨fun q => h (.inr (.inr q)), fun q => h (.inl q)⟩
    have kb4 : KeepsB (frPlus env σ.names (· = I)) s' s₃ := kb1.trans' kb2 fun a _ h _ => ⟨fun q => h (.inr q), fun q => h (.inl q)⟩
    have g3 : Grow (frPlus env σ.names (fun a => a = D₀ ∨ a = I)) W' s' W' s₃ := .of kb3
    have g4 : Grow (frPlus env σ.names (· = I)) W' s' W' s₃ := .of kb4
    have gg := L.gr.trans xW g3 fun c => .inl
    have it3 := L.it.mv (g3.mv xW')
    have st3 : Sti (i + 1) s₃.heap := (L.it.mv (g1.mv iW')).st hst₁ kb2 S.mut fun q => fI.f q.fr
    have a3 : Acc G W' O env σ₁ s₃ D₀ (o ++ o1) := L.a.mv S₃ nn g4 (S.frPlus iW') fun q => q.elim (fun q => acc.d.f q.fr) fun q => hID q.symm
    have back : ∀ {W s o}, Acc G W O env σ₁ s D₀ o → Acc G W O env σ s D₀ o := fun a => ⟨a.S.weak nn.symm hb.b.x.o.symm hb.b.x.v, nn ▸ a.d, a.r⟩
    have hm : m - 1 + (i + 1) = items.length + 1 := by have := L.m; omega
    have hm' : m - 1 < m := by have := L.m; omega
    cases ok with
    | false => exact ⟨m - 1, hm', i + 1, W', o1, os, hm, hlt, back a3, gg, it3, st3, c, by rw [L.e, e2, hb.z rfl]; rfl⟩
    | true =>
      show TailGoal G A env elt gens scope pos depth D₀ _ s₃
      refine tail (hb.y rfl) a3 ?_ fun s₄ W₄ a4 g5 => ?_
      · rw [L.e, e2] at hl
        simp only [List.length_append] at hl ⊢
        omega
      · have xx : ∀ c, frPlus env σ₁.names (· = D₀) c → W' c := S₃.frPlus fun c q => q ▸ a3.d.w
        exact ⟨m - 1, hm', i + 1, W₄, o1 ++ b, os, hm, hlt, by rw [← List.append_assoc]; exact back a4, gg.trans xW g5 fun c q => .inl (nn ▸ q.imp_right .inl), it3.mv (g5.mv xx), it3.st st3 g5.keep xx fun q => q.elim (fun q => fI.f (nn ▸ q.fr)) hID, c, by rw [L.e, e2, List.append_assoc]⟩
  · have hin : i = items.length := Nat.le_antisymm L.l (Nat.not_lt.mp hlt)
    subst hin
    have c := L.c
    rw [List.drop_length] at c
    refine wpAny_with_toks (n := s'.toks) (Nat.le_refl _) (L.it.walks.done _ _ _ L.st fun h₁ tk₁ hk₁ htk₁ => ?_)
    have k1 : ∀ b o, b ≠ I → s'.heap.get? b = some o → h₁.get? b = some o := fun b o hb e => hk₁ b o (fun q => hb (List.mem_singleton.mp q)) e
    have g1 : Grow (· = I) W' s' W' { s' with heap := h₁, toks := tk₁ } := .of ⟨h₁, tk₁, rfl, k1⟩
    have gg := L.gr.trans xW g1 fun c q => .inl (.inr (.inr q))
    have m1 : Mv W' s'.heap (less W' I) h₁ := fun c o h e => ⟨fun q => h q.1, (g1.mv iW' c o h e).2⟩
    obtain ⟨ys, ⟨z, p⟩, r⟩ := L.a.r
    refine hR _ (less W' I) ⟨?_, ⟨⟨L.a.d.w, hID.symm⟩, L.a.d.f, L.a.d.o⟩, ys, ⟨z, k1 _ _ hID.symm p⟩, ?_⟩ ⟨gg.keep, fun c q => (L.gr.wn c q.1).imp_left fun q' => ⟨q', q.2⟩, fun c q => ⟨L.gr.wo c q.1, q.2⟩⟩
    · exact S.mv (Nat.lt_of_lt_of_le S.tk htk₁) (fun b o e => k1 b o (fun q => Nat.lt_irrefl _ (Nat.lt_of_lt_of_le (Heap.lt_size (q ▸ e)) (S.wb I fI'.w).1)) (S.kp b o e)) m1 (fun a q => let ⟨z, o, e⟩ := S.wb a q.1; ⟨z, o, k1 a o q.2 e⟩)
        (fun a o q e => k1 a o (fun w => fI.f (w ▸ q)) e) (fun a q => ⟨S.fr a q, fun w => fI.f (w ▸ q)⟩) (fun a o q _ e _ => ⟨q, k1 a o (fun w => fI.o (w ▸ q)) e⟩) fun a q => ⟨S.ow a q, fun w => fI.o (w ▸ q)⟩
    · have e : outs = o1 := by rw [L.e, show o2 = [] from c, List.append_nil]
      exact e ▸ r.mv m1
theorem tail_nil {gens : List Comprehension} {scope : Scope} {pos : Pos} {depth : Nat} (hA : Good n A) (hd : gens[depth + 1]? = none) : TailOk G A O env elt gens scope pos D₀ depth (CompT n elt []) := by
  rintro σ W b o s Fin ⟨d, hd', rfl⟩ acc hl hF
  unfold TailGoal
  rw [hd]
  refine hd'.go hA acc.S fun v s₄ k4 r4 S₄ => ?_
  obtain ⟨ys, ⟨z, p⟩, r⟩ := acc.r
  have hpl₄ : s₄.heap.PlainList D₀ ys := ⟨z, kKp k4 _ _ p⟩
  refine wpAny_list_append_plain hpl₄ (fun h' hpl' hsb => ?_) (r.size ▸ Nat.le_trans (Nat.le_trans (Nat.le_add_right _ _) hl) (by decide))
  have k1 : ∀ b o, b ≠ D₀ → s₄.heap.get? b = some o → h'.get? b = some o := fun b o hb e => hsb.extBut b o hb e
  have g1 : Grow (· = D₀) W s₄ W { s₄ with heap := h' } := .of ⟨h', s₄.toks, rfl, k1⟩
  obtain ⟨z', e'⟩ := hpl'
  exact hF _ W ⟨S₄.other acc.d k1 ⟨_, e'⟩ S₄.tk, acc.d, _, ⟨z', e'⟩, ((r.keeps k4).snoc r4).mv (g1.mv fun c q => q ▸ acc.d.w)⟩ (.of ((KeepsB.of k4).trans (g1.keep.sub fun a q => .inr q)))
theorem tail_cons {gens : List Comprehension} {scope : Scope} {pos : Pos} {depth : Nat} (hA : Good n A) (hok : ∀ g ∈ gens, GenOk g) {g' : Comprehension} {gs' : List Comprehension} (hd : gens[depth + 1]? = some g') (ih : LoopOk n G A O env elt gens scope pos D₀ (depth + 1) (CompT n elt gs') g') : TailOk G A O env elt gens scope pos D₀ depth (CompT n elt (g' :: gs')) := by
  rintro σ W b o s Fin ⟨src, its, h1, h2, h3⟩ acc hl hF
  unfold TailGoal
  rw [hd]
  refine h1.go hA acc.S fun v s₄ k4 r4 S₄ => h2 hA.h r4 fun ob fp PP St It st0 hfr => start_gen hd (hok _ (List.mem_of_getElem? hd)) ?_ fun Q hQ => It.walks.self 0 _ Q _ st0 hQ
  have g1 : Grow (fun _ => False) W s W s₄ := .of (.of k4)
  have g2 : Grow (fun _ => False) W s₄ (wPlus W s₄.heap.objs.size) { s₄ with heap := s₄.heap.push ob } := ⟨.of (kPush (t := s₄.toks)), fun _ => wPlus_new, fun _ => .inl⟩
  have S₅ := S₄.pushW hfr
  have a4 := acc.mv S₄ rfl g1 (fun _ => False.elim) id
  refine ih (a4.mv S₅ rfl g2 (fun _ => False.elim) id) S₄.freeNew (fun q => S₄.wb.fresh (q ▸ acc.d.w)) (It.mv (g2.mv fun _ => False.elim)) st0 h3 hl fun s' W' a' g' => hF s' W' a' ?_
  have g3 : Grow (frPlus env σ.names fun a => a = D₀ ∨ a = s₄.heap.objs.size) W { s₄ with heap := s₄.heap.push ob } W' s' := ⟨g'.keep, fun a q => (g'.wn a q).imp_left fun q => q.1.resolve_right q.2, fun a q => g'.wo a ⟨.inl q, fun z => S₄.wb.fresh (z ▸ q)⟩⟩
  have g12 : Grow (frPlus env σ.names (· = D₀)) W s W { s₄ with heap := s₄.heap.push ob } := .of (.of (kTrans k4 (kPush (t := s₄.toks))))
  refine g12.trans (acc.S.frPlus fun c q => q ▸ acc.d.w) g3 fun c q => ?_
  rcases q with q | q | q
  · exact .inl (.inl q)
  · exact .inl (.inr q)
  · refine .inr ?_
    cases e : s.heap.get? c with
    | none => rfl
    | some o => exact absurd (q ▸ kKp k4 c o e) (by rw [get_size]; nofun)
theorem loop_all {gens : List Comprehension} {scope : Scope} {pos : Pos} (hA : Good n A) (hok : ∀ g ∈ gens, GenOk g) : ∀ (gs : List Comprehension) (g : Comprehension) (depth : Nat), gens.drop depth = g :: gs → LoopOk n G A O env elt gens scope pos D₀ depth (CompT n elt gs) g
  | [], g, depth, hd => turns hA ((List.getElem?_drop ▸ congrArg (·[0]?) hd : gens[depth + 0]? = some g)) hok (tail_nil hA (List.getElem?_drop ▸ congrArg (·[1]?) hd))
  | g' :: gs', g, depth, hd => turns hA ((List.getElem?_drop ▸ congrArg (·[0]?) hd : gens[depth + 0]? = some g)) hok (tail_cons hA hok (List.getElem?_drop ▸ congrArg (·[1]?) hd) (loop_all hA hok gs' g' (depth + 1) (by rw [← List.drop_drop, hd]; rfl)))
end
noncomputable section
open PyProof.Rows PySem.SeqAt
variable {G : Gx} {A : Around} {W W' W'' O O' X Y : Addr → Prop} {v u : Value} {d a b : D} {s s' s'' : Shared} {n : Nat} {σ σ' σ₀ : St} {env : Env} {x : Str} {e elt : Expr} {ds items outs out0 o : List D} {I D₀ : Addr}
theorem cellsFrom_append : ∀ (names : List (Str × NameKind)) (n : Nat) (acc : List (Str × Addr)), cellsFrom n names acc = cellsFrom n names [] ++ acc
  | [], n, acc => rfl
  | (x, k) :: r, n, acc => by
    unfold cellsFrom
    split
    · rw [cellsFrom_append r (n + 1) ((x, n) :: acc), cellsFrom_append r (n + 1) [(x, n)]]
      simp
    · exact cellsFrom_append r n acc
theorem cellsFrom_mem : ∀ {names : List (Str × NameKind)} {n : Nat} {x : Str} {a : Addr}, (x, a) ∈ cellsFrom n names [] → (x, NameKind.cell) ∈ names
  | (y, k) :: r, n, x, a, h => by
    unfold cellsFrom at h
    split at h
    · rename_i hk
      rw [cellsFrom_append] at h
      have hk' : k = .cell := by simpa using hk
      rcases List.mem_append.mp h with h | h
      · exact List.mem_cons_of_mem _ (cellsFrom_mem h)
      · simp at h
        rw [h.1, hk']; exact List.mem_cons_self
    · exact List.mem_cons_of_mem _ (cellsFrom_mem h)
theorem cellsFrom_has : ∀ {names : List (Str × NameKind)} {n : Nat} {x : Str}, (x, NameKind.cell) ∈ names → ∃ a, (x, a) ∈ cellsFrom n names []
  | (y, k) :: r, n, x, h => by
    unfold cellsFrom
    rcases List.mem_cons.mp h with h | h
    · cases h
      rw [if_pos (by decide), cellsFrom_append]
      exact ⟨n, by simp⟩
    · split
      · rw [cellsFrom_append]
        obtain ⟨a, ha⟩ := cellsFrom_has (n := n + 1) h
        exact ⟨a, List.mem_append.mpr (.inl ha)⟩
      · exact cellsFrom_has h
theorem lookup_of_mem {α : Type} : ∀ {l : List (Str × α)} {x : Str} {a : α}, (x, a) ∈ l → ∃ b, l.lookup x = some b
  | (y, b) :: r, x, a, h => by
    by_cases hx : x = y
    · subst hx; exact ⟨b, by simp⟩
    · have hx' : (x == y) = false := by simpa using hx
      simp only [List.lookup, hx']
      rcases List.mem_cons.mp h with h | h
      · cases h; exact absurd rfl hx
      · exact lookup_of_mem h
theorem lookup_nodup {α : Type} : ∀ {l : List (Str × α)} {x : Str} {a : α}, (l.map (·.1)).Nodup → (x, a) ∈ l → l.lookup x = some a
  | (y, b) :: r, x, a, hn, h => by
    simp only [List.map_cons, List.nodup_cons] at hn
    rcases List.mem_cons.mp h with h | h
    · cases h; simp
    · have hx : (x == y) = false := by
        have : x ≠ y := fun q => hn.1 (by rw [← q]; exact List.mem_map.mpr ⟨_, h, rfl⟩)
        simpa using this
      simp only [List.lookup, hx]
      exact lookup_nodup hn.2 h
theorem pushCells_some : ∀ (names : List (Str × NameKind)) (h : Heap) (a : Addr), h.objs.size ≤ a → a < (pushCells h names).objs.size → ∃ o, (pushCells h names).get? a = some o
  | [], h, a, h1, h2 => absurd h2 (Nat.not_lt.mpr h1)
  | (x, k) :: r, h, a, h1, h2 => by
    unfold pushCells at h2 ⊢
    split at h2
    · rename_i hk
      rw [if_pos hk]
      by_cases ha : a = h.objs.size
      · subst ha
        exact ⟨_, pushCells_keeps _ _ _ _ (Heap.get?_push_size _ rfl)⟩
      · exact pushCells_some r _ a (by rw [Heap.size_push]; exact Nat.lt_of_le_of_ne h1 (Ne.symm ha)) h2
    · rename_i hk
      rw [if_neg hk]
      exact pushCells_some r h a h1 h2
/-- the cells that a block takes over -/
noncomputable def cloFrom (env : Env) : List (Str × NameKind) → List (Str × Addr) → List (Str × Addr)
  | [], acc => acc
  | (x, k) :: r, acc => if k == .free then cloFrom env r ((x, (env.cells.lookup x).getD 0) :: acc) else cloFrom env r acc
theorem cloFrom_mem : ∀ {names : List (Str × NameKind)} {acc : List (Str × Addr)} {x : Str} {a : Addr}, (x, a) ∈ cloFrom env names acc → (x, a) ∈ acc ∨ ((x, NameKind.free) ∈ names ∧ a = (env.cells.lookup x).getD 0)
  | [], acc, x, a, h => .inl h
  | (y, k) :: r, acc, x, a, h => by
    unfold cloFrom at h
    split at h
    · rename_i hk
      have hk' : k = .free := by simpa using hk
      rcases cloFrom_mem h with h | h
      · rcases List.mem_cons.mp h with h | h
        · cases h; exact .inr ⟨by rw [hk']; exact List.mem_cons_self, rfl⟩
        · exact .inl h
      · exact .inr ⟨List.mem_cons_of_mem _ h.1, h.2⟩
    · rcases cloFrom_mem h with h | h
      · exact .inl h
      · exact .inr ⟨List.mem_cons_of_mem _ h.1, h.2⟩
theorem cloFrom_old : ∀ {names : List (Str × NameKind)} {acc : List (Str × Addr)} {p : Str × Addr}, p ∈ acc → p ∈ cloFrom env names acc
  | [], acc, p, h => h
  | (y, k) :: r, acc, p, h => by
    unfold cloFrom
    split
    · exact cloFrom_old (List.mem_cons_of_mem _ h)
    · exact cloFrom_old h
theorem cloFrom_has : ∀ {names : List (Str × NameKind)} {acc : List (Str × Addr)} {x : Str}, (x, NameKind.free) ∈ names → (x, (env.cells.lookup x).getD 0) ∈ cloFrom env names acc
  | (y, k) :: r, acc, x, h => by
    unfold cloFrom
    rcases List.mem_cons.mp h with h | h
    · cases h
      rw [if_pos (by decide)]
      exact cloFrom_old List.mem_cons_self
    · split
      · exact cloFrom_has h
      · exact cloFrom_has h
theorem closureFor_eq {scope : Scope} (h : ∀ x, (x, NameKind.free) ∈ scope.names → ∃ a, env.cells.lookup x = some a) : closureFor scope env = pure (cloFrom env scope.names []) := by
  have key : ∀ (names : List (Str × NameKind)) (acc : List (Str × Addr)), (∀ x, (x, NameKind.free) ∈ names → ∃ a, env.cells.lookup x = some a) →
      (forIn names acc (fun x r => match x with | (name, kind) => if (kind == .free) = true then do let a ← cellOf env name; pure (ForInStep.yield ((name, a) :: r)) else pure (ForInStep.yield r)) : Sem (List (Str × Addr))) = pure (cloFrom env names acc) := by
    intro names
    induction names with
    | nil => intro acc _; rfl
    | cons p r ih =>
      intro acc h
      obtain ⟨x, k⟩ := p
      rw [List.forIn_cons]
      have ih' := fun acc => ih acc fun y hy => h y (List.mem_cons_of_mem _ hy)
      cases hk : k == NameKind.free with
      | true =>
        have hk' : k = .free := by simpa using hk
        subst hk'
        obtain ⟨a, ha⟩ := h x List.mem_cons_self
        have : cellOf env x = pure a := by unfold cellOf; rw [ha]
        simp only [if_true, this, cloFrom, hk, ha, Option.getD_some]
        exact ih' ((x, a) :: acc)
      | false =>
        simp only [cloFrom, hk]
        exact ih' acc
  have := key scope.names [] h
  show ((forIn scope.names [] (fun x r => match x with | (name, kind) => if (kind == .free) = true then do let a ← cellOf env name; pure (ForInStep.yield ((name, a) :: r)) else pure (ForInStep.yield r)) : Sem (List (Str × Addr))) >>= fun cs => pure cs) = _
  rw [this]
  rfl
theorem relabel_lookup (env : Env) : ∀ (names : List (Str × NameKind)) (x : Str) (k : NameKind), names.lookup x = some k →
    (names.map fun (n, k) => if (k == NameKind.free && env.scope.kind == .function && env.kindOf n == some .cell) then (n, NameKind.cell) else (n, k)).lookup x = some (if (k == NameKind.free && env.scope.kind == .function && env.kindOf x == some .cell) then .cell else k)
  | [], x, k, h => by simp at h
  | (y, j) :: r, x, k, h => by
    have ih := relabel_lookup env r x k
    show List.lookup x ((if (j == NameKind.free && env.scope.kind == .function && env.kindOf y == some .cell) = true then (y, NameKind.cell) else (y, j)) :: _) = _
    cases hx : x == y with
    | true =>
      have : x = y := by simpa using hx
      subst this
      simp only [List.lookup_cons, hx] at h
      cases h
      split <;> simp
    | false =>
      simp only [List.lookup_cons, hx] at h
      split <;> (simp only [List.lookup_cons, hx]; exact ih h)
/-- a block's table fits the one around it, and hides none of its names -/
noncomputable def scopeOk (σ : St) (sc : Scope) : Bool :=
  sc.kind == .function && sc.names.all (fun x => x.2 != .free || isCellKind (σ.names.lookup x.1)) && decide ((sc.names.map (·.1)).Nodup) && sc.names.all (fun x => x.1 != ("__classdict__" : Str)) &&
  (σ.vars.map (·.1)).all (fun y => !isVarKind (sc.names.lookup y) || sc.names.lookup y == some .free) && sc.names.all (fun x => x.2 == .free || !(σ.own == some x.1))
structure ScopeOk (σ : St) (sc : Scope) : Prop where
  kind : sc.kind = .function
  free : ∀ x, (x, NameKind.free) ∈ sc.names → isCellKind (σ.names.lookup x) = true
  nd : (sc.names.map (·.1)).Nodup
  cd : ∀ x k, sc.names.lookup x = some k → (x == ("__classdict__" : Str)) = false
  hide : ∀ x d, isVarKind (sc.names.lookup x) = true → σ.vars.lookup x = some d → sc.names.lookup x = some .free
theorem scope_ok {sc : Scope} (h : scopeOk σ sc = true) : ScopeOk σ sc := by
  obtain ⟨h, -⟩ := Bool.and_eq_true_iff.mp h
  obtain ⟨h, h5⟩ := Bool.and_eq_true_iff.mp h
  obtain ⟨h, h4⟩ := Bool.and_eq_true_iff.mp h
  obtain ⟨h, h3⟩ := Bool.and_eq_true_iff.mp h
  obtain ⟨h1, h2⟩ := Bool.and_eq_true_iff.mp h
  refine ⟨beq_iff_eq.mp h1, fun x hx => (Bool.or_eq_true_iff.mp (List.all_eq_true.mp h2 _ hx)).resolve_left (by simp), of_decide_eq_true h3, fun x k hx => ?_, fun x d hx hd => ?_⟩
  · have := List.all_eq_true.mp h4 _ (mem_of_lookup hx)
    simpa using this
  · obtain ⟨l1, l2, e, _⟩ := List.lookup_eq_some_iff.mp hd
    have := List.all_eq_true.mp h5 x (by rw [e]; simp)
    rw [hx] at this
    exact beq_iff_eq.mp this
theorem VRep.locals {h : Heap} {L L' : Addr} {own : Option Str} (k : ∀ a o, h.get? a = some o → a ≠ L') (r : VRep G W h O L own x v d) : VRep G W h O L' own x v d := ⟨fun e => let ⟨a, o, q⟩ := r.y e; ⟨a, o, q.v, q.io, k a o q.e, q.e, q.d⟩, r.n⟩
noncomputable def enterC (σ : St) (sc : Scope) : St := ⟨sc.names, σ.vars, σ.own⟩
theorem closure_ok {sc : Scope} (S : Sit G W O env σ s) (h : ScopeOk σ sc) : closureFor sc env = pure (cloFrom env sc.names []) :=
  closureFor_eq fun x hx => let ⟨a, _, h1, _⟩ := S.cex x (h.free x hx); ⟨a, h1⟩
structure Entered (G : Gx) (W O : Addr → Prop) (env : Env) (σ : St) (s : Shared) (sc : Scope) (cenv : Env) (h' : Heap) : Prop where
  L : cenv.locals = s.heap.objs.size
  k : Kp s.heap h'
  new : ∀ a, Mut { cenv with scope := relabel sc env } sc.names a → s.heap.objs.size ≤ a
  lt : s.heap.objs.size < h'.objs.size
  fr : ∀ a, FrA { cenv with scope := relabel sc env } sc.names a → FrA env σ.names a ∨ s.heap.objs.size ≤ a
  S : Sit G (fun a => W a ∨ (s.heap.objs.size ≤ a ∧ a < h'.objs.size)) O { cenv with scope := relabel sc env } (enterC σ sc) { s with heap := h' }
theorem enter_ok {sc : Scope} {Q : Env → Shared → Prop} (S : Sit G W O env σ s) (H : ScopeOk σ sc) (hQ : ∀ cenv h', Entered G W O env σ s sc cenv h' → Q cenv { s with heap := h' }) :
    Wp G A (newFunctionEnv sc env.globals (cloFrom env sc.names []) [] env.qual none .none (some env)) Q s := by
  have fl : ∀ x, sc.names.lookup x = some .free → ∃ a, env.cells.lookup x = some a ∧ (cloFrom env sc.names []).lookup x = some a := fun x hx => by
    have hm := mem_of_lookup hx
    obtain ⟨a, v, h1, _⟩ := S.cex x (H.free x hm)
    obtain ⟨b, hb⟩ := lookup_of_mem (cloFrom_has (env := env) (acc := []) hm)
    rcases cloFrom_mem (mem_of_lookup hb) with q | ⟨_, q⟩
    · cases q
    · rw [h1] at q; exact ⟨a, h1, hb.trans (congrArg some q)⟩
  have cm : ∀ x a, (cloFrom env sc.names []).lookup x = some a → env.cells.lookup x = some a ∧ FrA env σ.names a := fun x a hx => by
    rcases cloFrom_mem (mem_of_lookup hx) with q | ⟨q, qa⟩
    · cases q
    · have hc := H.free x q
      obtain ⟨b, v, h1, h2⟩ := S.cex x hc
      rw [h1] at qa; cases (show a = b from qa)
      exact ⟨h1, .inr ⟨x, hc, h1⟩⟩
  simp only [newFunctionEnv, Option.isSome_some, if_true]
  refine wpAny_bind (wpAny_alloc ?_)
  refine wpAny_bind (wpAny_layCells _ (fun name kind cells => by cases kind == NameKind.cell <;> simp) _ _ _ _ ?_)
  have ok := cellsFrom_ok sc.names (s.heap.push { cls := .type "dict", data := .dict #[] }) (s.heap.objs.size + 1) [] ⟨fun _ _ hm => (nomatch hm), List.Pairwise.nil⟩ (by rw [Heap.size_push]; exact Nat.le_refl _)
  rw [Heap.size_push] at ok
  rw [show ({ s with heap := s.heap.push { cls := .type "dict", data := .dict #[] } } : Shared).heap.objs.size = s.heap.objs.size + 1 from Heap.size_push .., cellsFrom_append]
  refine wpAny_bind (wpAny_pure ?_)
  refine wpAny_pure (hQ _ _ ?_)
  have hH : ∃ H, H = pushCells (s.heap.push { cls := .type "dict", data := .dict #[] }) sc.names := ⟨_, rfl⟩
  obtain ⟨H', hH⟩ := hH
  show Entered G W O env σ s sc _ (pushCells (s.heap.push { cls := .type "dict", data := .dict #[] }) sc.names)
  rw [← hH] at ok ⊢
  have hC : ∃ C, C = cellsFrom (s.heap.objs.size + 1) sc.names [] := ⟨_, rfl⟩
  obtain ⟨C, hC⟩ := hC
  have hK : ∃ K, K = cloFrom env sc.names [] := ⟨_, rfl⟩
  obtain ⟨K, hK⟩ := hK
  have lC : ∀ x, sc.names.lookup x = some .cell → ∃ c, C.lookup x = some c ∧ (C ++ K).lookup x = some c := fun x hx => by
    obtain ⟨b, hb⟩ := cellsFrom_has (n := s.heap.objs.size + 1) (mem_of_lookup hx)
    obtain ⟨c, hc⟩ := lookup_of_mem hb
    rw [← hC] at hc
    exact ⟨c, hc, by rw [List.lookup_append, hc]; rfl⟩
  rw [← hC] at ok
  rw [← hK] at fl cm
  have oC : ∀ x c, C.lookup x = some c → H'.IsCell c none ∧ s.heap.objs.size + 1 ≤ c := fun x c hc => ok.empty x c (mem_of_lookup hc)
  have lK : ∀ x, sc.names.lookup x = some .free → ∃ a, env.cells.lookup x = some a ∧ (C ++ K).lookup x = some a := fun x hx => by
    obtain ⟨a, h1, h2⟩ := fl x hx
    refine ⟨a, h1, ?_⟩
    rw [List.lookup_append]
    cases e1 : C.lookup x with
    | none => exact h2
    | some b =>
      rw [hC] at e1
      have := lookup_nodup H.nd (cellsFrom_mem (mem_of_lookup e1))
      rw [hx] at this; cases this
  have lCK : ∀ x a, (C ++ K).lookup x = some a → (C.lookup x = some a) ∨ (env.cells.lookup x = some a ∧ FrA env σ.names a) := fun x a h => by
    rw [List.lookup_append] at h
    cases e1 : C.lookup x with
    | none => rw [e1] at h; exact .inr (cm x a h)
    | some b => rw [e1] at h; exact .inl h
  rw [← hC, ← hK]
  have kp : Kp s.heap H' := fun b o e => hH ▸ pushCells_keeps _ _ b o (Heap.get?_push_of_some _ e)
  have hns : H'.Ns s.heap.objs.size fun _ => none := hH ▸ (Heap.Ns.new s.heap (.type "dict")).keeps (pushCells_keeps _ _)
  have hlt : s.heap.objs.size < H'.objs.size := hns.lt
  have new : ∀ x c, C.lookup x = some c → ¬ W c := fun x c h q => Nat.lt_irrefl _ (Nat.lt_of_lt_of_le (S.wb.lt q) (Nat.le_of_succ_le (oC x c h).2))
  have mv : Mv W s.heap (fun a => W a ∨ (s.heap.objs.size ≤ a ∧ a < H'.objs.size)) H' := fun a o h e => ⟨fun q => q.elim h fun q => Nat.lt_irrefl _ (Nat.lt_of_lt_of_le (Heap.lt_size e) q.1), kp a o e⟩
  have frE : ∀ a, FrA { scope := relabel sc env, locals := s.heap.objs.size, globals := env.globals, cells := C ++ K, qual := env.qual, func := none, code := env.code, frame := env.frame, builtins := env.builtins } sc.names a → FrA env σ.names a ∨ (s.heap.objs.size ≤ a ∧ a < H'.objs.size) := by
    rintro a (rfl | ⟨x, hx, ha⟩)
    · exact .inr ⟨Nat.le_refl _, hlt⟩
    · exact (lCK x a ha).elim (fun q => .inr ⟨Nat.le_of_succ_le (oC x a q).2, (oC x a q).1.lt⟩) fun q => .inl q.2
  refine ⟨rfl, kp, ?_, hlt, fun a q => (frE a q).imp_right (·.1), S.ok, S.tk, fun b o e => kp b o (S.kp b o e), fun a q => ?_, ⟨?_, S.st.gl, S.st.bl, fun x k hx => ?_, H.cd, fun x y a h1 h2 => ?_⟩, ⟨_, hns⟩, fun x hx => ?_, fun a q => (frE a q).imp_left (S.fr a), fun x d h1 h2 => ?_, fun a q => .inl (S.ow a q)⟩
  · rintro a (rfl | ⟨x, hx, ha⟩)
    · exact Nat.le_refl _
    · obtain ⟨c, h1, h2⟩ := lC x hx
      exact (Option.some.inj (h2.symm.trans ha) : c = a) ▸ Nat.le_of_succ_le (oC x c h1).2
  · rcases q with q | q
    · obtain ⟨h1, o, e⟩ := S.wb a q
      exact ⟨h1, o, kp a o e⟩
    · refine ⟨Nat.le_trans S.sizeLe q.1, ?_⟩
      by_cases ha : a = s.heap.objs.size
      · obtain ⟨o, _, _, e, _⟩ := hns
        exact ⟨o, ha ▸ e⟩
      · exact hH ▸ pushCells_some sc.names _ a (by rw [Heap.size_push]; exact Nat.lt_of_le_of_ne q.1 (Ne.symm ha)) (hH ▸ q.2)
  · exact H.kind
  · have e : Env.kindOf { scope := relabel sc env, locals := s.heap.objs.size, globals := env.globals, cells := C ++ K, qual := env.qual, func := none, code := env.code, frame := env.frame, builtins := env.builtins } x = _ := relabel_lookup env sc.names x k hx
    split at e
    · rename_i hc
      simp only [Bool.and_eq_true, beq_iff_eq] at hc
      exact .inr ⟨hc.1.1, e⟩
    · exact .inl e
  · rcases lCK x a h1 with q1 | q1 <;> rcases lCK y a h2 with q2 | q2
    · rw [hC] at q1 q2 ok
      exact name_of_addr ok.apart (mem_of_lookup q1) (mem_of_lookup q2)
    · exact absurd (S.fr _ q2.2) (new x a q1)
    · exact absurd (S.fr _ q1.2) (new y a q2)
    · exact S.st.apart x y a q1.1 q2.1
  · rcases Bool.or_eq_true_iff.mp hx with hx | hx <;> have hx := beq_iff_eq.mp hx
    · obtain ⟨c, h1, h2⟩ := lC x hx
      exact ⟨c, none, h2, (oC x c h1).1⟩
    · obtain ⟨a, h1, h2⟩ := lK x hx
      obtain ⟨c, u, g1, g2⟩ := S.cex x (H.free x (mem_of_lookup hx))
      rw [h1] at g1; cases g1
      exact ⟨a, u, h2, g2.keeps kp⟩
  · have hf := H.hide x d h1 h2
    obtain ⟨a, g1, g2⟩ := lK x hf
    have hc := H.free x (mem_of_lookup hf)
    have hv : isVarKind (σ.names.lookup x) = true := by unfold isVarKind; rw [hc]; exact Bool.or_true _
    obtain ⟨u, h3, r⟩ := S.val x d hv h2
    have h4 : s.heap.IsCell a (some u) := by
      rcases h3 with ⟨q, _⟩ | ⟨_, c, q1, q2⟩
      · cases e : σ.names.lookup x with
        | none => rw [e] at hc; cases hc
        | some k =>
          rcases S.st.nm x k e with z | ⟨_, z⟩
          · rw [q] at z; cases z; rw [e] at hc; cases hc
          · rw [q] at z; cases z
      · rw [g1] at q1; cases q1; exact q2
    refine ⟨u, .inr ⟨?_, a, g2, h4.keeps kp⟩, VRep.mv mv (fun b o ho hl e _ => ⟨ho, kp b o e⟩) (r.locals fun a o e => at_ne e)⟩
    have e : Env.kindOf { scope := relabel sc env, locals := s.heap.objs.size, globals := env.globals, cells := C ++ K, qual := env.qual, func := none, code := env.code, frame := env.frame, builtins := env.builtins } x = _ := relabel_lookup env sc.names x .free hf
    split at e
    · exact .inl e
    · exact .inr e
end
noncomputable section
open PyProof.Rows PySem.SeqAt
variable {G : Gx} {A : Around} {W W' W'' O O' X Y : Addr → Prop} {v u : Value} {d a b src : D} {s s' s'' : Shared} {n : Nat} {σ σ' σ₀ : St} {env : Env} {x : Str} {e elt : Expr} {ds its outs out0 o : List D} {I D₀ : Addr}
structure CompEnd (G : Gx) (W : Addr → Prop) (s : Shared) (ds : List D) (D₀ C : Addr) (s' : Shared) : Prop where
  k : Keeps s s'
  tk : 0 < s'.toks
  cn : s.heap.get? C = none
  cz : G.h0.objs.size ≤ C
  ns : ∃ m, s'.heap.Ns C m
  r : Rep G (wPlus W C) s'.heap (.ref D₀) (.list ds)
  dn : s.heap.get? D₀ = none
  dz : G.h0.objs.size ≤ D₀
theorem KeepsB.toK (k : KeepsB X s' s'') (j : Keeps s s') (h : ∀ a o, s.heap.get? a = some o → ¬ X a) : Keeps s s'' := by
  obtain ⟨h1, t1, rfl, k1⟩ := j
  obtain ⟨h2, t2, rfl, k2⟩ := k
  exact ⟨h2, t2, rfl, fun a o e => k2 a o (h a o e) (k1 a o e)⟩
theorem none_of {h h' : Heap} {a : Addr} (k : Kp h h') (e : h'.objs.size ≤ a) : h.get? a = none := by
  cases q : h.get? a with
  | none => rfl
  | some o => exact absurd (Heap.lt_size (k _ _ q)) (Nat.not_lt.mpr e)
/-- a list comprehension, whatever its list is for -/
theorem comp_gen {g : Comprehension} {gs : List Comprehension} {sc : Scope} {pos : Pos} {use : Option (Value → Sem Unit)} {Q : Value → Shared → Prop} (hA : Good n A) (H : ScopeOk σ sc) (hok : ∀ g' ∈ g :: gs, GenOk g')
    (h1 : Ev n σ g.iter src) (h2 : Iter src its) (h3 : CompL n (CompT n elt gs) g (enterC σ sc) its ds) (h4 : ds.length ≤ 2097152) (S : Sit G W O env σ s)
    (hQ : ∀ D₀ C s', CompEnd G W s ds D₀ C s' → compPost (model G.prog G.w) A (fun _ _ => False) use Q (.ref D₀) C (.ok .next) s') :
    Wp G A (comprehension (.ListComp elt (g :: gs) sc pos) sc env (firstIterPos (g :: gs) pos) (newList []) (firstAsync (g :: gs)) (firstIter (g :: gs) env) use) Q s := by
  have hg := hok g List.mem_cons_self
  have hasync : firstAsync (g :: gs) = false := by
    obtain ⟨tg, it, ifs, a⟩ := g
    have : a = 0 := hg.a
    subst this
    rfl
  have hfirst : firstIter (g :: gs) env = eval g.iter env := by
    obtain ⟨tg, it, ifs, a⟩ := g
    rfl
  rw [hasync, hfirst]
  refine wpAny_comprehension_free rfl (fun x => hg.s _ x) (closure_ok S H) H.kind (fun x hx e => lookup_nodup H.nd (e ▸ hx)) ?_
  refine h1.go hA S fun v s₁ k1 r1 S₁ => h2 hA.h r1 fun ob fp PP St It st0 hfr => ?_
  have S₂ := S₁.pushW hfr
  refine wpAny_newObj_type (hd := by size_fits) ?_
  have hs : ∃ s₂ : Shared, s₂ = { s₁ with heap := s₁.heap.push ob } := ⟨_, rfl⟩
  obtain ⟨s₂, hs2⟩ := hs
  have z2 : s₂.heap.objs.size = s₁.heap.objs.size + 1 := by rw [hs2, Heap.size_push]
  have k2 : Keeps s₁ s₂ := hs2 ▸ kPush
  have e2 : s₁.heap.push ob = s₂.heap := by rw [hs2]
  rw [← hs2] at S₂ ⊢
  rw [e2] at st0
  have S₃ := S₂.pushW (ob := { cls := .type "list", dict := none, data := .seq ([] : List Value).toArray }) rfl
  refine enter_ok S₃ H fun cenv h' E => ?_
  have k3 : Keeps s₂ { s₂ with heap := s₂.heap.push { cls := .type "list", dict := none, data := .seq ([] : List Value).toArray } } := kPush
  have z3 : (s₂.heap.push { cls := .type "list", dict := none, data := .seq ([] : List Value).toArray }).objs.size = s₁.heap.objs.size + 2 := by rw [Heap.size_push, z2]
  have k4 : Keeps s₂ { s₂ with heap := h' } := kTrans k3 (kOf E.k)
  have k14 := kTrans k2 k4
  have hI : s₁.heap.objs.size ≠ s₂.heap.objs.size := by rw [z2]; exact Nat.ne_of_lt (Nat.lt_succ_self _)
  have fI : ∀ a, s₁.heap.objs.size ≤ a → a < s₁.heap.objs.size + 2 → ¬ FrA { cenv with scope := relabel sc env } sc.names a ∧ ¬ O a ∧ ¬ W a := fun a q1 q2 => by
    have nw : ¬ W a := fun q => Nat.lt_irrefl _ (Nat.lt_of_lt_of_le (S₁.wb.lt q) q1)
    exact ⟨fun q => (E.fr a q).elim (fun q => nw (S₁.fr a q)) fun q => Nat.lt_irrefl _ (Nat.lt_of_lt_of_le q2 (z3 ▸ q)), fun q => nw (S₁.ow a q), nw⟩
  have f1 := fI _ (Nat.le_refl _) (Nat.lt_add_of_pos_right (by decide))
  have f2 := fI s₂.heap.objs.size (z2 ▸ Nat.le_succ _) (z2 ▸ Nat.lt_succ_self _)
  have mI : Mv W s₁.heap (fun a => wPlus (wPlus W s₁.heap.objs.size) s₂.heap.objs.size a ∨ ((s₂.heap.push { cls := .type "list", dict := none, data := .seq ([] : List Value).toArray }).objs.size ≤ a ∧ a < h'.objs.size)) h' := fun a o h e => ⟨fun q => by
    have l := Heap.lt_size e
    rcases q with (q | q) | q
    · exact h (q.resolve_right fun q => Nat.lt_irrefl _ (q ▸ l))
    · exact Nat.lt_irrefl _ (Nat.lt_trans l (q ▸ z2 ▸ Nat.lt_succ_self _))
    · exact Nat.lt_irrefl _ (Nat.lt_of_lt_of_le (Nat.lt_trans l (Nat.lt_add_of_pos_right (by decide))) (z3 ▸ q.1)), kKp k14 a o e⟩
  have st4 : St 0 h' := It.walks.frame _ _ _ st0 fun b _ o e => kKp k4 b o e
  refine start_gen rfl hg ?_ fun Q hQ => It.walks.self 0 _ Q _ st4 hQ
  refine loop_all hA hok gs g 0 rfl (o := []) ⟨E.S, ⟨.inl (.inr rfl), f2.1, f2.2.1⟩, #[], ⟨_, E.k _ _ (Heap.get?_push_size _ rfl)⟩, rfl⟩ ⟨.inl (.inl (.inr rfl)), f1.1, f1.2.1⟩ hI (It.mv mI) st4 h3 (by rw [List.length_nil, Nat.zero_add]; exact h4) fun s' W' a g => ?_
  have hM : ∀ c, frPlus { cenv with scope := relabel sc env } sc.names (fun a => a = s₂.heap.objs.size ∨ a = s₁.heap.objs.size) c → s₁.heap.objs.size ≤ c := fun c q => by
    rcases q with q | rfl | rfl
    · exact Nat.le_trans (Nat.le_add_right _ 2) (z3 ▸ E.new c q)
    · rw [z2]; exact Nat.le_succ _
    · exact Nat.le_refl _
  have cz : s₁.heap.objs.size ≤ cenv.locals := by rw [E.L, z3]; exact Nat.le_add_right _ 2
  have dz : s₁.heap.objs.size ≤ s₂.heap.objs.size := by rw [z2]; exact Nat.le_succ _
  obtain ⟨ys, ⟨z, p⟩, r⟩ := a.r
  refine hQ _ _ s' ⟨g.keep.toK (kTrans k1 k14) fun c o e q => ?_, a.S.tk, none_of (kKp k1) cz, Nat.le_trans S₁.sizeLe cz, a.S.lex, rList (fun q => q.elim f2.2.2 fun q => ?_) p (r.mv (.anti fun c q => .inl (q.elim (fun q => g.wo c ⟨.inl (.inl (.inl q)), fun w => f1.2.2 (w ▸ q)⟩) fun q => q ▸ a.S.fr _ (.inl rfl)))), none_of (kKp k1) dz, Nat.le_trans S₁.sizeLe dz⟩
  · exact Nat.lt_irrefl _ (Nat.lt_of_lt_of_le (Heap.lt_size (kKp k1 _ _ e)) (hM c q))
  · rw [E.L, z3, z2] at q
    exact Nat.succ_ne_self _ q.symm
theorem ev_comp {g : Comprehension} {gs : List Comprehension} {sc : Scope} {p : Pos} (hsc : scopeOk σ sc = true) (hok : ∀ g' ∈ g :: gs, GenOk g') (h1 : Ev n σ g.iter src) (h2 : Iter src its) (h3 : CompL n (CompT n elt gs) g (enterC σ sc) its ds) (h4 : ds.length ≤ 2097152) :
    Ev n σ (.ListComp elt (g :: gs) sc p) (.list ds) := fun {G A W O env s} hA S => by
  rw [eval_ListComp]
  refine comp_gen hA (scope_ok hsc) hok h1 h2 h3 h4 S fun D₀ C s' E => ?_
  obtain ⟨m, hn⟩ := E.ns
  refine ⟨m, hn, fun h' hs' => ⟨?_, E.r.mv fun a o h e => ⟨fun q => h (.inl q), hs'.extBut a o (fun q => h (.inr q)) e⟩⟩⟩
  exact KeepsB.toK (X := (· = C)) ⟨h', s'.toks, rfl, fun b o q e => hs'.extBut b o q e⟩ E.k fun b o e q => by rw [q, E.cn] at e; cases e
theorem gens1 {g : Comprehension} (h : GenOk g) : ∀ g' ∈ [g], GenOk g' := fun _ q => List.mem_singleton.mp q ▸ h
theorem gens2 {g k : Comprehension} (h : GenOk g) (h' : GenOk k) : ∀ g' ∈ [g, k], GenOk g' := fun _ q => (List.mem_cons.mp q).elim (fun q => q ▸ h) fun q => List.mem_singleton.mp q ▸ h'
end
noncomputable section
open PyProof.Rows PySem.SeqAt
/-- how a statement ends -/
inductive Fl where
  | next (σ : St)
  | ret (d : D)
variable {G : Gx} {A : Around} {W W' W'' O O' X Y : Addr → Prop} {v u : Value} {d a b src : D} {s s' s'' s₁ : Shared} {n : Nat} {σ σ' σ₀ σ₁ : St} {env : Env} {x : Str} {e elt t : Expr} {ds its outs : List D} {f : Fl} {st : Stmt} {body r : List Stmt} {p np : Pos} {c : Bool}
/-- behind a statement that goes on -/
structure AftP (G : Gx) (W O : Addr → Prop) (env : Env) (σ : St) (s : Shared) (σ' : St) (W' O' : Addr → Prop) (s' : Shared) : Prop where
  hn : σ'.names = σ.names
  S : Sit G W' O' env σ' s'
  st : Stp env σ.names W O s W' O' s'
structure RetP (G : Gx) (W O : Addr → Prop) (env : Env) (σ : St) (s : Shared) (d : D) (v : Value) (W' O' : Addr → Prop) (s' : Shared) : Prop where
  st : Stp env σ.names W O s W' O' s'
  r : Rep G W' s'.heap v d
noncomputable def FlP (G : Gx) (W O : Addr → Prop) (env : Env) (σ : St) (s : Shared) (f : Fl) (fl : Flow) (s' : Shared) : Prop := match f with
  | .next σ' => fl = .next ∧ ∃ W' O', AftP G W O env σ s σ' W' O' s'
  | .ret d => ∃ v, fl = .ret v ∧ ∃ W' O', RetP G W O env σ s d v W' O' s'
noncomputable def Ex (n : Nat) (σ : St) (st : Stmt) (f : Fl) : Prop := ∀ {G A W O env s}, Good n A → Sit G W O env σ s → Wp G A (exec st env) (FlP G W O env σ s f) s
noncomputable def Exs (n : Nat) (σ : St) (body : List Stmt) (f : Fl) : Prop := ∀ {G A W O env s}, Good n A → Sit G W O env σ s → Wp G A (execs body env) (FlP G W O env σ s f) s
theorem FlP.up {fl : Flow} (S : Sit G W O env σ s) (hn : σ₁.names = σ.names) (S₁ : Sit G W' O' env σ₁ s₁) (t1 : Stp env σ.names W O s W' O' s₁) (q : FlP G W' O' env σ₁ s₁ f fl s') : FlP G W O env σ s f fl s' := by
  cases f with
  | next σ' => exact let ⟨e, W₂, O₂, q⟩ := q; ⟨e, W₂, O₂, q.hn.trans hn, q.S, t1.trans S rfl S₁ (hn ▸ q.st)⟩
  | ret d => exact let ⟨v, e, W₂, O₂, q⟩ := q; ⟨v, e, W₂, O₂, t1.trans S rfl S₁ (hn ▸ q.st), q.r⟩
theorem FlP.next (S : Sit G W' O' env σ' s') (hn : σ'.names = σ.names) (t : Stp env σ.names W O s W' O' s') : FlP G W O env σ s (.next σ') .next s' := ⟨rfl, W', O', hn, S, t⟩
/-- a statement in front -/
theorem flUp {m : Sem Flow} (S : Sit G W O env σ s) (hn : σ₁.names = σ.names) (S₁ : Sit G W' O' env σ₁ s₁) (t1 : Stp env σ.names W O s W' O' s₁) (h : Wp G A m (FlP G W' O' env σ₁ s₁ f) s₁) : Wp G A m (FlP G W O env σ s f) s₁ := h.mono fun _ _ q => q.up S hn S₁ t1
theorem xs_nil : Exs n σ [] (.next σ) := fun _ S => wpAny_execs_nil (.next S rfl (.keeps (kRefl _)))
theorem xs_cons (h1 : Ex n σ st (.next σ₁)) (h2 : Exs n σ₁ r f) : Exs n σ (st :: r) f := fun hA S => wpAny_execs_cons ((h1 hA S).mono fun fl s₁ q => by
  obtain ⟨rfl, W', O', q⟩ := q
  exact flUp S q.hn q.S q.st (h2 hA q.S))
theorem xs_ret (h1 : Ex n σ st (.ret d)) : Exs n σ (st :: r) (.ret d) := fun hA S => wpAny_execs_cons ((h1 hA S).mono fun fl s₁ q => by
  obtain ⟨v, rfl, q⟩ := q
  exact ⟨v, rfl, q⟩)
/-- what is known less of -/
structure Weak (σ σ' : St) : Prop where
  n : σ'.names = σ.names
  o : σ'.own = σ.own
  v : ∀ x d, σ'.vars.lookup x = some d → σ.vars.lookup x = some d
theorem Sit.weaken (S : Sit G W O env σ s) (h : Weak σ σ') : Sit G W O env σ' s := S.weak h.n h.o h.v
theorem xs_weak (h1 : Exs n σ body (.next σ₁)) (h : Weak σ₁ σ') : Exs n σ body (.next σ') := fun hA S => (h1 hA S).mono fun fl s₁ q => by
  obtain ⟨e, W', O', q⟩ := q
  exact ⟨e, W', O', h.n.trans q.hn, q.S.weaken h, q.st⟩
theorem xs_less (h : Weak σ σ') (h1 : Exs n σ' body f) : Exs n σ body f := fun hA S => flUp S h.n (S.weaken h) (.keeps (kRefl _)) (h1 hA (S.weaken h))
/-! the owned name -/
noncomputable def Owned (G : Gx) (W O : Addr → Prop) (L : Addr) (h : Heap) (a : Addr) : Prop := O a ∧ a ≠ L ∧ ∃ o d, h.get? a = some o ∧ OwnD G W h a o d
noncomputable def notOwned (G : Gx) (W O : Addr → Prop) (L : Addr) (h : Heap) (X : Addr → Prop) (a : Addr) : Prop := X a ∧ ¬ Owned G W O L h a
theorem OwnD.rep {h : Heap} {a : Addr} {o : Obj} (hw : ¬ W' a) (m : Mv W h W' h) (e : h.get? a = some o) (x : OwnD G W h a o d) : Rep G W' h (.ref a) d := match d, x with
  | .list _, ⟨vs, y, z⟩ => Rep.list_iff.mpr ⟨a, o, vs, ⟨rfl, hw, e⟩, y, z.mv m⟩
  | .iidict _, x => ⟨a, o, ⟨rfl, hw, e⟩, x⟩
noncomputable def frozen (σ : St) : St := ⟨σ.names, σ.vars, none⟩
theorem freeze (S : Sit G W O env σ s) : ∃ W' O', Sit G W' O' env (frozen σ) s ∧ Stp env σ.names W O s W' O' s := by
  have m : Mv W s.heap (notOwned G W O env.locals s.heap W) s.heap := .anti fun a q => .inl q.1
  refine ⟨notOwned G W O env.locals s.heap W, notOwned G W O env.locals s.heap O, ⟨S.ok, S.tk, S.kp, fun a q => S.wb a q.1, S.st, S.lex, S.cex, fun a q => ⟨S.fr a q, fun z => ?_⟩, fun x d h1 h2 => ?_, fun a q => ⟨S.ow a q.1, q.2⟩⟩, .of (kRefl _), fun a q => .inl q.1, fun a q => .inl q.1, fun a q => ?_⟩
  · obtain ⟨_, z, o, d, e, h⟩ := z
    rcases q with q | ⟨x, hx, ha⟩
    · exact z q
    · obtain ⟨c, u, h1, o', e', h2⟩ := S.cex x hx
      rw [ha] at h1; cases h1
      rw [e] at e'; cases e'
      exact h.notCell _ h2
  · obtain ⟨v, h3, r⟩ := S.val x d h1 h2
    refine ⟨v, h3, nofun, fun _ => ?_⟩
    by_cases ho : σ.own = some x
    · obtain ⟨a, o, q⟩ := r.y ho
      exact q.v ▸ q.d.rep (fun z => z.2 ⟨q.io, q.l, o, d, q.e, q.d⟩) m q.e
    · exact (r.n ho).mv m
  · by_cases w : Owned G W O env.locals s.heap a
    · exact .inr w.1
    · exact .inl ⟨q, w⟩
theorem ex_freeze (h : Ex n (frozen σ) st f) : Ex n σ st f := fun hA S => let ⟨_, _, S', t⟩ := freeze S; flUp (σ₁ := frozen σ) S rfl S' t (h hA S')
theorem ex_ret (h : Ev n (frozen σ) e d) : Ex n σ (.Return (some e) p) (.ret d) := fun hA S => by
  obtain ⟨W', O', S', t⟩ := freeze S
  exact wpAny_Return_some ((h hA S').mono fun v s' q => ⟨v, rfl, W', O', t.trans S rfl S' (.keeps q.k), q.r⟩)
theorem ex_if {o : List Stmt} (h1 : Tr n σ t c) (h2 : c = true → Exs n σ body f) (h3 : c = false → Exs n σ o f) : Ex n σ (.If t body o p) f := fun hA S => wpAny_If (h1.go hA S fun s₁ k S₁ => by
  cases c with
  | true => exact flUp S rfl S₁ (.keeps k) (h2 rfl hA S₁)
  | false => exact flUp S rfl S₁ (.keeps k) (h3 rfl hA S₁))
theorem ex_assert {m : Option Expr} (h : Tr n σ t true) : Ex n σ (.Assert t m p) (.next σ) := fun hA S => wpAny_Assert_holds (h.go hA S fun _ k S₁ => ⟨rfl, .next S₁ rfl (.keeps k)⟩)
theorem ex_asg (hs : ∀ env, swapsWith e (some (.Name x np)) p.line env = pure false) (hx : storeK (σ.names.lookup x) = true) (h : Ev n σ e d) : Ex n σ (.Assign [.Name x np] e p) (.next (setV σ x d)) := fun hA S =>
  wpAny_Assign_Name (h.go hA S fun v s₁ k r S₁ => store_ok S₁ hx r fun s₂ S₂ k₂ => .next S₂ rfl (.trans S rfl S₁ (.keeps k) (.mut k₂))) (hs _)
/-- a place made meanwhile joins W -/
theorem Sit.later {a : Addr} (S : Sit G W O env σ s) (k : Keeps s s₁) (tk : 0 < s₁.toks) (hn : s.heap.get? a = none) (ha : ∃ o, s₁.heap.get? a = some o) (hz : G.h0.objs.size ≤ a) : Sit G (wPlus W a) O env σ s₁ :=
  S.mv tk (fun b o e => kKp k b o (S.kp b o e)) (fun c o h e => ⟨fun q => q.elim h fun z => (by rw [z, hn] at e; cases e), kKp k c o e⟩) (fun b q => q.elim (fun q => let ⟨z, o, e⟩ := S.wb b q; ⟨z, o, kKp k b o e⟩) fun q => (show b = a from q) ▸ ⟨hz, ha⟩)
    (fun b o _ e => kKp k b o e) (fun b q => .inl (S.fr b q)) (fun b o q _ e _ => ⟨q, kKp k b o e⟩) fun b q => .inl (S.ow b q)
theorem Sit.moreO (S : Sit G W O env σ s) (h : ∀ a, O a → O' a) (hw : ∀ a, O' a → W a) : Sit G W O' env σ s :=
  S.mv S.tk S.kp (fun _ _ h e => ⟨h, e⟩) S.wb (fun _ _ _ e => e) S.fr (fun a _ q _ e _ => ⟨h a q, e⟩) hw
theorem ex_asgC {g : Comprehension} {gs : List Comprehension} {sc : Scope} {cp : Pos} (hs : ∀ env, ∃ b, swapsWith (.ListComp elt (g :: gs) sc cp) (some (.Name x np)) p.line env = pure b) (hx : storeK (σ.names.lookup x) = true)
    (hsc : scopeOk σ sc = true) (hok : ∀ g' ∈ g :: gs, GenOk g') (h1 : Ev n σ g.iter src) (h2 : Iter src its) (h3 : CompL n (CompT n elt gs) g (enterC σ sc) its ds) (h4 : ds.length ≤ 2097152) :
    Ex n σ (.Assign [.Name x np] (.ListComp elt (g :: gs) sc cp) p) (.next (setV σ x (.list ds))) := fun {G A W O env s} hA S => by
  obtain ⟨b, hb⟩ := hs env
  cases b with
  | false =>
    exact wpAny_Assign_Name (Ev.go (ev_comp hsc hok h1 h2 h3 h4) hA S fun v s₁ k r S₁ => store_ok S₁ hx r fun s₂ S₂ k₂ => .next S₂ rfl (.trans S rfl S₁ (.keeps k) (.mut k₂))) hb
  | true =>
    rw [exec_Assign_Name_used x np _ p hb]
    refine wpAny_bind (wpAny_standAt (wpAny_bind ?_))
    show wpAny (model G.prog G.w) A (comprehension (.ListComp elt (g :: gs) sc cp) sc env (firstIterPos (g :: gs) cp) (newList []) (firstAsync (g :: gs)) (firstIter (g :: gs) env) (some (assign (.Name x np) env)) >>= fun _ => pure ()) _ _ s
    refine wpAny_bind (comp_gen hA (scope_ok hsc) hok h1 h2 h3 h4 S fun D₀ C s₁ E => ?_)
    obtain ⟨m, hn⟩ := E.ns
    have hCW : ¬ W C := fun q => by
      obtain ⟨_, o, e⟩ := S.wb C q
      rw [E.cn] at e; cases e
    have S₁ := S.later E.k E.tk E.cn (let ⟨o, _, _, e, _⟩ := hn; ⟨o, e⟩) E.cz
    refine wpAny_assign_Name (store_ok S₁ hx E.r fun s₂ S₂ k2 => ?_)
    have hMC : ¬ Mut env σ.names C := fun q => hCW (S.mut C q)
    refine ⟨m, Ns.mv hn fun o => k2.kp C o hMC, fun h' hs' => wpAny_pure (wpAny_pure ?_)⟩
    have kx : ∀ b o, b ≠ C → s₂.heap.get? b = some o → h'.get? b = some o := fun b o hb e => hs'.extBut b o hb e
    have ne : ∀ {b}, W b → b ≠ C := fun w e => hCW (e ▸ w)
    refine .next (W' := W) (O' := O) (s' := { s₂ with heap := h' }) (S₂.mv S₂.tk (fun b o e => kx b o (fun q => ?_) (S₂.kp b o e)) (fun b o h e => ⟨fun q => h (.inl q), kx b o (fun q => h (.inr q)) e⟩) (fun b q => let ⟨z, o, e⟩ := S₂.wb b (.inl q); ⟨z, o, kx b o (ne q) e⟩)
      (fun b o q e => kx b o (ne (S.fr b q)) e) (fun b q => S.fr b q) (fun b o q _ e _ => ⟨q, kx b o (ne (S.ow b q)) e⟩) S.ow) rfl ⟨?_, fun _ => .inl, fun _ => .inl, fun _ => .inl⟩
    · exact Nat.lt_irrefl _ (Nat.lt_of_lt_of_le (Heap.lt_size (q ▸ e)) E.cz)
    · have a1 : KeepsB (fun a => Mut env σ.names a ∨ O a) s s₂ := (KeepsB.of E.k).trans (k2.sub fun _ => .inl)
      have a2 : KeepsB (· = C) s₂ { s₂ with heap := h' } := ⟨h', s₂.toks, rfl, kx⟩
      exact a1.trans' a2 fun b o h e => ⟨h, fun q => by rw [q, E.cn] at e; cases e⟩
end
noncomputable section
open PyProof.Rows PySem.SeqAt
variable {G : Gx} {A : Around} {W W' W'' O O' X Y : Addr → Prop} {v u : Value} {d d' b src : D} {s s' s'' s₁ : Shared} {n : Nat} {σ σ' σ₀ σ₁ : St} {env : Env} {x y : Str} {e elt t : Expr} {ds its outs l : List D} {f : Fl} {st : Stmt} {body r : List Stmt} {p np ap xp yp : Pos} {c : Bool} {a : Addr} {o o' : Obj}
/-- a name takes a new list or dict as its own -/
theorem own_store (S : Sit G W O env σ s) (k : Keeps s s₁) (tk : 0 < s₁.toks) (hn : s.heap.get? a = none) (e : s₁.heap.get? a = some o) (hz : G.h0.objs.size ≤ a) (own : OwnD G (wPlus W a) s₁.heap a o d) (hx : storeK (σ.names.lookup x) = true) :
    Wp G A (storeName env x (.ref a)) (fun _ s' => FlP G W O env σ s (.next (putV σ x d (some x))) .next s') s₁ := by
  obtain ⟨W', O', S', st⟩ := freeze S
  have S₁ := (S'.later k tk hn ⟨o, e⟩ hz).moreO (O' := wPlus O' a) (fun b q => .inl q) fun b q => q.imp_left (S'.ow b)
  have hL : a ≠ env.locals := fun q => by
    obtain ⟨_, o, e⟩ := S.wb _ (S.fr _ (.inl rfl))
    rw [← q, hn] at e; cases e
  have m : Mv (wPlus W a) s₁.heap (wPlus W' a) s₁.heap := .anti fun b q => .inl (q.imp_left fun q => (st.wn b q).resolve_right fun z => by
    obtain ⟨_, o, e⟩ := S'.wb b q
    rw [z] at e; cases e)
  refine store_gen (own' := some x) (d := d) S₁ hx ⟨fun _ => ⟨a, o, rfl, .inr rfl, hL, e, own.mv m⟩, fun q => absurd rfl q⟩ (fun y hy => ⟨fun q => absurd (Option.some.inj q).symm hy, nofun⟩) fun s₂ S₃ k₃ => .next S₃ rfl ⟨?_, fun b q => ?_, fun b q => ?_, fun b q => ?_⟩
  · exact (KeepsB.of k).trans (k₃.sub fun _ => .inl)
  · exact q.elim (st.wn b) fun q => .inr (q ▸ hn)
  · exact q.elim (st.on b) fun q => .inr (q ▸ hn)
  · exact (st.wo b q).imp_left .inl
theorem ex_newL {lp : Pos} (hx : storeK (σ.names.lookup x) = true) : Ex n σ (.Assign [.Name x np] (.List [] lp) p) (.next (putV σ x (.list []) (some x))) := fun {G A W O env s} hA S =>
  wpAny_Assign_Name (wpAny_List (PySem.Calls.spliced_nil ⟨Nat.zero_le _, (own_store S (kPush (t := s.toks)) S.tk (get_size _) (Heap.get?_push_size _ rfl) S.sizeLe (d := .list []) ⟨#[], ⟨_, rfl⟩, rfl⟩ hx).mono fun _ _ q => q⟩))
/-- what is known of the owned name's place -/
structure OwnNow (G : Gx) (W O : Addr → Prop) (env : Env) (σ : St) (x : Str) (d : D) (s : Shared) (a : Addr) (o : Obj) : Prop where
  S : Sit G W O env σ s
  has : Has env s.heap x (.ref a)
  own : OwnR G W s.heap O env.locals (.ref a) d a o
theorem Has.keeps {h h' : Heap} (k : Kp h h') (q : Has env h x v) : Has env h' x v := q.imp (fun ⟨e, l, q1, q2⟩ => ⟨e, l, Ns.mv q1 (k _), q2⟩) fun ⟨e, c, q1, o, q2, q3⟩ => ⟨e, c, q1, o, k _ _ q2, q3⟩
theorem OwnNow.next (q : OwnNow G W O env σ x d s a o) (k : Keeps s s') (t : s.toks ≤ s'.toks) : OwnNow G W O env σ x d s' a o :=
  ⟨q.S.next k t, q.has.keeps (kKp k), q.own.mv (.of (kKp k)) fun b o h _ e _ => ⟨h, kKp k b o e⟩⟩
structure OwnC (σ : St) (x : Str) (d : D) : Prop where
  p : plainName x = true
  k : isVarKind (σ.names.lookup x) = true
  l : σ.vars.lookup x = some d
  o : (σ.own == some x) = true
theorem own_name (c : OwnC σ x d) (S : Sit G W O env σ s) {Q : Value → Shared → Prop} (hQ : ∀ a o, OwnNow G W O env σ x d s a o → Q (.ref a) s) : Wp G A (eval (.Name x p) env) Q s := by
  refine nm_var c.p c.k c.l S fun v q r => ?_
  obtain ⟨a, o, r⟩ := r.y (beq_iff_eq.mp c.o)
  obtain rfl := r.v
  exact hQ a o ⟨S, q, r⟩
/-- the owned place is changed -/
theorem OwnNow.put {h' : Heap} (q : OwnNow G W O env σ x d s a o) (ho : (σ.own == some x) = true) (k : ∀ b o, b ≠ a → s.heap.get? b = some o → h'.get? b = some o) (e : h'.get? a = some o') (od : OwnD G W h' a o' d') : Sit G W O env (putV σ x d' σ.own) { s with heap := h' } := by
  have S := q.S
  have wa := S.ow a q.own.io
  have m : Mv W s.heap W h' := .kp fun b o h e => k b o (fun z => h (z ▸ wa)) e
  have lc : env.locals ≠ a := q.own.l.symm
  have nc : ∀ {c u}, s.heap.IsCell c u → c ≠ a := fun ⟨o', e1, e2⟩ z => by
    subst z
    rw [q.own.e] at e1; cases e1
    exact q.own.d.notCell _ e2
  have hm : ∀ {y u}, Has env s.heap y u → Has env h' y u := fun h => h.imp (fun ⟨e, l, q1, q2⟩ => ⟨e, l, Ns.same q1 k lc, q2⟩) fun ⟨e, c, q1, q2⟩ => ⟨e, c, q1, cell_same q2 k (nc q2)⟩
  refine ⟨S.ok, S.tk, fun b o e => k b o (fun z => Nat.lt_irrefl _ (Nat.lt_of_lt_of_le (Heap.lt_size (z ▸ e)) (S.wb a wa).1)) (S.kp b o e), fun b z => ⟨(S.wb b z).1, ?_⟩, S.st, let ⟨l, z⟩ := S.lex; ⟨l, Ns.same z k lc⟩, fun y hy => let ⟨c, u, h1, h2⟩ := S.cex y hy; ⟨c, u, h1, cell_same h2 k (nc h2)⟩, S.fr, fun y c h1 h2 => ?_, S.ow⟩
  · by_cases w : b = a
    · exact w ▸ ⟨o', e⟩
    · obtain ⟨_, o, z⟩ := S.wb b z
      exact ⟨o, k b o w z⟩
  · have h2 : ((x, d') :: σ.vars).lookup y = some c := h2
    rw [List.lookup_cons] at h2
    have ho := beq_iff_eq.mp ho
    cases hy : y == x with
    | true =>
      rw [hy] at h2
      cases beq_iff_eq.mp hy
      cases Option.some.inj h2
      exact ⟨_, hm q.has, fun _ => ⟨a, o', rfl, q.own.io, q.own.l, e, od⟩, fun z => absurd ho z⟩
    | false =>
      rw [hy] at h2
      have ne : σ.own ≠ some y := fun z => by rw [ho] at z; cases z; simp at hy
      obtain ⟨u, h3, r⟩ := S.val y c h1 h2
      exact ⟨u, hm h3, fun z => absurd z ne, fun _ => (r.n ne).mv m⟩
theorem OwnNow.after {h' : Heap} (S : Sit G W O env σ s) (k₁ : Keeps s s₁) (q : OwnNow G W O env σ x d s₁ a o) (ho : (σ.own == some x) = true) (k : ∀ b o, b ≠ a → s₁.heap.get? b = some o → h'.get? b = some o) (e : h'.get? a = some o') (od : OwnD G W h' a o' d') :
    FlP G W O env σ s (.next (putV σ x d' σ.own)) .next { s₁ with heap := h' } :=
  .next (q.put ho k e od) rfl ⟨(KeepsB.of k₁).trans' (W := fun a => Mut env σ.names a ∨ O a) (X := fun _ => False) (Y := (· = a)) ⟨h', s₁.toks, rfl, k⟩ fun _ _ h _ => ⟨id, fun z => h (.inr (z ▸ q.own.io))⟩, fun _ => .inl, fun _ => .inl, fun _ => .inl⟩
theorem Sit.quiet (S : Sit G W O env σ s) : interactive env = false := by
  unfold interactive
  rw [S.st.kind]
  rfl
theorem ownL (q : OwnNow G W O env σ x (.list l) s a o) : ∃ vs, s.heap.PlainList a vs ∧ Reps G W s.heap vs.toList l := let ⟨vs, ⟨n, h⟩, r⟩ := q.own.d; ⟨vs, ⟨n, h ▸ q.own.e⟩, r⟩
theorem ex_append (hc : OwnC σ x (.list l)) (hb : ∀ env, attributeBase (.Name x xp) "append" env (eval (.Name x xp) env) = eval (.Name x xp) env) (hl : (ap.endLine == np.line) = true)
    (ht : ∀ env, backTo np (starEach [e] env) = [(false, eval e env)]) (hsz : l.length ≤ 1048576) (h : Ev n σ e d) : Ex n σ (.Expr (.Call (.Attribute (.Name x xp) "append" ap) [e] [] np) p) (.next (putV σ x (.list (l ++ [d])) σ.own)) := fun {G A W O env s} hA S => by
  refine wpAny_Expr_any (wpAny_Call_method (T := "list") (id := "list.append") (hb _) (few (as := [e]) (ht _) (Nat.le_add_left 2 28)) hl F.plainAttrs_list F.slot_list_append F.type_list_append (own_name hc S fun a o q => ?_)) S.quiet rfl
  have ho := hc.o
  obtain ⟨vs, pl, rs⟩ := ownL q
  rw [ht]
  refine ⟨pl.isList.typeIs, (fun b e => by cases e; obtain ⟨n, e⟩ := pl; exact ⟨_, e, rfl⟩), PySem.Calls.callWith_builtin rfl (args_go rfl (PySem.Calls.spliced_cons ((h hA S).go fun vb s₁ t z => PySem.Calls.spliced_nil ?_)))⟩
  have q1 := q.next z.k t
  have pl1 : s₁.heap.PlainList a vs := pl.at fun o e => kKp z.k a o e
  refine wpAny_list_append_plain pl1 (fun h' pl' hs' => ?_) (rs.size ▸ szl hsz)
  obtain ⟨w, pl'⟩ := pl'
  exact q1.after S z.k ho (fun b o hb e => hs'.extBut b o hb e) pl' ⟨_, ⟨_, rfl⟩, ((rs.keeps z.k).snoc z.r).mv (.kp fun b o hb e => hs'.extBut b o (fun z => hb (z ▸ S.ow a q.own.io)) e)⟩
theorem Reps.erase {h : Heap} : ∀ {ds : List D} {vs : List Value} (k : Nat), Reps G W h vs ds → Reps G W h (vs.eraseIdx k) (ds.eraseIdx k)
  | [], vs, k, r => (show vs = [] from r) ▸ rfl
  | d :: ds, vs, 0, r => let ⟨_, _, e, _, r⟩ := r; e ▸ r
  | d :: ds, vs, k + 1, r => let ⟨v, w, e, q, r⟩ := r; e ▸ ⟨v, w.eraseIdx k, rfl, q, Reps.erase k r⟩
theorem eraseIdx_toList (vs : Array Value) (k : Nat) (h : k < vs.size) : (vs.eraseIdxIfInBounds k).toList = vs.toList.eraseIdx k := by
  unfold Array.eraseIdxIfInBounds
  rw [dif_pos h]
  simp
theorem ex_del {j : Int} {k : Nat} {ie : Expr} (hc : OwnC σ x (.list l)) (hj : Builtin.List.listFitsIndex j = true) (hk : seqIndex? j l.length = some k) (hkl : k < l.length) (hsz : l.length ≤ 1048576) (h : Ev n σ ie (.int j)) :
    Ex n σ (.Delete [.Subscript (.Name x xp) ie np] p) (.next (putV σ x (.list (l.eraseIdx k)) σ.own)) := fun {G A W O env s} hA S => by
  refine wpAny_Delete (wpAny_deleteEach_cons ?_)
  rw [arm_delete_Subscript]
  have ho := hc.o
  refine wpAny_bind (own_name hc S fun a o q => ?_)
  obtain ⟨vs, pl, rs⟩ := ownL q
  refine wpAny_bind (wpAny_holding ((h hA S).go fun vb s₁ t z => ?_))
  obtain ⟨w, rfl⟩ := z.r
  have q1 := q.next z.k t
  have pl1 : s₁.heap.PlainList a vs := pl.at fun o e => kKp z.k a o e
  refine wpAny_bind (wpAny_standAt (wpAny_bind (wpAny_holding (wpAny_delItem_plain pl1 hj (by rw [rs.size]; exact hk) (fun h' pl' hs' => ?_) (rs.size ▸ szl hsz)))))
  refine wpAny_release (wpAny_deleteEach_nil ?_)
  obtain ⟨w', pl'⟩ := pl'
  exact q1.after S z.k ho (fun b o hb e => hs'.extBut b o hb e) pl' ⟨_, ⟨_, rfl⟩, eraseIdx_toList vs k (rs.size ▸ hkl) ▸ ((rs.keeps z.k).erase k).mv (.kp fun b o hb e => hs'.extBut b o (fun z => hb (z ▸ S.ow a q.own.io)) e)⟩
/-- text.split(text): the name owns the list -/
theorem ex_split {u v : Str} (hx : storeK (σ.names.lookup x) = true) (hb : ∀ env, attributeBase (.Name y yp) "split" env (eval (.Name y yp) env) = eval (.Name y yp) env) (hl : (ap.endLine == np.line) = true) (ht : ∀ env, backTo np (starEach [e] env) = [(false, eval e env)])
    (hs : ∀ env, swapsWith (.Call (.Attribute (.Name y yp) "split" ap) [e] [] np) (some (.Name x xp)) p.line env = pure false) (h1 : Pk n σ (.Name y yp) (.str u)) (h2 : Ev n σ e (.str v)) (hv : (v.length == 0) = false) (hsz : u.length ≤ 1048576) :
    Ex n σ (.Assign [.Name x xp] (.Call (.Attribute (.Name y yp) "split" ap) [e] [] np) p) (.next (putV σ x (.list ((Txt.split u v).map .str)) (some x))) := fun {G A W O env s} hA S => by
  refine wpAny_Assign_Name (wpAny_Call_method (T := "str") (id := "str.split") (hb _) (few (as := [e]) (ht _) (Nat.le_add_left 2 28)) hl F.plainAttrs_str F.slot_str_split F.type_str_split (h1.go hA S fun va s₀ k0 r0 S0 => ?_)) (hs _)
  obtain ⟨t, rfl⟩ := r0
  rw [ht]
  refine ⟨typeIs_str _ _ _, (fun a e => nomatch e), PySem.Calls.callWith_builtin rfl (args_go rfl (PySem.Calls.spliced_cons ((h2 hA S0).go fun vb s₁ t1 z => PySem.Calls.spliced_nil ?_)))⟩
  obtain ⟨t', rfl⟩ := z.r
  have S1 := S0.next z.k t1
  show Wp G A (call (.builtin "str.split") [.str u t, .str v t']) _ s₁
  refine Wp.go (split_at (Q := fun w s₂ => ∃ (l : List (Str × Tok)) (tk : Nat), l.map (·.1) = Txt.split u v ∧ w = .ref s₁.heap.objs.size ∧ s₂ = { s₁ with heap := s₁.heap.push { cls := .type "list", data := .seq (strValues l).toArray }, toks := tk }) hv (fun l tk hm => ⟨l, tk, hm, rfl, rfl⟩) hsz) fun _ _ htk ⟨l, tk, hm, e1, e2⟩ => ?_
  subst e1 e2
  have kk : Keeps s { s₁ with heap := s₁.heap.push { cls := .type "list", data := .seq (strValues l).toArray }, toks := tk } := kTrans k0 (kTrans z.k kPush)
  exact (own_store S kk (Nat.lt_of_lt_of_le S1.tk htk) (none_of (kKp (kTrans k0 z.k)) (Nat.le_refl _)) (Heap.get?_push_size _ rfl) S1.sizeLe (d := .list ((Txt.split u v).map .str)) ⟨_, ⟨_, rfl⟩, hm ▸ reps_strs l⟩ hx).mono fun _ _ q => q
end
noncomputable section
open PyProof.Rows PySem.SeqAt
variable {G : Gx} {A : Around} {W W' W'' O O' X Y W₀ O₀ : Addr → Prop} {v u : Value} {d d' b src d1 d2 : D} {s s' s'' s₁ s₀ : Shared} {n : Nat} {σ σ' σ₀ σ₁ : St} {env : Env} {x y : Str} {e elt t : Expr} {ds its outs l : List D} {f : Fl} {st : Stmt} {body r : List Stmt} {p np ap xp yp : Pos} {c : Bool} {a I : Addr} {o o' : Obj}
theorem ag_add {i j : Int} {s : Shared} {t u : Tok} {Q : Value → Shared → Prop} (h : ∀ w, Q (.int (i + j) w) { s with toks := s.toks + 1 }) : Wp G A (inplaceOp .Add (.int i t) (.int j u)) Q s := PySem.AutoIntOps.iadd_0 (h _)
theorem ag_sub {i j : Int} {s : Shared} {t u : Tok} {Q : Value → Shared → Prop} (h : ∀ w, Q (.int (i - j) w) { s with toks := s.toks + 1 }) : Wp G A (inplaceOp .Sub (.int i t) (.int j u)) Q s := PySem.AutoIntOps.isub_0 (h _)
/-- a target that keeps the table of names -/
structure BindF (σ : St) (t : Expr) (d : D) (σ' : St) : Prop where
  b : Bind σ t d σ'
  n : σ'.names = σ.names
theorem bf_name (hx : storeK (σ.names.lookup x) = true) : BindF σ (.Name x p) d (setV σ x d) := ⟨bt_name hx, rfl⟩
theorem Binds.names {es : List Expr} (h : Binds σ es ds σ') : σ'.names = σ.names := by
  induction h with
  | nil => rfl
  | cons _ _ ih => exact ih
theorem bf_tup {es : List Expr} {z} (h : Binds σ es ds σ') : BindF σ (.Tuple es z p) (.tuple ds) σ' := ⟨bt_tup h, h.names⟩
theorem ex_tup {es : List Expr} {z} {tp : Pos} (hsole : ∀ env, swapsWithSole [.Tuple es z tp] e p.line env = pure false) (hw : ∀ env, swappedStores [.Tuple es z tp] e env = pure none) (h : Ev n σ e (.tuple ds)) (hb : Binds σ es ds σ') : Ex n σ (.Assign [.Tuple es z tp] e p) (.next σ') := fun hA S =>
  Assign_Tuple (h.go hA S fun _ _ k r S₁ => bt_tup hb hA.h S₁ r fun _ S₂ k₂ => .next S₂ hb.names (.trans S rfl S₁ (.keeps k) (.mut k₂))) (hsole _) (hw _)
theorem swap2 {z k'} {tp p' : Pos} {vs : List Expr} (hxy : (x == y) = false) (hv : (vs.all (foldedForSure 8) || !vs.all (constantsAlone 8)) = true) :
    swappedStores [.Tuple [.Name x xp, .Name y yp] z tp] (.Tuple vs k' p') env = pure none ∨ swappedStores [.Tuple [.Name x xp, .Name y yp] z tp] (.Tuple vs k' p') env = pure (some [x, y]) := by
  unfold swappedStores
  simp only []
  split
  · exact .inl rfl
  · split
    · exact .inl rfl
    · split
      · exact .inl rfl
      · rename_i hc
        split
        · exact .inl rfl
        · rename_i h1
          rw [Bool.not_eq_true] at h1
          rw [h1, Bool.false_or, Bool.not_eq_true'] at hv
          rw [hv]
          refine .inr (congrArg pure (congrArg some ?_))
          simp only [List.filterMap_cons, List.filterMap_nil] at hc ⊢
          split at hc <;> split at hc <;> simp_all
theorem ex_tup2 {z} {tp : Pos} (hsole : ∀ env, swapsWithSole [.Tuple [.Name x xp, .Name y yp] z tp] e p.line env = pure false) (hw : ∀ env, swappedStores [.Tuple [.Name x xp, .Name y yp] z tp] e env = pure none ∨ swappedStores [.Tuple [.Name x xp, .Name y yp] z tp] e env = pure (some [x, y]))
    (hxy : (x == y) = false) (hx : storeK (σ.names.lookup x) = true) (hy : storeK (σ.names.lookup y) = true) (h : Ev n σ e (.tuple [d1, d2])) : Ex n σ (.Assign [.Tuple [.Name x xp, .Name y yp] z tp] e p) (.next (setV (setV σ x d1) y d2)) := fun {G A W O env s} hA S => by
  rcases hw env with hw | hw
  · have hb : Binds σ [.Name x xp, .Name y yp] [d1, d2] (setV (setV σ x d1) y d2) := .cons hx (.cons hy .nil)
    exact Assign_Tuple (h.go hA S fun _ _ k r S₁ => bt_tup hb hA.h S₁ r fun _ S₂ k₂ => .next S₂ rfl (.trans S rfl S₁ (.keeps k) (.mut k₂))) (hsole _) hw
  · refine Assign_Tuple_swapped (names := [x, y]) (h.go hA S fun v s₁ k r S₁ => ?_) (hsole _) hw
    obtain ⟨a, vs, rfl, ht, r⟩ := (RepT.of r).tuple
    have e2 : [x, y].length = vs.size := r.size.symm
    rw [e2]
    refine wpAny_unpackItems_tuple hA.h ht fun h' he' => ?_
    have k2 : Keeps s₁ { s₁ with heap := h' } := kOf fun b o q => he' b o (Nat.ne_of_lt (Heap.lt_size q)) q
    have S₂ := S₁.next k2 (Nat.le_refl _)
    obtain ⟨v1, w, e, r1, v2, w', rfl, r2, rfl⟩ := r.keeps k2
    rw [e]
    refine wpAny_assignInOrder_more (wpAny_bindName (store_ok S₂ hy r2 fun s₃ S₃ k₃ => wpAny_assignInOrder_more (wpAny_bindName (store_ok S₃ hx (r1.mv (.kp fun b o h e => k₃.kp b o (fun q => h (S₂.mut b q)) e)) fun s₄ S₄ k₄ => wpAny_assignInOrder_none ?_))))
    have ne : x ≠ y := beq_eq_false_iff_ne.mp hxy
    refine .next (S₄.weaken ⟨rfl, ?_, fun z c q => ?_⟩) rfl (.trans S rfl S₂ (.keeps (kTrans k k2)) (.mut (k₃.trans k₄)))
    · show (if (if σ.own = some x then none else σ.own) = some y then none else (if σ.own = some x then none else σ.own)) = (if (if σ.own = some y then none else σ.own) = some x then none else (if σ.own = some y then none else σ.own))
      by_cases h1 : σ.own = some x
      · by_cases h2 : σ.own = some y
        · rw [h1] at h2; exact absurd (Option.some.inj h2) ne
        · rw [if_pos h1, if_neg h2, if_pos h1, if_neg nofun]
      · by_cases h2 : σ.own = some y
        · rw [if_neg h1, if_pos h2, if_neg nofun]
        · rw [if_neg h1, if_neg h2, if_neg h1]
    · have q : ((y, d2) :: (x, d1) :: σ.vars).lookup z = some c := q
      show ((x, d1) :: (y, d2) :: σ.vars).lookup z = some c
      rw [List.lookup_cons, List.lookup_cons] at q ⊢
      cases h1 : z == x with
      | false => rw [h1] at q; exact q
      | true =>
        rw [beq_iff_eq.mp h1, hxy] at q
        simpa using q
/-! loops -/
/-- a for loop's turns -/
noncomputable def ForL (n : Nat) (t : Expr) (body : List Stmt) : St → List D → Fl → Prop
  | σ, [], f => f = .next σ
  | σ, d :: ds, f => ∃ σ₁, BindF σ t d σ₁ ∧ ((∃ σ₂, Exs n σ₁ body (.next σ₂) ∧ ForL n t body σ₂ ds f) ∨ ∃ d, Exs n σ₁ body (.ret d) ∧ f = .ret d)
theorem fl_step (h1 : BindF σ t d σ₁) (h2 : Exs n σ₁ body (.next σ')) (h3 : ForL n t body σ' ds f) : ForL n t body σ (d :: ds) f := ⟨σ₁, h1, .inl ⟨σ', h2, h3⟩⟩
theorem fl_ret (h1 : BindF σ t d σ₁) (h2 : Exs n σ₁ body (.ret d')) : ForL n t body σ (d :: ds) (.ret d') := ⟨σ₁, h1, .inr ⟨d', h2, rfl⟩⟩
theorem for_gen {R : Result → Shared → Prop} {it : Value} (I : Nat → Shared → Prop)
    (turn : ∀ m s, I m s → Wp G A (pyNext it) (fun r s₁ => match r with
      | none => R (.ok .next) s₁
      | some v => Wp G A (letOwnedTupleGo t it v) (fun _ s₁' => Wp G A (assign t env v) (fun _ s₂ => Wp G A (execs body env) (fun f s₃ => match f with
          | .next | .cont => ∃ k, k < m ∧ I k s₃
          | .brk => R (.ok .next) s₃
          | .ret v => R (.ok (.ret v)) s₃) s₂) s₁') s₁) s)
    (m : Nat) (h : I m s) : codeAny (model G.prog G.w) A (.forLoop t it body [] env) R s := by
  refine codeAny_loop' rfl I (fun n s hI => ?_) m h
  show wpAny _ _ ((forTurn t it body [] env).onRaise (fun x => do noteFrame x env; theTreesLotGoes x)) _ _ s
  refine wpAny_noted ?_
  simp only [forTurn]
  refine wpAny_bind (wpAny_standAt (wpAny_bind (wpAny_onRaise (wpAny_mono (turn n s hI) (fun r s₁ h₁ => ?_) fun _ _ h' => h'.elim))))
  cases r with
  | none => exact wpAny_pure (.inr ⟨rfl, codeAny_block (wpAny_execs_nil h₁)⟩)
  | some v =>
    refine wpAny_bind (wpAny_mono h₁ (fun _ s₁' h₁' => wpAny_bind (wpAny_mono h₁' (fun _ s₂ h₂ => wpAny_bind (wpAny_mono h₂ (fun f s₃ h₃ => ?_) fun _ _ h' => h'.elim)) fun _ _ h' => h'.elim)) fun _ _ h' => h'.elim)
    cases f with
    | next => exact wpAny_pure (.inl ⟨rfl, h₃⟩)
    | cont => exact wpAny_pure (.inl ⟨rfl, h₃⟩)
    | brk => exact wpAny_pure h₃
    | ret v => exact wpAny_pure h₃
noncomputable def flRes (G : Gx) (W O : Addr → Prop) (env : Env) (σ : St) (s : Shared) (f : Fl) (r : Result) (s' : Shared) : Prop := match r with
  | .ok fl => FlP G W O env σ s f fl s'
  | .error _ => False
/-- a for loop under way: from σ₀, s₀ on -/
structure ForI (G : Gx) (A : Around) (n : Nat) (t : Expr) (body : List Stmt) (W₀ O₀ : Addr → Prop) (env : Env) (σ₀ : St) (s₀ : Shared) (I : Addr) (ds : List D) (fp : List Addr) (PP : Nat → Value → Prop) (Sti : Nat → Heap → Prop) (f : Fl) (m : Nat) (s' : Shared) (i : Nat) (σ : St) (W O : Addr → Prop) : Prop where
  m : m + i = ds.length + 1
  l : i ≤ ds.length
  hn : σ.names = σ₀.names
  S : Sit G W O env σ s'
  tt : Stp env σ₀.names W₀ O₀ s₀ W O s'
  it : IsIter G A W s'.heap I ds fp PP Sti
  st : Sti i s'.heap
  fI : Free env σ.names W O I
  c : ForL n t body σ (ds.drop i) f
theorem Stp.mv {ns : List (Str × NameKind)} (a : Stp env ns W O s W' O' s') (w : ∀ c, Mut env ns c ∨ O c → W c) : Mv W s.heap W' s'.heap := fun c o h e => ⟨fun q => (a.wn c q).elim h fun z => (by rw [z] at e; cases e), a.keep.kp c o (fun q => h (w c q)) e⟩
theorem Sit.mo (S : Sit G W O env σ s) (c : Addr) (q : Mut env σ.names c ∨ O c) : W c := q.elim (S.mut c) (S.ow c)
theorem Stp.free (a : Stp env σ.names W O s W' O' s') (hn : σ'.names = σ.names) (fI : Free env σ.names W O I) (e : s.heap.get? I = some o) : Free env σ'.names W' O' I :=
  ⟨(a.wo I fI.w).resolve_right fI.o, hn ▸ fI.f, fun q => (a.on I q).elim fI.o fun z => by rw [z] at e; cases e⟩
theorem Stp.other {ns : List (Str × NameKind)} {h' : Heap} {tk : Nat} (a : Stp env ns W O s W' O' s') (hI : s.heap.get? I = none) (k : ∀ b o, b ≠ I → s'.heap.get? b = some o → h'.get? b = some o) : Stp env ns W O s W' O' { s' with heap := h', toks := tk } :=
  ⟨a.keep.trans' (Y := (· = I)) ⟨h', tk, rfl, k⟩ fun b o h e => ⟨h, fun q => by rw [q, hI] at e; cases e⟩, a.wn, a.on, a.wo⟩
theorem for_loop {fp : List Addr} {PP : Nat → Value → Prop} {Sti : Nat → Heap → Prop} (hA : Good n A) (S₀ : Sit G W O env σ s) (hfr : o.isFreed = false) (It : IsIter G A W s.heap s.heap.objs.size ds fp PP Sti) (hst : Sti 0 (s.heap.push o)) (hf : ForL n t body σ ds f) :
    codeAny (model G.prog G.w) A (.forLoop t (.ref s.heap.objs.size) body [] env) (flRes G W O env σ s f) { s with heap := s.heap.push o } := by
  have g2 : Mv W s.heap (wPlus W s.heap.objs.size) (s.heap.push o) := fun a o h e => ⟨fun q => q.elim h fun q => at_ne e q, kpPush a o e⟩
  refine for_gen (fun m s' => ∃ i σ₁ W₁ O₁, ForI G A n t body W O env σ s s.heap.objs.size ds fp PP Sti f m s' i σ₁ W₁ O₁) ?_ (ds.length + 1)
    ⟨0, σ, _, O, rfl, Nat.zero_le _, rfl, S₀.pushW hfr, ⟨.of (kPush (t := s.toks)), fun _ => wPlus_new, fun _ => .inl, fun _ q => .inl (.inl q)⟩, It.mv g2, hst, S₀.freeNew, hf⟩
  rintro m s' ⟨i, σ₁, W₁, O₁, L⟩
  have S := L.S
  have hI := get_size s.heap
  have hm := L.m
  obtain ⟨o₁, n₁, vs₁, c1⟩ := L.it.cls _ _ L.st
  have iW : ∀ c, c = s.heap.objs.size → W₁ c := fun c q => q ▸ L.fI.w
  by_cases hlt : i < ds.length
  · have c := L.c
    rw [List.drop_eq_getElem_cons hlt] at c
    obtain ⟨σ₂, hb, c⟩ := c
    refine wpAny_with_toks (n := s'.toks) (Nat.le_refl _) (L.it.walks.item i _ _ _ hlt L.st fun v h₁ tk₁ hP hst₁ hk₁ htk₁ => ?_)
    have k1 : ∀ b o, b ≠ s.heap.objs.size → s'.heap.get? b = some o → h₁.get? b = some o := fun b o hb e => hk₁ b o (fun q => hb (List.mem_singleton.mp q)) e
    obtain ⟨o₂, n₂, vs₂, c2⟩ := L.it.cls _ _ hst₁
    have g1 : Grow (· = s.heap.objs.size) W₁ s' W₁ { s' with heap := h₁, toks := tk₁ } := .of ⟨h₁, tk₁, rfl, k1⟩
    have S₁ : Sit G W₁ O₁ env σ₁ { s' with heap := h₁, toks := tk₁ } := S.other L.fI k1 ⟨o₂, c2.e⟩ (Nat.lt_of_lt_of_le S.tk htk₁)
    obtain ⟨d, hd1, hd2⟩ := L.it.item i v hP
    have hdi : d = ds[i] := Option.some.inj (hd1.symm.trans (List.getElem?_eq_getElem hlt))
    subst hdi
    have it1 := L.it.mv (g1.mv iW)
    refine letOwned_ok ⟨o₂, n₂, vs₂, c2⟩ (hb.b hA.h S₁ (hd2.mv (g1.mv iW)) fun s₂ S₂ k₂ => ?_)
    have t2 : Stp env σ₁.names W₁ O₁ { s' with heap := h₁, toks := tk₁ } W₁ O₁ s₂ := .mut k₂
    have it2 := it1.mv (t2.mv S₁.mo)
    have st2 : Sti (i + 1) s₂.heap := it1.st hst₁ k₂ S₁.mut fun q => L.fI.f q.fr
    have tt : Stp env σ.names W O s W₁ O₁ s₂ := (L.tt.other hI k1).trans S₀ rfl S₁ (L.hn ▸ t2)
    have f2 : Free env σ₂.names W₁ O₁ s.heap.objs.size := t2.free hb.n L.fI c2.e
    obtain ⟨o₃, n₃, vs₃, c3⟩ := it2.cls _ _ st2
    rcases c with ⟨σ₃, hx, c⟩ | ⟨d, hx, rfl⟩
    · refine (hx hA S₂).mono fun fl s₃ q => ?_
      obtain ⟨rfl, W₃, O₃, q⟩ := q
      exact ⟨m - 1, by omega, i + 1, σ₃, W₃, O₃, by omega, hlt, q.hn.trans (hb.n.trans L.hn), q.S, tt.trans S₀ rfl S₂ ((hb.n.trans L.hn) ▸ q.st), it2.mv (q.st.mv S₂.mo), it2.st st2 q.st.keep S₂.mo (fun z => z.elim (fun z => f2.f z.fr) f2.o), q.st.free q.hn f2 c3.e, c⟩
    · refine (hx hA S₂).mono fun fl s₃ q => ?_
      obtain ⟨v, rfl, q⟩ := q
      exact FlP.up (f := .ret d) (fl := .ret v) S₀ (hb.n.trans L.hn) S₂ tt ⟨v, rfl, q⟩
  · have hin : i = ds.length := Nat.le_antisymm L.l (Nat.not_lt.mp hlt)
    subst hin
    have c := L.c
    rw [List.drop_length] at c
    obtain rfl : f = .next σ₁ := c
    refine wpAny_with_toks (n := s'.toks) (Nat.le_refl _) (L.it.walks.done _ _ _ L.st fun h₁ tk₁ hk₁ htk₁ => ?_)
    have k1 : ∀ b o, b ≠ s.heap.objs.size → s'.heap.get? b = some o → h₁.get? b = some o := fun b o hb e => hk₁ b o (fun q => hb (List.mem_singleton.mp q)) e
    have m1 : Mv W₁ s'.heap (less W₁ s.heap.objs.size) h₁ := fun c o h e => ⟨fun q => h q.1, k1 c o (fun q => h (iW c q)) e⟩
    have fI := L.fI
    refine FlP.next (W' := less W₁ s.heap.objs.size) (O' := O₁) (s' := { s' with heap := h₁, toks := tk₁ }) (S.mv (Nat.lt_of_lt_of_le S.tk htk₁) (fun b o e => k1 b o (fun q => Nat.lt_irrefl _ (Nat.lt_of_lt_of_le (Heap.lt_size (q ▸ e)) (S.wb _ fI.w).1)) (S.kp b o e)) m1 (fun a q => let ⟨z, o, e⟩ := S.wb a q.1; ⟨z, o, k1 a o q.2 e⟩)
        (fun a o q e => k1 a o (fun w => fI.f (w ▸ q)) e) (fun a q => ⟨S.fr a q, fun w => fI.f (w ▸ q)⟩) (fun a o q _ e _ => ⟨q, k1 a o (fun w => fI.o (w ▸ q)) e⟩) fun a q => ⟨S.ow a q, fun w => fI.o (w ▸ q)⟩) L.hn ?_
    have t1 := L.tt.other (h' := h₁) (tk := tk₁) hI k1
    exact ⟨t1.keep, fun a q => t1.wn a q.1, t1.on, fun a q => (t1.wo a q).imp_left fun z => ⟨z, fun w => S₀.wb.fresh (w ▸ q)⟩⟩
theorem ex_for {it : Expr} (hs : plainSet it) (h1 : Ev n σ it src) (h2 : Iter src its) (h3 : ForL n t body σ its f) : Ex n σ (.For t it body [] p) f := fun {G A W O env s} hA S =>
  wpAny_For (h1.go hA S fun v s₁ k r S₁ => h2 hA.h r fun o fp PP Sti It hst hfr => codeAny_mono (for_loop hA S₁ hfr It hst h3) fun r s' q => by
    cases r with
    | error e => exact q.elim
    | ok fl => exact FlP.up S rfl S₁ (.keeps k) q) fun x => hs _ x
/-- a while loop's turns, k at most -/
noncomputable def WhL (n : Nat) (t : Expr) (body : List Stmt) : Nat → St → Fl → Prop
  | 0, _, _ => False
  | k + 1, σ, f => (Tr n σ t false ∧ f = .next σ) ∨ (Tr n σ t true ∧ ((∃ σ₁, Exs n σ body (.next σ₁) ∧ σ₁.names = σ.names ∧ WhL n t body k σ₁ f) ∨ ∃ d, Exs n σ body (.ret d) ∧ f = .ret d))
structure WhI (G : Gx) (n : Nat) (t : Expr) (body : List Stmt) (W₀ O₀ : Addr → Prop) (env : Env) (σ₀ : St) (s₀ : Shared) (f : Fl) (k : Nat) (s' : Shared) (σ : St) (W O : Addr → Prop) : Prop where
  hn : σ.names = σ₀.names
  S : Sit G W O env σ s'
  tt : Stp env σ₀.names W₀ O₀ s₀ W O s'
  c : WhL n t body k σ f
theorem ex_while (k : Nat) (h : WhL n t body k σ f) : Ex n σ (.While t body [] p) f := fun {G A W O env s} hA S => by
  refine wpAny_While (codeAny_mono (R := flRes G W O env σ s f) ?_ fun r s' q => by cases r with
    | error e => exact q.elim
    | ok fl => exact q)
  refine codeAny_whileLoop (fun k s' => ∃ σ₁ W₁ O₁, WhI G n t body W O env σ s f k s' σ₁ W₁ O₁) ?_ k ⟨σ, W, O, rfl, S, .keeps (kRefl _), h⟩
  rintro k s' ⟨σ₁, W₁, O₁, L⟩
  cases k with
  | zero => exact L.c.elim
  | succ k =>
    have c := L.c
    rcases c with ⟨ht, rfl⟩ | ⟨ht, c⟩
    · refine wpAny_mono (E := fun _ _ => False) (ht.go hA L.S (Q := fun b s₂ => b = false ∧ Keeps s' s₂ ∧ Sit G W₁ O₁ env σ₁ s₂) fun s₂ k2 S₂ => ⟨rfl, k2, S₂⟩) (fun b s₂ q => ?_) fun _ _ q => q.elim
      obtain ⟨rfl, k2, S₂⟩ := q
      exact wpAny_execs_nil (.next S₂ L.hn (L.tt.trans S rfl L.S (.keeps k2)))
    · refine wpAny_mono (E := fun _ _ => False) (ht.go hA L.S (Q := fun b s₂ => b = true ∧ Keeps s' s₂ ∧ Sit G W₁ O₁ env σ₁ s₂) fun s₂ k2 S₂ => ⟨rfl, k2, S₂⟩) (fun b s₂ q => ?_) fun _ _ q => q.elim
      obtain ⟨rfl, k2, S₂⟩ := q
      have t2 : Stp env σ.names W O s W₁ O₁ s₂ := L.tt.trans S rfl L.S (.keeps k2)
      rcases c with ⟨σ₃, hx, hn, c⟩ | ⟨d, hx, rfl⟩
      · refine wpAny_mono (E := fun _ _ => False) (hx hA S₂) (fun fl s₃ q => ?_) fun _ _ q => q.elim
        obtain ⟨rfl, W₃, O₃, q⟩ := q
        exact ⟨k, Nat.lt_succ_self _, σ₃, W₃, O₃, q.hn.trans L.hn, q.S, t2.trans S rfl S₂ (L.hn ▸ q.st), c⟩
      · refine wpAny_mono (E := fun _ _ => False) (hx hA S₂) (fun fl s₃ q => ?_) fun _ _ q => q.elim
        obtain ⟨v, rfl, q⟩ := q
        exact FlP.up (f := .ret d) (fl := .ret v) S L.hn S₂ t2 ⟨v, rfl, q⟩
end
noncomputable section
open PyProof.Rows PySem.SeqAt
variable {G : Gx} {A : Around} {W W' O : Addr → Prop} {v u : Value} {d : D} {s s' : Shared} {n : Nat} {σ σ' : St} {env : Env} {x y : Str} {ds : List D}
noncomputable def ForAll (g : List Value → Prop) : Nat → Prop
  | 0 => g []
  | k + 1 => ∀ v, ForAll (fun vs => g (v :: vs)) k
theorem ForAll.at {g : List Value → Prop} : ∀ (vs : List Value), ForAll g vs.length → g vs
  | [], h => h
  | v :: vs, h => ForAll.at (g := fun vs => g (v :: vs)) vs (h v)
noncomputable def BindsTo (fn : Fn) : Prop := ∀ f pm cd doc, ForAll (fun vs => bindArgs (PySem.Calls.docDef f fn.params fn.body fn.scope pm cd doc) ⟨vs, []⟩ = pure ((fn.params.args.map (·.arg)).zip vs)) fn.params.args.length
theorem bindL_get {kindOf : Str → Option NameKind} : ∀ {xs : List Str} {vs : List Value} {m : Str → Option Value} {x : Str}, xs.Nodup → kindOf x = some .local → bindL kindOf (xs.zip vs) m x = ((xs.zip vs).lookup x).or (m x)
  | [], vs, m, x, _, _ => by simp [bindL]
  | y :: xs, [], m, x, _, _ => by simp [bindL]
  | y :: xs, v :: vs, m, x, hn, hk => by
    rw [List.nodup_cons] at hn
    simp only [List.zip_cons_cons, bindL, List.lookup_cons]
    rw [bindL_get hn.2 hk]
    by_cases hx : x = y
    · subst hx
      have : (xs.zip vs).lookup x = none := by
        rw [List.lookup_eq_none_iff]
        intro p hp
        have := List.of_mem_zip (a := p.1) (b := p.2) hp
        have ne : x ≠ p.1 := fun q => hn.1 (q ▸ this.1)
        simpa using ne
      rw [this, if_pos hk]
      simp
    · have : (x == y) = false := by simpa using hx
      rw [this]
      simp only
      split
      · simp [hx]
      · rfl
theorem bindC_get {kindOf : Str → Option NameKind} : ∀ {xs : List Str} {vs : List Value} {m : Str → Option Value} {x : Str}, xs.Nodup → ¬ kindOf x = some .local → bindC kindOf (xs.zip vs) m x = ((xs.zip vs).lookup x).or (m x)
  | [], vs, m, x, _, _ => by simp [bindC]
  | y :: xs, [], m, x, _, _ => by simp [bindC]
  | y :: xs, v :: vs, m, x, hn, hk => by
    rw [List.nodup_cons] at hn
    simp only [List.zip_cons_cons, bindC, List.lookup_cons]
    rw [bindC_get hn.2 hk]
    by_cases hx : x = y
    · subst hx
      have : (xs.zip vs).lookup x = none := by
        rw [List.lookup_eq_none_iff]
        intro p hp
        have := List.of_mem_zip (a := p.1) (b := p.2) hp
        have ne : x ≠ p.1 := fun q => hn.1 (q ▸ this.1)
        simpa using ne
      rw [this, if_neg hk]
      simp
    · have : (x == y) = false := by simpa using hx
      rw [this]
      simp only
      split
      · rfl
      · simp [hx]
theorem zip_rep {xs : List Str} {h : Heap} : ∀ {vs : List Value} {ds : List D}, Reps G W h vs ds → ∀ {x : Str} {d : D}, (xs.zip ds).lookup x = some d → ∃ v, (xs.zip vs).lookup x = some v ∧ Rep G W h v d := by
  induction xs with
  | nil => intro vs ds _ x d e; simp at e
  | cons y xs ih =>
    intro vs ds r x d e
    cases ds with
    | nil => simp at e
    | cons d' ds =>
      obtain ⟨v, w, rfl, r1, r2⟩ := r
      rw [List.zip_cons_cons, List.lookup_cons] at e ⊢
      cases hx : x == y with
      | true => rw [hx] at e; cases Option.some.inj e; exact ⟨v, rfl, r1⟩
      | false => rw [hx] at e; exact ih r2 e
noncomputable def fnOk (f : Fn) : Bool :=
  f.scope.kind == .function && !f.scope.isCoroutine && !f.scope.isGenerator &&
  decide ((f.scope.names.map (·.1)).Nodup) && f.scope.names.all (fun x => x.2 == .local || x.2 == .cell || x.2 == .globalImplicit) && f.scope.names.all (fun x => x.1 != ("__classdict__" : Str)) &&
  f.params.args.all (fun a => isVarKind (f.scope.names.lookup a.arg)) && decide ((f.params.args.map (·.arg)).Nodup)
/-- the state a call begins with -/
noncomputable def startSt (f : Fn) (ds : List D) : St := ⟨f.scope.names, (f.params.args.map (·.arg)).zip ds, none⟩
theorem call_ok {f : Str} {fn : Fn} (hf : fns f = some fn) (hok : fnOk fn = true) (hbt : BindsTo fn) (hl : fn.params.args.length = ds.length) (hx : Exs n (startSt fn ds) fn.body (.ret d)) : Call (n + 1) f ds d := by
  refine ⟨⟨fn, hf⟩, fun {G A W s vs a} hA ok tk kp hz wb hm r => ?_⟩
  unfold fnOk at hok
  simp only [Bool.and_eq_true, decide_eq_true_eq, beq_iff_eq, Bool.not_eq_true'] at hok
  obtain ⟨⟨⟨⟨⟨⟨⟨hk, hco⟩, hgen⟩, nd⟩, kinds⟩, ncd⟩, vark⟩, pnd⟩ := hok
  obtain ⟨a', o, pm, cd, doc, e1, e2, e3, e4⟩ := ok.fn f fn hf
  rw [hm] at e1; cases e1
  have hb := ForAll.at vs ((hl.trans r.length.symm) ▸ hbt f pm cd doc)
  have kindIs : ∀ x k, fn.scope.names.lookup x = some k → k ≠ .free := fun x k e q => by
    have := List.all_eq_true.mp kinds (x, k) (mem_of_lookup e)
    rw [q] at this; cases this
  have cellHas : ∀ x, fn.scope.names.lookup x = some .cell → ∃ c, (cellsFrom (s.heap.objs.size + 1) fn.scope.names []).lookup x = some c := fun x e => let ⟨c, hc⟩ := cellsFrom_has (n := s.heap.objs.size + 1) (mem_of_lookup e); lookup_of_mem hc
  have cellIs : ∀ x, isCellKind (fn.scope.names.lookup x) = true → fn.scope.names.lookup x = some .cell := fun x h => (Bool.or_eq_true_iff.mp h).elim beq_iff_eq.mp fun h => absurd rfl (kindIs _ _ (beq_iff_eq.mp h))
  have hkind : ∀ p ∈ (fn.params.args.map (·.arg)).zip vs, fn.scope.names.lookup p.1 = some .local ∨ (fn.scope.names.lookup p.1 = some .cell ∧ ((cellsFrom (s.heap.objs.size + 1) fn.scope.names []).lookup p.1).isSome = true) := fun p hp => by
    obtain ⟨q, hq, hq'⟩ := List.mem_map.mp (List.of_mem_zip (a := p.1) (b := p.2) hp).1
    have hv := List.all_eq_true.mp vark q hq
    rw [hq'] at hv
    exact (Bool.or_eq_true_iff.mp hv).imp beq_iff_eq.mp fun h => ⟨cellIs _ h, let ⟨c, hc⟩ := cellHas _ (cellIs _ h); hc ▸ rfl⟩
  refine wpAny_call (codeAny_call_function (Nat.lt_of_lt_of_le (Nat.lt_add_of_pos_right (Nat.succ_pos n)) hA.d) (kp _ _ e2) e3 hco hgen rfl (e4.keeps kp) ?_)
  rw [hb]
  refine wpAny_pure (wpAny_with_toks (n := s.toks) (Nat.le_refl _) (wpAny_newFunctionEnv_cells hk hkind fun env he s₁ X₁ htk => ⟨(ok.lim.keeps kp).keeps X₁.toInCall.keep, codeAny_func ?_⟩))
  have ekind : ∀ x, env.kindOf x = fn.scope.names.lookup x := fun x => by rw [he]; rfl
  have eloc : env.locals = s.heap.objs.size := by rw [he]; rfl
  have ecells : env.cells = cellsFrom (s.heap.objs.size + 1) fn.scope.names [] := by rw [he]; rfl
  have kp1 : Kp s.heap s₁.heap := X₁.toInCall.keep
  have kk : Keeps s s₁ := by
    obtain ⟨h₁, tk, rfl⟩ := X₁.toInCall.same
    exact ⟨h₁, tk, rfl, kp1⟩
  have above : ∀ b, FrA env fn.scope.names b → s.heap.objs.size ≤ b := fun b q => by
    rcases q with q | ⟨x, _, q⟩
    · rw [q, eloc]; exact Nat.le_refl _
    · exact Nat.le_of_lt (eloc ▸ X₁.above x b (mem_of_lookup q))
  have hw : ∀ b, (W b ∨ FrA env fn.scope.names b) → W b ∨ s.heap.get? b = none := fun b q => q.imp_right fun q => get_ge (above b q)
  have mv : Mv W s.heap (fun b => W b ∨ FrA env fn.scope.names b) s₁.heap := fun b o h e => ⟨fun q => (hw b q).elim h fun z => (by rw [z] at e; cases e), kp1 b o e⟩
  have r₁ := r.mv mv
  have S₁ : Sit G (fun b => W b ∨ FrA env fn.scope.names b) (fun _ => False) env (startSt fn ds) s₁ := by
    have cx : ∀ x, isCellKind (fn.scope.names.lookup x) = true → ∃ c, env.cells.lookup x = some c ∧ s₁.heap.IsCell c _ := fun x hc => by
      obtain ⟨c, hc2⟩ := cellHas x (cellIs x hc)
      rw [← ecells] at hc2
      exact ⟨c, hc2, X₁.cell x c hc2⟩
    refine ⟨ok, Nat.lt_of_lt_of_le tk htk, fun b o e => kp1 b o (kp b o e), fun b q => ?_, ⟨by rw [he]; exact hk, by rw [he]; rfl, by rw [he]; rfl, fun x k e => .inl ((ekind x).trans e), fun x k e => ?_, fun x y c h1 h2 => name_of_addr X₁.apart (mem_of_lookup h1) (mem_of_lookup h2)⟩, ⟨_, X₁.toInCall.ns⟩, fun x hc => let ⟨c, h1, h2⟩ := cx x hc; ⟨c, _, h1, h2⟩, fun _ => .inr, fun x d h1 h2 => ?_, fun b q => q.elim⟩
    · rcases q with q | q
      · obtain ⟨g, o, e⟩ := wb b q
        exact ⟨g, o, kp1 b o e⟩
      · refine ⟨Nat.le_trans hz (above b q), ?_⟩
        rcases q with rfl | ⟨x, hc, q⟩
        · obtain ⟨o, _, _, e, _⟩ := X₁.toInCall.ns
          exact ⟨o, e⟩
        · obtain ⟨c, h1, o, e, _⟩ := cx x hc
          rw [q] at h1; cases h1
          exact ⟨o, e⟩
    · simpa using List.all_eq_true.mp ncd (x, k) (mem_of_lookup e)
    · obtain ⟨v, e5, r5⟩ := zip_rep r₁ h2
      refine ⟨v, ?_, nofun, fun _ => r5⟩
      rcases Bool.or_eq_true_iff.mp h1 with h1 | h1
      · have h1 : fn.scope.names.lookup x = some .local := beq_iff_eq.mp h1
        exact .inl ⟨(ekind x).trans h1, _, X₁.toInCall.ns, by rw [bindL_get pnd ((ekind x).trans h1), e5]; rfl⟩
      · have h1 := cellIs x h1
        obtain ⟨c, hc2⟩ := cellHas x h1
        rw [← ecells] at hc2
        refine .inr ⟨.inl ((ekind x).trans h1), c, hc2, ?_⟩
        have := X₁.cell x c hc2
        rw [bindC_get pnd (by rw [ekind, h1]; nofun), e5] at this
        exact this
  have hA' : Good n (A.deeper env) := ⟨hA.h, by have := hA.d; show A.depth + 1 + n ≤ _; omega, by have := hA.u; show A.units + 3 + 3 * n + 10 < _; omega⟩
  refine wpAny_mono (E := fun _ _ => False) (hx hA' S₁) (fun fl s₂ q => ?_) fun _ _ q => q.elim
  obtain ⟨v, rfl, W₂, O₂, q⟩ := q
  exact ⟨q.st.keep.toK kk fun b o e z => z.elim (fun z => by rw [get_ge (above b z.fr)] at e; cases e) id, q.r.mv (.anti fun b z => .inl ((q.st.wo b (.inl z)).elim id False.elim))⟩
end
noncomputable section
open PySem.W PyProof.Rows PySem.SeqAt
variable {G : Gx} {A : Around} {W W' O : Addr → Prop} {v u : Value} {d : D} {s s' : Shared} {prog p : Program} {w : World}
/-- the functions as the text has them -/
noncomputable def fdefs (p : Program) : List DefRec := p.main.body.filterMap fun st => match st with
  | .FunctionDef n a b _ _ _ sc _ _ pos => some ⟨n, a, b, sc, pos⟩
  | _ => none
theorem fnsOf_fdefs {f : Str} {i : Fn} (h : fnsOf p.main.body f = some i) : ∃ d ∈ fdefs p, d.name = f ∧ d.params = i.params ∧ d.body = i.body ∧ d.scope = i.scope := by
  unfold fnsOf at h
  split at h
  · rename_i n a b x1 x2 x3 sc x4 x5 pos hf
    cases h
    have h1 := List.mem_of_find?_eq_some hf
    have h2 := List.find?_some hf
    simp only [beq_iff_eq] at h2
    subst h2
    exact ⟨⟨n, a, b, sc, pos⟩, List.mem_filterMap.mpr ⟨_, h1, rfl⟩, rfl, rfl, rfl, rfl⟩
  · cases h
noncomputable def mkRow (P : Params) (r : Str × Nat × Int × Nat) : DictEntry := ⟨PyData.keyHash P r.1, .str r.1 r.2.1, .int r.2.2.1 r.2.2.2⟩
theorem isStrOf_key (k x : Str) (t : Nat) : Value.isStrOf k (.str x t) = decide (k = x) := by
  by_cases h : k = x
  · subst h; simp [Value.isStrOf]
  · cases e : Value.isStrOf k (.str x t) with
    | false => simp [h]
    | true => obtain ⟨u, q⟩ := Value.isStrOf_shape e; cases q; exact absurd rfl h
noncomputable def foundAs {α : Type} (o : Option Value) (f : α → Tok → Value) : Option α → Prop
  | some i => ∃ t, o = some (f i t)
  | none => o = none
theorem rows_find (P : Params) (k : Str) : ∀ rows : List (Str × Nat × Int × Nat), foundAs (((rows.map (mkRow P)).find? fun e => Value.isStrOf k e.key).map (·.val)) .int ((rows.map fun r => (r.1, r.2.2.1)).lookup k)
  | [] => rfl
  | r :: rest => by
    have ih := rows_find P k rest
    rw [List.map_cons, List.map_cons, List.lookup_cons, List.find?_cons, show Value.isStrOf k (mkRow P r).key = decide (k = r.1) from isStrOf_key _ _ _]
    by_cases h : k = r.1
    · rw [decide_eq_true h, beq_iff_eq.mpr h]; exact ⟨_, rfl⟩
    · rw [decide_eq_false h, beq_eq_false_iff_ne.mpr h]; exact ih
theorem sdict_of {a : Addr} {o : Obj} {es : Array DictEntry} {ep : Nat} {rows : List (Str × Nat × Int × Nat)} (hs : (a == sysModules) = false) (hx : o.ExactDict) (hd : o.data = .dict es ep) (he : es.toList = rows.map (mkRow G.w.params)) : SDict G a o (rows.map fun r => (r.1, r.2.2.1)) := by
  refine ⟨hs, es, ep, hx, hd, fun e hm => ?_, fun k => ?_⟩
  · obtain ⟨r, _, rfl⟩ := List.mem_map.mp (he ▸ Array.mem_toList_iff.mpr hm)
    refine ⟨r.1, ?_, rfl⟩
    show Value.isStrOf r.1 (.str r.1 r.2.1) = true
    rw [isStrOf_key]; simp
  · have e : findBy (PySem.strKind G.prog G.w).is es k = ((rows.map (mkRow G.w.params)).find? fun e => Value.isStrOf k e.key).map (·.val) := by
      obtain ⟨l'⟩ := es
      simp only at he
      subst he
      simp [findBy]; rfl
    have := rows_find G.w.params k rows
    rw [← e] at this
    revert this
    cases (rows.map fun r => (r.1, r.2.2.1)).lookup k <;> exact id
/-- what is asked of the top's text -/
structure TextOk (p : Program) (K : Frag) (P : Params) : Prop where
  statics : ∃ o ep, K.lookup 2 = some o ∧ o.data = .dict #[] ep
  fns : recsOf p = fdefs PySem.Challenge.pw_rs0155_02
  dots : valOf p "ELLIPSIS_MARKER" = some (.str "...")
  off : valOf p "NT_OFFSET" = some (.int 256)
  endm : valOf p "ENDMARKER" = some (.int 0)
  main : ∃ (og : Obj) (esg : Array DictEntry) (epg : Nat) (at' : Addr) (ot : Obj) (es : Array DictEntry) (ep : Nat) (rows : List (Str × Nat × Int × Nat)), K.lookup 3 = some og ∧ og.data = .dict esg epg ∧ nsFind esg "EXACT_TOKEN_TYPES" = some (.ref at') ∧ (at' == sysModules) = false ∧ K.lookup at' = some ot ∧ ot.ExactDict ∧ ot.data = .dict es ep ∧
    es.toList = rows.map (mkRow P) ∧ tokTbl = (rows.map fun r => (r.1, r.2.2.1)) ∧ ∀ q ∈ bltT, nsFind esg q.1 = none
theorem ns_at {h : Heap} {a : Addr} {m : Str → Option Value} {o : Obj} {es : Array DictEntry} {ep : Nat} (hn : h.Ns a m) (ho : h.get? a = some o) (hd : o.data = .dict es ep) (x : Str) : nsFind es x = m x := by
  obtain ⟨o', es', ep', h1, h2, _, h4⟩ := hn
  rw [ho] at h1; cases h1
  rw [hd] at h2; cases h2
  exact h4 x
theorem reps_ints {h : Heap} : ∀ {vs : List Value} {ns : List Int}, IntsAre vs ns → Reps G W h vs (ns.map .int)
  | [], [], _ => rfl
  | v :: vs, n :: ns, h => by
    cases h with
    | cons i t hr => exact .cons rInt (reps_ints hr)
theorem mem_lk {α : Type} {l : List (Str × α)} {x : Str} {a : α} (h : l.lookup x = some a) : (x, a) ∈ l := by
  obtain ⟨l1, l2, e, _⟩ := List.lookup_eq_some_iff.mp h
  rw [e]; simp
theorem boot_blt : ∀ q ∈ bltT, bootBuiltins q.1 = some q.2 ∧ q.1 ≠ "__name__" := by
  intro q h
  simp only [bltT, List.mem_cons, List.not_mem_nil, or_false] at h
  rcases h with rfl | rfl | rfl | rfl | rfl | rfl | rfl | rfl | rfl <;> exact ⟨by kernel_rfl, by decide +kernel⟩
theorem gok_of {loose : List Str} {mean : ExcName → Option Value} {K : Frag} (T : Top p loose mean G.mg G.mb G.h0) (KX : K.In G.h0) (X : TextOk p K G.w.params) : GOk G where
  g := T.g
  b := T.b
  lim := T.nolimit
  nb := by
    obtain ⟨o, ep, h1, h2⟩ := X.statics
    obtain ⟨mc, h3, h4⟩ := T.nolimit
    refine ⟨mc, h3, ?_⟩
    rw [← ns_at h3 (KX _ _ h1) h2]
    rfl
  fn := fun f i e => by
    unfold fns at e
    obtain ⟨d, hd, rfl, h1, h2, h3⟩ := fnsOf_fdefs e
    rw [← X.fns] at hd
    obtain ⟨a, o, pm, cd, doc, g1, g2, g3, g4⟩ := T.fn d hd
    rw [h1, h2, h3] at g3
    exact ⟨a, o, pm, cd, doc, g1, g2, g3, g4⟩
  const := fun x d e => by
    have m := mem_lk e
    simp only [cstT, List.mem_cons, List.not_mem_nil, or_false] at m
    rcases m with m | m | m | m <;> cases m
    · obtain ⟨og, esg, epg, at', ot, es, ep, rows, g1, g2, g3, g4, g5, g6, g7, g8, g9, g10⟩ := X.main
      exact ⟨.ref at', by rw [← ns_at T.g (KX _ _ g1) g2]; exact g3, at', ot, ⟨rfl, fun q => Nat.lt_irrefl _ (Nat.lt_of_lt_of_le (Heap.lt_size (KX _ _ g5)) q), KX _ _ g5⟩, g9 ▸ sdict_of g4 g6 g7 g8⟩
    · obtain ⟨v, h1, h2⟩ := T.const _ _ X.off
      cases h2 G.h0 with | _ => exact ⟨_, h1, rInt⟩
    · obtain ⟨v, h1, h2⟩ := T.const _ _ X.endm
      cases h2 G.h0 with | _ => exact ⟨_, h1, rInt⟩
    · obtain ⟨v, h1, h2⟩ := T.const _ _ X.dots
      cases h2 G.h0 with | _ => exact ⟨_, h1, rStr⟩
  blt := fun f fv e => by
    obtain ⟨og, esg, epg, at', ot, es, ep, rows, g1, g2, g3, g4, g5, g6, g7, g8, g9, g10⟩ := X.main
    have m := mem_lk e
    obtain ⟨h1, h2⟩ := boot_blt _ m
    exact ⟨by rw [← ns_at T.g (KX _ _ g1) g2]; exact g10 _ m, by rw [T.builtins f h2]; exact h1⟩
theorem top_ok {n : Nat} (hn : n ≤ 100) {loose : List Str} {mean : ExcName → Option Value} {mg mb : Str → Option Value} {K : Frag} (T : Top p loose mean mg mb s.heap) (KX : K.In s.heap) (X : TextOk p K w.params) {fa a : Addr} {vs : List Value} {ns : List Int}
    (htk : 0 < s.toks) (hfa : mg "law" = some (.ref fa)) (hl : s.heap.PlainList a vs.toArray) (hi : IntsAre vs ns) (hlaw : Call n "law" [.list (ns.map .int)] (.bool true)) {E Q : Value → Shared → Prop} (hQ : ∀ s', Keeps s s' → Q (.bool true) s') :
    wpAny (model prog w) callerA (call (.ref fa) [.ref a]) Q E s := by
  have hA : Good n callerA := ⟨rfl, Nat.le_trans (Nat.add_le_add_left hn _) (by decide +kernel), Nat.lt_of_le_of_lt (Nat.add_le_add_right (Nat.add_le_add_left (Nat.mul_le_mul_left 3 hn) _) _) (by decide +kernel)⟩
  obtain ⟨z, hl⟩ := hl
  refine wpAny_mono (hlaw.2 (G := ⟨prog, w, s.heap, mg, mb⟩) (W := fun _ => False) hA (gok_of T KX X) htk (fun _ _ e => e) (Nat.le_refl _) (fun a q => q.elim) hfa (.cons (rList id hl (reps_ints hi)) .nil)) (fun v s' q => ?_) fun _ _ q => q.elim
  obtain rfl : v = .bool true := q.r
  exact hQ s' q.k
noncomputable def rowOf (e : DictEntry) : Option (Str × Nat × Int × Nat) := match e.key, e.val with
  | .str x t, .int i u => some (x, t, i, u)
  | _, _ => none
noncomputable def rowsAt (K : Frag) (a : Addr) : List (Str × Nat × Int × Nat) := match K.lookup a with
  | some o => (match o.data with
    | .dict es _ => es.toList.filterMap rowOf
    | _ => [])
  | none => []
end
noncomputable section
open PySem.Builtin PySem.Builtin.Str PySem.StrLaws
/-- the text of these signs -/
noncomputable def S (l : List Nat) : Str := ⟨l.toArray⟩
theorem S_inj {a b : List Nat} : S a = S b ↔ a = b := ⟨fun h => by injection h with h; simpa using congrArg Array.toList h, fun h => h ▸ rfl⟩
theorem S_append (a b : List Nat) : S a ++ S b = S (a ++ b) := by
  show (⟨a.toArray ++ b.toArray⟩ : Str) = _
  simp [S]
theorem S_len (a : List Nat) : (S a).length = a.length := by show a.toArray.size = _; simp
theorem S_eta (x : Str) : x = S x.cps.toList := by cases x; simp [S]
theorem idx_to (k n : Nat) : Builtin.Str.strSliceIndices none (some (k : Int)) 1 n = List.range (min k n) := by
  unfold Builtin.Str.strSliceIndices
  simp only [show (1 : Int) > 0 by decide, if_true]
  have e : max (0 : Int) (min (if (k : Int) < 0 then (k : Int) + n else k) n) = ((min k n : Nat) : Int) := by
    rw [if_neg (by omega)]; omega
  rw [e, show (0 : Int) = ((0 : Nat) : Int) from rfl, sliceRange_one]
  simp
theorem idx_from (k n : Nat) : Builtin.Str.strSliceIndices (some (k : Int)) none 1 n = (List.range (n - min k n)).map (min k n + ·) := by
  unfold Builtin.Str.strSliceIndices
  simp only [show (1 : Int) > 0 by decide, if_true]
  have e : max (0 : Int) (min (if (k : Int) < 0 then (k : Int) + n else k) n) = ((min k n : Nat) : Int) := by
    rw [if_neg (by omega)]; omega
  rw [e, sliceRange_one]
theorem fm_range (l : List Nat) : ∀ m, m ≤ l.length → (List.range m).filterMap (l[·]?) = l.take m := by
  intro m
  induction m with
  | zero => simp
  | succ m ih =>
    intro h
    rw [List.range_succ, List.filterMap_append, ih (by omega)]
    have : l[m]? = some l[m] := List.getElem?_eq_getElem (by omega)
    simp only [List.filterMap_cons, List.filterMap_nil, this]
    rw [List.take_add_one, this]; rfl
theorem fm_drop (l : List Nat) (k : Nat) (h : k ≤ l.length) : ((List.range (l.length - k)).map (k + ·)).filterMap (l[·]?) = l.drop k := by
  rw [List.filterMap_map]
  have e : ((fun x => l[x]?) ∘ fun x => k + x) = fun i => (l.drop k)[i]? := by
    funext i; simp
  rw [e, show l.length - k = (l.drop k).length by simp, fm_range _ _ (Nat.le_refl _), List.take_length]
theorem slice_to (l : List Nat) (k : Nat) : Txt.slice (S l) none (some (k : Int)) = S (l.take k) := by
  unfold Txt.slice
  rw [S_len, idx_to]
  simp only [List.length_range]
  split
  · rename_i h
    simp only [beq_self_eq_true, Bool.true_and, beq_iff_eq] at h
    rw [List.take_of_length_le (by omega)]
  · show (⟨(List.filterMap (fun x => (S l).cps[x]?) (List.range (min k l.length))).toArray⟩ : Str) = _
    unfold S
    congr 2
    have e : (fun (x : Nat) => l.toArray[x]?) = fun (x : Nat) => l[x]? := by funext x; simp
    rw [e, fm_range _ _ (Nat.min_le_right _ _)]
    by_cases h : k ≤ l.length
    · rw [Nat.min_eq_left h]
    · rw [Nat.min_eq_right (by omega), List.take_length, List.take_of_length_le (by omega)]
theorem slice_from (l : List Nat) (k : Nat) : Txt.slice (S l) (some (k : Int)) none = S (l.drop k) := by
  unfold Txt.slice
  rw [S_len, idx_from]
  simp only [List.length_map, List.length_range]
  by_cases h0 : k ≤ l.length
  · rw [Nat.min_eq_left h0]
    split
    · rename_i h
      simp only [beq_self_eq_true, Bool.true_and, beq_iff_eq] at h
      by_cases hk : k = 0
      · subst hk; simp
      · have : l.length = 0 := by omega
        rw [List.length_eq_zero_iff.mp this]; simp
    · show (⟨(List.filterMap (fun x => (S l).cps[x]?) ((List.range (l.length - k)).map (k + ·))).toArray⟩ : Str) = _
      unfold S
      congr 2
      have e : (fun (x : Nat) => l.toArray[x]?) = fun (x : Nat) => l[x]? := by funext x; simp
      rw [e, fm_drop _ _ h0]
  · rw [Nat.min_eq_right (by omega), List.drop_eq_nil_of_le (by omega)]
    simp only [Nat.sub_self, List.range_zero, List.map_nil, List.filterMap_nil]
    split
    · rename_i h
      simp only [beq_self_eq_true, Bool.true_and, beq_iff_eq] at h
      rw [List.length_eq_zero_iff.mp h.symm]
    · rfl
theorem item_at (l : List Nat) (k : Nat) (c : Nat) (h : l[k]? = some c) : Txt.item (S l) (k : Int) = S [c] ∧ (Txt.charAt (S l) (k : Int)).isSome = true := by
  have hl : k < l.length := by
    rcases Nat.lt_or_ge k l.length with q | q
    · exact q
    · rw [List.getElem?_eq_none q] at h; cases h
  have e : Txt.charAt (S l) (k : Int) = some c := by
    unfold Txt.charAt
    rw [S_len, sq_nat (by omega) (by omega)]
    show (l.toArray)[((k : Int)).toNat]? = some c
    simpa using h
  unfold Txt.item
  rw [e]
  exact ⟨rfl, rfl⟩
theorem subAt_S (l w : List Nat) (i : Nat) : subAt (S l) (S w) i = ((l.drop i).take w.length == w) := by
  rw [subAt_eq, S_len]; rfl
/-- the first place of w in l from lo on that ends by hi -/
noncomputable def findP (l w : List Nat) (lo hi : Nat) : Option Nat := (List.range' lo (hi + 1 - lo)).find? fun i => decide (i + w.length ≤ hi) && ((l.drop i).take w.length == w)
theorem at_S (l w : List Nat) (hi i : Nat) : StrLaws.At (S l) (S w) hi i ↔ (decide (i + w.length ≤ hi) && ((l.drop i).take w.length == w)) = true := by
  unfold StrLaws.At
  rw [subAt_S, S_len, Bool.and_eq_true, decide_eq_true_eq]
theorem findV_S (l w : List Nat) (i j : Int) : findV (S l) (S w) i j = match findP l w i.toNat (min j.toNat l.length) with | some k => (k : Int) | none => -1 := by
  unfold findV
  rw [S_len, occ_eq]
  generalize min j.toNat l.length = hi
  generalize i.toNat = lo
  unfold findP
  rcases occ_first (S l) (S w) hi 1 (Nat.le_refl 1) (List.range' lo (hi + 1 - lo)) lo (fun i h => (List.mem_range'_1.mp h).1) with ⟨h0, hn⟩ | ⟨pre, a, post, e, h0, ha, hn⟩
  · rw [h0, List.find?_eq_none.mpr (fun i hi' => by
      have := hn i hi'
      rwa [at_S] at this)]
  · have hf : (List.range' lo (hi + 1 - lo)).find? (fun i => decide (i + w.length ≤ hi) && ((l.drop i).take w.length == w)) = some a := by
      rw [List.find?_eq_some_iff_append]
      refine ⟨(at_S _ _ _ _).mp ha, pre, post, e, fun x hx => ?_⟩
      have := hn x hx
      rw [at_S] at this
      simp only [Bool.not_eq_true] at this
      rw [this]; rfl
    rw [hf]
    generalize (forIn (List.range' lo (hi + 1 - lo)) ((#[] : Array Nat), lo) (occBody (S l) (S w) hi 1)).run.fst = arr at h0
    have h1 : arr.toList[0]? = some a := by simpa using h0
    cases hL : arr.toList with
    | nil => rw [hL] at h1; cases h1
    | cons b t => rw [hL] at h1; simp at h1; rw [h1]
/-! the pieces between -/
noncomputable def MidFit : List (List Nat) → List Nat → Prop
  | [], _ => True
  | w :: ws, u => ∃ x y, u = x ++ w ++ y ∧ MidFit ws y
theorem MidFit_pre : ∀ {ws : List (List Nat)} {u : List Nat} (z : List Nat), MidFit ws u → MidFit ws (z ++ u)
  | [], _, _, _ => trivial
  | _ :: _, _, z, ⟨x, y, h, g⟩ => ⟨z ++ x, y, by rw [h]; simp, g⟩
theorem drop_split (t : List Nat) {s k : Nat} (h : s ≤ k) : t.drop s = (t.drop s).take (k - s) ++ t.drop k := by
  have := List.take_append_drop (k - s) (t.drop s)
  rw [List.drop_drop, show s + (k - s) = k by omega] at this
  exact this.symm
theorem take_drop_at {got w : List Nat} {hi k : Nat} (h1 : k + w.length ≤ hi) (h2 : (got.drop k).take w.length = w) : (got.take hi).drop k = w ++ (got.take hi).drop (k + w.length) := by
  rw [drop_split (got.take hi) (show k ≤ k + w.length by omega)]
  congr 1
  rw [show k + w.length - k = w.length by omega, List.drop_take, List.take_take, Nat.min_eq_left (by omega)]
  exact h2
noncomputable def mLoop (got : List Nat) (hi : Nat) : List (List Nat) → Nat → Bool
  | [], _ => true
  | w :: ws, s => match findP got w s hi with
    | some k => mLoop got hi ws (k + w.length)
    | none => false
theorem findP_some {l w : List Nat} {lo hi k : Nat} (h : findP l w lo hi = some k) : lo ≤ k ∧ k + w.length ≤ hi ∧ (l.drop k).take w.length = w := by
  have h1 := List.find?_some h
  have h2 := List.mem_of_find?_eq_some h
  simp only [Bool.and_eq_true, decide_eq_true_eq, beq_iff_eq] at h1
  exact ⟨(List.mem_range'_1.mp h2).1, h1⟩
theorem findP_none {l w : List Nat} {lo hi k : Nat} (h : findP l w lo hi = none) (h0 : lo ≤ k) (h1 : k + w.length ≤ hi) : ¬ (l.drop k).take w.length = w := by
  have h2 := List.find?_eq_none.mp h k (List.mem_range'_1.mpr ⟨h0, by omega⟩)
  simpa [h1] using h2
theorem findP_first {l w : List Nat} {lo hi k j : Nat} (h : findP l w lo hi = some k) (h0 : lo ≤ j) (h1 : j + w.length ≤ hi) (h2 : (l.drop j).take w.length = w) : k ≤ j := by
  unfold findP at h
  rw [List.find?_eq_some_iff_append] at h
  obtain ⟨_, as, bs, e, hn⟩ := h
  rcases Nat.lt_or_ge j k with q | q
  · exfalso
    have hm : j ∈ as := by
      have hlen : as.length < hi + 1 - lo := by
        have := congrArg List.length e
        simp at this; omega
      have hk : lo + as.length = k := by
        have h5 : (List.range' lo (hi + 1 - lo))[as.length]? = some k := by rw [e]; simp
        rw [List.getElem?_range' hlen] at h5
        simpa using h5
      have h6 : (List.range' lo (hi + 1 - lo))[j - lo]? = as[j - lo]? := by rw [e, List.getElem?_append_left (by omega)]
      rw [List.getElem?_range' (by omega)] at h6
      have h7 : as[j - lo]? = some j := by rw [← h6]; simp; omega
      exact List.mem_of_getElem? h7
    have := hn j hm
    simp [h1, h2] at this
  · exact q
theorem mLoop_iff {got : List Nat} {hi : Nat} : ∀ (ws : List (List Nat)) (s : Nat), s ≤ hi → hi ≤ got.length → (mLoop got hi ws s = true ↔ MidFit ws ((got.take hi).drop s))
  | [], _, _, _ => by simp [mLoop, MidFit]
  | w :: ws, s, hs, hg => by
    unfold mLoop MidFit
    cases hf : findP got w s hi with
    | none =>
      simp only [Bool.false_eq_true, false_iff]
      rintro ⟨x, y, e, _⟩
      have hl := congrArg List.length e
      simp only [List.length_drop, List.length_take, List.length_append] at hl
      refine findP_none (k := s + x.length) hf (by omega) (by omega) ?_
      have e2 : ((got.take hi).drop (s + x.length)).take w.length = w := by
        rw [← List.drop_drop, e, List.append_assoc, List.drop_left' rfl, List.take_left' rfl]
      rw [List.drop_take, List.take_take, Nat.min_eq_left (by omega)] at e2
      exact e2
    | some k =>
      obtain ⟨h1, h2, h3⟩ := findP_some hf
      simp only
      rw [mLoop_iff ws (k + w.length) h2 hg]
      have e1 := take_drop_at h2 h3
      constructor
      · intro h
        refine ⟨((got.take hi).drop s).take (k - s), (got.take hi).drop (k + w.length), ?_, h⟩
        rw [List.append_assoc, ← e1]
        exact drop_split (got.take hi) h1
      · rintro ⟨x, y, e, g⟩
        have hl := congrArg List.length e
        simp only [List.length_drop, List.length_take, List.length_append] at hl
        have e2 : ((got.take hi).drop (s + x.length)).take w.length = w := by
          rw [← List.drop_drop, e, List.append_assoc, List.drop_left' rfl, List.take_left' rfl]
        rw [List.drop_take, List.take_take, Nat.min_eq_left (by omega)] at e2
        have hk := findP_first hf (by omega) (by omega) e2
        have e3 : y = (got.take hi).drop (s + x.length + w.length) := by
          rw [← List.drop_drop, ← List.drop_drop, e, List.append_assoc, List.drop_left' rfl, List.drop_left' rfl]
        rw [drop_split (got.take hi) (show k + w.length ≤ s + x.length + w.length by omega), ← e3]
        exact MidFit_pre _ g
noncomputable abbrev DD : List Nat := [46, 46, 46]
/-- no dots at the end, no two side by side -/
noncomputable def okP : List Nat → Bool
  | [] => true
  | [c] => c != 46
  | c :: d :: r => (c != 46 || d != 46) && okP (d :: r)
noncomputable def joinD : List (List Nat) → List Nat
  | [] => []
  | [p] => p
  | p :: q :: r => p ++ (DD ++ joinD (q :: r))
noncomputable def cutsOf : Nat → List (List Nat) → List Nat
  | _, [] => []
  | _, [_] => []
  | a, p :: q :: r => (a + p.length) :: cutsOf (a + p.length + 3) (q :: r)
noncomputable def scan : Nat → List Nat → List Nat
  | _, [] => []
  | a, 46 :: 46 :: 46 :: r => a :: scan (a + 3) r
  | a, _ :: r => scan (a + 1) r
theorem scan_dots {a : Nat} {r : List Nat} : scan a (46 :: 46 :: 46 :: r) = a :: scan (a + 3) r := by simp [scan]
theorem scan_step {a c : Nat} {r : List Nat} (h : ¬ (c :: r).take 3 = DD) : scan a (c :: r) = scan (a + 1) r := by
  rw [scan]
  intro r' hc hr
  subst hc hr
  exact h rfl
theorem scan_ok : ∀ (p : List Nat), okP p = true → ∀ (a : Nat) (t : List Nat), (t = [] ∨ ∃ u, t = DD ++ u) → scan a (p ++ t) = scan (a + p.length) t
  | [], _, a, t, _ => rfl
  | [c], h, a, t, _ => by
    simp only [okP, bne_iff_ne, ne_eq] at h
    rw [List.cons_append, scan_step (by
      intro e
      simp only [List.nil_append, List.take_succ_cons, List.cons.injEq] at e
      exact h e.1)]
    rfl
  | c :: d :: r, h, a, t, ht => by
    simp only [okP, Bool.and_eq_true, Bool.or_eq_true, bne_iff_ne, ne_eq] at h
    rw [List.cons_append, scan_step (by
      intro e
      simp only [List.cons_append, List.take_succ_cons, List.cons.injEq] at e
      rcases h.1 with q | q
      · exact q e.1
      · exact q e.2.1), scan_ok (d :: r) h.2 (a + 1) t ht]
    simp only [List.length_cons]
    congr 1; omega
theorem scan_join : ∀ (ps : List (List Nat)), (∀ p ∈ ps, okP p = true) → ∀ a, scan a (joinD ps) = cutsOf a ps
  | [], _, _ => rfl
  | [p], h, a => by
    show scan a p = []
    have := scan_ok p (h p List.mem_cons_self) a [] (.inl rfl)
    rw [List.append_nil] at this
    rw [this]; rfl
  | p :: q :: r, h, a => by
    show scan a (p ++ (DD ++ joinD (q :: r))) = _
    rw [scan_ok p (h p List.mem_cons_self) a _ (.inr ⟨_, rfl⟩)]
    show scan (a + p.length) (46 :: 46 :: 46 :: joinD (q :: r)) = _
    rw [scan_dots, scan_join (q :: r) (fun x hx => h x (List.mem_cons_of_mem _ hx))]
    rfl
theorem occ_step {s sub : Str} {hi limit i : Nat} {l : List Nat} {st : Array Nat × Nat} (h : ¬ (((st.fst.size < limit ∧ st.snd ≤ i) ∧ i + sub.length ≤ hi) ∧ subAt s sub i = true)) :
    (forIn (i :: l) st (occBody s sub hi limit)).run = (forIn l st (occBody s sub hi limit)).run := by
  have e : occBody s sub hi limit i st = pure (ForInStep.yield (st.fst, st.snd)) := by unfold occBody; rw [if_neg h]
  rw [List.forIn_cons, e]
  rfl
theorem occ_hit {s sub : Str} {hi limit i : Nat} {l : List Nat} {st : Array Nat × Nat} (h : (((st.fst.size < limit ∧ st.snd ≤ i) ∧ i + sub.length ≤ hi) ∧ subAt s sub i = true)) :
    (forIn (i :: l) st (occBody s sub hi limit)).run = (forIn l (st.fst.push i, i + sub.length) (occBody s sub hi limit)).run := by
  have e : occBody s sub hi limit i st = pure (ForInStep.yield (st.fst.push i, i + sub.length)) := by unfold occBody; rw [if_pos h]
  rw [List.forIn_cons, e]
  rfl
theorem occ_scan {limit : Nat} {l : List Nat} : ∀ (n : Nat) (t pre : List Nat) (found : Array Nat) (free : Nat), t.length ≤ n → l = pre ++ t → free ≤ pre.length → found.size + t.length < limit →
    (forIn (List.range' pre.length (t.length + 1)) (found, free) (occBody (S l) (S DD) l.length limit)).run.fst.toList = found.toList ++ scan pre.length t := by
  intro n
  induction n with
  | zero =>
    intro t pre found free hn hl hf hs
    have : t = [] := List.length_eq_zero_iff.mp (by omega)
    subst this
    simp only [List.length_nil, Nat.zero_add, List.range'_one]
    have hll : l.length = pre.length := by rw [hl]; simp
    rw [occ_step (by
      intro h
      have := h.1.2
      rw [S_len] at this
      simp only [List.length_cons, List.length_nil] at this
      omega)]
    show found.toList = _
    rw [scan, List.append_nil]
  | succ n ih =>
    intro t pre found free hn hl hf hs
    cases t with
    | nil => exact ih [] pre found free (by simp) hl hf hs
    | cons c r =>
      have hll : l.length = pre.length + (r.length + 1) := by rw [hl]; simp
      have hat : subAt (S l) (S DD) pre.length = ((c :: r).take 3 == DD) := by
        rw [subAt_S, hl, List.drop_left' rfl]; rfl
      by_cases hd : (c :: r).take 3 = DD
      · obtain ⟨r3, e3⟩ : ∃ r3, c :: r = DD ++ r3 := ⟨(c :: r).drop 3, by rw [← hd]; exact (List.take_append_drop 3 (c :: r)).symm⟩
        simp only [DD, List.cons_append, List.nil_append, List.cons.injEq] at e3
        obtain ⟨rfl, rfl⟩ := e3
        simp only [List.length_cons] at hn hs hll ⊢
        rw [scan_dots]
        have hx : (List.range' pre.length (r3.length + 1 + 1 + 1 + 1)) = pre.length :: (pre.length + 1) :: (pre.length + 2) :: List.range' (pre.length + 3) (r3.length + 1) := by
          simp only [List.range'_succ]
        rw [hx]
        rw [occ_hit ⟨⟨⟨by simp only; omega, hf⟩, by rw [S_len]; simp only [List.length_cons, List.length_nil]; omega⟩, by rw [hat]; simp⟩]
        rw [occ_step (by
          intro h
          have := h.1.1.2
          rw [S_len] at this
          simp only [List.length_cons, List.length_nil] at this
          omega)]
        rw [occ_step (by
          intro h
          have := h.1.1.2
          rw [S_len] at this
          simp only [List.length_cons, List.length_nil] at this
          omega)]
        have hp : (pre ++ DD).length = pre.length + 3 := by simp
        have := ih r3 (pre ++ DD) (found.push pre.length) (pre.length + 3) (by omega) (by rw [hl]; simp) (by omega) (by simp only [Array.size_push]; omega)
        rw [hp] at this
        have e3 : (S DD).length = 3 := S_len DD
        rw [e3, this]
        simp
      · rw [scan_step hd]
        simp only [List.length_cons] at hn hs hll ⊢
        rw [List.range'_succ, occ_step (by
          intro h
          have := h.2
          rw [hat] at this
          exact hd (beq_iff_eq.mp this))]
        have hp : (pre ++ [c]).length = pre.length + 1 := by simp
        have := ih r (pre ++ [c]) found free (by omega) (by rw [hl]; simp) (by omega) (by omega)
        rw [hp] at this
        exact this
theorem occ_join {ps : List (List Nat)} (h : ∀ p ∈ ps, okP p = true) : occurrences (S (joinD ps)) (S DD) 0 (joinD ps).length ((joinD ps).length + 1) = cutsOf 0 ps := by
  rw [occ_eq]
  have := occ_scan (l := joinD ps) (limit := (joinD ps).length + 1) (joinD ps).length (joinD ps) [] #[] 0 (Nat.le_refl _) rfl (Nat.le_refl _) (by simp)
  rw [scan_join ps h] at this
  simpa using this
theorem strSub_S (l : List Nat) (i j : Nat) : strSub (S l) i j = S ((l.drop i).take (j - i)) := by
  rw [S_eta (strSub (S l) i j), strSub_toList]; rfl
theorem parts_cuts {l : List Nat} : ∀ (ps : List (List Nat)) (pre : List Nat), ps ≠ [] → l = pre ++ joinD ps → partsFrom (S l) 3 pre.length (cutsOf pre.length ps) = ps.map S
  | [], _, h, _ => absurd rfl h
  | [p], pre, _, hl => by
    show [strSub (S l) pre.length (S l).length] = [S p]
    rw [strSub_S, S_len, hl, List.drop_left' rfl]
    congr 2
    exact List.take_of_length_le (by show p.length ≤ _; simp [joinD])
  | p :: q :: r, pre, _, hl => by
    show strSub (S l) pre.length (pre.length + p.length) :: partsFrom (S l) 3 (pre.length + p.length + 3) (cutsOf (pre.length + p.length + 3) (q :: r)) = _
    have hp : (pre ++ p ++ DD).length = pre.length + p.length + 3 := by simp; omega
    have := parts_cuts (l := l) (q :: r) (pre ++ p ++ DD) (by simp) (by rw [hl]; simp [joinD])
    rw [hp] at this
    rw [this, strSub_S, hl, List.drop_left' rfl]
    show S (List.take (pre.length + p.length - pre.length) (p ++ (DD ++ joinD (q :: r)))) :: _ = _
    rw [show pre.length + p.length - pre.length = p.length by omega, List.take_left' rfl]
    rfl
theorem kind_dd : Builtin.Str.strKind (S DD) = 1 := by decide +kernel
theorem kind_pos (x : Str) : 1 ≤ Builtin.Str.strKind x := by unfold Builtin.Str.strKind; split <;> (try split) <;> omega
theorem joinD_len2 {p q : List Nat} {r : List (List Nat)} : 3 ≤ (joinD (p :: q :: r)).length := by simp [joinD]; omega
theorem split_join {p q : List Nat} {r : List (List Nat)} (h : ∀ x ∈ p :: q :: r, okP x = true) : Txt.split (S (joinD (p :: q :: r))) (S DD) = (p :: q :: r).map S := by
  unfold Txt.split
  have h1 := occ_join h
  have h2 := kind_pos (S (joinD (p :: q :: r)))
  have h3 := joinD_len2 (p := p) (q := q) (r := r)
  rw [if_neg (by rw [S_len, S_len, kind_dd]; simp; omega), S_len, h1, if_neg (by simp [cutsOf]), partsBetween_eq]
  exact parts_cuts (p :: q :: r) [] (by simp) rfl
theorem contains_dots {l : List Nat} (k : Nat) (h : (l.drop k).take 3 = DD) : Txt.contains (S l) (S DD) = true := by
  unfold Txt.contains
  rw [found_iff]
  refine ⟨k, ?_, by rw [subAt_S, beq_iff_eq]; exact h⟩
  have := congrArg List.length h
  simp only [List.length_take, List.length_drop, List.length_cons, List.length_nil] at this
  rw [S_len, S_len]
  simp only [List.length_cons, List.length_nil]
  omega
theorem contains_join {p q : List Nat} {r : List (List Nat)} : Txt.contains (S (joinD (p :: q :: r))) (S DD) = true :=
  contains_dots p.length (by show (List.drop p.length (p ++ (DD ++ joinD (q :: r)))).take 3 = DD; rw [List.drop_left' rfl]; rfl)
theorem okP_at : ∀ (l : List Nat), okP l = true → ∀ k, ¬ (l.drop k).take 3 = DD
  | [], _, k => by simp
  | [c], h, 0 => by intro e; simp at e
  | [c], h, k + 1 => by simp
  | c :: d :: r, h, 0 => by
    simp only [okP, Bool.and_eq_true, Bool.or_eq_true, bne_iff_ne, ne_eq] at h
    intro e
    simp only [List.drop_zero, List.take_succ_cons, List.cons.injEq] at e
    rcases h.1 with q | q
    · exact q e.1
    · exact q e.2.1
  | c :: d :: r, h, k + 1 => by
    simp only [okP, Bool.and_eq_true] at h
    exact okP_at (d :: r) h.2 k
theorem contains_ok {l : List Nat} (h : okP l = true) : Txt.contains (S l) (S DD) = false := by
  cases hc : Txt.contains (S l) (S DD) with
  | false => rfl
  | true =>
    unfold Txt.contains at hc
    rw [found_iff] at hc
    obtain ⟨i, _, h2⟩ := hc
    rw [subAt_S, beq_iff_eq] at h2
    exact absurd h2 (okP_at l h i)
theorem starts_S (l w : List Nat) : Txt.startswith (S l) (S w) = decide (w <+: l) := by
  unfold Txt.startswith
  rw [subAt_S, S_len, S_len, Bool.eq_iff_iff, Bool.and_eq_true, decide_eq_true_eq, decide_eq_true_eq, beq_iff_eq]
  simp only [List.drop_zero, Nat.zero_add]
  rw [List.prefix_iff_eq_take]
  constructor
  · exact fun h => h.2.symm
  · exact fun h => ⟨by have := congrArg List.length h; rw [List.length_take] at this; omega, h.symm⟩
theorem ends_S (l w : List Nat) : Txt.endswith (S l) (S w) = decide (w <:+ l) := by
  unfold Txt.endswith
  rw [subAt_S, S_len, S_len, Bool.eq_iff_iff, Bool.and_eq_true, decide_eq_true_eq, decide_eq_true_eq, beq_iff_eq]
  simp only [Nat.zero_add]
  rw [List.suffix_iff_eq_drop]
  constructor
  · rintro ⟨h1, h2⟩
    rw [List.take_of_length_le (by rw [List.length_drop]; omega)] at h2
    exact h2.symm
  · intro h
    have hl : w.length ≤ l.length := by have := congrArg List.length h; rw [List.length_drop] at this; omega
    refine ⟨hl, ?_⟩
    rw [List.take_of_length_le (by rw [List.length_drop]; omega)]
    exact h.symm
theorem ev_strE {n : Nat} {σ : St} {p : Pos} {x : Str} {l : List Nat} {k} (h : x = S l) : Ev n σ (.Constant (.str x) k p) (.str (S l)) := h ▸ ev_str
theorem bi_catS {a b : List Nat} (h : a.length + b.length ≤ 1048576) : BinOk .Add (.str (S a)) (.str (S b)) (.str (S (a ++ b))) := S_append a b ▸ bi_cat (by rw [S_len, S_len]; exact h)
theorem cm_neT {a b : List Nat} : CmpOk .NotEq (.str (S a)) (.str (S b)) (!decide (a = b)) := by
  have h : CmpOk .NotEq (.str (S a)) (.str (S b)) _ := cm_neS
  simp only [S_inj] at h
  exact @h
theorem cm_eqT {a b : List Nat} : CmpOk .Eq (.str (S a)) (.str (S b)) (decide (a = b)) := by
  have h : CmpOk .Eq (.str (S a)) (.str (S b)) _ := cm_eqS
  simp only [S_inj] at h
  exact @h
theorem im_S {a : List Nat} {k : Nat} {c : Nat} (h : a[k]? = some c) (hs : fitsSsize (k : Int) = true) : ItemOk (.str (S a)) (.int (k : Int)) (.str (S [c])) := by
  obtain ⟨h1, h2⟩ := item_at a k c h
  rw [← h1]
  exact im_str hs h2
theorem sl_to {a : List Nat} {k : Nat} (h : a.length ≤ 1048576) : SliceOk (.str (S a)) none (some (k : Int)) none (.str (S (a.take k))) := slice_to a k ▸ sl_str (by rw [S_len]; exact h)
theorem sl_from {a : List Nat} {k : Nat} (h : a.length ≤ 1048576) : SliceOk (.str (S a)) (some (k : Int)) none none (.str (S (a.drop k))) := slice_from a k ▸ sl_str (by rw [S_len]; exact h)
theorem bl_lenT {a : List Nat} (h : a.length ≤ 1048576) : BltOk (.builtin "len") [.str (S a)] (.int a.length) := by
  have q : BltOk (.builtin "len") [.str (S a)] _ := bl_lenS (by rw [S_len]; exact h)
  rw [S_len] at q
  exact @q
theorem truth_S {l : List Nat} (h : l.length ≤ 1048576) : Truth (.str (S l)) (!decide (l = [])) := by
  have q : Truth (.str (S l)) _ := .str (by rw [S_len]; exact h)
  rw [S_len] at q
  cases l <;> exact q
end
noncomputable section
open PyProof.Rows
variable {n : Nat} {ns : List (Str × NameKind)} {xs xs' : List Str} {ds ds' l : List D} {own : Option Str} {x y : Str} {d d' : D} {e t : Expr} {p np ap xp yp : Pos} {f : Fl} {body rest : List Stmt} {σ : St} {k i : Nat}
/-- a state by its names, in order, and their data -/
noncomputable abbrev stV (ns : List (Str × NameKind)) (xs : List Str) (ds : List D) (own : Option Str) : St := ⟨ns, xs.zip ds, own⟩
theorem zip_idx : ∀ {xs : List Str} {ds : List D} {k : Nat}, (xs.findIdx? (x == ·) == some k) = true → nth ds k = some d → (xs.zip ds).lookup x = some d
  | [], _, _, h, _ => nomatch h
  | _ :: _, [], _, _, e => nomatch e
  | z :: xs, c :: ds, k, h, e => by
    rw [beq_iff_eq, List.findIdx?_cons] at h
    rw [List.zip_cons_cons, List.lookup_cons]
    cases hz : x == z with
    | true =>
      rw [hz] at h
      cases Option.some.inj h
      exact e
    | false =>
      rw [hz] at h
      obtain ⟨j, hj, rfl⟩ := Option.map_eq_some_iff.mp h
      exact zip_idx (beq_iff_eq.mpr hj) e
noncomputable def chkC (ns : List (Str × NameKind)) (xs : List Str) (x : Str) (k : Nat) : Bool := plainName x && isVarKind (ns.lookup x) && (xs.findIdx? (x == ·) == some k)
structure ChkV (ns : List (Str × NameKind)) (xs : List Str) (ds : List D) (x : Str) (d : D) : Prop where
  p : plainName x = true
  k : isVarKind (ns.lookup x) = true
  l : (xs.zip ds).lookup x = some d
theorem chk_v (h : chkC ns xs x k = true) (e : nth ds k = some d) : ChkV ns xs ds x d := let ⟨h1, h2⟩ := Bool.and_eq_true_iff.mp h; let ⟨h3, h4⟩ := Bool.and_eq_true_iff.mp h1; ⟨h3, h4, zip_idx h2 e⟩
theorem pk_v (k : Nat) (h : chkC ns xs x k = true) (e : nth ds k = some d) : Pk n (stV ns xs ds own) (.Name x p) d := fun _ S => let q := chk_v h e; nm_var q.p q.k q.l S fun _ _ r => ⟨kRefl _, r.toT⟩
theorem ev_v (k : Nat) (h : (chkC ns xs x k && !(own == some x)) = true) (e : nth ds k = some d) : Ev n (stV ns xs ds own) (.Name x p) d := fun _ S => let ⟨h, ho⟩ := Bool.and_eq_true_iff.mp h; let q := chk_v h e; nm_var q.p q.k q.l S fun _ _ r => ⟨kRefl _, r.n (by simpa using ho)⟩
noncomputable def stOk (ns : List (Str × NameKind)) (own : Option Str) (x : Str) : Bool := storeK (ns.lookup x) && !(own == some x)
theorem setV_st (h : stOk ns own x = true) : setV (stV ns xs ds own) x d = stV ns (x :: xs) (d :: ds) own := by
  have h : own ≠ some x := by simpa using (Bool.and_eq_true_iff.mp h).2
  show (⟨_, _, _⟩ : St) = _
  rw [if_neg h]
  rfl
theorem stOk_k (h : stOk ns own x = true) : storeK (ns.lookup x) = true := (Bool.and_eq_true_iff.mp h).1
theorem ex_asgV (hs : ∀ env, swapsWith e (some (.Name x np)) p.line env = pure false) (hx : stOk ns own x = true) (h : Ev n (stV ns xs ds own) e d) : Ex n (stV ns xs ds own) (.Assign [.Name x np] e p) (.next (stV ns (x :: xs) (d :: ds) own)) := setV_st (xs := xs) (ds := ds) (d := d) hx ▸ ex_asg (σ := stV ns xs ds own) hs (stOk_k hx) h
theorem bf_v (hx : stOk ns own x = true) : BindF (stV ns xs ds own) (.Name x p) d (stV ns (x :: xs) (d :: ds) own) := setV_st (xs := xs) (ds := ds) (d := d) hx ▸ bf_name (σ := stV ns xs ds own) (stOk_k hx)
noncomputable def newOk (ns : List (Str × NameKind)) (own : Option Str) (xs : List Str) (x : Str) : Bool := stOk ns own x && xs.all (· != x)
theorem newN_st (h : newOk ns own xs x = true) : newN (stV ns xs ds own) x = true := by
  obtain ⟨h1, h2⟩ := Bool.and_eq_true_iff.mp h
  refine Bool.and_eq_true_iff.mpr ⟨List.all_eq_true.mpr fun y hy => ?_, (Bool.and_eq_true_iff.mp h1).2⟩
  obtain ⟨q, hq, rfl⟩ := List.mem_map.mp hy
  exact List.all_eq_true.mp h2 _ (List.of_mem_zip (a := q.1) (b := q.2) hq).1
theorem bn_v (hx : newOk ns own xs x = true) : BindN (stV ns xs ds own) (.Name x p) d (stV ns (x :: xs) (d :: ds) own) := by
  have h1 := (Bool.and_eq_true_iff.mp hx).1
  rw [← setV_st h1]
  exact bn_name (Bool.and_eq_true_iff.mpr ⟨stOk_k h1, newN_st hx⟩)
theorem ex_newV {lp : Pos} (hx : storeK (ns.lookup x) = true) : Ex n (stV ns xs ds own) (.Assign [.Name x np] (.List [] lp) p) (.next (stV ns (x :: xs) (.list [] :: ds) (some x))) := ex_newL (σ := stV ns xs ds own) hx
theorem ex_retV (h : Ev n (stV ns xs ds none) e d) : Ex n (stV ns xs ds own) (.Return (some e) p) (.ret d) := ex_ret (σ := stV ns xs ds own) h
noncomputable def glOk (ns : List (Str × NameKind)) (x : Str) : Bool := plainName x && ns.lookup x == some .globalImplicit
theorem ev_off (h : glOk ns "NT_OFFSET" = true) : Ev n (stV ns xs ds own) (.Name "NT_OFFSET" p) (.int 256) := ev_glob (σ := stV ns xs ds own) h (by kernel_rfl)
theorem ev_endm (h : glOk ns "ENDMARKER" = true) : Ev n (stV ns xs ds own) (.Name "ENDMARKER" p) (.int 0) := ev_glob (σ := stV ns xs ds own) h (by kernel_rfl)
theorem ev_tab (h : glOk ns "EXACT_TOKEN_TYPES" = true) : Ev n (stV ns xs ds own) (.Name "EXACT_TOKEN_TYPES" p) (.sdict tokTbl) := ev_glob (σ := stV ns xs ds own) h rfl
theorem dots_S : (Str.ofString "...") = S DD := by decide +kernel
theorem ev_dots (h : glOk ns "ELLIPSIS_MARKER" = true) : Ev n (stV ns xs ds own) (.Name "ELLIPSIS_MARKER" p) (.str (S DD)) := dots_S ▸ ev_glob (σ := stV ns xs ds own) h (by rfl)
theorem ev_callV {f : Str} {q : Pos} {as : List Expr} {ds' : List D} (hg : glOk ns f = true) (ht : ∀ env, backTo p (starEach as env) = tsOf as env) (h2 : EvAll n (stV ns xs ds own) as ds') (h3 : Call n f ds' d) : Ev n (stV ns xs ds own) (.Call (.Name f q) as [] p) d := ev_call (σ := stV ns xs ds own) hg ht h2 h3
theorem ev_bltV {f : Str} {q : Pos} {as : List Expr} {ds' : List D} {fv : Value} (hg : glOk ns f = true) (hf : bltT.lookup f = some fv) (ht : ∀ env, backTo p (starEach as env) = tsOf as env) (h2 : PkAll n (stV ns xs ds own) as ds') (h3 : BltOk fv ds' d) : Ev n (stV ns xs ds own) (.Call (.Name f q) as [] p) d := ev_blt (σ := stV ns xs ds own) hg hf ht h2 h3
/-- fewer names, each at its place -/
noncomputable def chkW (xs : List Str) : List Str → List Nat → Bool
  | [], _ => true
  | x :: xs', k :: ks => (xs.findIdx? (x == ·) == some k) && chkW xs xs' ks
  | _ :: _, [] => false
theorem weak_look : ∀ {xs' : List Str} {ks : List Nat} {ds' : List D}, chkW xs xs' ks = true → ks.map (nth ds) = ds'.map some → ∀ {x : Str} {d : D}, (xs'.zip ds').lookup x = some d → (xs.zip ds).lookup x = some d
  | [], _, _, _, _, _, _, q => nomatch q
  | _ :: _, _, [], _, _, _, _, q => nomatch q
  | _ :: _, [], _ :: _, h, _, _, _, _ => nomatch h
  | z :: xs', k :: ks, c :: ds', h, e, x, d, q => by
    obtain ⟨h1, h2⟩ := Bool.and_eq_true_iff.mp h
    rw [List.map_cons, List.map_cons, List.cons.injEq] at e
    rw [List.zip_cons_cons, List.lookup_cons] at q
    cases hz : x == z with
    | true =>
      rw [hz] at q
      cases Option.some.inj q
      rw [beq_iff_eq.mp hz]
      exact zip_idx h1 e.1
    | false => rw [hz] at q; exact weak_look h2 e.2 q
theorem weak_v (ks : List Nat) (h : chkW xs xs' ks = true) (e : ks.map (nth ds) = ds'.map some) : Weak (stV ns xs ds own) (stV ns xs' ds' own) := ⟨rfl, rfl, fun _ _ q => weak_look h e q⟩
theorem ex_weak {st : Stmt} {σ₁ σ' : St} (h1 : Ex n σ st (.next σ₁)) (h : Weak σ₁ σ') : Ex n σ st (.next σ') := fun hA S => (h1 hA S).mono fun fl s₁ q => by
  obtain ⟨e, W', O', q⟩ := q
  exact ⟨e, W', O', h.n.trans q.hn, q.S.weaken h, q.st⟩
theorem ex_augV {op : Operator} {i j m : Int} (q : Nat) (hc : (chkC ns xs x q && stOk ns own x) = true) (hv : nth ds q = some (.int i)) (h : Ev n (stV ns xs ds own) e (.int j)) (hop : ∀ {G A s t u} {Q : Value → Shared → Prop}, (∀ w, Q (.int m w) { s with toks := s.toks + 1 }) → Wp G A (inplaceOp op (.int i t) (.int j u)) Q s) :
    Ex n (stV ns xs ds own) (.AugAssign (.Name x np) op e p) (.next (stV ns (x :: xs) (.int m :: ds) own)) := fun {G A W O env s} hA S => by
  obtain ⟨hc, hx⟩ := Bool.and_eq_true_iff.mp hc
  have c := chk_v hc hv
  rw [← setV_st hx]
  obtain ⟨v, hh, r⟩ := S.val x _ c.k c.l
  have ho : own ≠ some x := by simpa using (Bool.and_eq_true_iff.mp hx).2
  refine wpAny_AugAssign_Name (load_of S.st c.k hh (h.go hA S fun w s₁ k1 r1 S1 => ?_))
  obtain ⟨t, rfl⟩ := r.n ho
  obtain ⟨u, rfl⟩ := r1
  refine hop fun w => store_ok (S1.next kTok (Nat.le_succ _)) (stOk_k hx) rInt fun s₂ S₂ k₂ => .next S₂ rfl ?_
  exact (Stp.keeps (kTrans k1 kTok)).trans S rfl (S1.next kTok (Nat.le_succ _)) (.mut k₂)
theorem ex_tup2V {z} {tp : Pos} {d1 d2 : D} (hsole : ∀ env, swapsWithSole [.Tuple [.Name x xp, .Name y yp] z tp] e p.line env = pure false) (hw : ∀ env, swappedStores [.Tuple [.Name x xp, .Name y yp] z tp] e env = pure none ∨ swappedStores [.Tuple [.Name x xp, .Name y yp] z tp] e env = pure (some [x, y]))
    (hxy : ((x == y) == false && stOk ns own x && stOk ns own y) = true) (h : Ev n (stV ns xs ds own) e (.tuple [d1, d2])) : Ex n (stV ns xs ds own) (.Assign [.Tuple [.Name x xp, .Name y yp] z tp] e p) (.next (stV ns (y :: x :: xs) (d2 :: d1 :: ds) own)) := by
  obtain ⟨hxy, hy⟩ := Bool.and_eq_true_iff.mp hxy
  obtain ⟨hxy, hx⟩ := Bool.and_eq_true_iff.mp hxy
  rw [← setV_st hy, ← setV_st hx]
  intro G A W O env s hA S
  exact ex_tup2 (σ := stV ns xs ds own) hsole hw (beq_iff_eq.mp hxy) (stOk_k hx) (stOk_k hy) h hA S
theorem own_v (q : Nat) (h : chkC ns xs x q = true) (e : nth ds q = some d) : OwnC (stV ns xs ds (some x)) x d := let c := chk_v h e; ⟨c.p, c.k, c.l, beq_self_eq_true _⟩
theorem ex_appendV (q : Nat) (h : chkC ns xs x q = true) (hv : nth ds q = some (.list l)) (hb : ∀ env, attributeBase (.Name x xp) "append" env (eval (.Name x xp) env) = eval (.Name x xp) env) (hl : (ap.endLine == np.line) = true)
    (ht : ∀ env, backTo np (starEach [e] env) = [(false, eval e env)]) (hsz : l.length ≤ 1048576) (he : Ev n (stV ns xs ds (some x)) e d) : Ex n (stV ns xs ds (some x)) (.Expr (.Call (.Attribute (.Name x xp) "append" ap) [e] [] np) p) (.next (stV ns (x :: xs) (.list (l ++ [d]) :: ds) (some x))) := ex_append (own_v q h hv) hb hl ht hsz he
theorem ex_delV {j : Int} {k : Nat} {ie : Expr} (q : Nat) (h : chkC ns xs x q = true) (hv : nth ds q = some (.list l)) (hj : Builtin.List.listFitsIndex j = true) (hk : seqIndex? j l.length = some k) (hkl : k < l.length) (hsz : l.length ≤ 1048576) (he : Ev n (stV ns xs ds (some x)) ie (.int j)) :
    Ex n (stV ns xs ds (some x)) (.Delete [.Subscript (.Name x xp) ie np] p) (.next (stV ns (x :: xs) (.list (l.eraseIdx k) :: ds) (some x))) := ex_del (own_v q h hv) hj hk hkl hsz he
end
noncomputable section
open PySem.Float64
/-- the float of n / 512 -/
noncomputable def Fx (n : Int) : UInt64 := ofFrac (decide (n < 0)) n.natAbs 512
theorem V_inj {t u : Nat} (h : V t = V u) : t = u := by
  rcases Nat.lt_trichotomy t u with q | q | q
  · exact absurd h (Nat.ne_of_lt (V_lt q))
  · exact q
  · exact absurd h.symm (Nat.ne_of_lt (V_lt q))
/-- the place of M * 2 ^ 1065 -/
theorem V_rep : ∀ (k : Nat) (M : Nat), M < 2 ^ 53 → k ≤ 52 → 2 ^ (52 - k) ≤ M → M < 2 ^ (53 - k) → ∃ t, V t = M * 2 ^ 1065 := by
  intro k M _ hk h1 h2
  refine ⟨(1065 - k) * 2 ^ 52 + M * 2 ^ k, ?_⟩
  have e1 : 2 ^ 52 ≤ M * 2 ^ k := by
    calc 2 ^ 52 = 2 ^ (52 - k) * 2 ^ k := by rw [← Nat.pow_add]; congr 1; omega
      _ ≤ M * 2 ^ k := Nat.mul_le_mul_right _ h1
  have e2 : M * 2 ^ k ≤ 2 ^ 53 := by
    calc M * 2 ^ k ≤ 2 ^ (53 - k) * 2 ^ k := Nat.mul_le_mul_right _ (Nat.le_of_lt h2)
      _ = 2 ^ 53 := by rw [← Nat.pow_add]; congr 1; omega
  rw [V_at e2 (.inl e1), Nat.mul_assoc, ← Nat.pow_add]
  congr 2; omega
theorem V_of {M : Nat} (h : M < 2 ^ 53) : ∃ t, V t = M * 2 ^ 1065 := by
  by_cases h0 : M = 0
  · subst h0; exact ⟨0, by rw [V_zero]; omega⟩
  · have h1 := Nat.log2_self_le h0
    have h2 : M < 2 ^ (M.log2 + 1) := Nat.lt_log2_self
    have h3 : M.log2 < 53 := (Nat.log2_lt h0).mpr h
    exact V_rep (52 - M.log2) M h (by omega) (by rwa [show 52 - (52 - M.log2) = M.log2 by omega]) (by rwa [show 53 - (52 - M.log2) = M.log2 + 1 by omega])
theorem right_at {r : UInt64} {neg : Bool} {W D M : Nat} (hM : M < 2 ^ 53) (hD : 0 < D) (hW : W = D * (M * 2 ^ 1065)) (h : Right r neg W D) : ∃ t, r = pack neg t ∧ t < infMag ∧ V t = M * 2 ^ 1065 := by
  obtain ⟨t, hr, hle, hov, hnear⟩ := h
  obtain ⟨t', ht'⟩ := V_of hM
  have hlt : t < infMag := by
    rcases Nat.lt_or_eq_of_le hle with q | q
    · exact q
    · have := hov.mp q
      rw [hW] at this
      have h2 : D * ((2 ^ 54 - 1) * 2 ^ 2045) ≤ D * (2 * (M * 2 ^ 1065)) := by rw [Nat.mul_left_comm D 2]; exact this
      have h3 := Nat.le_of_mul_le_mul_left h2 hD
      have h4 : M * 2 ^ 1065 ≤ 2 ^ 53 * 2 ^ 1065 := Nat.mul_le_mul_right _ (Nat.le_of_lt hM)
      have h5 : 2 * (2 ^ 53 * 2 ^ 1065) < (2 ^ 54 - 1) * 2 ^ 2045 := by decide +kernel
      omega
  refine ⟨t, hr, hlt, ?_⟩
  have h1 := (hnear hlt t').1
  rw [ht', ← hW] at h1
  unfold dist at h1
  have h2 : W = D * V t := by omega
  rw [hW] at h2
  exact (Nat.eq_of_mul_eq_mul_left hD h2).symm
theorem fx_pack {n : Int} (h : n.natAbs < 2 ^ 53) : ∃ t, Fx n = pack (decide (n < 0)) t ∧ t < infMag ∧ V t = n.natAbs * 2 ^ 1065 := by
  refine right_at (D := 1) h (by decide) (W := n.natAbs * 2 ^ 1065) (by rw [Nat.one_mul]) (ofFrac_right (by decide) ?_ (by decide))
  rw [Nat.mul_one, Nat.mul_assoc, show (512 : Nat) = 2 ^ 9 from rfl, ← Nat.pow_add]
theorem fx_uniq {n : Int} (h : n.natAbs < 2 ^ 53) {r : UInt64} {W D : Nat} {neg : Bool} (hr : Right r neg W D) (hn : neg = decide (n < 0)) (hD : 0 < D) (hW : W = D * (n.natAbs * 2 ^ 1065)) : r = Fx n := by
  obtain ⟨t, h1, _, h2⟩ := right_at h hD hW hr
  obtain ⟨u, h3, _, h4⟩ := fx_pack h
  rw [h1, h3, hn, V_inj (h2.trans h4.symm)]
theorem fx_dec {n : Int} (h : n.natAbs < 2 ^ 53) : ∃ m e, decode (Fx n) = .fin (decide (n < 0)) m e ∧ m * 2 ^ (e + 1074).toNat = n.natAbs * 2 ^ 1065 := by
  obtain ⟨t, h1, h2, h3⟩ := fx_pack h
  obtain ⟨m, e, h4, h5⟩ := decode_pack (decide (n < 0)) h2
  exact ⟨m, e, by rw [h1]; exact h4, by rw [h5, h3]⟩
theorem fx_val {n : Int} (h : n.natAbs < 2 ^ 53) : val (Fx n) = n * 2 ^ 1065 := by
  obtain ⟨m, e, h1, h2⟩ := fx_dec h
  rw [val_eq h1, h2, sgn_mul]
  have : sgn (decide (n < 0)) n.natAbs = n := by
    unfold sgn
    by_cases q : n < 0
    · simp [q]; omega
    · simp [q]; omega
  rw [this]; norm_cast
theorem fx_zero : Fx 0 = zero false := by decide +kernel
theorem scaled_neg (a : Int) {K : Int} (hp : 0 < K) : a * K < 0 ↔ a < 0 := by
  constructor
  · intro h
    by_cases q : a < 0
    · exact q
    · exact absurd (Int.mul_nonneg (Int.not_lt.mp q) (Int.le_of_lt hp)) (by omega)
  · intro h; exact Int.mul_neg_of_neg_of_pos h hp
theorem kpos : (0 : Int) < 2 ^ 1065 := by decide +kernel
theorem fx_add {a b : Int} (ha : a.natAbs < 2 ^ 53) (hb : b.natAbs < 2 ^ 53) (hc : (a + b).natAbs < 2 ^ 53) : add (Fx a) (Fx b) = Fx (a + b) := by
  obtain ⟨m, e, h1, _⟩ := fx_dec ha
  obtain ⟨k, f, h2, _⟩ := fx_dec hb
  have hr := add_right h1 h2
  rw [fx_val ha, fx_val hb, ← Int.add_mul] at hr
  have hp : (0 : Int) < 2 ^ 1065 := by decide +kernel
  by_cases q : a + b = 0
  · rw [hr.1 (by rw [q, Int.zero_mul]), q, fx_zero]
    congr 1
    simp only [Bool.and_eq_false_iff, decide_eq_false_iff_not]
    omega
  · refine fx_uniq hc (hr.2 (fun e => ?_)) ?_ (by decide) ?_
    · rcases Int.mul_eq_zero.mp e with e | e
      · exact q e
      · rw [e] at hp; exact absurd hp (by decide)
    · congr 1
      rw [eq_iff_iff]
      constructor
      · exact fun h => (scaled_neg (a + b) hp).mp h
      · exact fun h => (scaled_neg (a + b) hp).mpr h
    · rw [Nat.one_mul, Int.natAbs_mul]; rfl
theorem fx_sub {a b : Int} (ha : a.natAbs < 2 ^ 53) (hb : b.natAbs < 2 ^ 53) (hc : (a - b).natAbs < 2 ^ 53) : sub (Fx a) (Fx b) = Fx (a - b) := by
  obtain ⟨m, e, h1, _⟩ := fx_dec ha
  obtain ⟨k, f, h2, _⟩ := fx_dec hb
  have hr := sub_right h1 h2
  rw [fx_val ha, fx_val hb, ← Int.sub_mul] at hr
  by_cases q : a - b = 0
  · rw [hr.1 (by rw [q, Int.zero_mul]), q, fx_zero]
    congr 1
    simp only [Bool.and_eq_false_iff, decide_eq_false_iff_not, Bool.not_eq_false', decide_eq_true_eq]
    omega
  · refine fx_uniq hc (hr.2 (fun e => ?_)) ?_ (by decide) ?_
    · rcases Int.mul_eq_zero.mp e with e | e
      · exact q e
      · have := kpos; rw [e] at this; exact absurd this (by decide)
    · congr 1
      rw [eq_iff_iff]
      exact scaled_neg (a - b) kpos
    · rw [Nat.one_mul, Int.natAbs_mul]; rfl
theorem fx_mul {a b c : Int} (ha : a.natAbs < 2 ^ 53) (hb : b.natAbs < 2 ^ 53) (hc : c.natAbs < 2 ^ 53) (h0 : 0 ≤ a) (h0' : 0 ≤ b) (h : a * b = 512 * c) : mul (Fx a) (Fx b) = Fx c := by
  obtain ⟨m, e, h1, _⟩ := fx_dec ha
  obtain ⟨k, f, h2, _⟩ := fx_dec hb
  have hr := mul_right h1 h2
  rw [fx_val ha, fx_val hb] at hr
  refine fx_uniq hc hr ?_ (Nat.two_pow_pos _) ?_
  · have : 0 ≤ 512 * c := h ▸ Int.mul_nonneg h0 h0'
    rw [decide_eq_false (by omega), decide_eq_false (by omega), decide_eq_false (by omega)]; rfl
  · rw [Int.natAbs_mul, Int.natAbs_mul]
    have e1 : ((2 : Int) ^ 1065).natAbs = 2 ^ 1065 := by rw [Int.natAbs_pow]; rfl
    have e2 : a.natAbs * b.natAbs = 512 * c.natAbs := by rw [← Int.natAbs_mul, h, Int.natAbs_mul]; rfl
    rw [e1]
    calc a.natAbs * 2 ^ 1065 * (b.natAbs * 2 ^ 1065) = a.natAbs * b.natAbs * (2 ^ 1065 * 2 ^ 1065) := by ac_rfl
      _ = 512 * c.natAbs * (2 ^ 1065 * 2 ^ 1065) := by rw [e2]
      _ = 2 ^ 1074 * (c.natAbs * 2 ^ 1065) := by
        rw [show (512 : Nat) = 2 ^ 9 from rfl, show 1074 = 9 + 1065 from rfl, Nat.pow_add]; ac_rfl
theorem fx_div {a b c : Int} (ha : a.natAbs < 2 ^ 53) (hb : b.natAbs < 2 ^ 53) (hc : c.natAbs < 2 ^ 53) (h0 : 0 < b) (h : c * b = 512 * a) : div (Fx a) (Fx b) = Fx c := by
  obtain ⟨m, e, h1, _⟩ := fx_dec ha
  obtain ⟨k, f, h2, h2'⟩ := fx_dec hb
  have hk : k ≠ 0 := fun q => by
    rw [q, Nat.zero_mul] at h2'
    rcases Nat.mul_eq_zero.mp h2'.symm with z | z
    · omega
    · exact absurd z (Nat.ne_of_gt (Nat.two_pow_pos _))
  have hr := div_right h1 h2 hk
  rw [fx_val ha, fx_val hb] at hr
  have e1 : ((2 : Int) ^ 1065).natAbs = 2 ^ 1065 := by rw [Int.natAbs_pow]; rfl
  rw [Int.natAbs_mul, Int.natAbs_mul, e1] at hr
  refine fx_uniq hc hr ?_ (Nat.mul_pos (by omega) (Nat.two_pow_pos _)) ?_
  · have e3 : decide (b < 0) = false := decide_eq_false (by omega)
    rw [e3]
    have : (a < 0) ↔ (c < 0) := by
      rw [← scaled_neg c h0, h]
      omega
    simp [this]
  · have e2 : c.natAbs * b.natAbs = 512 * a.natAbs := by rw [← Int.natAbs_mul, h, Int.natAbs_mul]; rfl
    calc a.natAbs * 2 ^ 1065 * 2 ^ 1074 = 512 * a.natAbs * (2 ^ 1065 * 2 ^ 1065) := by
          rw [show (512 : Nat) = 2 ^ 9 from rfl, show 1074 = 9 + 1065 from rfl, Nat.pow_add]; ac_rfl
      _ = c.natAbs * b.natAbs * (2 ^ 1065 * 2 ^ 1065) := by rw [e2]
      _ = b.natAbs * 2 ^ 1065 * (c.natAbs * 2 ^ 1065) := by ac_rfl
theorem fx_isZero {b : Int} (hb : b.natAbs < 2 ^ 53) (h0 : b ≠ 0) : isZero (Fx b) = false := by
  obtain ⟨k, f, h2, h2'⟩ := fx_dec hb
  unfold isZero
  rw [h2]
  have hk : k ≠ 0 := fun q => by
    rw [q, Nat.zero_mul] at h2'
    rcases Nat.mul_eq_zero.mp h2'.symm with z | z
    · omega
    · exact absurd z (Nat.ne_of_gt (Nat.two_pow_pos _))
  cases k with
  | zero => exact absurd rfl hk
  | succ k => rfl
theorem fx_ofInt {i : Int} (h : (512 * i).natAbs < 2 ^ 53) : ofInt i = Fx (512 * i) := by
  refine fx_uniq h (ofInt_right i) ?_ (by decide) ?_
  · congr 1; rw [eq_iff_iff]; omega
  · rw [Nat.one_mul, Int.natAbs_mul, show ((512 : Int).natAbs) = 2 ^ 9 from rfl, show 1074 = 9 + 1065 from rfl, Nat.pow_add]; ac_rfl
theorem cmp_scale (a b : Int) {K : Int} (hK : 0 < K) : compare (a * K) (b * K) = compare a b := by
  rcases Int.lt_trichotomy a b with h | h | h
  · rw [Int.compare_eq_lt.mpr h, Int.compare_eq_lt.mpr (Int.mul_lt_mul_of_pos_right h hK)]
  · subst h; simp
  · rw [Int.compare_eq_gt.mpr h, Int.compare_eq_gt.mpr (Int.mul_lt_mul_of_pos_right h hK)]
theorem fx_cmp {a b : Int} (ha : a.natAbs < 2 ^ 53) (hb : b.natAbs < 2 ^ 53) : cmp (Fx a) (Fx b) = some (compare a b) := by
  obtain ⟨m, e, h1, _⟩ := fx_dec ha
  obtain ⟨k, f, h2, _⟩ := fx_dec hb
  rw [cmp_right h1 h2, fx_val ha, fx_val hb, cmp_scale _ _ kpos]
theorem fx_cmpInt {a i : Int} (ha : a.natAbs < 2 ^ 53) : cmpInt (Fx a) i = some (compare a (512 * i)) := by
  obtain ⟨m, e, h1, _⟩ := fx_dec ha
  have e1 : i * 2 ^ 1074 = 512 * i * 2 ^ 1065 := by
    rw [show 1074 = 9 + 1065 from rfl, Int.pow_add, show (2 : Int) ^ 9 = 512 from rfl]; ac_rfl
  rw [cmpInt_right h1, fx_val ha, e1, cmp_scale _ _ kpos]
theorem right_unique {r r' : UInt64} {neg : Bool} {W D : Nat} (hD : 0 < D) (h : Right r neg W D) (h' : Right r' neg W D) : r = r' := by
  obtain ⟨t, hr, hle, hov, hn⟩ := h
  obtain ⟨u, hr', hle', hov', hn'⟩ := h'
  rw [hr, hr']
  congr 1
  by_cases q : t = infMag
  · rw [q, (hov'.mpr (hov.mp q))]
  · have q' : u ≠ infMag := fun e => q (hov.mpr (hov'.mp e))
    have a := hn (by omega)
    have b := hn' (by omega)
    have key : ∀ t u : Nat, t < u → (∀ t', Float64.dist W (D * V t) ≤ Float64.dist W (D * V t') ∧ (V t' ≠ V t → Float64.dist W (D * V t) = Float64.dist W (D * V t') → t % 2 = 0)) →
        (∀ t', Float64.dist W (D * V u) ≤ Float64.dist W (D * V t') ∧ (V t' ≠ V u → Float64.dist W (D * V u) = Float64.dist W (D * V t') → u % 2 = 0)) → False := by
      intro t u hlt a b
      have e : Float64.dist W (D * V t) = Float64.dist W (D * V u) := Nat.le_antisymm (a u).1 (b t).1
      have v1 : V t < V u := V_lt hlt
      have p1 := (a u).2 (by omega) e
      have p2 := (b t).2 (by omega) e.symm
      have v2 : V t < V (t + 1) := V_lt (by omega)
      have v3 : V (t + 1) < V u := V_lt (by omega)
      have w1 := Nat.mul_lt_mul_of_pos_left v2 hD
      have w2 := Nat.mul_lt_mul_of_pos_left v3 hD
      have c := (a (t + 1)).1
      unfold Float64.dist at e c
      omega
    rcases Nat.lt_trichotomy t u with z | z | z
    · exact (key t u z a b).elim
    · exact z
    · exact (key u t z b a).elim
/-- the float nearest to a / b -/
noncomputable def Qx (a b : Int) : UInt64 := ofFrac false a.natAbs b.natAbs
theorem gx_right {a b : Int} (hb : 0 < b) : Right (Qx a b) false (a.natAbs * 2 ^ 1074) b.natAbs := ofFrac_right (by omega) (by ac_rfl) (by omega)
theorem gx_eq {a b c d : Int} (hb : 0 < b) (hd : 0 < d) (h : a * d = c * b) : Qx a b = Qx c d := by
  refine right_unique (D := b.natAbs) (W := a.natAbs * 2 ^ 1074) (by omega) (gx_right hb) (ofFrac_right (by omega) ?_ (by omega))
  have e : a.natAbs * d.natAbs = c.natAbs * b.natAbs := by rw [← Int.natAbs_mul, h, Int.natAbs_mul]
  calc c.natAbs * 2 ^ 1074 * b.natAbs = c.natAbs * b.natAbs * 2 ^ 1074 := by ac_rfl
    _ = a.natAbs * d.natAbs * 2 ^ 1074 := by rw [e]
    _ = a.natAbs * 2 ^ 1074 * d.natAbs := by ac_rfl
theorem gx_of_div {a b : Int} (ha : a.natAbs < 2 ^ 53) (hb : b.natAbs < 2 ^ 53) (h0 : 0 ≤ a) (h1 : 0 < b) : div (Fx a) (Fx b) = Qx a b := by
  obtain ⟨m, e, h3, _⟩ := fx_dec ha
  obtain ⟨k, f, h2, h2'⟩ := fx_dec hb
  have hk : k ≠ 0 := fun q => by
    rw [q, Nat.zero_mul] at h2'
    rcases Nat.mul_eq_zero.mp h2'.symm with z | z
    · omega
    · exact absurd z (Nat.ne_of_gt (Nat.two_pow_pos _))
  have hr := div_right h3 h2 hk
  rw [fx_val ha, fx_val hb] at hr
  have e1 : ((2 : Int) ^ 1065).natAbs = 2 ^ 1065 := by rw [Int.natAbs_pow]; rfl
  rw [Int.natAbs_mul, Int.natAbs_mul, e1, decide_eq_false (show ¬ a < 0 by omega), decide_eq_false (show ¬ b < 0 by omega)] at hr
  refine right_unique (Nat.mul_pos (by omega) (Nat.two_pow_pos _)) hr (ofFrac_right (by omega) ?_ (Nat.mul_pos (by omega) (Nat.two_pow_pos _)))
  ac_rfl
theorem gx_fin {a b : Int} (h0 : 0 ≤ a) (ha : a ≤ 1048576) (hb : 0 < b) : ∃ m e, decode (Qx a b) = .fin false m e := by
  obtain ⟨t, h1, h2, h3, _⟩ := gx_right (a := a) hb
  have : t < infMag := by
    rcases Nat.lt_or_eq_of_le h2 with q | q
    · exact q
    · have h4 := h3.mp q
      have h5 : (2 ^ 54 - 1) * 2 ^ 2045 ≤ b.natAbs * ((2 ^ 54 - 1) * 2 ^ 2045) := Nat.le_mul_of_pos_left _ (by omega)
      have h6 : a.natAbs * 2 ^ 1074 ≤ 1048576 * 2 ^ 1074 := Nat.mul_le_mul_right _ (by omega)
      have h7 : 2 * (1048576 * 2 ^ 1074) < (2 ^ 54 - 1) * 2 ^ 2045 := by decide +kernel
      omega
  obtain ⟨m, e, h4, _⟩ := decode_pack false this
  exact ⟨m, e, by rw [h1]; exact h4⟩
theorem fx_gx {a : Int} (h0 : 0 ≤ a) : Fx a = Qx a 512 := by
  unfold Fx Qx; rw [decide_eq_false (by omega)]; rfl
theorem beq_cmp_eq {a b : Int} : ((some (compare a b) == some Ordering.eq) : Bool) = decide (a = b) := by
  rcases Int.lt_trichotomy a b with h | h | h
  · rw [Int.compare_eq_lt.mpr h, decide_eq_false (by omega)]; rfl
  · subst h; simp
  · rw [Int.compare_eq_gt.mpr h, decide_eq_false (by omega)]; rfl
theorem beq_cmp_lt {a b : Int} : ((some (compare a b) == some Ordering.lt) : Bool) = decide (a < b) := by
  rcases Int.lt_trichotomy a b with h | h | h
  · rw [Int.compare_eq_lt.mpr h, decide_eq_true h]; rfl
  · subst h; simp
  · rw [Int.compare_eq_gt.mpr h, decide_eq_false (by omega)]; rfl
theorem beq_cmp_gt {a b : Int} : ((some (compare a b) == some Ordering.gt) : Bool) = decide (b < a) := by
  rcases Int.lt_trichotomy a b with h | h | h
  · rw [Int.compare_eq_lt.mpr h, decide_eq_false (by omega)]; rfl
  · subst h; simp
  · rw [Int.compare_eq_gt.mpr h, decide_eq_true h]; rfl
end
noncomputable section
open PySem.Float64 PyProof.Rows
set_option genSizeOf false
/-- numbers as the colours' functions have them: a float is n / 512, or the float nearest to a / b -/
inductive V where
  | it (n : Int)
  | fl (n : Int)
  | gq (a b : Int)
  | bl (c : Bool)
  | t2 (x y : V)
  | t3 (x y z : V)
noncomputable def V.toD : V → D
  | .it n => .int n
  | .fl n => .float (Fx n)
  | .gq a b => .float (Qx a b)
  | .bl c => .bool c
  | .t2 x y => .tuple [x.toD, y.toD]
  | .t3 x y z => .tuple [x.toD, y.toD, z.toD]
noncomputable def nn : Int → Bool
  | .ofNat _ => true
  | .negSucc _ => false
noncomputable def ile (a b : Int) : Bool := nn (b - a)
noncomputable def ilt (a b : Int) : Bool := nn (b - a - 1)
noncomputable def ieq (a b : Int) : Bool := Nat.beq (a - b).natAbs 0
noncomputable def bd (a : Int) : Bool := Nat.ble a.natAbs 1048576
theorem nn_iff {a : Int} : nn a = true ↔ 0 ≤ a := by
  cases a with
  | ofNat n => exact ⟨fun _ => Int.natCast_nonneg n, fun _ => rfl⟩
  | negSucc n => exact ⟨nofun, fun h => absurd (Int.negSucc_lt_zero n) (Int.not_lt.mpr h)⟩
theorem ile_iff {a b : Int} : ile a b = true ↔ a ≤ b := nn_iff.trans Int.sub_nonneg
theorem ilt_iff {a b : Int} : ilt a b = true ↔ a < b := nn_iff.trans ⟨fun h => by omega, fun h => by omega⟩
theorem ieq_iff {a b : Int} : ieq a b = true ↔ a = b := ⟨fun h => Int.sub_eq_zero.mp (Int.natAbs_eq_zero.mp (Nat.eq_of_beq_eq_true h)), fun h => by rw [h, ieq, Int.sub_self]; rfl⟩
theorem ieq_dec {a b : Int} : ieq a b = decide (a = b) := by rw [Bool.eq_iff_iff, ieq_iff, decide_eq_true_iff]
theorem ilt_dec {a b : Int} : ilt a b = decide (a < b) := by rw [Bool.eq_iff_iff, ilt_iff, decide_eq_true_iff]
structure Bd (a : Int) : Prop where
  n : a.natAbs ≤ 1048576
theorem bd_iff {a : Int} (h : bd a = true) : Bd a := ⟨Nat.le_of_ble_eq_true h⟩
theorem small_bd {a : Int} (h : Bd a) : small a := by have := h.n; unfold small; omega
theorem small_512 {a : Int} (h : Bd (512 * a)) : small a := by have := h.n; unfold small; omega
theorem Bd.u {a : Int} (h : Bd a) : a ≤ 1048576 := Int.le_trans Int.le_natAbs (Int.ofNat_le.mpr h.n)
theorem Bd.x {a : Int} (h : Bd a) : a.natAbs < 2 ^ 53 := Nat.lt_of_le_of_lt h.n (by decide)
theorem nat2 {a b c : Nat} (h : c ≤ a + b) (ha : a ≤ 1048576) (hb : b ≤ 1048576) : c < 2 ^ 53 := Nat.lt_of_le_of_lt (Nat.le_trans h (Nat.add_le_add ha hb)) (by decide)
theorem ite_some {α : Type} {c : Bool} {x y : α} (h : (if c = true then some x else none) = some y) : c = true ∧ x = y := by
  cases c with
  | true => exact ⟨rfl, Option.some.inj h⟩
  | false => cases h
/-- the number is worked out at once -/
noncomputable def sI (n : Int) (f : Int → V) : Option V := match n with
  | .ofNat 0 => some (f (.ofNat 0))
  | .ofNat (m + 1) => some (f (.ofNat (m + 1)))
  | .negSucc 0 => some (f (.negSucc 0))
  | .negSucc (m + 1) => some (f (.negSucc (m + 1)))
theorem sI_eq {n : Int} {f : Int → V} : sI n f = some (f n) := by
  match n with
  | .ofNat 0 => rfl
  | .ofNat (m + 1) => rfl
  | .negSucc 0 => rfl
  | .negSucc (m + 1) => rfl
noncomputable def gI (c : Bool) (n : Int) (f : Int → V) : Option V := if c = true then sI n f else none
theorem gI_some {c : Bool} {n : Int} {f : Int → V} {z : V} (h : gI c n f = some z) : c = true ∧ f n = z := by
  cases c with
  | true => exact ⟨rfl, Option.some.inj (sI_eq.symm.trans h)⟩
  | false => cases h
noncomputable def gd (c : Bool) (v : V) : Option V := if c = true then some v else none
noncomputable def ff {α : Type} (kf ki kfi : Int → Int → Option α) : V → V → Option α
  | .fl a, .fl b => kf a b
  | .it a, .it b => ki a b
  | .fl a, .it b => kfi a b
  | _, _ => none
noncomputable def no {α : Type} (_ _ : Int) : Option α := none
theorem no_some {α : Type} {a b : Int} {z : α} {P : Prop} (h : no a b = some z) : P := nomatch h
theorem ff_s {α : Type} {kf ki kfi : Int → Int → Option α} {P : D → D → α → Prop} (h1 : ∀ a b z, kf a b = some z → P (.float (Fx a)) (.float (Fx b)) z) (h2 : ∀ a b z, ki a b = some z → P (.int a) (.int b) z) (h3 : ∀ a b z, kfi a b = some z → P (.float (Fx a)) (.int b) z) :
    ∀ x y z, ff kf ki kfi x y = some z → P x.toD y.toD z
  | .fl _, .fl _, z, h => h1 _ _ z h
  | .it _, .it _, z, h => h2 _ _ z h
  | .fl _, .it _, z, h => h3 _ _ z h
noncomputable def addV : V → V → Option V := ff (fun a b => gI (bd a && bd b) (a + b) .fl) (fun a b => sI (a + b) .it) no
noncomputable def subV : V → V → Option V := ff (fun a b => gI (bd a && bd b) (a - b) .fl) (fun a b => sI (a - b) .it) (fun a b => gI (bd a && bd (512 * b)) (a - 512 * b) .fl)
noncomputable def mulV : V → V → Option V := ff (fun a b => gI (bd a && bd b && nn a && nn b && ieq (a * b) (512 * (a * b / 512))) (a * b / 512) .fl) (fun a b => gI (bd a) (a * b) .it) no
noncomputable def quo (a b : Int) : Option V := if ieq (512 * a) (512 * a / b * b) = true then sI (512 * a / b) .fl else gd (nn a) (.gq a b)
noncomputable def divV : V → V → Option V := ff (fun a b => if (bd a && bd b && ilt 0 b) = true then quo a b else none) (fun a b => if (nn a && bd a && bd b && ilt 0 b) = true then quo a b else none) no
noncomputable def modV : V → V → Option V := ff (fun a b => gI (ieq b 512 && ieq (8 * (a / 8)) a && ile (-96) a && ilt a 512) (a % 512) .fl) (fun a b => gI (ilt 0 b) (a % b) .it) no
noncomputable def fdvV : V → V → Option V := ff no (fun a b => gI (ilt 0 b && bd b) (a / b) .it) no
noncomputable def BinP (op : Operator) (x y : D) (z : V) : Prop := BinOk op x y z.toD
noncomputable def BinS (op : Operator) (F : V → V → Option V) : Prop := ∀ x y z, F x y = some z → BinP op x.toD y.toD z
theorem gd_some {c : Bool} {v z : V} (h : gd c v = some z) : c = true ∧ v = z := ite_some h
theorem add_s : BinS .Add addV := ff_s (P := BinP .Add) (fun a b z h => by
    obtain ⟨q, rfl⟩ := gI_some h
    have h := Bool.and_eq_true_iff.mp q
    have ha := bd_iff h.1
    have hb := bd_iff h.2
    show BinOk _ _ _ (.float (Fx (a + b)))
    rw [← fx_add ha.x hb.x (nat2 (Int.natAbs_add_le a b) ha.n hb.n)]
    exact bi_fadd) (fun a b z h => by cases Option.some.inj (sI_eq.symm.trans h); exact (bi_add : BinOk .Add (.int a) (.int b) (.int (a + b)))) (fun _ _ _ h => no_some h)
theorem sub_s : BinS .Sub subV := ff_s (P := BinP .Sub) (fun a b z h => by
    obtain ⟨q, rfl⟩ := gI_some h
    have h := Bool.and_eq_true_iff.mp q
    have ha := bd_iff h.1
    have hb := bd_iff h.2
    show BinOk _ _ _ (.float (Fx (a - b)))
    rw [← fx_sub ha.x hb.x (nat2 (Int.natAbs_sub_le a b) ha.n hb.n)]
    exact bi_fsub) (fun a b z h => by cases Option.some.inj (sI_eq.symm.trans h); exact (bi_sub : BinOk .Sub (.int a) (.int b) (.int (a - b)))) (fun a b z h => by
    obtain ⟨q, rfl⟩ := gI_some h
    have h := Bool.and_eq_true_iff.mp q
    have ha := bd_iff h.1
    have hb := bd_iff h.2
    show BinOk _ _ _ (.float (Fx (a - 512 * b)))
    rw [← fx_sub ha.x hb.x (nat2 (Int.natAbs_sub_le a _) ha.n hb.n), ← fx_ofInt hb.x]
    exact (bi_fsubI (small_512 hb) : BinOk .Sub (.float (Fx a)) (.int b) _))
theorem mul_s : BinS .Mult mulV := ff_s (P := BinP .Mult) (fun a b z h => by
    obtain ⟨q, rfl⟩ := gI_some h
    have h := Bool.and_eq_true_iff.mp q
    have e := ieq_iff.mp h.2
    have h := Bool.and_eq_true_iff.mp h.1
    have b0 := nn_iff.mp h.2
    have h := Bool.and_eq_true_iff.mp h.1
    have a0 := nn_iff.mp h.2
    have h := Bool.and_eq_true_iff.mp h.1
    have ha := bd_iff h.1
    have hb := bd_iff h.2
    show BinOk _ _ _ (.float (Fx (a * b / 512)))
    rw [← fx_mul ha.x hb.x ?_ a0 b0 e]
    · exact bi_fmul
    · have q := Nat.mul_le_mul ha.n hb.n
      rw [← Int.natAbs_mul, e, Int.natAbs_mul] at q
      exact Nat.lt_of_le_of_lt (Nat.le_of_mul_le_mul_left (Nat.le_trans q (by decide : _ ≤ (512 : Int).natAbs * 2147483648)) (by decide)) (by decide)) (fun a b z h => by
    obtain ⟨q, rfl⟩ := gI_some h
    have ha := bd_iff q
    exact (bi_mul (small_bd ha) : BinOk .Mult (.int a) (.int b) (.int (a * b)))) (fun _ _ _ h => no_some h)
theorem quo_s {a b : Int} {z : V} (ha : Bd a) (hb : Bd b) (h0 : 0 < b) (h : quo a b = some z) : z.toD = .float (div (Fx a) (Fx b)) ∧ (0 ≤ a → z.toD = .float (Qx a b)) := by
  unfold quo at h
  split at h
  · rename_i e
    have e := (ieq_iff.mp e).symm
    cases Option.some.inj (sI_eq.symm.trans h)
    have hc : (512 * a / b).natAbs < 2 ^ 53 := by
      have q : (512 * a / b).natAbs * b.natAbs = 512 * a.natAbs := by rw [← Int.natAbs_mul, e, Int.natAbs_mul]; rfl
      have q2 : (512 * a / b).natAbs ≤ 512 * a.natAbs := q ▸ Nat.le_mul_of_pos_right _ (by omega)
      exact Nat.lt_of_le_of_lt (Nat.le_trans q2 (Nat.mul_le_mul_left 512 ha.n)) (by decide)
    refine ⟨congrArg D.float (fx_div ha.x hb.x hc h0 e).symm, fun a0 => congrArg D.float ?_⟩
    show Fx _ = _
    rw [fx_gx (Int.ediv_nonneg (Int.mul_nonneg (by decide) a0) (Int.le_of_lt h0))]
    exact gx_eq (by decide) h0 (e.trans (Int.mul_comm _ _))
  · obtain ⟨q, rfl⟩ := gd_some h
    have a0 := nn_iff.mp q
    exact ⟨congrArg D.float (gx_of_div ha.x hb.x a0 h0).symm, fun _ => rfl⟩
theorem ite_none {α : Type} {c : Bool} {x : Option α} {y : α} (h : (if c = true then x else none) = some y) : c = true ∧ x = some y := by
  cases c with
  | true => exact ⟨rfl, h⟩
  | false => cases h
theorem div_s : BinS .Div divV := ff_s (P := BinP .Div) (fun a b z h => by
    obtain ⟨h, e⟩ := ite_none h
    have h := Bool.and_eq_true_iff.mp h
    have b0 := ilt_iff.mp h.2
    have h := Bool.and_eq_true_iff.mp h.1
    have hb := bd_iff h.2
    unfold BinP
    rw [(quo_s (bd_iff h.1) hb b0 e).1]
    exact (bi_fdivF (fx_isZero hb.x (Int.ne_of_gt b0)) : BinOk .Div (.float (Fx a)) (.float (Fx b)) _)) (fun a b z h => by
    obtain ⟨h, e⟩ := ite_none h
    have h := Bool.and_eq_true_iff.mp h
    have b0 := ilt_iff.mp h.2
    have h := Bool.and_eq_true_iff.mp h.1
    have hb := bd_iff h.2
    have h := Bool.and_eq_true_iff.mp h.1
    have a0 := nn_iff.mp h.1
    have ha := bd_iff h.2
    unfold BinP
    rw [(quo_s ha hb b0 e).2 a0]
    have e1 : (decide (a < 0) != decide (b < 0)) = false := by rw [decide_eq_false (Int.not_lt.mpr a0), decide_eq_false (Int.not_lt.mpr (Int.le_of_lt b0))]; rfl
    have q := bi_divII (i := a) (j := b) (Int.ne_of_gt b0)
    rw [e1] at q
    show BinOk .Div (.int a) (.int b) (.float (Qx a b))
    refine @q ?_
    obtain ⟨m, e, h4⟩ := gx_fin a0 ha.u b0
    show isInf (Qx a b) = false
    unfold isInf; rw [h4]) (fun _ _ _ h => no_some h)
noncomputable def modT : Bool := (List.range 76).all fun k => (divmod (Fx (8 * (k : Nat) - 96)) (Fx 512)).2 == Fx ((8 * (k : Nat) - 96) % 512)
theorem modT_ok : modT = true := by kernel_rfl
theorem mod_s : BinS .Mod modV := ff_s (P := BinP .Mod) (fun a b z h => by
    obtain ⟨q, rfl⟩ := gI_some h
    have h := Bool.and_eq_true_iff.mp q
    have h1 := ilt_iff.mp h.2
    have h := Bool.and_eq_true_iff.mp h.1
    have h2 := ile_iff.mp h.2
    have h := Bool.and_eq_true_iff.mp h.1
    have h3 := ieq_iff.mp h.2
    cases ieq_iff.mp h.1
    have q := List.all_eq_true.mp modT_ok (a / 8 + 12).toNat (List.mem_range.mpr (by omega))
    have e : (8 * (((a / 8 + 12).toNat : Nat) : Int) - 96) = a := by omega
    rw [e] at q
    show BinOk _ _ _ (.float (Fx (a % 512)))
    rw [← beq_iff_eq.mp q]
    exact bi_fmod (fx_isZero (by decide) (by decide))) (fun a b z h => by obtain ⟨q, rfl⟩ := gI_some h; exact (bi_mod (ilt_iff.mp q) : BinOk .Mod (.int a) (.int b) (.int (a % b)))) (fun _ _ _ h => no_some h)
theorem fdv_s : BinS .FloorDiv fdvV := ff_s (P := BinP .FloorDiv) (fun _ _ _ h => no_some h) (fun a b z h => by
    obtain ⟨q, rfl⟩ := gI_some h
    have h := Bool.and_eq_true_iff.mp q
    have hb := bd_iff h.2
    exact (bi_fdiv (ilt_iff.mp h.1) (small_bd hb) : BinOk .FloorDiv (.int a) (.int b) (.int (a / b)))) (fun _ _ _ h => no_some h)
/-! comparing -/
noncomputable def CmpP (op : CmpOp) (x y : D) (k : Bool) : Prop := CmpOk op x y k
noncomputable def CmpS (op : CmpOp) (F : V → V → Option Bool) : Prop := ∀ x y k, F x y = some k → CmpP op x.toD y.toD k
noncomputable def yes (c : Bool) : Option Bool := if c = true then some true else none
noncomputable def gq? : V → Option (Int × Int)
  | .gq a b => some (a, b)
  | _ => none
noncomputable def t3? : V → Option (V × V × V)
  | .t3 a b c => some (a, b, c)
  | _ => none
noncomputable def eqf : V → V → Option Bool := ff (fun a b => yes (ieq a b && bd a)) no (fun a b => yes (ieq a (512 * b) && bd a))
noncomputable def eqg (x y : V) : Option Bool := (gq? x).bind fun p => (gq? y).bind fun q => yes (ieq (p.1 * q.2) (q.1 * p.2) && nn p.1 && ile p.1 1048576 && ilt 0 p.2 && ilt 0 q.2)
noncomputable def eqv (x y : V) : Bool := eqf x y == some true || eqg x y == some true
noncomputable def eq3 (x y : V) : Option Bool := (t3? x).bind fun p => (t3? y).bind fun q => yes (eqv p.1 q.1 && eqv p.2.1 q.2.1 && eqv p.2.2 q.2.2)
noncomputable def eqV : V → V → Option Bool := ff (fun a b => if (bd a && bd b) = true then some (ieq a b) else none) (fun a b => some (ieq a b)) no
noncomputable def gtV : V → V → Option Bool := ff no (fun a b => some (ilt b a)) no
noncomputable def leV : V → V → Option Bool := ff (fun a b => if (bd a && bd b) = true then some (ile a b) else none) no no
theorem yes_some {c k : Bool} (h : yes c = some k) : c = true ∧ k = true := let ⟨a, b⟩ := ite_some h; ⟨a, b.symm⟩
theorem eqf_s : ∀ x y k, eqf x y = some k → EqOk 7 x.toD y.toD true := ff_s (P := fun x y _ => EqOk 7 x y true) (fun a b z h => by
    have h := Bool.and_eq_true_iff.mp (yes_some h).1
    cases ieq_iff.mp h.1
    have ha := bd_iff h.2
    exact eq_flt (by rw [fx_cmp ha.x ha.x, beq_cmp_eq, decide_eq_true rfl])) (fun _ _ _ h => no_some h) (fun a b z h => by
    have h := Bool.and_eq_true_iff.mp (yes_some h).1
    have q : EqOk 7 (.float (Fx a)) (.int b) _ := eq_fi
    rwa [fx_cmpInt (bd_iff h.2).x, beq_cmp_eq, decide_eq_true (ieq_iff.mp h.1)] at q)
theorem gq_some {x : V} {p : Int × Int} (h : gq? x = some p) : x = .gq p.1 p.2 := by
  cases x with
  | gq a b => cases Option.some.inj h; rfl
  | _ => cases h
theorem t3_some {x : V} {p : V × V × V} (h : t3? x = some p) : x = .t3 p.1 p.2.1 p.2.2 := by
  cases x with
  | t3 a b c => cases Option.some.inj h; rfl
  | _ => cases h
theorem eqg_s {x y : V} {k : Bool} (h : eqg x y = some k) : EqOk 7 x.toD y.toD true := by
  obtain ⟨p, h1, h⟩ := Option.bind_eq_some_iff.mp h
  obtain ⟨q, h2, h⟩ := Option.bind_eq_some_iff.mp h
  rw [gq_some h1, gq_some h2]
  have h := Bool.and_eq_true_iff.mp (yes_some h).1
  have d0 := ilt_iff.mp h.2
  have h := Bool.and_eq_true_iff.mp h.1
  have b0 := ilt_iff.mp h.2
  have h := Bool.and_eq_true_iff.mp h.1
  have au := ile_iff.mp h.2
  have h := Bool.and_eq_true_iff.mp h.1
  have a0 := nn_iff.mp h.2
  show EqOk 7 (.float (Qx p.1 p.2)) (.float (Qx q.1 q.2)) true
  rw [← gx_eq b0 d0 (ieq_iff.mp h.1)]
  obtain ⟨m, e, h4⟩ := gx_fin a0 au b0
  exact eq_flt (by rw [cmp_right h4 h4, beq_cmp_eq]; simp)
theorem eqv_s {x y : V} (h : eqv x y = true) : EqOk 7 x.toD y.toD true := (Bool.or_eq_true_iff.mp h).elim (fun h => eqf_s _ _ _ (beq_iff_eq.mp h)) fun h => eqg_s (beq_iff_eq.mp h)
theorem eq_s : CmpS .Eq eqV := ff_s (P := CmpP .Eq) (fun a b z h => by
    obtain ⟨q, rfl⟩ := ite_some h
    have h := Bool.and_eq_true_iff.mp q
    have q : CmpOk .Eq (V.fl a).toD (V.fl b).toD _ := cm_eqF
    rwa [fx_cmp (bd_iff h.1).x (bd_iff h.2).x, beq_cmp_eq, ← ieq_dec] at q) (fun a b z h => by cases Option.some.inj h; rw [ieq_dec]; exact (cm_eqI : CmpOk .Eq (.int a) (.int b) _)) (fun _ _ _ h => no_some h)
theorem gt_s : CmpS .Gt gtV := ff_s (P := CmpP .Gt) (fun _ _ _ h => no_some h) (fun a b z h => by cases Option.some.inj h; rw [ilt_dec]; exact (cm_gtI : CmpOk .Gt (.int a) (.int b) _)) (fun _ _ _ h => no_some h)
theorem le_s : CmpS .LtE leV := ff_s (P := CmpP .LtE) (fun a b z h => by
    obtain ⟨q, rfl⟩ := ite_some h
    have h := Bool.and_eq_true_iff.mp q
    have q : CmpOk .LtE (V.fl a).toD (V.fl b).toD _ := cm_leF
    rw [fx_cmp (bd_iff h.1).x (bd_iff h.2).x, beq_cmp_eq, beq_cmp_lt, ← ieq_dec, ← ilt_dec] at q
    have e : (ilt a b || ieq a b) = ile a b := by rw [Bool.eq_iff_iff, Bool.or_eq_true, ilt_iff, ieq_iff, ile_iff]; omega
    rw [e] at q
    exact @q) (fun _ _ _ h => no_some h) (fun _ _ _ h => no_some h)
theorem eq3_s : CmpS .Eq eq3 := fun x y k h => by
  obtain ⟨p, h1, h⟩ := Option.bind_eq_some_iff.mp h
  obtain ⟨q, h2, h⟩ := Option.bind_eq_some_iff.mp h
  rw [t3_some h1, t3_some h2]
  obtain ⟨w, rfl⟩ := yes_some h
  have h := Bool.and_eq_true_iff.mp w
  have h3 := eqv_s h.2
  have h := Bool.and_eq_true_iff.mp h.1
  exact (cm_eq (eq_tuple (.cons (eqv_s h.1) (.cons (eqv_s h.2) (.cons h3 .nil)))) : CmpOk .Eq (.tuple [p.1.toD, p.2.1.toD, p.2.2.toD]) (.tuple [q.1.toD, q.2.1.toD, q.2.2.toD]) true)
end
noncomputable section
open PyProof.Rows
variable {n m : Nat} {ns : List (Str × NameKind)} {xs xs' xs'' : List Str} {x f : Str} {e l r t : Expr} {p q np : Pos} {a b c d ca cb cc : List V → Option V} {ct : List V → Option Bool} {body rest ob : List Stmt} {F : V → V → Option V} {K : V → V → Option Bool} {op : Operator} {co : CmpOp}
noncomputable def zipV : List Str → List V → List (Str × D)
  | x :: xs, v :: vs => (x, v.toD) :: zipV xs vs
  | _, _ => []
noncomputable def σC (ns : List (Str × NameKind)) (xs : List Str) (vs : List V) : St := ⟨ns, zipV xs vs, none⟩
theorem zipV_fst : ∀ {xs : List Str} {vs : List V}, vs.length = xs.length → (zipV xs vs).map (·.1) = xs
  | [], [], _ => rfl
  | _ :: _, _ :: _, h => congrArg (_ :: ·) (zipV_fst (Nat.succ.inj h))
theorem zipV_nth : ∀ {xs : List Str} {vs : List V} {k : Nat} {v : V}, vs.length = xs.length → nth vs k = some v → ∃ y, nth (zipV xs vs) k = some (y, v.toD)
  | [], [], _, _, _, h => nomatch h
  | x :: _, _ :: _, 0, _, _, h => ⟨x, congrArg some (congrArg _ (congrArg V.toD (Option.some.inj h)))⟩
  | _ :: _, _ :: _, k + 1, _, h1, h => zipV_nth (k := k) (Nat.succ.inj h1) h
/-- an expression's code: what it is, where the code tells it -/
noncomputable def EvC (n : Nat) (ns : List (Str × NameKind)) (xs : List Str) (e : Expr) (c : List V → Option V) : Prop := ∀ vs v, vs.length = xs.length → c vs = some v → Ev n (σC ns xs vs) e v.toD
noncomputable def TrC (n : Nat) (ns : List (Str × NameKind)) (xs : List Str) (e : Expr) (c : List V → Option Bool) : Prop := ∀ vs v, vs.length = xs.length → c vs = some v → Tr n (σC ns xs vs) e v
noncomputable def bin {α : Type} (F : V → V → Option α) (a b : List V → Option V) (vs : List V) : Option α := (a vs).bind fun x => (b vs).bind fun y => F x y
structure BinI {α : Type} (F : V → V → Option α) (a b : List V → Option V) (vs : List V) (z : α) (x y : V) : Prop where
  a : a vs = some x
  b : b vs = some y
  f : F x y = some z
theorem bin_some {α : Type} {F : V → V → Option α} {vs : List V} {z : α} (h : bin F a b vs = some z) : ∃ x y, BinI F a b vs z x y := let ⟨x, h1, h⟩ := Option.bind_eq_some_iff.mp h; let ⟨y, h2, h⟩ := Option.bind_eq_some_iff.mp h; ⟨x, y, h1, h2, h⟩
noncomputable def varC (k : Nat) (vs : List V) : Option V := nth vs k
theorem vc_var (k : Nat) (h : chkC ns xs x k = true) : EvC n ns xs (.Name x p) (varC k) := fun vs v hl hv => by
  obtain ⟨y, e⟩ := zipV_nth hl hv
  refine ev_var k e ?_
  show (plainName x && isVarKind (ns.lookup x) && (((zipV xs vs).map (·.1)).findIdx? (x == ·) == some k) && true) = true
  rw [zipV_fst hl, Bool.and_true]; exact h
theorem vc_bin (hF : BinS op F) (h1 : EvC n ns xs l a) (h2 : EvC n ns xs r b) : EvC n ns xs (.BinOp l op r p) (bin F a b) := fun vs v hl h => let ⟨_, _, i⟩ := bin_some h; ev_bin (pkEv (h1 vs _ hl i.a)) (pkEv (h2 vs _ hl i.b)) (hF _ _ _ i.f)
theorem tc_cmp (hs : behindInMarks co r = false) (hF : CmpS co K) (h1 : EvC n ns xs l a) (h2 : EvC n ns xs r b) : TrC n ns xs (.Compare l [co] [r] p) (bin K a b) := fun vs v hl h => let ⟨_, _, i⟩ := bin_some h; tr_cmp hs (pkEv (h1 vs _ hl i.a)) (pkEv (h2 vs _ hl i.b)) (hF _ _ _ i.f)
noncomputable def boolC (ct : List V → Option Bool) (vs : List V) : Option V := (ct vs).map .bl
theorem vc_cmp (hs : behindInMarks co r = false) (hF : CmpS co K) (h1 : EvC n ns xs l a) (h2 : EvC n ns xs r b) : EvC n ns xs (.Compare l [co] [r] p) (boolC (bin K a b)) := fun vs v hl h => by
  obtain ⟨k, h', rfl⟩ := Option.map_eq_some_iff.mp h
  obtain ⟨_, _, i⟩ := bin_some h'
  exact ev_cmp hs (pkEv (h1 vs _ hl i.a)) (pkEv (h2 vs _ hl i.b)) (hF _ _ _ i.f)
noncomputable def intC (i : Int) (_ : List V) : Option V := some (.it i)
noncomputable def fltC (i : Int) (_ : List V) : Option V := some (.fl i)
theorem vc_int {i : Int} {z} : EvC n ns xs (.Constant (.int i) z p) (intC i) := fun _ _ _ h => Option.some.inj h ▸ ev_int
theorem vc_flt {w : UInt64} {i : Int} {z} (hw : w = Fx i) : EvC n ns xs (.Constant (.float w) z p) (fltC i) := fun _ _ _ h => Option.some.inj h ▸ hw ▸ ev_flt
noncomputable def iteC {α : Type} (ct : List V → Option Bool) (a b : List V → Option α) (vs : List V) : Option α := (ct vs).bind fun k => bif k then a vs else b vs
theorem ite_inv {α : Type} {a b : List V → Option α} {vs : List V} {z : α} (h : iteC ct a b vs = some z) : ∃ k, ct vs = some k ∧ (k = true → a vs = some z) ∧ (k = false → b vs = some z) := by
  obtain ⟨k, h1, h⟩ := Option.bind_eq_some_iff.mp h
  cases k
  · exact ⟨_, h1, nofun, fun _ => h⟩
  · exact ⟨_, h1, fun _ => h, nofun⟩
theorem vc_if (h1 : TrC n ns xs t ct) (h2 : EvC n ns xs l a) (h3 : EvC n ns xs r b) : EvC n ns xs (.IfExp t l r p) (iteC ct a b) := fun vs v hl h => let ⟨_, i, j, k⟩ := ite_inv h; ev_if (h1 vs _ hl i) (fun q => h2 vs v hl (j q)) fun q => h3 vs v hl (k q)
/-- lists of codes -/
noncomputable def EvsC (n : Nat) (ns : List (Str × NameKind)) (xs : List Str) (as : List Expr) (c : List V → Option (List V)) : Prop := ∀ vs v, vs.length = xs.length → c vs = some v → EvAll n (σC ns xs vs) as (v.map V.toD)
noncomputable def nilC (_ : List V) : Option (List V) := some []
noncomputable def consC (a : List V → Option V) (c : List V → Option (List V)) (vs : List V) : Option (List V) := (a vs).bind fun x => (c vs).map (x :: ·)
theorem vs_nil : EvsC n ns xs [] nilC := fun _ _ _ h => Option.some.inj h ▸ ea_nil
theorem vs_cons {as : List Expr} {cl : List V → Option (List V)} (h1 : EvC n ns xs e a) (h2 : EvsC n ns xs as cl) : EvsC n ns xs (e :: as) (consC a cl) := fun vs v hl h => by
  obtain ⟨x, i, h⟩ := Option.bind_eq_some_iff.mp h
  obtain ⟨w, j, rfl⟩ := Option.map_eq_some_iff.mp h
  exact ea_cons (h1 vs x hl i) (h2 vs w hl j)
theorem repTs {G : Gx} {W : Addr → Prop} {h : Heap} : ∀ {ds : List D} {vs : List Value}, Reps G W h vs ds → RepTs G W h vs ds
  | [], _, r => r
  | _ :: _, _, ⟨v, w, e, r, r'⟩ => ⟨v, w, e, .of r, repTs r'⟩
theorem paOf {σ : St} {as : List Expr} {ds : List D} (h : EvAll n σ as ds) : PkAll n σ as ds := ⟨fun hA S => (h.ok hA S).mono fun _ _ q => ⟨q.1, repTs q.2⟩⟩
noncomputable def tupV : List V → Option V
  | [a, b] => some (.t2 a b)
  | [a, b, c] => some (.t3 a b c)
  | _ => none
noncomputable def onC (g : List V → Option V) (cl : List V → Option (List V)) (vs : List V) : Option V := (cl vs).bind g
theorem tup_s {ds : List V} {v : V} (h : tupV ds = some v) : v.toD = .tuple (ds.map V.toD) ∧ ds.length ≤ 3 := by
  match ds, h with
  | [a, b], h => cases Option.some.inj h; exact ⟨rfl, Nat.le_succ 2⟩
  | [a, b, c], h => cases Option.some.inj h; exact ⟨rfl, Nat.le_refl _⟩
theorem vc_tup {as : List Expr} {z} {cl : List V → Option (List V)} (ht : ∀ env, backTo p (starEach as env) = tsOf as env) (h : EvsC n ns xs as cl) : EvC n ns xs (.Tuple as z p) (onC tupV cl) := fun vs v hl h' => by
  obtain ⟨ds, h1, h2⟩ := Option.bind_eq_some_iff.mp h'
  obtain ⟨e, e2⟩ := tup_s h2
  rw [e]
  exact ev_tuple ht (by rw [List.length_map]; exact Nat.le_trans e2 (by decide)) (h vs ds hl h1)
noncomputable def gOk (ns : List (Str × NameKind)) (x : Str) : Bool := plainName x && ns.lookup x == some .globalImplicit
noncomputable def BltS (f : Value) (g : List V → Option V) : Prop := ∀ ds v, g ds = some v → BltOk f (ds.map V.toD) v.toD
theorem vc_blt {as : List Expr} {fv : Value} {g : List V → Option V} {cl : List V → Option (List V)} (hb : bltT.lookup f = some fv) (hg : gOk ns f = true) (hG : BltS fv g) (ht : ∀ env, backTo p (starEach as env) = tsOf as env) (h : EvsC n ns xs as cl) :
    EvC n ns xs (.Call (.Name f q) as [] p) (onC g cl) := fun vs v hl h' => let ⟨ds, h1, h2⟩ := Option.bind_eq_some_iff.mp h'; ev_blt (σ := σC ns xs vs) hg hb ht (paOf (h vs ds hl h1)) (hG ds v h2)
/-- a function's code -/
noncomputable def FnC (n : Nat) (f : Str) (g : List V → Option V) : Prop := (∃ i, fns f = some i) ∧ ∀ ds v, g ds = some v → Call n f (ds.map V.toD) v.toD
theorem vc_call {as : List Expr} {g : List V → Option V} {cl : List V → Option (List V)} (hG : FnC n f g) (hg : gOk ns f = true) (ht : ∀ env, backTo p (starEach as env) = tsOf as env) (h : EvsC n ns xs as cl) :
    EvC n ns xs (.Call (.Name f q) as [] p) (onC g cl) := fun vs v hl h' => let ⟨ds, h1, h2⟩ := Option.bind_eq_some_iff.mp h'; ev_call (σ := σC ns xs vs) hg ht (h vs ds hl h1) (hG.2 ds v h2)
noncomputable def at0 : V → Option V
  | .t3 a _ _ => some a
  | _ => none
theorem vc_at0 {z} (h1 : EvC n ns xs l a) : EvC n ns xs (.Subscript l (.Constant (.int 0) z q) p) (fun vs => (a vs).bind at0) := fun vs v hl h => by
  obtain ⟨x, h2, h⟩ := Option.bind_eq_some_iff.mp h
  have e : ∃ y w, x = .t3 v y w := by
    cases x with
    | t3 a b c => exact Option.some.inj h ▸ ⟨b, c, rfl⟩
    | _ => cases h
  obtain ⟨y, w, rfl⟩ := e
  intro G A W O env s hA S
  refine ev_item (n := n) (σ := σC ns xs vs) (a := .tuple [v.toD, y.toD, w.toD]) (k := .int 0) (d := v.toD) (w := l) (i := .Constant (.int 0) z q) (p := p) ?_ ?_ ?_ hA S
  · exact pkEv (h1 vs _ hl h2)
  · exact ev_int
  · exact (im_tuple (l := [v.toD, y.toD, w.toD]) (k := 0) (j := 0) rfl (Nat.le_of_ble_eq_true rfl : 3 ≤ 1048576) rfl)
/-! statements -/
noncomputable def XsC (n : Nat) (ns : List (Str × NameKind)) (xs : List Str) (body : List Stmt) (c : List V → Option V) : Prop := ∀ vs v, vs.length = xs.length → c vs = some v → Exs n (σC ns xs vs) body (.ret v.toD)
noncomputable def NxC (n : Nat) (ns : List (Str × NameKind)) (xs : List Str) (body : List Stmt) (xs' : List Str) (c : List V → Option (List V)) : Prop := ∀ vs vs', vs.length = xs.length → c vs = some vs' → vs'.length = xs'.length ∧ Exs n (σC ns xs vs) body (.next (σC ns xs' vs'))
noncomputable def letC {α : Type} (a : List V → Option V) (c : List V → Option α) (vs : List V) : Option α := (a vs).bind fun v => c (v :: vs)
theorem xc_asg (hs : ∀ env, swapsWith e (some (.Name x np)) p.line env = pure false) (hx : storeK (ns.lookup x) = true) (h1 : EvC n ns xs e a) (h2 : XsC n ns (x :: xs) rest b) : XsC n ns xs (.Assign [.Name x np] e p :: rest) (letC a b) := fun vs v hl h =>
  let ⟨w, i, j⟩ := Option.bind_eq_some_iff.mp h; xs_cons (ex_asg (σ := σC ns xs vs) hs hx (h1 vs w hl i)) (h2 (w :: vs) v (congrArg (· + 1) hl) j)
theorem xc_ret (h1 : EvC n ns xs e a) : XsC n ns xs (.Return (some e) p :: rest) a := fun vs v hl h => xs_ret (ex_ret (h1 vs v hl h))
theorem xc_ifret (h1 : TrC n ns xs t ct) (h2 : XsC n ns xs body a) (h3 : XsC n ns xs rest b) : XsC n ns xs (.If t body [] p :: rest) (iteC ct a b) := fun vs v hl h => by
  obtain ⟨k, i, j, w⟩ := ite_inv h
  cases k with
  | true => exact xs_ret (ex_if (h1 vs _ hl i) (fun _ => h2 vs v hl (j rfl)) nofun)
  | false => exact xs_cons (ex_if (h1 vs _ hl i) nofun fun _ => xs_nil) (h3 vs v hl (w rfl))
noncomputable def failC (_ : List V) : Option V := none
theorem xc_fail : XsC n ns xs [] failC := fun _ _ _ h => nomatch h
theorem nc_asg (hs : ∀ env, swapsWith e (some (.Name x np)) p.line env = pure false) (hx : storeK (ns.lookup x) = true) (h1 : EvC n ns xs e a) : NxC n ns xs [.Assign [.Name x np] e p] (x :: xs) (fun vs => (a vs).map (· :: vs)) := fun vs vs' hl h => by
  obtain ⟨w, i, rfl⟩ := Option.map_eq_some_iff.mp h
  exact ⟨congrArg (· + 1) hl, xs_cons (ex_asg (σ := σC ns xs vs) hs hx (h1 vs w hl i)) xs_nil⟩
theorem nc_if {ca cb : List V → Option (List V)} (h1 : TrC n ns xs t ct) (h2 : NxC n ns xs body xs' ca) (h3 : NxC n ns xs ob xs' cb) : NxC n ns xs [.If t body ob p] xs' (iteC ct ca cb) := fun vs vs' hl h => by
  obtain ⟨k, i, j, w⟩ := ite_inv h
  cases k with
  | true => exact ⟨(h2 vs vs' hl (j rfl)).1, xs_cons (ex_if (h1 vs _ hl i) (fun _ => (h2 vs vs' hl (j rfl)).2) nofun) xs_nil⟩
  | false => exact ⟨(h3 vs vs' hl (w rfl)).1, xs_cons (ex_if (h1 vs _ hl i) nofun fun _ => (h3 vs vs' hl (w rfl)).2) xs_nil⟩
theorem xc_if {ca cb : List V → Option (List V)} (h1 : TrC n ns xs t ct) (h2 : NxC n ns xs body xs' ca) (h3 : NxC n ns xs ob xs' cb) (h4 : XsC n ns xs' rest d) : XsC n ns xs (.If t body ob p :: rest) (onC d (iteC ct ca cb)) := fun vs v hl h => by
  obtain ⟨vs', h, g⟩ := Option.bind_eq_some_iff.mp h
  obtain ⟨k, i, j, w⟩ := ite_inv h
  cases k with
  | true => exact xs_cons (ex_if (h1 vs _ hl i) (fun _ => (h2 vs vs' hl (j rfl)).2) nofun) (h4 vs' v (h2 vs vs' hl (j rfl)).1 g)
  | false => exact xs_cons (ex_if (h1 vs _ hl i) nofun fun _ => (h3 vs vs' hl (w rfl)).2) (h4 vs' v (h3 vs vs' hl (w rfl)).1 g)
noncomputable def t3L : V → Option (List V)
  | .t3 a b c => some [c, b, a]
  | _ => none
theorem xc_tup3 {x1 x2 x3 : Str} {p1 p2 p3 tp : Pos} {z} (hsole : ∀ env, swapsWithSole [.Tuple [.Name x1 p1, .Name x2 p2, .Name x3 p3] z tp] e p.line env = pure false) (hw : ∀ env, swappedStores [.Tuple [.Name x1 p1, .Name x2 p2, .Name x3 p3] z tp] e env = pure none)
    (hx : (storeK (ns.lookup x1) && storeK (ns.lookup x2) && storeK (ns.lookup x3)) = true) (h1 : EvC n ns xs e a) (h2 : XsC n ns (x3 :: x2 :: x1 :: xs) rest b) : XsC n ns xs (.Assign [.Tuple [.Name x1 p1, .Name x2 p2, .Name x3 p3] z tp] e p :: rest) (fun vs => ((a vs).bind t3L).bind fun l => b (l ++ vs)) := fun vs v hl h => by
  obtain ⟨l, h, g⟩ := Option.bind_eq_some_iff.mp h
  obtain ⟨w, h3, h⟩ := Option.bind_eq_some_iff.mp h
  have e' : ∃ u1 u2 u3, w = .t3 u1 u2 u3 ∧ l = [u3, u2, u1] := by
    cases w with
    | t3 a b c => exact ⟨a, b, c, rfl, (Option.some.inj h).symm⟩
    | _ => cases h
  obtain ⟨u1, u2, u3, rfl, rfl⟩ := e'
  obtain ⟨hx, hx3⟩ := Bool.and_eq_true_iff.mp hx
  obtain ⟨hx1, hx2⟩ := Bool.and_eq_true_iff.mp hx
  have q1 : Ex n (σC ns xs vs) (.Assign [.Tuple [.Name x1 p1, .Name x2 p2, .Name x3 p3] z tp] e p) (.next (σC ns (x3 :: x2 :: x1 :: xs) (u3 :: u2 :: u1 :: vs))) := ex_tup (σ := σC ns xs vs) (ds := [u1.toD, u2.toD, u3.toD]) hsole hw (h1 vs _ hl h3) (.cons hx1 (.cons hx2 (.cons hx3 .nil)))
  have q2 : Exs n (σC ns (x3 :: x2 :: x1 :: xs) (u3 :: u2 :: u1 :: vs)) rest (.ret v.toD) := h2 (u3 :: u2 :: u1 :: vs) v (congrArg (· + 3) hl) g
  intro G A W O env s hA S
  refine xs_cons (n := n) (σ := σC ns xs vs) (σ₁ := (σC ns (x3 :: x2 :: x1 :: xs) (u3 :: u2 :: u1 :: vs))) (st := .Assign [.Tuple [.Name x1 p1, .Name x2 p2, .Name x3 p3] z tp] e p) (r := rest) (f := .ret v.toD) ?_ ?_ hA S
  · exact q1
  · exact q2
noncomputable def lenC (k : Nat) (c : List V → Option V) (vs : List V) : Option V := bif Nat.beq vs.length k then c vs else none
theorem zipV_map : ∀ {xs : List Str} {vs : List V}, zipV xs vs = xs.zip (vs.map V.toD)
  | [], _ => rfl
  | _ :: _, [] => rfl
  | _ :: _, _ :: _ => congrArg (_ :: ·) zipV_map
theorem fn_code {fn : Fn} (hf : fns f = some fn) (hok : fnOk fn = true) (hbt : BindsTo fn) (h : XsC n fn.scope.names (fn.params.args.map (·.arg)) fn.body c) : FnC (n + 1) f (lenC fn.params.args.length c) := ⟨⟨fn, hf⟩, fun vs v hv => by
  unfold lenC at hv
  cases hl : Nat.beq vs.length fn.params.args.length with
  | false => rw [hl] at hv; cases hv
  | true =>
    rw [hl] at hv
    have hl := Nat.eq_of_beq_eq_true hl
    refine call_ok hf hok hbt (by rw [List.length_map, hl]) ?_
    have q : Exs n (σC fn.scope.names (fn.params.args.map (·.arg)) vs) fn.body (.ret v.toD) := h vs v (by rw [hl, List.length_map]) hv
    unfold σC at q
    rw [zipV_map] at q
    exact @q⟩
end
noncomputable section
open PyProof.Rows PySem.Float64
noncomputable def mx3 (a b c : Int) : Int := bif ilt (bif ilt a b then b else a) c then c else (bif ilt a b then b else a)
noncomputable def mn3 (a b c : Int) : Int := bif ilt c (bif ilt b a then b else a) then c else (bif ilt b a then b else a)
theorem gtF_fx {a b : Int} (ha : Bd a) (hb : Bd b) : gtF (Fx a) (Fx b) = ilt b a := by unfold gtF; rw [fx_cmp ha.x hb.x, beq_cmp_gt, ilt_dec]
theorem ltF_fx {a b : Int} (ha : Bd a) (hb : Bd b) : ltF (Fx a) (Fx b) = ilt a b := by unfold ltF; rw [fx_cmp ha.x hb.x, beq_cmp_lt, ilt_dec]
noncomputable def l3 (k : Int → Int → Int → Int) : List V → Option V
  | [.fl a, .fl b, .fl c] => gI (bd a && bd b && bd c) (k a b c) .fl
  | _ => none
noncomputable def l2 (k : Int → Int → Int) : List V → Option V
  | [.it a, .it b] => sI (k a b) .it
  | _ => none
structure L3 (ds : List V) (v : V) (k : Int → Int → Int → Int) (a b c : Int) : Prop where
  e : ds = [.fl a, .fl b, .fl c]
  ha : Bd a
  hb : Bd b
  hc : Bd c
  v : v = .fl (k a b c)
theorem l3_some {k : Int → Int → Int → Int} {ds : List V} {v : V} (h : l3 k ds = some v) : ∃ a b c, L3 ds v k a b c := by
  match ds, h with
  | [.fl a, .fl b, .fl c], h =>
    obtain ⟨w, q⟩ := gI_some h
    have w := Bool.and_eq_true_iff.mp w
    have w' := Bool.and_eq_true_iff.mp w.1
    exact ⟨a, b, c, rfl, bd_iff w'.1, bd_iff w'.2, bd_iff w.2, q.symm⟩
theorem bifx {c : Bool} {a b : Int} : (if c = true then Fx a else Fx b) = Fx (bif c then a else b) := by cases c <;> rfl
theorem bif_bd {c : Bool} {a b : Int} (ha : Bd a) (hb : Bd b) : Bd (bif c then a else b) := by cases c <;> assumption
theorem max3_s : BltS (.builtin "max") (l3 mx3) := fun ds v h => by
  obtain ⟨a, b, c, q⟩ := l3_some h
  rw [q.e, q.v]
  have e : best3 gtF (Fx a) (Fx b) (Fx c) = Fx (mx3 a b c) := by
    unfold best3 mx3
    rw [gtF_fx q.hb q.ha, bifx, gtF_fx q.hc (bif_bd q.hb q.ha), bifx]
  show BltOk _ [.float (Fx a), .float (Fx b), .float (Fx c)] (.float (Fx (mx3 a b c)))
  exact e ▸ bl_max3
theorem min3_s : BltS (.builtin "min") (l3 mn3) := fun ds v h => by
  obtain ⟨a, b, c, q⟩ := l3_some h
  rw [q.e, q.v]
  have e : best3 ltF (Fx a) (Fx b) (Fx c) = Fx (mn3 a b c) := by
    unfold best3 mn3
    rw [ltF_fx q.hb q.ha, bifx, ltF_fx q.hc (bif_bd q.hb q.ha), bifx]
  show BltOk _ [.float (Fx a), .float (Fx b), .float (Fx c)] (.float (Fx (mn3 a b c)))
  exact e ▸ bl_min3
theorem l2_some {k : Int → Int → Int} {ds : List V} {v : V} (h : l2 k ds = some v) : ∃ a b, ds = [.it a, .it b] ∧ v = .it (k a b) := by
  match ds, h with
  | [.it a, .it b], h => exact ⟨a, b, rfl, (Option.some.inj (sI_eq.symm.trans h)).symm⟩
noncomputable def mx2 (a b : Int) : Int := if a < b then b else a
noncomputable def mn2 (a b : Int) : Int := if b < a then b else a
theorem max2_s : BltS (.builtin "max") (l2 mx2) := fun ds v h => by
  obtain ⟨a, b, rfl, rfl⟩ := l2_some h
  exact @bl_max2 a b
theorem min2_s : BltS (.builtin "min") (l2 mn2) := fun ds v h => by
  obtain ⟨a, b, rfl, rfl⟩ := l2_some h
  exact @bl_min2 a b
noncomputable def intV : List V → Option V
  | [.fl a] => gI (ieq (48 * (a / 48)) a && nn a && ile a 9168) (a / 512) .it
  | _ => none
noncomputable def intOf (x : UInt64) : Option Int := match decode x with
  | .fin s m e => some (truncOf s m e)
  | _ => none
noncomputable def intT : Bool := (List.range 192).all fun k => intOf (Fx (48 * (k : Nat))) == some ((48 * (k : Nat) : Int) / 512)
theorem intT_ok : intT = true := by kernel_rfl
theorem int_s : BltS (.type "int") intV := fun ds v h => by
  match ds, h with
  | [.fl a], h =>
    obtain ⟨w, rfl⟩ := gI_some h
    have w := Bool.and_eq_true_iff.mp w
    have h1 := ile_iff.mp w.2
    have w := Bool.and_eq_true_iff.mp w.1
    have h2 := nn_iff.mp w.2
    have h3 := ieq_iff.mp w.1
    have q := List.all_eq_true.mp intT_ok (a / 48).toNat (List.mem_range.mpr (by omega))
    rw [show (48 * (((a / 48).toNat : Nat) : Int)) = a by omega, beq_iff_eq] at q
    show BltOk _ [.float (Fx a)] (.int (a / 512))
    unfold intOf at q
    cases e : decode (Fx a) with
    | fin s m x =>
      rw [e] at q
      have q : truncOf s m x = a / 512 := Option.some.inj q
      rw [← q]
      exact @bl_int (Fx a) s m x e
    | _ => rw [e] at q; cases q
variable {n : Nat} {ns : List (Str × NameKind)} {xs : List Str} {p q : Pos} {as : List Expr} {e e' e'' : Expr} {cl : List V → Option (List V)}
theorem vc_max3 (hg : gOk ns "max" = true) (ht : ∀ env, backTo p (starEach [e, e', e''] env) = tsOf [e, e', e''] env) (h : EvsC n ns xs [e, e', e''] cl) : EvC n ns xs (.Call (.Name "max" q) [e, e', e''] [] p) (onC (l3 mx3) cl) := vc_blt (fv := .builtin "max") (by kernel_rfl) hg max3_s ht h
theorem vc_min3 (hg : gOk ns "min" = true) (ht : ∀ env, backTo p (starEach [e, e', e''] env) = tsOf [e, e', e''] env) (h : EvsC n ns xs [e, e', e''] cl) : EvC n ns xs (.Call (.Name "min" q) [e, e', e''] [] p) (onC (l3 mn3) cl) := vc_blt (fv := .builtin "min") (by kernel_rfl) hg min3_s ht h
theorem vc_max2 (hg : gOk ns "max" = true) (ht : ∀ env, backTo p (starEach [e, e'] env) = tsOf [e, e'] env) (h : EvsC n ns xs [e, e'] cl) : EvC n ns xs (.Call (.Name "max" q) [e, e'] [] p) (onC (l2 mx2) cl) := vc_blt (fv := .builtin "max") (by kernel_rfl) hg max2_s ht h
theorem vc_min2 (hg : gOk ns "min" = true) (ht : ∀ env, backTo p (starEach [e, e'] env) = tsOf [e, e'] env) (h : EvsC n ns xs [e, e'] cl) : EvC n ns xs (.Call (.Name "min" q) [e, e'] [] p) (onC (l2 mn2) cl) := vc_blt (fv := .builtin "min") (by kernel_rfl) hg min2_s ht h
theorem vc_toint (hg : gOk ns "int" = true) (ht : ∀ env, backTo p (starEach as env) = tsOf as env) (h : EvsC n ns xs as cl) : EvC n ns xs (.Call (.Name "int" q) as [] p) (onC intV cl) := vc_blt (fv := .type "int") (by kernel_rfl) hg int_s ht h
end
local macro_rules | `(tactic| kspl_open cflt) => `(tactic| first
  | exact (by decide +kernel : (0x0000000000000000 : UInt64) = Fx 0) | exact (by decide +kernel : (0x3fe0000000000000 : UInt64) = Fx 256) | exact (by decide +kernel : (0x3ff0000000000000 : UInt64) = Fx 512)
  | exact (by decide +kernel : (0x4000000000000000 : UInt64) = Fx 1024) | exact (by decide +kernel : (0x4010000000000000 : UInt64) = Fx 2048) | exact (by decide +kernel : (0x4018000000000000 : UInt64) = Fx 3072))
local macro_rules | `(tactic| kspl_open cvar) => `(tactic| first
  | ((with_reducible refine' vc_var 0 ?h); decide +kernel) | ((with_reducible refine' vc_var 1 ?h); decide +kernel) | ((with_reducible refine' vc_var 2 ?h); decide +kernel) | ((with_reducible refine' vc_var 3 ?h); decide +kernel) | ((with_reducible refine' vc_var 4 ?h); decide +kernel)
  | ((with_reducible refine' vc_var 5 ?h); decide +kernel) | ((with_reducible refine' vc_var 6 ?h); decide +kernel) | ((with_reducible refine' vc_var 7 ?h); decide +kernel) | ((with_reducible refine' vc_var 8 ?h); decide +kernel) | ((with_reducible refine' vc_var 9 ?h); decide +kernel)
  | ((with_reducible refine' vc_var 10 ?h); decide +kernel) | ((with_reducible refine' vc_var 11 ?h); decide +kernel) | ((with_reducible refine' vc_var 12 ?h); decide +kernel) | ((with_reducible refine' vc_var 13 ?h); decide +kernel))
local macro_rules | `(tactic| kspl_open cev) => `(tactic| first
  | with_reducible exact vc_int
  | ((with_reducible refine' vc_flt ?hw); (case hw => kspl_open cflt))
  | kspl_open cvar
  | ((with_reducible refine' vc_bin add_s ?h1 ?h2); (case h1 => kspl_open cev); (case h2 => kspl_open cev))
  | ((with_reducible refine' vc_bin sub_s ?h1 ?h2); (case h1 => kspl_open cev); (case h2 => kspl_open cev))
  | ((with_reducible refine' vc_bin mul_s ?h1 ?h2); (case h1 => kspl_open cev); (case h2 => kspl_open cev))
  | ((with_reducible refine' vc_bin div_s ?h1 ?h2); (case h1 => kspl_open cev); (case h2 => kspl_open cev))
  | ((with_reducible refine' vc_bin mod_s ?h1 ?h2); (case h1 => kspl_open cev); (case h2 => kspl_open cev))
  | ((with_reducible refine' vc_bin fdv_s ?h1 ?h2); (case h1 => kspl_open cev); (case h2 => kspl_open cev))
  | ((with_reducible refine' vc_if ?h1 ?h2 ?h3); (case h1 => kspl_open ctr); (case h2 => kspl_open cev); (case h3 => kspl_open cev))
  | ((with_reducible refine' vc_tup ?h1 ?h2); (case h1 => exact fun _ => rfl); (case h2 => kspl_open cvs))
  | ((with_reducible refine' vc_at0 ?h1); (case h1 => kspl_open cev))
  | ((with_reducible refine' vc_cmp ?h0 eq3_s ?h1 ?h2); (case h0 => rfl); (case h1 => kspl_open cev); (case h2 => kspl_open cev))
  | ((with_reducible refine' vc_max3 ?h1 ?h2 ?h3); (case h1 => kernel_rfl); (case h2 => exact fun _ => rfl); (case h3 => kspl_open cvs))
  | ((with_reducible refine' vc_min3 ?h1 ?h2 ?h3); (case h1 => kernel_rfl); (case h2 => exact fun _ => rfl); (case h3 => kspl_open cvs))
  | ((with_reducible refine' vc_max2 ?h1 ?h2 ?h3); (case h1 => kernel_rfl); (case h2 => exact fun _ => rfl); (case h3 => kspl_open cvs))
  | ((with_reducible refine' vc_min2 ?h1 ?h2 ?h3); (case h1 => kernel_rfl); (case h2 => exact fun _ => rfl); (case h3 => kspl_open cvs))
  | ((with_reducible refine' vc_toint ?h1 ?h2 ?h3); (case h1 => kernel_rfl); (case h2 => exact fun _ => rfl); (case h3 => kspl_open cvs))
  | ((with_reducible refine' vc_call ?h0 ?h1 ?h2 ?h3); (case h0 => assumption); (case h1 => kernel_rfl); (case h2 => exact fun _ => rfl); (case h3 => kspl_open cvs)))
local macro_rules | `(tactic| kspl_open cvs) => `(tactic| first
  | with_reducible exact vs_nil
  | ((with_reducible refine' vs_cons ?h1 ?h2); (case h1 => kspl_open cev); (case h2 => kspl_open cvs)))
local macro_rules | `(tactic| kspl_open ctr) => `(tactic| first
  | ((with_reducible refine' tc_cmp ?h0 eq_s ?h1 ?h2); (case h0 => rfl); (case h1 => kspl_open cev); (case h2 => kspl_open cev))
  | ((with_reducible refine' tc_cmp ?h0 gt_s ?h1 ?h2); (case h0 => rfl); (case h1 => kspl_open cev); (case h2 => kspl_open cev))
  | ((with_reducible refine' tc_cmp ?h0 le_s ?h1 ?h2); (case h0 => rfl); (case h1 => kspl_open cev); (case h2 => kspl_open cev)))
local macro_rules | `(tactic| kspl_open cnx) => `(tactic| first
  | ((with_reducible refine' nc_asg ?h0 ?h1 ?h2); (case h0 => exact fun _ => rfl); (case h1 => kernel_rfl); (case h2 => kspl_open cev))
  | ((with_reducible refine' nc_if ?h1 ?h2 ?h3); (case h1 => kspl_open ctr); (case h2 => kspl_open cnx); (case h3 => kspl_open cnx)))
local macro_rules | `(tactic| kspl_open cxs) => `(tactic| first
  | ((with_reducible refine' xc_ret ?h1); (case h1 => kspl_open cev))
  | ((with_reducible refine' xc_asg ?h0 ?h1 ?h2 ?h3); (case h0 => exact fun _ => rfl); (case h1 => kernel_rfl); (case h2 => kspl_open cev); (case h3 => kspl_open cxs))
  | ((with_reducible refine' xc_ifret ?h1 ?h2 ?h3); (case h1 => kspl_open ctr); (case h2 => kspl_open cxs); (case h3 => kspl_open cxs))
  | ((with_reducible refine' xc_if ?h1 ?h2 ?h3 ?h4); (case h1 => kspl_open ctr); (case h2 => kspl_open cnx); (case h3 => kspl_open cnx); (case h4 => kspl_open cxs))
  | ((with_reducible refine' xc_tup3 ?h0 ?h1 ?h2 ?h3 ?h4); (case h0 => exact fun _ => rfl); (case h1 => exact fun _ => rfl); (case h2 => kernel_rfl); (case h3 => kspl_open cev); (case h4 => kspl_open cxs))
  | with_reducible exact xc_fail)
noncomputable section
open PyProof.Rows PySem.Float64
noncomputable abbrev iHls : Nat := 4
noncomputable abbrev iHsv : Nat := 5
noncomputable abbrev iRgb : Nat := 6
noncomputable abbrev iMatch : Nat := 2
noncomputable abbrev iTerm : Nat := 59
noncomputable abbrev iNon : Nat := 60
noncomputable abbrev iEof : Nat := 61
noncomputable abbrev iSym : Nat := 64
noncomputable abbrev iSight : Nat := 66
noncomputable abbrev iLaw : Nat := 71
noncomputable def fnAt (i : Nat) : Fn := match PySem.Challenge.pw_rs0155_02.main.body[i]? with
  | some (.FunctionDef _ a b _ _ _ sc _ _ _) => ⟨a, b, sc⟩
  | _ => ⟨⟨[], [], none, [], [], none, []⟩, [], ⟨.function, [], false, false, []⟩⟩
theorem fn_h2r : fns "hsv_to_rgb" = some (fnAt iRgb) := by unfold fns; kernel_rfl
theorem fn_r2v : fns "rgb_to_hsv" = some (fnAt iHsv) := by unfold fns; kernel_rfl
theorem fn_r2l : fns "rgb_to_hls" = some (fnAt iHls) := by unfold fns; kernel_rfl
noncomputable def h2r : { c : List V → Option V // ∀ n, XsC n (fnAt iRgb).scope.names ["h", "s", "v"] (fnAt iRgb).body c } := by
  refine ⟨?c, fun n => ?h⟩
  case h =>
    show XsC n _ _ (_ :: _) _
    kspl_open cxs
noncomputable def r2v : { c : List V → Option V // ∀ n, XsC n (fnAt iHsv).scope.names ["r", "g", "b"] (fnAt iHsv).body c } := by
  refine ⟨?c, fun n => ?h⟩
  case h =>
    show XsC n _ _ (_ :: _) _
    kspl_open cxs
noncomputable def r2l : { c : List V → Option V // ∀ n, XsC n (fnAt iHls).scope.names ["r", "g", "b"] (fnAt iHls).body c } := by
  refine ⟨?c, fun n => ?h⟩
  case h =>
    show XsC n _ _ (_ :: _) _
    kspl_open cxs
theorem h2r_fn (n : Nat) : FnC (n + 1) "hsv_to_rgb" (lenC 3 h2r.1) := fn_code (fn := fnAt iRgb) fn_h2r (by kernel_rfl) (fun _ _ _ _ _ _ _ => by show _ = _; kernel_rfl) (h2r.2 n)
theorem r2v_fn (n : Nat) : FnC (n + 1) "rgb_to_hsv" (lenC 3 r2v.1) := fn_code (fn := fnAt iHsv) fn_r2v (by kernel_rfl) (fun _ _ _ _ _ _ _ => by show _ = _; kernel_rfl) (r2v.2 n)
theorem r2l_fn (n : Nat) : FnC (n + 1) "rgb_to_hls" (lenC 3 r2l.1) := fn_code (fn := fnAt iHls) fn_r2l (by kernel_rfl) (fun _ _ _ _ _ _ _ => by show _ = _; kernel_rfl) (r2l.2 n)
end
noncomputable section
open PyProof.Rows PySem.Float64
theorem fn_sight : fns "_law_sight" = some (fnAt iSight) := by unfold fns; kernel_rfl
noncomputable def sightS : { c : List V → Option V // ∀ n, XsC (n + 1) (fnAt iSight).scope.names ["parts", "share", "level", "code"] (fnAt iSight).body c } := by
  refine ⟨?c, fun n => ?h⟩
  case h =>
    have f1 := h2r_fn n
    have f2 := r2v_fn n
    have f3 := r2l_fn n
    show XsC (n + 1) _ _ (_ :: _) _
    kspl_open cxs
theorem sight_fn (n : Nat) : FnC (n + 2) "_law_sight" (lenC 4 sightS.1) := fn_code (fn := fnAt iSight) fn_sight (by kernel_rfl) (fun _ _ _ _ _ _ _ _ => by show _ = _; kernel_rfl) (sightS.2 n)
end
noncomputable section
open PyProof.Rows PySem.Float64
noncomputable def hueOf (p s l : Int) : Int := bif ilt 0 (s * l) then 8 * p else 0
noncomputable def outIs (h : Int) : Option V → Bool
  | some (.t2 (.fl x) (.bl b)) => b && ieq x h
  | _ => false
theorem out_is {h : Int} {o : Option V} (e : outIs h o = true) : o = some (.t2 (.fl h) (.bl true)) := by
  match o, e with
  | some (.t2 (.fl x) (.bl b)), e =>
    obtain ⟨rfl, e⟩ := Bool.and_eq_true_iff.mp e
    rw [ieq_iff.mp e]
noncomputable def good (p s l c : Int) : Bool := outIs (hueOf p s l) (lenC 4 sightS.1 [.it p, .it s, .it l, .it c])
noncomputable def goods (k : Nat) : Bool := (List.range 8).all fun p => (List.range 5).all fun s => (List.range 5).all fun l => (List.range 6).all fun c => good (p + k : Nat) s l c
theorem goods_0 : goods 0 = true := by kernel_rfl
theorem goods_1 : goods 8 = true := by kernel_rfl
theorem goods_2 : goods 16 = true := by kernel_rfl
theorem goods_3 : goods 24 = true := by kernel_rfl
theorem goods_4 : goods 32 = true := by kernel_rfl
theorem goods_5 : goods 40 = true := by kernel_rfl
theorem goods_6 : goods 48 = true := by kernel_rfl
theorem goods_7 : goods 56 = true := by kernel_rfl
theorem goods_at {k p s l c : Nat} (h : goods k = true) (h1 : k ≤ p) (h2 : p - k < 8) (hs : s < 5) (hl : l < 5) (hc : c < 6) : good p s l c = true := by
  have h := List.all_eq_true.mp h (p - k) (List.mem_range.mpr h2)
  rw [Nat.sub_add_cancel h1] at h
  exact List.all_eq_true.mp (List.all_eq_true.mp (List.all_eq_true.mp h s (List.mem_range.mpr hs)) l (List.mem_range.mpr hl)) c (List.mem_range.mpr hc)
theorem good_all {p s l c : Nat} (hp : p < 64) (hs : s < 5) (hl : l < 5) (hc : c < 6) : good p s l c = true := by
  have e : goods (8 * (p / 8)) = true := by
    have : p / 8 < 8 := Nat.div_lt_of_lt_mul hp
    match p / 8, this with
    | 0, _ => exact goods_0
    | 1, _ => exact goods_1
    | 2, _ => exact goods_2
    | 3, _ => exact goods_3
    | 4, _ => exact goods_4
    | 5, _ => exact goods_5
    | 6, _ => exact goods_6
    | 7, _ => exact goods_7
  exact goods_at e (Nat.mul_div_le p 8) (by omega) hs hl hc
/-- a colour is told to the last place -/
theorem sight_ok {n p s l c : Nat} (hp : p < 64) (hs : s < 5) (hl : l < 5) (hc : c < 6) : Call (n + 2) "_law_sight" [.int p, .int s, .int l, .int c] (.tuple [.float (Fx (hueOf p s l)), .bool true]) := (sight_fn n).2 [.it p, .it s, .it l, .it c] _ (out_is (good_all hp hs hl hc))
end
local macro_rules | `(tactic| kspl_open lvar) => `(tactic| first
  | ((with_reducible refine' ev_v 0 ?h ?e); (case h => decide +kernel); (case e => rfl)) | ((with_reducible refine' ev_v 1 ?h ?e); (case h => decide +kernel); (case e => rfl)) | ((with_reducible refine' ev_v 2 ?h ?e); (case h => decide +kernel); (case e => rfl))
  | ((with_reducible refine' ev_v 3 ?h ?e); (case h => decide +kernel); (case e => rfl)) | ((with_reducible refine' ev_v 4 ?h ?e); (case h => decide +kernel); (case e => rfl)) | ((with_reducible refine' ev_v 5 ?h ?e); (case h => decide +kernel); (case e => rfl))
  | ((with_reducible refine' ev_v 6 ?h ?e); (case h => decide +kernel); (case e => rfl)) | ((with_reducible refine' ev_v 7 ?h ?e); (case h => decide +kernel); (case e => rfl)) | ((with_reducible refine' ev_v 8 ?h ?e); (case h => decide +kernel); (case e => rfl)))
local macro_rules | `(tactic| kspl_open lpvar) => `(tactic| first
  | ((with_reducible refine' pk_v 0 ?h ?e); (case h => decide +kernel); (case e => rfl)) | ((with_reducible refine' pk_v 1 ?h ?e); (case h => decide +kernel); (case e => rfl)) | ((with_reducible refine' pk_v 2 ?h ?e); (case h => decide +kernel); (case e => rfl))
  | ((with_reducible refine' pk_v 3 ?h ?e); (case h => decide +kernel); (case e => rfl)) | ((with_reducible refine' pk_v 4 ?h ?e); (case h => decide +kernel); (case e => rfl)) | ((with_reducible refine' pk_v 5 ?h ?e); (case h => decide +kernel); (case e => rfl))
  | ((with_reducible refine' pk_v 6 ?h ?e); (case h => decide +kernel); (case e => rfl)) | ((with_reducible refine' pk_v 7 ?h ?e); (case h => decide +kernel); (case e => rfl)) | ((with_reducible refine' pk_v 8 ?h ?e); (case h => decide +kernel); (case e => rfl)))
local macro_rules | `(tactic| kspl_open lside) => `(tactic| first
  | assumption | omega | (simp only [List.length_map, List.length_cons, List.length_nil, List.length_append, List.length_range]; omega) | (simp; done) | (simp; omega))
local macro_rules | `(tactic| kspl_open lbin) => `(tactic| first
  | assumption
  | with_reducible exact bi_add | with_reducible exact bi_sub
  | ((with_reducible refine' bi_mod ?h1); (case h1 => kspl_open lside))
  | ((with_reducible refine' bi_fdiv ?h1 ?h2); (case h1 => kspl_open lside); (case h2 => (unfold small; kspl_open lside)))
  | ((with_reducible refine' bi_mul ?h1); (case h1 => (unfold small; kspl_open lside)))
  | ((with_reducible refine' bi_catS ?h1); (case h1 => kspl_open lside))
  | ((with_reducible refine' bi_app ?h1); (case h1 => kspl_open lside)))
local macro_rules | `(tactic| kspl_open lcmp) => `(tactic| first
  | assumption
  | with_reducible exact cm_eqI | with_reducible exact cm_neI | with_reducible exact cm_ltI | with_reducible exact cm_gtI | with_reducible exact cm_leI | with_reducible exact cm_geI | with_reducible exact cm_neT | with_reducible exact cm_eqT
  | with_reducible exact cm_isB | with_reducible exact cm_isnB | with_reducible exact cm_inT)
local macro_rules | `(tactic| kspl_open lpk) => `(tactic| first
  | kspl_open lpvar
  | ((with_reducible refine' pkEv ?h1); (case h1 => kspl_open lev)))
local macro_rules | `(tactic| kspl_open lpa) => `(tactic| first
  | with_reducible exact pa_nil
  | ((with_reducible refine' pa_cons ?h1 ?h2); (case h1 => kspl_open lpk); (case h2 => kspl_open lpa)))
local macro_rules | `(tactic| kspl_open lea) => `(tactic| first
  | with_reducible exact ea_nil
  | ((with_reducible refine' ea_cons ?h1 ?h2); (case h1 => kspl_open lev); (case h2 => kspl_open lea)))
local macro_rules | `(tactic| kspl_open lev) => `(tactic| first
  | (with_reducible assumption)
  | with_reducible exact ev_int | ((with_reducible refine' ev_strE ?hs); (case hs => with_reducible assumption)) | with_reducible exact ev_str | with_reducible exact ev_bool
  | kspl_open lvar
  | ((with_reducible refine' ev_off ?h1); (case h1 => kernel_rfl)) | ((with_reducible refine' ev_endm ?h1); (case h1 => kernel_rfl)) | ((with_reducible refine' ev_tab ?h1); (case h1 => kernel_rfl)) | ((with_reducible refine' ev_dots ?h1); (case h1 => kernel_rfl))
  | ((with_reducible refine' ev_bin ?h1 ?h2 ?h3); (case h1 => kspl_open lpk); (case h2 => kspl_open lpk); (case h3 => kspl_open lbin))
  | ((with_reducible refine' ev_cmp ?h0 ?h1 ?h2 ?h3); (case h0 => rfl); (case h1 => kspl_open lpk); (case h2 => kspl_open lpk); (case h3 => kspl_open lcmp))
  | ((with_reducible refine' ev_tuple ?h1 ?h2 ?h3); (case h1 => exact fun _ => rfl); (case h3 => kspl_open lea); (case h2 => kspl_open lside))
  | ((with_reducible refine' ev_list ?h1 ?h2 ?h3); (case h1 => exact fun _ => rfl); (case h3 => kspl_open lea); (case h2 => kspl_open lside))
  | ((with_reducible refine' ev_callV ?h1 ?h2 ?h3 ?h4); (case h1 => kernel_rfl); (case h2 => exact fun _ => rfl); (case h3 => kspl_open lea); (case h4 => assumption)))
local macro_rules | `(tactic| kspl_open ltr) => `(tactic| first
  | (with_reducible assumption)
  | ((with_reducible refine' tr_cmp ?h0 ?h1 ?h2 ?h3); (case h0 => rfl); (case h1 => kspl_open lpk); (case h2 => kspl_open lpk); (case h3 => kspl_open lcmp))
  | ((with_reducible refine' tr_not ?h1); (case h1 => kspl_open ltr)))
local macro_rules | `(tactic| kspl_open lret) => `(tactic| ((with_reducible refine' xs_ret (ex_retV ?h1)); (case h1 => kspl_open lev)))
local macro_rules | `(tactic| kspl_open lasg) => `(tactic| ((with_reducible refine' ex_asgV ?h0 ?h1 ?h2); (case h0 => exact fun _ => rfl); (case h1 => kernel_rfl); (case h2 => kspl_open lev)))
noncomputable section
open PyProof.Rows
theorem fn_ist : fns "ISTERMINAL" = some (fnAt iTerm) := by unfold fns; kernel_rfl
theorem fn_isn : fns "ISNONTERMINAL" = some (fnAt iNon) := by unfold fns; kernel_rfl
theorem fn_eof : fns "ISEOF" = some (fnAt iEof) := by unfold fns; kernel_rfl
theorem ist_spec {n : Nat} {x : Int} : Call (n + 1) "ISTERMINAL" [.int x] (.bool (decide (x < 256))) := by
  refine call_ok (fn := fnAt iTerm) fn_ist (by kernel_rfl) (fun _ _ _ _ _ => by show _ = _; kernel_rfl) rfl ?h
  case h =>
    show Exs n (stV (fnAt iTerm).scope.names ["x"] [.int x] none) (_ :: _) _
    kspl_open lret
theorem isn_spec {n : Nat} {x : Int} : Call (n + 1) "ISNONTERMINAL" [.int x] (.bool (decide (256 ≤ x))) := by
  refine call_ok (fn := fnAt iNon) fn_isn (by kernel_rfl) (fun _ _ _ _ _ => by show _ = _; kernel_rfl) rfl ?h
  case h =>
    show Exs n (stV (fnAt iNon).scope.names ["x"] [.int x] none) (_ :: _) _
    kspl_open lret
theorem eof_spec {n : Nat} {x : Int} : Call (n + 1) "ISEOF" [.int x] (.bool (decide (x = 0))) := by
  refine call_ok (fn := fnAt iEof) fn_eof (by kernel_rfl) (fun _ _ _ _ _ => by show _ = _; kernel_rfl) rfl ?h
  case h =>
    show Exs n (stV (fnAt iEof).scope.names ["x"] [.int x] none) (_ :: _) _
    kspl_open lret
end
noncomputable section
open PyProof.Rows
theorem fn_match : fns "_ellipsis_match" = some (fnAt iMatch) := by unfold fns; kernel_rfl
noncomputable abbrev mN := (fnAt iMatch).scope.names
theorem match_plain {n : Nat} {want got : List Nat} (h : okP want = true) : Call (n + 1) "_ellipsis_match" [.str (S want), .str (S got)] (.bool (decide (want = got))) := by
  have hc : CmpOk .NotIn (.str (S DD)) (.str (S want)) true := by
    have q : CmpOk .NotIn (.str (S DD)) (.str (S want)) _ := cm_ninS
    rw [contains_ok h] at q
    exact @q
  refine call_ok (fn := fnAt iMatch) fn_match (by kernel_rfl) (fun _ _ _ _ _ _ => by show _ = _; kernel_rfl) rfl ?h
  case h =>
    show Exs n (stV mN ["want", "got"] [.str (S want), .str (S got)] none) (_ :: _) _
    refine' xs_ret (ex_if (c := true) ?q1 (fun _ => ?q2) nofun)
    case q1 => kspl_open ltr
    case q2 => kspl_open lret
end
noncomputable section
open PyProof.Rows
noncomputable abbrev encP (p : List Nat) : D := .str (S p)
noncomputable abbrev emS (want got : D) (ws : List (List Nat)) (sp ep : Int) (w : D) : St := stV mN ["w", "endpos", "startpos", "ws", "want", "got"] [w, .int ep, .int sp, .list (ws.map encP), want, got] (some "ws")
noncomputable def mSt (k : Nat) : Stmt := ((fnAt iMatch).body.drop k).headD (.Pass ⟨0, 0, 0, 0⟩)
noncomputable def keepE (p : List Nat) : List (List Nat) := if p = [] then [[]] else []
theorem idx_first {p : List Nat} {r : List (List Nat)} (h : r.length ≤ 1000) : ItemOk (.list ((p :: r).map encP)) (.int 0) (.str (S p)) := im_list (k := 0) (j := 0) rfl (by rw [List.length_map, List.length_cons]; omega) rfl
theorem sq_first {n m : Nat} (h : m = n + 1) : seqIndex? 0 m = some 0 := by
  subst h
  unfold seqIndex?
  simp
set_option maxHeartbeats 4000000 in
theorem em6 {n : Nat} {want : D} {got f : List Nat} {r : List (List Nat)} (hr : r.length ≤ 1000) (hf : f.length ≤ 100000) (hg : got.length ≤ 100000) (h : f <+: got) :
    Ex n (emS want (.str (S got)) (f :: r) 0 got.length (.str (S f))) (mSt 5) (.next (emS want (.str (S got)) (keepE f ++ r) f.length got.length (.str (S f)))) := by
  have ht : Truth (.str (S f)) (!decide (f = [])) := truth_S (by omega)
  show Ex n _ (.If _ _ _ _) _
  by_cases e : f = []
  · subst e
    refine' ex_if (c := !decide (([] : List Nat) = [])) ?q1 (fun z => (nomatch z)) (fun _ => xs_nil)
    case q1 => exact tr_of (fun _ => rfl) (by kspl_open lev) ht
  · have hs : MethOk (.str (S got)) "startswith" [.str (S f)] (.bool true) "str" "str.startswith" := by
      have q : MethOk (.str (S got)) "startswith" [.str (S f)] (.bool (Txt.startswith (S got) (S f))) "str" "str.startswith" := md_starts
      rw [starts_S, decide_eq_true h] at q
      exact q
    have hk : keepE f = [] := if_neg e
    rw [hk]
    refine' ex_weak (ex_if (c := !decide (f = [])) ?p1 (fun _ => xs_cons (ex_if (c := true) ?p2 (fun _ => xs_cons (ex_asgV (fun _ => rfl) ?p3 ?p4) (xs_cons (ex_delV (j := 0) (k := 0) 4 ?p5 rfl (by decide +kernel) (sq_first (n := r.length) (List.length_map (as := f :: r) encP)) (by rw [List.length_map]; exact Nat.succ_pos _) ?p6 ev_int) xs_nil)) nofun) xs_nil) (fun z => by simp [e] at z)) (weak_v [2, 3, 1, 0, 6, 7] ?p7 rfl)
    case p1 => exact tr_of (fun _ => rfl) (by kspl_open lev) ht
    case p2 => exact tr_of (fun _ => rfl) (ev_meth (fun _ => rfl) (by decide +kernel) (by decide +kernel) (fun _ => rfl) (by kspl_open lpk) (by kspl_open lpa) hs) .bool
    case p3 => kernel_rfl
    case p4 => exact ev_bltV (by kernel_rfl) (fv := .builtin "len") (by kernel_rfl) (fun _ => rfl) (by kspl_open lpa) (bl_lenT (by omega))
    case p5 => decide +kernel
    case p6 => rw [List.length_map, List.length_cons]; omega
    case p7 => decide +kernel
theorem em6f {n : Nat} {want : D} {got f : List Nat} {r : List (List Nat)} (hf : f.length ≤ 100000) (h : ¬ f <+: got) : Ex n (emS want (.str (S got)) (f :: r) 0 got.length (.str (S f))) (mSt 5) (.ret (.bool false)) := by
  have ht : Truth (.str (S f)) (!decide (f = [])) := truth_S (by omega)
  have e : f ≠ [] := fun e => h (e ▸ List.nil_prefix)
  have hs : MethOk (.str (S got)) "startswith" [.str (S f)] (.bool false) "str" "str.startswith" := by
    have q : MethOk (.str (S got)) "startswith" [.str (S f)] (.bool (Txt.startswith (S got) (S f))) "str" "str.startswith" := md_starts
    rw [starts_S, decide_eq_false h] at q
    exact q
  show Ex n _ (.If _ _ _ _) _
  refine' ex_if (c := !decide (f = [])) ?p1 (fun _ => xs_ret (ex_if (c := false) ?p2 nofun (fun _ => ?p3))) (fun z => by simp [e] at z)
  case p1 => exact tr_of (fun _ => rfl) (by kspl_open lev) ht
  case p2 => exact tr_of (fun _ => rfl) (ev_meth (fun _ => rfl) (by decide +kernel) (by decide +kernel) (fun _ => rfl) (by kspl_open lpk) (by kspl_open lpa) hs) .bool
  case p3 => kspl_open lret
theorem last_S {p : List Nat} {r : List (List Nat)} : ItemOk (.list ((r ++ [p]).map encP)) (.int (-1)) (.str (S p)) := by
  rw [List.map_append]
  exact @im_last _ _
theorem sq_last {n m : Nat} (h : m = n + 1) : seqIndex? (-1) m = some n := by
  subst h
  unfold seqIndex?
  have e : ((-1 : Int) + ((n + 1 : Nat) : Int)) = (n : Int) := by omega
  simp only [show (-1 : Int) < 0 by decide, if_true, e]
  simp; omega
end
noncomputable section
open PyProof.Rows
theorem del_last_eq {l : List Nat} {r : List (List Nat)} : ((r ++ [l]).map encP).eraseIdx r.length = r.map encP := by
  rw [List.map_append, List.eraseIdx_append_of_length_le (by simp)]
  simp
set_option maxHeartbeats 4000000 in
theorem em8 {n : Nat} {want : D} {got l : List Nat} {r : List (List Nat)} {sp : Int} (hr : r.length ≤ 1000) (hf : l.length ≤ 100000) (hg : got.length ≤ 100000) (h : l <:+ got) :
    Ex n (emS want (.str (S got)) (r ++ [l]) sp got.length (.str (S l))) (mSt 7) (.next (emS want (.str (S got)) (r ++ keepE l) sp ((got.length : Int) - l.length) (.str (S l)))) := by
  have ht : Truth (.str (S l)) (!decide (l = [])) := truth_S (by omega)
  show Ex n _ (.If _ _ _ _) _
  by_cases e : l = []
  · subst e
    rw [show ((got.length : Int) - ([] : List Nat).length) = got.length by simp]
    refine' ex_if (c := !decide (([] : List Nat) = [])) ?q1 (fun z => (nomatch z)) (fun _ => xs_nil)
    case q1 => exact tr_of (fun _ => rfl) (by kspl_open lev) ht
  · have hs : MethOk (.str (S got)) "endswith" [.str (S l)] (.bool true) "str" "str.endswith" := by
      have q : MethOk (.str (S got)) "endswith" [.str (S l)] (.bool (Txt.endswith (S got) (S l))) "str" "str.endswith" := md_ends
      rw [ends_S, decide_eq_true h] at q
      exact q
    have hk : keepE l = [] := if_neg e
    rw [hk, List.append_nil]
    refine' ex_weak (ex_if (c := !decide (l = [])) ?p1 (fun _ => xs_cons (ex_if (c := true) ?p2 (fun _ => xs_cons (ex_augV 1 ?p3 rfl ?p4 ag_sub) (xs_cons (ex_delV (j := -1) (k := r.length) 4 ?p5 rfl (by decide +kernel) (sq_last (by simp)) (by simp) ?p6 (ev_neg ev_int)) xs_nil)) nofun) xs_nil) (fun z => by simp [e] at z)) (weak_v [2, 1, 4, 0, 6, 7] ?p7 ?p8)
    case p1 => exact tr_of (fun _ => rfl) (by kspl_open lev) ht
    case p2 => exact tr_of (fun _ => rfl) (ev_meth (fun _ => rfl) (by decide +kernel) (by decide +kernel) (fun _ => rfl) (by kspl_open lpk) (by kspl_open lpa) hs) .bool
    case p3 => decide +kernel
    case p4 => exact ev_bltV (by kernel_rfl) (fv := .builtin "len") (by kernel_rfl) (fun _ => rfl) (by kspl_open lpa) (bl_lenT (by omega))
    case p5 => decide +kernel
    case p6 => simp; omega
    case p7 => decide +kernel
    case p8 => rw [del_last_eq]; rfl
theorem em8f {n : Nat} {want : D} {got l : List Nat} {r : List (List Nat)} {sp : Int} (hf : l.length ≤ 100000) (h : ¬ l <:+ got) : Ex n (emS want (.str (S got)) (r ++ [l]) sp got.length (.str (S l))) (mSt 7) (.ret (.bool false)) := by
  have ht : Truth (.str (S l)) (!decide (l = [])) := truth_S (by omega)
  have e : l ≠ [] := fun e => h (e ▸ List.nil_suffix)
  have hs : MethOk (.str (S got)) "endswith" [.str (S l)] (.bool false) "str" "str.endswith" := by
    have q : MethOk (.str (S got)) "endswith" [.str (S l)] (.bool (Txt.endswith (S got) (S l))) "str" "str.endswith" := md_ends
    rw [ends_S, decide_eq_false h] at q
    exact q
  show Ex n _ (.If _ _ _ _) _
  refine' ex_if (c := !decide (l = [])) ?p1 (fun _ => xs_ret (ex_if (c := false) ?p2 nofun (fun _ => ?p3))) (fun z => by simp [e] at z)
  case p1 => exact tr_of (fun _ => rfl) (by kspl_open lev) ht
  case p2 => exact tr_of (fun _ => rfl) (ev_meth (fun _ => rfl) (by decide +kernel) (by decide +kernel) (fun _ => rfl) (by kspl_open lpk) (by kspl_open lpa) hs) .bool
  case p3 => kspl_open lret
end
noncomputable section
open PyProof.Rows
/-- inside the loop: the list is no longer the frame's own -/
noncomputable abbrev emF (want got : D) (ws : List (List Nat)) (sp ep : Int) (w : D) : St := stV mN ["w", "endpos", "startpos", "ws", "want", "got"] [w, .int ep, .int sp, .list (ws.map encP), want, got] none
noncomputable def bodyOf : List Stmt → List Stmt
  | .For _ _ b _ _ :: _ => b
  | _ :: r => bodyOf r
  | [] => []
noncomputable def targetOf : List Stmt → Expr
  | .For t _ _ _ _ :: _ => t
  | _ :: r => targetOf r
  | [] => .Name "" ⟨0, 0, 0, 0⟩
theorem em_loop {n : Nat} {want : D} {ws0 : List (List Nat)} {got : List Nat} {ep : Nat} (hg : got.length ≤ 100000) (h2 : ep ≤ got.length) : ∀ (ws : List (List Nat)) (sp : Nat) (w0 : D), sp ≤ ep → (∀ w ∈ ws, w.length ≤ 100000) →
    ∃ f, ForL n (targetOf (fnAt iMatch).body) (bodyOf (fnAt iMatch).body) (emF want (.str (S got)) ws0 sp ep w0) (ws.map encP) f ∧ (mLoop got ep ws sp = true → ∃ sp' w', f = .next (emF want (.str (S got)) ws0 sp' ep w')) ∧ (mLoop got ep ws sp = false → f = .ret (.bool false))
  | [], sp, w0, _, _ => ⟨_, rfl, fun _ => ⟨sp, w0, rfl⟩, fun h => by simp [mLoop] at h⟩
  | w :: ws, sp, w0, h1, h3 => by
    have hw := h3 w List.mem_cons_self
    have hb : BindF (emF want (.str (S got)) ws0 sp ep w0) (targetOf (fnAt iMatch).body) (encP w) (stV mN ["w", "w", "endpos", "startpos", "ws", "want", "got"] [encP w, w0, .int ep, .int sp, .list (ws0.map encP), want, .str (S got)] none) := by
      show BindF _ (.Name _ _) _ _
      exact bf_v (by kernel_rfl)
    have hf : MethOk (.str (S got)) "find" [.str (S w), .int (sp : Nat), .int (ep : Nat)] (.int (match findP got w sp ep with | some k => (k : Int) | none => -1)) "str" "str.find" := by
      have q : MethOk (.str (S got)) "find" [.str (S w), .int (sp : Nat), .int (ep : Nat)] (.int (findV (S got) (S w) (sp : Nat) (ep : Nat))) "str" "str.find" := md_find (Int.natCast_nonneg _) (Int.natCast_nonneg _)
      rw [findV_S, show min ((ep : Nat) : Int).toNat got.length = ep by omega] at q
      exact q
    unfold mLoop
    cases hp : findP got w sp ep with
    | none =>
      rw [hp] at hf
      refine ⟨.ret (.bool false), fl_ret hb ?_, nofun, fun _ => rfl⟩
      show Exs n _ (_ :: _) _
      refine' xs_cons (ex_asgV (d := .int (-1)) (fun _ => rfl) ?a1 ?a2) (xs_ret (ex_if (c := true) ?a3 (fun _ => ?a4) nofun))
      case a1 => kernel_rfl
      case a2 => exact ev_meth (fun _ => rfl) (by decide +kernel) (by decide +kernel) (fun _ => rfl) (by kspl_open lpk) (by kspl_open lpa) hf
      case a3 => exact tr_cmp (by rfl) (by kspl_open lpk) (by kspl_open lpk) (cm_ltI (i := -1) (j := 0))
      case a4 => kspl_open lret
    | some k =>
      rw [hp] at hf
      have hk := (findP_some hp).2.1
      obtain ⟨f, i1, i2, i3⟩ := em_loop (n := n) (want := want) (ws0 := ws0) hg h2 ws (k + w.length) (encP w) hk (fun x hx => h3 x (List.mem_cons_of_mem _ hx))
      refine ⟨f, fl_step hb (xs_weak (σ₁ := stV mN ["startpos", "startpos", "w", "w", "endpos", "startpos", "ws", "want", "got"] [.int ((k : Int) + w.length), .int k, encP w, w0, .int ep, .int sp, .list (ws0.map encP), want, .str (S got)] none) ?_ (weak_v [2, 4, 0, 6, 7, 8] (by decide +kernel) (by rw [Int.natCast_add]; rfl))) i1, i2, i3⟩
      show Exs n _ (_ :: _) _
      refine' xs_cons (ex_asgV (d := .int k) (fun _ => rfl) ?b1 ?b2) (xs_cons (ex_if (c := false) ?b3 nofun (fun _ => xs_nil)) (xs_cons (ex_augV 0 ?b4 rfl ?b5 ag_add) xs_nil))
      case b1 => kernel_rfl
      case b2 => exact ev_meth (fun _ => rfl) (by decide +kernel) (by decide +kernel) (fun _ => rfl) (by kspl_open lpk) (by kspl_open lpa) hf
      case b3 =>
        have q : CmpOk .Lt (.int (k : Nat)) (.int 0) _ := cm_ltI
        rw [decide_eq_false (by omega)] at q
        kspl_open ltr
      case b4 => decide +kernel
      case b5 => exact ev_bltV (by kernel_rfl) (fv := .builtin "len") (by kernel_rfl) (fun _ => rfl) (by kspl_open lpa) (bl_lenT (by omega))
end
noncomputable section
open PyProof.Rows
theorem mid_keepL {f : List Nat} {r : List (List Nat)} {u : List Nat} : MidFit (keepE f ++ r) u ↔ MidFit r u := by
  unfold keepE
  split
  · constructor
    · rintro ⟨x, y, h, g⟩
      rw [h]; exact MidFit_pre _ g
    · intro g; exact ⟨[], u, rfl, g⟩
  · rfl
theorem mid_keepR {l : List Nat} : ∀ {r : List (List Nat)} {u : List Nat}, MidFit (r ++ keepE l) u ↔ MidFit r u
  | [], u => by
    unfold keepE
    split
    · exact ⟨fun _ => trivial, fun _ => ⟨u, [], by simp, trivial⟩⟩
    · rfl
  | w :: r, u => by
    constructor
    · rintro ⟨x, y, h, g⟩; exact ⟨x, y, h, mid_keepR.mp g⟩
    · rintro ⟨x, y, h, g⟩; exact ⟨x, y, h, mid_keepR.mpr g⟩
noncomputable def Fits (f : List Nat) (mid : List (List Nat)) (l got : List Nat) : Prop := ∃ u, got = f ++ u ++ l ∧ MidFit mid u
theorem fits_iff {f l got : List Nat} {mid : List (List Nat)} (h1 : f <+: got) (h2 : l <:+ got) (h3 : f.length ≤ got.length - l.length) (h4 : l.length ≤ got.length) :
    Fits f mid l got ↔ mLoop got (got.length - l.length) (keepE f ++ mid ++ keepE l) f.length = true := by
  rw [mLoop_iff _ _ h3 (by omega), mid_keepR, mid_keepL]
  obtain ⟨y, hy⟩ := h1
  obtain ⟨x, hx⟩ := h2
  have e1 : got.take (got.length - l.length) = x := by
    have : got.length - l.length = x.length := by rw [← hx]; simp
    rw [this, ← hx, List.take_left' rfl]
  constructor
  · rintro ⟨u, hu, g⟩
    have : x = f ++ u := by
      have := hx.trans hu
      exact List.append_cancel_right this
    rw [e1, this, List.drop_left' rfl]; exact g
  · intro g
    refine ⟨_, ?_, g⟩
    rw [e1]
    have hfx : f <+: x := by
      have a : f <+: got := ⟨y, hy⟩
      have b : x <+: got := ⟨l, hx⟩
      exact List.prefix_of_prefix_length_le a b (by rw [← e1]; simp; omega)
    obtain ⟨z, hz⟩ := hfx
    rw [← hz, List.drop_left' rfl, hz, hx]
structure JoinOk (f : List Nat) (mid : List (List Nat)) (l got : List Nat) : Prop where
  ok : ∀ p ∈ f :: (mid ++ [l]), okP p = true ∧ p.length ≤ 1000
  w : (joinD (f :: (mid ++ [l]))).length ≤ 100000
  m : mid.length ≤ 500
  g : got.length ≤ 100000
/-- from the loop on -/
theorem em_end {n : Nat} {want : D} {f l got : List Nat} {mid : List (List Nat)} {b : Bool} (J : JoinOk f mid l got) (hb : b = true ↔ Fits f mid l got) (c1 : f <+: got) (c2 : l <:+ got) :
    Exs n (emS want (.str (S got)) (keepE f ++ mid ++ keepE l) f.length ((got.length : Int) - l.length) (.str (S l))) ((fnAt iMatch).body.drop 8) (.ret (.bool b)) := by
  have hgl : l.length ≤ got.length := c2.length_le
  have hg := J.g
  show Exs n _ (_ :: _) _
  by_cases c3 : f.length ≤ got.length - l.length
  · have eep : ((got.length : Int) - l.length) = ((got.length - l.length : Nat) : Int) := by omega
    rw [eep]
    have hcg : CmpOk .Gt (.int (f.length : Nat)) (.int ((got.length - l.length : Nat) : Int)) false := by
      have q : CmpOk .Gt (.int (f.length : Nat)) (.int ((got.length - l.length : Nat) : Int)) _ := cm_gtI
      rw [decide_eq_false (by omega)] at q
      exact @q
    refine' xs_cons (ex_if (c := false) ?i1 nofun (fun _ => xs_nil)) ?i2
    case i1 => kspl_open ltr
    case i2 =>
      have hwl : ∀ w ∈ keepE f ++ mid ++ keepE l, w.length ≤ 100000 := by
        intro w hw
        simp only [List.mem_append] at hw
        rcases hw with (hw | hw) | hw
        · unfold keepE at hw; split at hw <;> simp at hw; subst hw; simp
        · have := (J.ok w (by simp [hw])).2; omega
        · unfold keepE at hw; split at hw <;> simp at hw; subst hw; simp
      obtain ⟨fl, L1, L2, L3⟩ := em_loop (n := n) (want := want) (ws0 := keepE f ++ mid ++ keepE l) hg (show got.length - l.length ≤ got.length by omega) (keepE f ++ mid ++ keepE l) f.length (.str (S l)) c3 hwl
      have hfi := fits_iff (mid := mid) c1 c2 c3 hgl
      have hfor : Ex n (emS want (.str (S got)) (keepE f ++ mid ++ keepE l) f.length ((got.length - l.length : Nat) : Int) (.str (S l))) (mSt 9) fl := by
        refine ex_freeze ?_
        show Ex n (emF want (.str (S got)) (keepE f ++ mid ++ keepE l) f.length ((got.length - l.length : Nat) : Int) (.str (S l))) (.For _ _ _ _ _) _
        refine ex_for (fun _ _ => rfl) ?j1 it_list L1
        case j1 => kspl_open lev
      show Exs n _ (mSt 9 :: _) _
      cases b with
      | true =>
        obtain ⟨sp', w', rfl⟩ := L2 (hfi.mp (hb.mp rfl))
        refine' xs_cons hfor ?k1
        show Exs n (emF _ _ _ _ _ _) (_ :: _) _
        kspl_open lret
      | false =>
        have hn : mLoop got (got.length - l.length) (keepE f ++ mid ++ keepE l) f.length = false := by
          cases hv : mLoop got (got.length - l.length) (keepE f ++ mid ++ keepE l) f.length with
          | false => rfl
          | true => exact absurd (hb.mpr (hfi.mpr hv)) (by decide)
        cases L3 hn
        intro G A W O env s hA S
        exact xs_ret hfor hA S
  · have hcg : CmpOk .Gt (.int (f.length : Nat)) (.int ((got.length : Int) - l.length)) true := by
      have q : CmpOk .Gt (.int (f.length : Nat)) (.int ((got.length : Int) - l.length)) _ := cm_gtI
      rw [decide_eq_true (by omega)] at q
      exact @q
    have e : b = false := by
      cases b with
      | false => rfl
      | true =>
        obtain ⟨u, hu, _⟩ := hb.mp rfl
        have := congrArg List.length hu
        simp only [List.length_append] at this
        omega
    subst e
    refine' xs_ret (ex_if (c := true) ?m1 (fun _ => ?m2) nofun)
    case m1 => kspl_open ltr
    case m2 => kspl_open lret
end
noncomputable section
open PyProof.Rows
set_option maxHeartbeats 4000000 in
theorem match_join {n : Nat} {f l got : List Nat} {mid : List (List Nat)} {b : Bool} (J : JoinOk f mid l got) (hb : b = true ↔ Fits f mid l got) :
    Call (n + 1) "_ellipsis_match" [.str (S (joinD (f :: (mid ++ [l])))), .str (S got)] (.bool b) := by
  have hgl := J.g
  have hfl := (J.ok f List.mem_cons_self).2
  have hll := (J.ok l (by simp)).2
  have hml := J.m
  have hsp : Txt.split (S (joinD (f :: (mid ++ [l])))) (S DD) = (f :: (mid ++ [l])).map S := by
    cases mid with
    | nil => exact split_join fun x hx => (J.ok x hx).1
    | cons a r => exact split_join fun x hx => (J.ok x hx).1
  have hc : CmpOk .NotIn (.str (S DD)) (.str (S (joinD (f :: (mid ++ [l]))))) false := by
    have q : CmpOk .NotIn (.str (S DD)) (.str (S (joinD (f :: (mid ++ [l]))))) _ := cm_ninS
    have e : Txt.contains (S (joinD (f :: (mid ++ [l])))) (S DD) = true := by cases mid <;> exact contains_join
    rw [e] at q
    exact @q
  have hw : (S (joinD (f :: (mid ++ [l])))).length ≤ 1048576 := by rw [S_len]; have := J.w; omega
  refine call_ok (fn := fnAt iMatch) fn_match (by kernel_rfl) (fun _ _ _ _ _ _ => by show _ = _; kernel_rfl) rfl ?h
  case h =>
    show Exs n (stV mN ["want", "got"] [.str (S (joinD (f :: (mid ++ [l])))), .str (S got)] none) (_ :: _) _
    have hlen : ((f :: (mid ++ [l])).map encP).length = mid.length + 2 := by simp
    have hge : CmpOk .GtE (.int (((f :: (mid ++ [l])).map encP).length : Nat)) (.int 2) true := by
      have q : CmpOk .GtE (.int (((f :: (mid ++ [l])).map encP).length : Nat)) (.int 2) _ := cm_geI
      rw [decide_eq_true (by rw [hlen]; omega)] at q
      exact @q
    have hS : Ex n (stV mN ["want", "got"] [.str (S (joinD (f :: (mid ++ [l])))), .str (S got)] none) (mSt 1) (.next (stV mN ["ws", "want", "got"] [.list ((f :: (mid ++ [l])).map encP), .str (S (joinD (f :: (mid ++ [l])))), .str (S got)] (some "ws"))) := by
      rw [show (f :: (mid ++ [l])).map encP = (Txt.split (S (joinD (f :: (mid ++ [l])))) (S DD)).map D.str by rw [hsp, List.map_map]; rfl]
      show Ex n _ (.Assign [.Name _ _] (.Call (.Attribute _ _ _) [_] [] _) _) _
      refine' ex_split (v := S DD) (u := S (joinD (f :: (mid ++ [l])))) ?a1 (fun _ => rfl) ?a2 (fun _ => rfl) (fun _ => rfl) ?a3 ?a4 ?a5 hw
      case a1 => kernel_rfl
      case a2 => kernel_rfl
      case a3 => kspl_open lpk
      case a4 => kspl_open lev
      case a5 => kernel_rfl
    have rest : Exs n (stV mN ["endpos", "startpos", "ws", "want", "got"] [.int (got.length : Nat), .int 0, .list ((f :: (mid ++ [l])).map encP), .str (S (joinD (f :: (mid ++ [l])))), .str (S got)] (some "ws")) ((fnAt iMatch).body.drop 4) (.ret (.bool b)) := by
      have h6 : Ex n (stV mN ["endpos", "startpos", "ws", "want", "got"] [.int (got.length : Nat), .int 0, .list ((f :: (mid ++ [l])).map encP), .str (S (joinD (f :: (mid ++ [l])))), .str (S got)] (some "ws")) (mSt 4) (.next (emS (.str (S (joinD (f :: (mid ++ [l]))))) (.str (S got)) (f :: (mid ++ [l])) 0 got.length (.str (S f)))) := by
        show Ex n _ (.Assign [.Name _ _] _ _) _
        have h4 : (mid ++ [l]).length ≤ 1000 := by rw [List.length_append, List.length_singleton]; omega
        with_reducible refine' ex_asgV ?c0 ?c1 (ev_item ?c2 ?c3 (idx_first h4))
        case c0 => exact fun _ => rfl
        case c1 => kernel_rfl
        case c2 => kspl_open lpk
        case c3 => exact ev_int
      show Exs n _ (mSt 4 :: mSt 5 :: mSt 6 :: mSt 7 :: (fnAt iMatch).body.drop 8) _
      rcases Classical.em (f <+: got) with c1 | c1
      · with_reducible refine' xs_cons h6 (xs_cons (em6 ?e1 ?e3 hgl c1) ?e2)
        case e3 => omega
        case e1 => rw [List.length_append, List.length_singleton]; omega
        case e2 =>
          have h7 : Ex n (emS (.str (S (joinD (f :: (mid ++ [l]))))) (.str (S got)) ((keepE f ++ mid) ++ [l]) f.length got.length (.str (S f))) (mSt 6) (.next (emS (.str (S (joinD (f :: (mid ++ [l]))))) (.str (S got)) ((keepE f ++ mid) ++ [l]) f.length got.length (.str (S l)))) := by
            show Ex n _ (.Assign [.Name _ _] _ _) _
            with_reducible refine' ex_weak (ex_asgV ?d0 ?d1 (ev_item ?d2 ?d3 last_S)) (weak_v [0, 2, 3, 4, 5, 6] ?d4 ?d5)
            case d0 => exact fun _ => rfl
            case d5 => rfl
            case d1 => kernel_rfl
            case d2 => kspl_open lpk
            case d3 => exact ev_neg ev_int
            case d4 => decide +kernel
          rw [← List.append_assoc]
          rcases Classical.em (l <:+ got) with c2 | c2
          · have hk : (keepE f ++ mid).length ≤ 1000 := by
              have : (keepE f).length ≤ 1 := by unfold keepE; split <;> simp
              simp; omega
            have hl1 : l.length ≤ 100000 := by omega
            with_reducible exact xs_cons h7 (xs_cons (em8 hk hl1 hgl c2) (em_end J hb c1 c2))
          · have e : b = false := by
              cases b with
              | false => rfl
              | true => obtain ⟨u, hu, _⟩ := hb.mp rfl; exact absurd ⟨f ++ u, hu.symm⟩ c2
            subst e
            have hl1 : l.length ≤ 100000 := by omega
            with_reducible exact xs_cons h7 (xs_ret (em8f hl1 c2))
      · have e : b = false := by
          cases b with
          | false => rfl
          | true => obtain ⟨u, hu, _⟩ := hb.mp rfl; exact absurd ⟨u ++ l, by rw [hu, List.append_assoc]⟩ c1
        subst e
        have hl1 : f.length ≤ 100000 := by omega
        with_reducible exact xs_cons h6 (xs_ret (em6f hl1 c1))
    with_reducible refine' xs_cons (ex_if (c := false) ?b1 ?bx ?bz) ?r1
    case bx => exact nofun
    case bz => exact fun _ => xs_nil
    case r1 =>
     show Exs n _ (mSt 1 :: _ :: _ :: _) _
     with_reducible refine' xs_cons hS ?r2
     case r2 =>
      with_reducible refine' xs_cons (ex_assert ?b2) ?r3
      case r3 =>
       with_reducible refine' xs_cons (ex_tup2V (d1 := .int 0) (d2 := .int (got.length : Nat)) ?b0 ?b3 ?b4 ?b5) ?b6
       case b0 => exact fun _ => rfl
       case b3 => exact fun _ => swap2 (by decide +kernel) (by kernel_rfl)
       case b4 => decide +kernel
       case b5 =>
        with_reducible refine' ev_tuple ?b8 ?b9 (ea_cons ev_int (ea_cons ?b7 ea_nil))
        case b8 => exact fun _ => rfl
        case b9 => exact Nat.le_of_ble_eq_true rfl
        case b7 => exact ev_bltV (by kernel_rfl) (fv := .builtin "len") (by kernel_rfl) (fun _ => rfl) (by kspl_open lpa) (bl_lenT (by omega))
       case b6 => exact rest
      case b2 => exact tr_cmp (by rfl) (pkEv (ev_bltV (by kernel_rfl) (fv := .builtin "len") (by kernel_rfl) (fun _ => rfl) (by kspl_open lpa) (bl_lenL (by rw [hlen]; omega)))) (by kspl_open lpk) hge
    case b1 => kspl_open ltr
end
noncomputable section
open PyProof.Rows
variable {n : Nat} {ns : List (Str × NameKind)} {xs : List Str} {ds dl its out : List D} {own : Option Str} {x : Str} {d it src : D} {e t elt : Expr} {es ifs : List Expr} {p np cp : Pos} {f : Fl} {st : Stmt} {body o r : List Stmt} {σ σ' σ₁ : St} {c : Bool} {sc : Scope} {gs : List Comprehension}
theorem bs_cons (hx : stOk ns own x = true) (h : Binds (stV ns (x :: xs) (d :: ds) own) es dl σ') : Binds (stV ns xs ds own) (.Name x p :: es) (d :: dl) σ' := .cons (stOk_k hx) (by rw [setV_st hx]; exact h)
theorem na_cons (hx : newOk ns own xs x = true) (h : NewAll (stV ns xs ds own) es) : NewAll (stV ns xs ds own) (.Name x p :: es) := .cons (newN_st hx) h
theorem ex_ifT (h1 : Tr n σ t true) (h2 : Exs n σ body f) : Ex n σ (.If t body o p) f := ex_if h1 (fun _ => h2) nofun
theorem ex_ifF (h1 : Tr n σ t false) (h2 : Exs n σ o f) : Ex n σ (.If t body o p) f := ex_if h1 nofun (fun _ => h2)
theorem ex_ifTe (h1 : Tr n σ t c) (q : c = true) (h2 : Exs n σ body f) : Ex n σ (.If t body o p) f := ex_ifT (q ▸ h1) h2
theorem ex_ifFe (h1 : Tr n σ t c) (q : c = false) (h2 : Exs n σ o f) : Ex n σ (.If t body o p) f := ex_ifF (q ▸ h1) h2
theorem xs_one (h : Ex n σ st (.next σ')) : Exs n σ [st] (.next σ') := xs_cons h xs_nil
theorem ev_as (h : Ev n σ e d) {d' : D} (q : d = d') : Ev n σ e d' := q ▸ h
theorem ev_ifT {x y : Expr} (h1 : Tr n σ t true) (h2 : Ev n σ x d) : Ev n σ (.IfExp t x y p) d := ev_if h1 (fun _ => h2) nofun
theorem ev_ifF {x y : Expr} (h1 : Tr n σ t false) (h2 : Ev n σ y d) : Ev n σ (.IfExp t x y p) d := ev_if h1 nofun (fun _ => h2)
theorem ev_ifTe {x y : Expr} (h1 : Tr n σ t c) (q : c = true) (h2 : Ev n σ x d) : Ev n σ (.IfExp t x y p) d := ev_ifT (q ▸ h1) h2
theorem ev_ifFe {x y : Expr} (h1 : Tr n σ t c) (q : c = false) (h2 : Ev n σ y d) : Ev n σ (.IfExp t x y p) d := ev_ifF (q ▸ h1) h2
theorem ev_ifI {x y : Expr} {a b : Int} (h1 : Tr n σ t c) (h2 : Ev n σ x (.int a)) (h3 : Ev n σ y (.int b)) : Ev n σ (.IfExp t x y p) (.int (if c then a else b)) := ev_if h1 (fun e => by rw [if_pos e]; exact h2) (fun e => by rw [e]; exact h3)
/-- a comprehension gives the items -/
structure CompE (n : Nat) (σ : St) (elt : Expr) (gs : List Comprehension) (sc : Scope) (ds : List D) : Prop where
  s : scopeOk σ sc = true
  g : ∀ g' ∈ gs, GenOk g'
  l : ds.length ≤ 2097152
  c : ∃ g r src its, gs = g :: r ∧ Ev n σ g.iter src ∧ Iter src its ∧ CompL n (CompT n elt r) g (enterC σ sc) its ds
theorem ev_ce (h : CompE n σ elt gs sc ds) : Ev n σ (.ListComp elt gs sc p) (.list ds) := by
  obtain ⟨h1, h2, h3, g, r, src, its, rfl, h4, h5, h6⟩ := h
  intro G A W O env s hA S
  exact ev_comp h1 h2 h4 h5 h6 h3 hA S
theorem ex_ce (hs : ∀ env, ∃ b, swapsWith (.ListComp elt gs sc cp) (some (.Name x np)) p.line env = pure b) (hx : stOk ns own x = true) (h : CompE n (stV ns xs ds own) elt gs sc dl) : Ex n (stV ns xs ds own) (.Assign [.Name x np] (.ListComp elt gs sc cp) p) (.next (stV ns (x :: xs) (.list dl :: ds) own)) := by
  obtain ⟨h1, h2, h3, g, r, src, its, rfl, h4, h5, h6⟩ := h
  rw [← setV_st hx]
  intro G A W O env s hA S
  exact ex_asgC hs (stOk_k hx) h1 h2 h4 h5 h6 h3 hA S
/-- one turn of the last clause -/
structure Tu (n : Nat) (σ : St) (t : Expr) (ifs : List Expr) (elt : Expr) (it : D) (c : Bool) (d : D) : Prop where
  t : ∃ σ₁, BindN σ t it σ₁ ∧ Tests n σ₁ ifs c ∧ (c = true → Ev n σ₁ elt d)
theorem tu_all (h1 : BindN σ t it σ₁) (h2 : Ev n σ₁ elt d) : Tu n σ t [] elt it true d := ⟨σ₁, h1, ts_nil, fun _ => h2⟩
theorem tu_if (h1 : BindN σ t it σ₁) (h : Tr n σ₁ e c) (h2 : c = true → Ev n σ₁ elt d) : Tu n σ t [e] elt it c d := ⟨σ₁, h1, ts_one h, h2⟩
theorem Tu.turn (h : Tu n σ t ifs elt it c d) {e : Expr} {k : Int} : ∃ σ₁ b, Turn n (CompT n elt []) ⟨t, e, ifs, k⟩ σ it (if c then [d] else []) σ₁ b := by
  obtain ⟨σ₁, h1, h2, h3⟩ := h.t
  exact ⟨σ₁, c, h1, h2, fun q => ⟨d, h3 q, by rw [q]; rfl⟩, fun q => by rw [q]; rfl⟩
theorem flat_if {α β : Type} (c : α → Bool) (f : α → β) : ∀ l : List α, l.flatMap (fun a => if c a then [f a] else []) = (l.filter c).map f
  | [] => rfl
  | a :: l => by
    rw [List.flatMap_cons, flat_if c f l, List.filter_cons]
    cases c a <;> rfl
section
variable {α : Type} {l : List α} {v w : α → D} {b : α → Bool}
theorem ce_filter (hsc : scopeOk (stV ns xs ds own) sc = true) (hs : plainSet e) (h1 : Ev n (stV ns xs ds own) e src) (h2 : Iter src (l.map v)) (h4 : l.length ≤ 2097152) (h3 : ∀ a ∈ l, Tu n (stV sc.names xs ds own) t ifs elt (v a) (b a) (w a)) : CompE n (stV ns xs ds own) elt [⟨t, e, ifs, 0⟩] sc ((l.filter b).map w) := by
  refine ⟨hsc, gens1 ⟨rfl, hs⟩, ?_, _, _, _, _, rfl, h1, h2, ?_⟩
  · rw [List.length_map]; exact Nat.le_trans (List.length_filter_le _ _) h4
  · rw [← flat_if]; exact CompL.map v _ l fun a ha => (h3 a ha).turn
theorem ce_map (hsc : scopeOk (stV ns xs ds own) sc = true) (hs : plainSet e) (h1 : Ev n (stV ns xs ds own) e src) (h2 : Iter src (l.map v)) (h4 : l.length ≤ 2097152) (h3 : ∀ a ∈ l, Tu n (stV sc.names xs ds own) t ifs elt (v a) true (w a)) : CompE n (stV ns xs ds own) elt [⟨t, e, ifs, 0⟩] sc (l.map w) := by
  have q := ce_filter (b := fun _ => true) hsc hs h1 h2 h4 h3
  rwa [List.filter_eq_self.mpr fun _ _ => rfl] at q
/-- one turn of the clause ahead of the last -/
structure Tv (n : Nat) (σ : St) (t : Expr) (elt : Expr) (g : Comprehension) (it : D) (out : List D) : Prop where
  t : ∃ σ₁, BindN σ t it σ₁ ∧ CompT n elt [g] σ₁ out
theorem tv_map {t2 e2 : Expr} (h1 : BindN σ t it σ₁) (hs : plainSet e2) (h2 : Ev n σ₁ e2 src) (h3 : Iter src (l.map v)) (h4 : ∀ a ∈ l, Tu n σ₁ t2 ifs elt (v a) true (w a)) : Tv n σ t elt ⟨t2, e2, ifs, 0⟩ it (l.map w) := by
  refine ⟨σ₁, h1, src, _, h2, h3, ?_⟩
  have q : l.map w = l.flatMap fun a => if true then [w a] else [] := by rw [flat_if (fun _ => true), List.filter_eq_self.mpr fun _ _ => rfl]
  rw [q]
  exact CompL.map v _ l fun a ha => (h4 a ha).turn
theorem ce_two {g : Comprehension} {w : α → List D} (hg : GenOk g) (hsc : scopeOk (stV ns xs ds own) sc = true) (hs : plainSet e) (h1 : Ev n (stV ns xs ds own) e src) (h2 : Iter src (l.map v)) (h4 : (l.flatMap w).length ≤ 2097152) (h3 : ∀ a ∈ l, Tv n (stV sc.names xs ds own) t elt g (v a) (w a)) : CompE n (stV ns xs ds own) elt [⟨t, e, [], 0⟩, g] sc (l.flatMap w) := by
  refine ⟨hsc, gens2 ⟨rfl, hs⟩ hg, h4, _, _, _, _, rfl, h1, h2, ?_⟩
  exact CompL.map v _ l fun a ha => let ⟨σ₁, q1, q2⟩ := (h3 a ha).t; ⟨σ₁, true, q1, ts_nil, fun _ => q2, nofun⟩
theorem im_at {k : Nat} {a : α} (hl : l.length ≤ 1048576) (h : l[k]? = some a) : ItemOk (.list (l.map v)) (.int k) (v a) := im_list (k := k) (j := k) rfl (by rw [List.length_map]; exact hl) (by rw [List.getElem?_map, h]; rfl)
end
/-- a loop that keeps a normal form -/
theorem fl_fold {α β : Type} {mk : β → St} {v : α → D} {step : β → α → β} (I : β → List α → Prop) {t : Expr} (h : ∀ b a l, I b (a :: l) → I (step b a) l ∧ ∃ σ₁, BindF (mk b) t (v a) σ₁ ∧ Exs n σ₁ body (.next (mk (step b a)))) : ∀ (l : List α) (b : β), I b l → ForL n t body (mk b) (l.map v) (.next (mk (l.foldl step b)))
  | [], _, _ => rfl
  | a :: l, b, i => let ⟨i1, _, q1, q2⟩ := h b a l i; fl_step q1 q2 (fl_fold I h l (step b a) i1)
end
local macro_rules | `(tactic| kspl_open lta) => `(tactic| first
  | with_reducible exact ta_and0 | with_reducible exact ta_or0
  | ((with_reducible refine' ta_and ?h1 (fun hc => ?h2)); (case h1 => kspl_open ltr); (case h2 => kspl_open lta))
  | ((with_reducible refine' ta_or ?h1 (fun hc => ?h2)); (case h1 => kspl_open ltr); (case h2 => kspl_open lta)))
local macro_rules | `(tactic| kspl_open ltr) => `(tactic| first
  | (with_reducible assumption)
  | ((with_reducible refine' tr_cmp ?h0 ?h1 ?h2 ?h3); (case h0 => rfl); (case h1 => kspl_open lpk); (case h2 => kspl_open lpk); (case h3 => kspl_open lcmp))
  | ((with_reducible refine' tr_not ?h1); (case h1 => kspl_open ltr))
  | ((with_reducible refine' tr_boolop ?h1); (case h1 => kspl_open lta))
  | ((with_reducible refine' tr_of ?h0 ?h1 .bool); (case h0 => exact fun _ => rfl); (case h1 => kspl_open lev)))
local macro_rules | `(tactic| kspl_open lblt) => `(tactic| first
  | assumption
  | ((with_reducible refine' bl_lenT ?h1); (case h1 => kspl_open lside)) | ((with_reducible refine' bl_lenL ?h1); (case h1 => kspl_open lside))
  | with_reducible exact bl_rng1 | with_reducible exact bl_max2 | with_reducible exact bl_min2 | with_reducible exact bl_sum)
local macro_rules | `(tactic| kspl_open litem) => `(tactic| first
  | assumption
  | ((with_reducible refine' im_tab ?h1); (case h1 => assumption))
  | ((with_reducible refine' im_t0 ?h1); (case h1 => kspl_open lside)) | ((with_reducible refine' im_t1 ?h1); (case h1 => kspl_open lside))
  | ((with_reducible refine' im_tuple ?h1 ?h2 ?h3); (case h1 => exact rfl); (case h2 => kspl_open lside); (case h3 => exact rfl)))
local macro_rules | `(tactic| kspl_open lslice) => `(tactic| first
  | assumption
  | ((with_reducible refine' sl_from ?h1); (case h1 => kspl_open lside)) | ((with_reducible refine' sl_to ?h1); (case h1 => kspl_open lside)))
local macro_rules | `(tactic| kspl_open lpart) => `(tactic| first
  | with_reducible exact pt_none
  | ((with_reducible refine' pt_some ?h1); (case h1 => kspl_open lev)))
local macro_rules | `(tactic| kspl_open lbn) => `(tactic| first
  | ((with_reducible refine' bn_v ?h1); (case h1 => kernel_rfl))
  | ((with_reducible refine' bn_tup ?h1 ?h2); (case h1 => kspl_open lbs); (case h2 => kspl_open lna)))
local macro_rules | `(tactic| kspl_open lbs) => `(tactic| first
  | with_reducible exact Binds.nil
  | ((with_reducible refine' bs_cons ?h1 ?h2); (case h1 => kernel_rfl); (case h2 => kspl_open lbs)))
local macro_rules | `(tactic| kspl_open lna) => `(tactic| first
  | with_reducible exact NewAll.nil
  | ((with_reducible refine' na_cons ?h1 ?h2); (case h1 => kernel_rfl); (case h2 => kspl_open lna)))
local macro_rules | `(tactic| kspl_open lbf) => `(tactic| first
  | ((with_reducible refine' bf_v ?h1); (case h1 => kernel_rfl))
  | ((with_reducible refine' bf_tup ?h1); (case h1 => kspl_open lbs)))
local macro_rules | `(tactic| kspl_open ltu) => `(tactic| first
  | ((with_reducible refine' tu_all ?h1 ?h2); (case h1 => kspl_open lbn); (case h2 => kspl_open lev))
  | ((with_reducible refine' tu_if ?h1 ?h2 (fun hc => ?h3)); (case h1 => kspl_open lbn); (case h2 => kspl_open ltr); (case h3 => kspl_open lev)))
local macro_rules | `(tactic| kspl_open lit) => `(tactic| first
  | assumption | with_reducible exact it_list | with_reducible exact it_tuple)
local macro_rules | `(tactic| kspl_open lce) => `(tactic| first
  | assumption
  | ((with_reducible refine' ce_map ?h1 ?h2 ?h3 ?h4 ?h5 (fun a ha => ?h6)); (case h3 => kspl_open lev); (case h4 => kspl_open lit); (case h1 => kernel_rfl); (case h2 => exact fun _ _ => rfl); (case h5 => kspl_open lside); (case h6 => kspl_open ltu))
  | ((with_reducible refine' ce_filter ?h1 ?h2 ?h3 ?h4 ?h5 (fun a ha => ?h6)); (case h3 => kspl_open lev); (case h4 => kspl_open lit); (case h1 => kernel_rfl); (case h2 => exact fun _ _ => rfl); (case h5 => kspl_open lside); (case h6 => kspl_open ltu)))
local macro_rules | `(tactic| kspl_open lbo) => `(tactic| first
  | ((with_reducible refine' bo_last ?h1); (case h1 => kspl_open lev))
  | ((with_reducible refine' bo_and ?h1 (fun hc => ?h2)); (case h1 => kspl_open lev); (case h2 => kspl_open lbo))
  | ((with_reducible refine' bo_or ?h1 (fun hc => ?h2)); (case h1 => kspl_open lev); (case h2 => kspl_open lbo)))
local macro_rules | `(tactic| kspl_open lev) => `(tactic| first
  | (with_reducible assumption)
  | with_reducible exact ev_int | ((with_reducible refine' ev_strE ?hs); (case hs => with_reducible assumption)) | with_reducible exact ev_str | with_reducible exact ev_bool
  | kspl_open lvar
  | ((with_reducible refine' ev_off ?h1); (case h1 => kernel_rfl)) | ((with_reducible refine' ev_endm ?h1); (case h1 => kernel_rfl)) | ((with_reducible refine' ev_tab ?h1); (case h1 => kernel_rfl)) | ((with_reducible refine' ev_dots ?h1); (case h1 => kernel_rfl))
  | ((with_reducible refine' ev_bin ?h1 ?h2 ?h3); (case h1 => kspl_open lpk); (case h2 => kspl_open lpk); (case h3 => kspl_open lbin))
  | ((with_reducible refine' ev_cmp ?h0 ?h1 ?h2 ?h3); (case h0 => rfl); (case h1 => kspl_open lpk); (case h2 => kspl_open lpk); (case h3 => kspl_open lcmp))
  | ((with_reducible refine' ev_tuple ?h1 ?h2 ?h3); (case h1 => exact fun _ => rfl); (case h3 => kspl_open lea); (case h2 => kspl_open lside))
  | ((with_reducible refine' ev_list ?h1 ?h2 ?h3); (case h1 => exact fun _ => rfl); (case h3 => kspl_open lea); (case h2 => kspl_open lside))
  | ((with_reducible refine' ev_callV ?h1 ?h2 ?h3 ?h4); (case h1 => decide +kernel); (case h2 => exact fun _ => rfl); (case h3 => kspl_open lea); (case h4 => with_reducible assumption))
  | ((with_reducible refine' ev_bltV ?h1 ?hf ?h2 ?h3 ?h4); (case h1 => decide +kernel); (case hf => exact rfl); (case h2 => exact fun _ => rfl); (case h3 => kspl_open lpa); (case h4 => kspl_open lblt))
  | ((with_reducible refine' ev_item ?h1 ?h2 ?h3); (case h1 => kspl_open lpk); (case h2 => kspl_open lev); (case h3 => kspl_open litem))
  | ((with_reducible refine' ev_slice ?h1 ?h2 ?h3 ?h4 ?h5); (case h1 => kspl_open lpk); (case h2 => kspl_open lpart); (case h3 => kspl_open lpart); (case h4 => kspl_open lpart); (case h5 => kspl_open lslice))
  | ((with_reducible refine' ev_meth ?h1 ?h2 ?h3 ?h4 ?h5 ?h6 ?h7); (case h1 => exact fun _ => rfl); (case h2 => decide +kernel); (case h3 => decide +kernel); (case h4 => exact fun _ => rfl); (case h5 => kspl_open lpk); (case h6 => kspl_open lpa); (case h7 => with_reducible assumption))
  | ((with_reducible refine' ev_ifTe ?h1 ?hq ?h2); (case h1 => kspl_open ltr); (case hq => assumption); (case h2 => kspl_open lev))
  | ((with_reducible refine' ev_ifFe ?h1 ?hq ?h2); (case h1 => kspl_open ltr); (case hq => assumption); (case h2 => kspl_open lev))
  | ((with_reducible refine' ev_ifI ?h1 ?h2 ?h3); (case h1 => kspl_open ltr); (case h2 => kspl_open lev); (case h3 => kspl_open lev))
  | ((with_reducible refine' ev_neg ?h1); (case h1 => kspl_open lev))
  | ((with_reducible refine' ev_not ?h1 .bool); (case h1 => kspl_open lev))
  | ((with_reducible refine' ev_boolop ?h1); (case h1 => kspl_open lbo))
  | ((with_reducible refine' ev_ce ?h1); (case h1 => kspl_open lce)))
local macro_rules | `(tactic| kspl_open lst) => `(tactic| first
  | ((with_reducible refine' ex_newV ?h1); (case h1 => kernel_rfl))
  | ((with_reducible refine' ex_ce ?h1 ?h2 ?h3); (case h1 => exact fun _ => ⟨_, rfl⟩); (case h2 => kernel_rfl); (case h3 => kspl_open lce))
  | kspl_open lasg)
noncomputable section
open PyProof.Rows
/-- a statement: a name, a sign (0 !=, 1 <, 2 >), a name -/
noncomputable abbrev St3 := Nat × Nat × Nat
noncomputable def sgL : Nat → List Nat
  | 0 => [33, 61]
  | 1 => [60]
  | _ => [62]
noncomputable abbrev enc1 (x : St3) : D := .tuple [.int (x.1 : Nat), .str (S (sgL x.2.1)), .int (x.2.2 : Nat)]
noncomputable def Ok3 (x : St3) : Prop := x.1 < 4 ∧ x.2.1 < 3 ∧ x.2.2 < 4
theorem sgL_len (k : Nat) : (sgL k).length ≤ 2 := by unfold sgL; split <;> simp
structure TA where
  t : List Nat
  last : Int
/-- the text so far -/
noncomputable def txStep (a : TA) (x : St3) : TA :=
  ⟨(if (x.1 : Int) = a.last then a.t else a.t ++ (if a.t = [] then [] else [44]) ++ [97 + x.1]) ++ sgL x.2.1 ++ [97 + x.2.2], (x.2.2 : Nat)⟩
noncomputable abbrev tN := (fnAt 63).scope.names
noncomputable abbrev txMk (l : D) (a : TA) : St := stV tN ["last", "text", "drawn"] [.int a.last, .str (S a.t), l] none
theorem fn_text : fns "_law_text" = some (fnAt 63) := by unfold fns; kernel_rfl
theorem abcd_S : Str.ofString "abcd" = S [97, 98, 99, 100] := by decide +kernel
theorem nil_S : Str.ofString "" = S [] := by decide +kernel
theorem abcd_at {o : Nat} (h : o < 4) : ItemOk (.str (S [97, 98, 99, 100])) (.int (o : Nat)) (.str (S [97 + o])) := im_S (by
  rcases (show o = 0 ∨ o = 1 ∨ o = 2 ∨ o = 3 by omega) with rfl | rfl | rfl | rfl <;> rfl) (by
  rcases (show o = 0 ∨ o = 1 ∨ o = 2 ∨ o = 3 by omega) with rfl | rfl | rfl | rfl <;> rfl)
set_option maxHeartbeats 4000000 in
theorem tx_turn {n : Nat} {l : D} {a : TA} {x : St3} (hx : Ok3 x) (hl : a.t.length ≤ 1000) :
    ∃ σ₁, BindF (txMk l a) (targetOf (fnAt 63).body) (enc1 x) σ₁ ∧ Exs n σ₁ (bodyOf (fnAt 63).body) (.next (txMk l (txStep a x))) := by
  obtain ⟨o, g, w⟩ := x
  obtain ⟨h1, h2, h3⟩ := hx
  have k1 := nil_S
  have k2 : Str.ofString "," = S [44] := by decide +kernel
  have k3 := abcd_S
  have i1 := @abcd_at o h1
  have i2 := @abcd_at w h3
  have hg := sgL_len g
  refine ⟨stV tN ["two", "sign", "one", "last", "text", "drawn"] [.int (w : Nat), .str (S (sgL g)), .int (o : Nat), .int a.last, .str (S a.t), l] none, ?_, ?_⟩
  · show BindF _ (.Tuple _ _ _) (.tuple [_, _, _]) _
    kspl_open lbf
  · have fin : ∀ t : List Nat, t.length ≤ 1100 → txStep a (o, g, w) = ⟨t ++ sgL g ++ [97 + w], (w : Nat)⟩ →
        Ex n (stV tN ["two", "sign", "one", "last", "text", "drawn"] [.int (w : Nat), .str (S (sgL g)), .int (o : Nat), .int a.last, .str (S a.t), l] none) ((bodyOf (fnAt 63).body).headD (.Pass ⟨0, 0, 0, 0⟩)) (.next (stV tN ["text", "two", "sign", "one", "last", "drawn"] [.str (S t), .int (w : Nat), .str (S (sgL g)), .int (o : Nat), .int a.last, l] none)) →
        Exs n (stV tN ["two", "sign", "one", "last", "text", "drawn"] [.int (w : Nat), .str (S (sgL g)), .int (o : Nat), .int a.last, .str (S a.t), l] none) (bodyOf (fnAt 63).body) (.next (txMk l (txStep a (o, g, w)))) := by
      intro t ht e h
      rw [e]
      show Exs n _ (((bodyOf (fnAt 63).body).headD (.Pass ⟨0, 0, 0, 0⟩)) :: _ :: _ :: []) _
      with_reducible refine' xs_cons h (xs_weak (xs_cons ?a1 (xs_cons ?a2 xs_nil)) ?a3)
      case a1 => kspl_open lst
      case a2 => kspl_open lst
      case a3 => exact weak_v [0, 1, 7] (by decide +kernel) rfl
    rcases Classical.em ((o : Int) = a.last) with c1 | c1
    · have e1 : txStep a (o, g, w) = ⟨a.t ++ sgL g ++ [97 + w], (w : Nat)⟩ := by unfold txStep; rw [if_pos c1]
      have e2 : a.t.length ≤ 1100 := by omega
      with_reducible refine' fin a.t e2 e1 ?e3
      show Ex n _ (.If _ _ _ _) _
      have cc : (!decide ((o : Int) = a.last)) = false := by rw [decide_eq_true c1]; rfl
      with_reducible refine' ex_weak (ex_ifFe ?q1 cc xs_nil) ?q2
      case q1 => kspl_open ltr
      case q2 => exact weak_v [4, 0, 1, 2, 3, 5] (by decide +kernel) rfl
    · have cc : (!decide ((o : Int) = a.last)) = true := by rw [decide_eq_false c1]; rfl
      rcases Classical.em (a.t = []) with c2 | c2
      · have e1 : txStep a (o, g, w) = ⟨(a.t ++ [] ++ [97 + o]) ++ sgL g ++ [97 + w], (w : Nat)⟩ := by unfold txStep; rw [if_neg c1, if_pos c2]
        have e2 : (a.t ++ [] ++ [97 + o]).length ≤ 1100 := by simp only [List.length_append, List.length_singleton, List.length_nil]; omega
        have c3 : (!decide (a.t = [])) = false := by rw [decide_eq_true c2]; rfl
        with_reducible refine' fin _ e2 e1 ?e4
        show Ex n _ (.If _ _ _ _) _
        with_reducible refine' ex_weak (ex_ifTe ?r4 cc (xs_one ?s4)) ?t4
        case r4 => kspl_open ltr
        case s4 => kspl_open lst
        case t4 => exact weak_v [0, 1, 2, 3, 4, 6] (by decide +kernel) rfl
      · have e1 : txStep a (o, g, w) = ⟨(a.t ++ [44] ++ [97 + o]) ++ sgL g ++ [97 + w], (w : Nat)⟩ := by unfold txStep; rw [if_neg c1, if_neg c2]
        have e2 : (a.t ++ [44] ++ [97 + o]).length ≤ 1100 := by simp only [List.length_append, List.length_singleton]; omega
        have c3 : (!decide (a.t = [])) = true := by rw [decide_eq_false c2]; rfl
        with_reducible refine' fin _ e2 e1 ?e5
        show Ex n _ (.If _ _ _ _) _
        with_reducible refine' ex_weak (ex_ifTe ?r5 cc (xs_one ?s5)) ?t5
        case r5 => kspl_open ltr
        case s5 => kspl_open lst
        case t5 => exact weak_v [0, 1, 2, 3, 4, 6] (by decide +kernel) rfl
noncomputable def txInv (a : TA) (l : List St3) : Prop := a.t.length + 6 * l.length ≤ 100 ∧ ∀ x ∈ l, Ok3 x
theorem tx_inv {a : TA} {x : St3} {r : List St3} (h : txInv a (x :: r)) : txInv (txStep a x) r := by
  refine ⟨?_, fun y hy => h.2 y (List.mem_cons_of_mem _ hy)⟩
  have h1 := h.1
  simp only [List.length_cons] at h1
  have hg := sgL_len x.2.1
  unfold txStep
  simp only [List.length_append, List.length_cons, List.length_nil]
  split
  · omega
  · simp only [List.length_append, List.length_cons, List.length_nil]
    split <;> simp only [List.length_cons, List.length_nil] <;> omega
noncomputable def txA0 : TA := ⟨[], -1⟩
noncomputable def txAll (l : List St3) : List Nat := (l.foldl txStep txA0).t
theorem text_spec {n : Nat} {l : List St3} (hl : l.length ≤ 5) (hok : ∀ x ∈ l, Ok3 x) : Call (n + 1) "_law_text" [.list (l.map enc1)] (.str (S (txAll l))) := by
  have k1 := nil_S
  refine call_ok (fn := fnAt 63) fn_text (by kernel_rfl) (fun _ _ _ _ _ => by show _ = _; kernel_rfl) rfl ?h
  case h =>
    show Exs n (stV tN ["drawn"] [.list (l.map enc1)] none) (_ :: _ :: _ :: _ :: []) _
    have L := fl_fold (n := n) (body := bodyOf (fnAt 63).body) (mk := txMk (.list (l.map enc1))) (v := enc1) (step := txStep) txInv (t := targetOf (fnAt 63).body) (fun b a r h => ⟨tx_inv h, tx_turn (h.2 a List.mem_cons_self) (by have := h.1; omega)⟩) l txA0 ⟨by show 0 + 6 * l.length ≤ 100; omega, hok⟩
    with_reducible refine' xs_cons ?a1 (xs_cons ?a2 (xs_cons (ex_for ?a3 ?a4 it_list ?a6) ?a5))
    case a1 => kspl_open lst
    case a2 => kspl_open lst
    case a6 => exact L
    case a3 => exact fun _ _ => rfl
    case a4 => kspl_open lev
    case a5 => kspl_open lret
end
noncomputable section
open PyProof.Rows
theorem fn_symb : fns "_law_symbols" = some (fnAt iSym) := by unfold fns; kernel_rfl
noncomputable def whBody : List Stmt → List Stmt
  | .While _ b _ _ :: _ => b
  | _ :: r => whBody r
  | [] => []
noncomputable def whTest : List Stmt → Expr
  | .While t _ _ _ :: _ => t
  | _ :: r => whTest r
  | [] => .Name "" ⟨0, 0, 0, 0⟩
noncomputable abbrev syN := (fnAt iSym).scope.names
noncomputable abbrev syMk (t : List Nat) (ss : List Int) : St := stV syN ["symbols", "text"] [.list (ss.map .int), .str (S t)] (some "symbols")
noncomputable abbrev knC (l : List Nat) : List Nat := [3, 2, 1].filter fun k => (tokTbl.lookup (S (l.take k))).isSome
noncomputable abbrev knL (l : List Nat) (c : Nat) : List D := (knC l).map (fun k => .str (S (l.take k))) ++ [.str (S [c])]
theorem it_321 : Iter (.tuple [.int 3, .int 2, .int 1]) (([3, 2, 1] : List Nat).map fun k : Nat => .int (k : Nat)) := @it_tuple _
theorem knC_len (l : List Nat) : (knC l).length ≤ 3 := List.length_filter_le _ _
set_option maxHeartbeats 4000000 in
/-- a turn: the longest known start, else the letter -/
theorem sy_body {n : Nat} {l : List Nat} {c : Nat} {v : Int} {m : Nat} {ss : List Int} (h0 : l[0]? = some c) (hl : l.length ≤ 1000) (hs : ss.length ≤ 1000) (hm : m ≤ l.length)
    (hk : (∃ r, knC l = m :: r ∧ tokTbl.lookup (S (l.take m)) = some v) ∨ (knC l = [] ∧ m = 1 ∧ ∃ k : Nat, v = 256 + (k : Int) ∧ MethOk (.str (S [97, 98, 99, 100])) "index" [.str (S [c])] (.int (k : Nat)) "str" "str.index")) :
    Exs n (syMk l ss) (whBody (fnAt iSym).body) (.next (syMk (l.drop m) (ss ++ [v]))) := by
  have k3 := abcd_S
  have hm' : (l.take m).length = m := by rw [List.length_take]; omega
  have hkl := knC_len l
  have a1 : ((knC l).map (fun k => D.str (S (l.take k)))).length + [D.str (S [c])].length ≤ 1048576 := by rw [List.length_map, List.length_singleton]; omega
  have a2 : (knL l c).length ≤ 1048576 := by rw [List.length_append]; exact a1
  have a3 : (ss.map D.int).length ≤ 1048576 := by rw [List.length_map]; omega
  have hlen : l.length ≤ 1048576 := by omega
  have i1 : ItemOk (.str (S l)) (.int 0) (.str (S [c])) := @im_S _ 0 _ h0 rfl
  have i0 : ItemOk (.list (knL l c)) (.int 0) (.str (S (l.take m))) := by
    refine im_list (k := 0) (j := 0) rfl a2 ?_
    rcases hk with ⟨r, e, _⟩ | ⟨e, rfl, _⟩
    · unfold knL; rw [e]; rfl
    · unfold knL; rw [e]
      cases l with
      | nil => cases h0
      | cons a t => cases h0; rfl
  have b1 : BltOk (.builtin "len") [.str (S (l.take m))] (.int (m : Nat)) := by
    have q := @bl_lenT (l.take m) (by omega)
    rw [hm'] at q; exact @q
  have i321 := @it_321
  show Exs n _ (_ :: .Expr (.Call (.Attribute (.Name _ _) _ _) [_] [] _) _ :: _ :: []) _
  with_reducible refine' xs_weak (xs_cons ?s1 (xs_cons (ex_appendV 1 ?t1 ?t2 ?t3 ?t4 ?t5 ?t6 ?t7) (xs_one ?s3))) ?s4
  case s1 =>
    with_reducible refine' ex_asgV ?u1 ?u2 (ev_bin (pkEv (ev_ce (ce_filter ?u3 ?u4 ?u5 i321 ?u6 (fun a ha => ?u7)))) ?u8 (bi_app a1))
    case u1 => exact fun _ => rfl
    case u2 => kernel_rfl
    case u3 => kernel_rfl
    case u4 => exact fun _ _ => rfl
    case u5 => kspl_open lev
    case u6 => exact Nat.le_of_ble_eq_true rfl
    case u7 => kspl_open ltu
    case u8 => kspl_open lpk
  case t1 => kernel_rfl
  case t2 => rfl
  case t3 => exact fun _ => rfl
  case t4 => rfl
  case t5 => exact fun _ => rfl
  case t6 => exact a3
  case t7 =>
    rcases hk with ⟨r, e, hv⟩ | ⟨e, _, k, rfl, hi⟩
    · have hg : decide ((1 : Int) < ((knL l c).length : Nat)) = true := by rw [decide_eq_true_iff, List.length_append, List.length_map, e]; simp only [List.length_cons, List.length_nil]; omega
      kspl_open lev
    · have hg : decide ((1 : Int) < ((knL l c).length : Nat)) = false := by rw [decide_eq_false_iff_not, List.length_append, List.length_map, e]; exact Int.lt_irrefl 1
      kspl_open lev
  case s3 => kspl_open lst
  case s4 => exact weak_v [1, 0] (by decide +kernel) (by rw [List.map_append]; rfl)
noncomputable def sgV : Nat → Int
  | 0 => 28
  | 1 => 20
  | _ => 21
noncomputable def isLet (c : Nat) : Prop := 97 ≤ c ∧ c < 101
inductive Toks : List Nat → List Int → Prop
  | nil : Toks [] []
  | letter {c r vs} : isLet c → Toks r vs → Toks (c :: r) ((256 + ((c : Nat) - 97 : Int)) :: vs)
  | comma {c r vs} : isLet c → Toks (c :: r) vs → Toks (44 :: c :: r) (12 :: vs)
  | sign {g c r vs} : g < 3 → isLet c → Toks (c :: r) vs → Toks (sgL g ++ c :: r) (sgV g :: vs)
theorem tbl_noLet : (tokTbl.all fun p => p.1.cps.toList.all fun c => !(decide (97 ≤ c) && decide (c < 101))) = true := by decide +kernel
theorem lk_letter {x : List Nat} {c : Nat} (hc : isLet c) (hm : c ∈ x) : tokTbl.lookup (S x) = none := by
  rw [List.lookup_eq_none_iff]
  intro p hp
  have h := tbl_noLet
  rw [List.all_eq_true] at h
  have h := h p hp
  rw [List.all_eq_true] at h
  rw [bne_iff_ne]
  intro e
  have h := h c (by rw [← e]; simpa [S] using hm)
  simp [hc.1, hc.2] at h
theorem lk_letS {x : List Nat} {c : Nat} (hc : isLet c) (hm : c ∈ x) : (tokTbl.lookup (S x)).isSome = false := by rw [lk_letter hc hm]; rfl
theorem knC_of {l : List Nat} {b3 b2 b1 : Bool} (h3 : (tokTbl.lookup (S (l.take 3))).isSome = b3) (h2 : (tokTbl.lookup (S (l.take 2))).isSome = b2) (h1 : (tokTbl.lookup (S (l.take 1))).isSome = b1) : knC l = (if b3 then [3] else []) ++ ((if b2 then [2] else []) ++ (if b1 then [1] else [])) := by
  subst h3 h2 h1
  unfold knC
  simp only [List.filter_cons, List.filter_nil]
  cases (tokTbl.lookup (S (l.take 3))).isSome <;> cases (tokTbl.lookup (S (l.take 2))).isSome <;> cases (tokTbl.lookup (S (l.take 1))).isSome <;> rfl
theorem sy_test {n : Nat} {t : List Nat} {ss : List Int} : Tr n (syMk t ss) (whTest (fnAt iSym).body) (!decide (t = [])) := by
  have k1 := nil_S
  show Tr n _ (.Compare _ [_] [_] _) _
  kspl_open ltr
theorem wl_end {n : Nat} {t : Expr} {body : List Stmt} {k : Nat} {σ : St} (h : Tr n σ t false) : WhL n t body (k + 1) σ (.next σ) := .inl ⟨h, rfl⟩
theorem wl_step {n : Nat} {t : Expr} {body : List Stmt} {k : Nat} {σ σ' : St} {f : Fl} (h : Tr n σ t true) (h1 : Exs n σ body (.next σ')) (hn : σ'.names = σ.names) (h2 : WhL n t body k σ' f) : WhL n t body (k + 1) σ f := .inr ⟨h, .inl ⟨σ', h1, hn, h2⟩⟩
theorem sy_step {n : Nat} {c m : Nat} {v : Int} {t : List Nat} {vs ss : List Int} {f : Nat} (h : Exs n (syMk (c :: t) ss) (whBody (fnAt iSym).body) (.next (syMk ((c :: t).drop m) (ss ++ [v])))) (ih : WhL n (whTest (fnAt iSym).body) (whBody (fnAt iSym).body) f (syMk ((c :: t).drop m) (ss ++ [v])) (.next (syMk [] (ss ++ [v] ++ vs)))) :
    WhL n (whTest (fnAt iSym).body) (whBody (fnAt iSym).body) (f + 1) (syMk (c :: t) ss) (.next (syMk [] (ss ++ v :: vs))) := by
  rw [List.append_assoc] at ih
  have q := @sy_test n (c :: t) ss
  exact wl_step @q h rfl ih
theorem sy_while {n : Nat} {t : List Nat} {vs : List Int} (h : Toks t vs) : ∀ (f : Nat) (ss : List Int), vs.length < f → t.length ≤ 1000 → ss.length + vs.length ≤ 1000 →
    WhL n (whTest (fnAt iSym).body) (whBody (fnAt iSym).body) f (syMk t ss) (.next (syMk [] (ss ++ vs))) := by
  induction h with
  | nil =>
    intro f ss hf _ _
    obtain ⟨f, rfl⟩ := Nat.exists_eq_succ_of_ne_zero (Nat.ne_of_gt hf)
    rw [List.append_nil]
    have q := @sy_test n [] ss
    exact wl_end @q
  | @letter c r vs hc _ ih =>
    intro f ss hf ht hs
    obtain ⟨f, rfl⟩ := Nat.exists_eq_succ_of_ne_zero (Nat.ne_of_gt (Nat.lt_of_le_of_lt (Nat.zero_le _) hf))
    simp only [List.length_cons] at hf ht hs
    have hi : MethOk (.str (S [97, 98, 99, 100])) "index" [.str (S [c])] (.int ((c - 97 : Nat) : Int)) "str" "str.index" := by
      have h : Txt.contains (S [97, 98, 99, 100]) (S [c]) = true ∧ Txt.find (S [97, 98, 99, 100]) (S [c]) = ((c - 97 : Nat) : Int) := by
        obtain ⟨h1, h2⟩ := hc
        rcases (show c = 97 ∨ c = 98 ∨ c = 99 ∨ c = 100 by omega) with rfl | rfl | rfl | rfl <;> decide +kernel
      have q := @md_index _ _ h.1
      rw [h.2] at q; exact @q
    have e : knC (c :: r) = [] := knC_of (lk_letS hc (by simp)) (lk_letS hc (by simp)) (lk_letS hc (by simp))
    have hb := @sy_body n (c :: r) c (256 + ((c : Nat) - 97 : Int)) 1 ss rfl (by simp only [List.length_cons]; omega) (by omega) (by simp) (.inr ⟨e, rfl, c - 97, by have := hc.1; omega, @hi⟩)
    exact sy_step @hb (ih f _ (by omega) (by omega) (by simp only [List.length_append, List.length_cons, List.length_nil]; omega))
  | @comma c r vs hc _ ih =>
    intro f ss hf ht hs
    obtain ⟨f, rfl⟩ := Nat.exists_eq_succ_of_ne_zero (Nat.ne_of_gt (Nat.lt_of_le_of_lt (Nat.zero_le _) hf))
    simp only [List.length_cons] at hf ht hs
    have v1 : tokTbl.lookup (S ((44 :: c :: r).take 1)) = some 12 := by show tokTbl.lookup (S [44]) = _; decide +kernel
    have e : knC (44 :: c :: r) = 1 :: [] := knC_of (b3 := false) (b2 := false) (b1 := true) (lk_letS hc (by cases r <;> simp)) (lk_letS hc (by simp)) (by rw [v1]; rfl)
    have hb := @sy_body n (44 :: c :: r) 44 12 1 ss rfl (by simp only [List.length_cons]; omega) (by omega) (by simp) (.inl ⟨_, e, v1⟩)
    exact sy_step @hb (ih f _ (by omega) (by simp only [List.length_cons]; omega) (by simp only [List.length_append, List.length_cons, List.length_nil]; omega))
  | @sign g c r vs hg hc _ ih =>
    intro f ss hf ht hs
    obtain ⟨f, rfl⟩ := Nat.exists_eq_succ_of_ne_zero (Nat.ne_of_gt (Nat.lt_of_le_of_lt (Nat.zero_le _) hf))
    simp only [List.length_cons, List.length_append] at hf ht hs
    have ih := ih f (ss ++ [sgV g]) (by omega) (by simp only [List.length_cons]; omega) (by simp only [List.length_append, List.length_cons, List.length_nil]; omega)
    rcases (show g = 0 ∨ g = 1 ∨ g = 2 by omega) with rfl | rfl | rfl
    · have v2 : tokTbl.lookup (S ((sgL 0 ++ c :: r).take 2)) = some 28 := by show tokTbl.lookup (S [33, 61]) = _; decide +kernel
      have b1 : (tokTbl.lookup (S ((sgL 0 ++ c :: r).take 1))).isSome = true := by show (tokTbl.lookup (S [33])).isSome = true; decide +kernel
      have e : knC (sgL 0 ++ c :: r) = 2 :: [1] := knC_of (b3 := false) (b2 := true) (b1 := true) (lk_letS hc (by simp [sgL])) (by rw [v2]; rfl) b1
      have hb := @sy_body n (sgL 0 ++ c :: r) 33 28 2 ss rfl (by simp only [List.length_append, List.length_cons]; omega) (by omega) (by simp [sgL]) (.inl ⟨_, e, v2⟩)
      exact sy_step @hb ih
    · have v1 : tokTbl.lookup (S ((sgL 1 ++ c :: r).take 1)) = some 20 := by show tokTbl.lookup (S [60]) = _; decide +kernel
      have e : knC (sgL 1 ++ c :: r) = 1 :: [] := knC_of (b3 := false) (b2 := false) (b1 := true) (lk_letS hc (by simp [sgL])) (lk_letS hc (by simp [sgL])) (by rw [v1]; rfl)
      have hb := @sy_body n (sgL 1 ++ c :: r) 60 20 1 ss rfl (by simp only [List.length_append, List.length_cons]; omega) (by omega) (by simp [sgL]) (.inl ⟨_, e, v1⟩)
      exact sy_step @hb ih
    · have v1 : tokTbl.lookup (S ((sgL 2 ++ c :: r).take 1)) = some 21 := by show tokTbl.lookup (S [62]) = _; decide +kernel
      have e : knC (sgL 2 ++ c :: r) = 1 :: [] := knC_of (b3 := false) (b2 := false) (b1 := true) (lk_letS hc (by simp [sgL])) (lk_letS hc (by simp [sgL])) (by rw [v1]; rfl)
      have hb := @sy_body n (sgL 2 ++ c :: r) 62 21 1 ss rfl (by simp only [List.length_append, List.length_cons]; omega) (by omega) (by simp [sgL]) (.inl ⟨_, e, v1⟩)
      exact sy_step @hb ih
theorem symbols_spec {n : Nat} {t : List Nat} {vs : List Int} (h : Toks t vs) (h1 : t.length ≤ 1000) (h2 : vs.length ≤ 300) : Call (n + 1) "_law_symbols" [.str (S t)] (.list ((vs ++ [0]).map .int)) := by
  refine call_ok (fn := fnAt iSym) fn_symb (by kernel_rfl) (fun _ _ _ _ _ => by show _ = _; kernel_rfl) rfl ?h
  case h =>
    show Exs n (stV syN ["text"] [.str (S t)] none) (_ :: _ :: _ :: []) _
    have L := sy_while (n := n) h 400 [] (by omega) h1 (by simp; omega)
    have hsl : (vs.map D.int).length ≤ 1048576 := by simp only [List.length_map]; omega
    with_reducible refine' xs_cons ?a1 (xs_cons (ex_while 400 ?a2) (xs_ret (ex_retV ?a3)))
    case a1 => kspl_open lst
    case a2 => exact L
    case a3 =>
      with_reducible refine' ev_as (d := .list (vs.map D.int ++ [.int 0])) ?a4 ?a5
      case a5 => rw [List.map_append]; rfl
      case a4 =>
        show Ev n (stV syN ["symbols", "text"] [.list (vs.map .int), .str (S [])] none) _ (.list (vs.map .int ++ [.int 0]))
        kspl_open lev
/-! the text's symbols -/
noncomputable def txR (first : Bool) (last : Int) : List St3 → List Nat
  | [] => []
  | x :: r => (if (x.1 : Int) = last then [] else (if first then [] else [44]) ++ [97 + x.1]) ++ sgL x.2.1 ++ [97 + x.2.2] ++ txR false (x.2.2 : Nat) r
noncomputable def syR (first : Bool) (last : Int) : List St3 → List Int
  | [] => []
  | x :: r => (if (x.1 : Int) = last then [] else (if first then [] else [12]) ++ [256 + (x.1 : Int)]) ++ [sgV x.2.1, 256 + (x.2.2 : Int)] ++ syR false (x.2.2 : Nat) r
theorem tx_fold : ∀ (l : List St3) (a : TA), (l.foldl txStep a).t = a.t ++ txR (decide (a.t = [])) a.last l
  | [], a => by simp [txR]
  | x :: r, a => by
    rw [List.foldl_cons, tx_fold r]
    have hne : (txStep a x).t ≠ [] := by unfold txStep; simp
    have e1 : decide ((txStep a x).t = []) = false := decide_eq_false hne
    rw [e1]
    show (txStep a x).t ++ txR false (x.2.2 : Nat) r = _
    unfold txStep
    simp only [txR]
    by_cases c1 : (x.1 : Int) = a.last
    · simp [c1]
    · by_cases c2 : a.t = []
      · simp [c1, c2]
      · simp [c1, c2]
theorem toks_R : ∀ (l : List St3) (first : Bool) (last : Int), (∀ x ∈ l, Ok3 x) → Toks (txR first last l) (syR first last l)
  | [], _, _, _ => .nil
  | (o, g, w) :: r, first, last, h => by
    obtain ⟨h1, h2, h3⟩ := h _ List.mem_cons_self
    simp only at h1 h2 h3
    have ih := toks_R r false (w : Nat) fun y hy => h y (List.mem_cons_of_mem _ hy)
    have t1 : Toks ((97 + w) :: txR false (w : Nat) r) ((256 + (w : Int)) :: syR false (w : Nat) r) := by
      have := Toks.letter (c := 97 + w) ⟨by omega, by omega⟩ ih
      rwa [show (256 + (((97 + w : Nat) : Int) - 97)) = 256 + (w : Int) by omega] at this
    have t2 : Toks (sgL g ++ (97 + w) :: txR false (w : Nat) r) (sgV g :: (256 + (w : Int)) :: syR false (w : Nat) r) := .sign h2 ⟨by omega, by omega⟩ t1
    have t3 : Toks ((97 + o) :: (sgL g ++ (97 + w) :: txR false (w : Nat) r)) ((256 + (o : Int)) :: sgV g :: (256 + (w : Int)) :: syR false (w : Nat) r) := by
      have := Toks.letter (c := 97 + o) ⟨by omega, by omega⟩ t2
      rwa [show (256 + (((97 + o : Nat) : Int) - 97)) = 256 + (o : Int) by omega] at this
    unfold txR syR
    simp only
    by_cases c1 : (o : Int) = last
    · simpa [c1] using t2
    · cases first with
      | true => simpa [c1] using t3
      | false => simpa [c1] using Toks.comma ⟨by omega, by omega⟩ t3
theorem syR_len : ∀ (l : List St3) (first : Bool) (last : Int), (syR first last l).length ≤ 4 * l.length
  | [], _, _ => by simp [syR]
  | x :: r, first, last => by
    have ih := syR_len r false (x.2.2 : Nat)
    unfold syR
    simp only [List.length_append, List.length_cons, List.length_nil]
    split
    · simp; omega
    · cases first <;> simp <;> omega
theorem txR_len : ∀ (l : List St3) (first : Bool) (last : Int), (txR first last l).length ≤ 5 * l.length
  | [], _, _ => by simp [txR]
  | x :: r, first, last => by
    have ih := txR_len r false (x.2.2 : Nat)
    have hg := sgL_len x.2.1
    unfold txR
    simp only [List.length_append, List.length_cons, List.length_nil]
    split
    · simp; omega
    · cases first <;> simp <;> omega
theorem symbols_of {n : Nat} {l : List St3} (hl : l.length ≤ 5) (hok : ∀ x ∈ l, Ok3 x) : Call (n + 1) "_law_symbols" [.str (S (txAll l))] (.list ((syR true (-1) l ++ [0]).map .int)) := by
  have e : txAll l = txR true (-1) l := by unfold txAll; rw [tx_fold]; rfl
  have h1 := txR_len l true (-1)
  have h2 := syR_len l true (-1)
  rw [e]
  exact symbols_spec (toks_R l _ _ hok) (by omega) (by omega)
end
noncomputable section
open PyProof.Rows
theorem fn_stat : fns "_law_statements" = some (fnAt 65) := by unfold fns; kernel_rfl
noncomputable abbrev T3 := Int × Int × Int
noncomputable abbrev encT (x : T3) : D := .tuple [.int x.1, .int x.2.1, .int x.2.2]
structure SA where
  sts : List T3
  left : Int
  sign : Int
noncomputable def saStep (a : SA) (v : Int) : SA :=
  if 256 ≤ v then ⟨if 0 < a.sign then a.sts ++ [(a.left, a.sign, v - 256)] else a.sts, v - 256, 0⟩ else if v = 12 ∨ v = 0 then ⟨a.sts, a.left, 0⟩ else ⟨a.sts, a.left, v⟩
noncomputable abbrev stN := (fnAt 65).scope.names
noncomputable abbrev saMk (l : D) (a : SA) : St := stV stN ["sign", "left", "statements", "symbols"] [.int a.sign, .int a.left, .list (a.sts.map encT), l] (some "statements")
set_option maxHeartbeats 4000000 in
theorem sa_turn {n : Nat} {l : D} {a : SA} {v : Int} (hs : a.sts.length ≤ 1000) :
    ∃ σ₁, BindF (saMk l a) (targetOf (fnAt 65).body) (.int v) σ₁ ∧ Exs (n + 1) σ₁ (bodyOf (fnAt 65).body) (.next (saMk l (saStep a v))) := by
  have c1 := @isn_spec n v
  have c2 := @ist_spec n v
  have c3 := @eof_spec n v
  have hsl : (a.sts.map encT).length ≤ 1048576 := by simp only [List.length_map]; omega
  refine ⟨stV stN ["symbol", "sign", "left", "statements", "symbols"] [.int v, .int a.sign, .int a.left, .list (a.sts.map encT), l] (some "statements"), ?_, ?_⟩
  · show BindF _ (.Name _ _) _ _
    kspl_open lbf
  · show Exs (n + 1) _ (.If _ (.If _ [.Expr (.Call (.Attribute _ _ _) [_] [] _) _] _ _ :: .Assign [.Tuple [.Name _ _, .Name _ _] _ _] (.Tuple _ _ _) _ :: []) _ _ :: []) _
    unfold saStep
    rcases Classical.em (256 ≤ v) with d1 | d1
    · have q1 : decide (256 ≤ v) = true := decide_eq_true d1
      rw [if_pos d1]
      rcases Classical.em (0 < a.sign) with d2 | d2
      · have q2 : decide (0 < a.sign) = true := decide_eq_true d2
        rw [if_pos d2]
        with_reducible refine' xs_one (ex_ifTe ?a1 q1 (xs_weak (xs_cons (ex_ifTe ?a2 q2 (xs_one (ex_appendV 3 ?t1 ?t2 ?t3 ?t4 ?t5 ?t6 ?t7))) (xs_one (ex_tup2V (d1 := .int (v - 256)) (d2 := .int 0) ?u1 ?u2 ?u3 ?u4))) ?a4))
        case a1 => kspl_open ltr
        case a2 => kspl_open ltr
        case t1 => kernel_rfl
        case t2 => rfl
        case t3 => exact fun _ => rfl
        case t4 => rfl
        case t5 => exact fun _ => rfl
        case t6 => exact hsl
        case t7 => kspl_open lev
        case u1 => exact fun _ => rfl
        case u2 => exact fun _ => swap2 (by decide +kernel) (by kernel_rfl)
        case u3 => decide +kernel
        case u4 => kspl_open lev
        case a4 => exact weak_v [0, 1, 2, 7] (by decide +kernel) (by rw [List.map_append]; rfl)
      · have q2 : decide (0 < a.sign) = false := decide_eq_false d2
        rw [if_neg d2]
        with_reducible refine' xs_one (ex_ifTe ?b1 q1 (xs_weak (xs_cons (ex_ifFe ?b2 q2 xs_nil) (xs_one (ex_tup2V (d1 := .int (v - 256)) (d2 := .int 0) ?v1 ?v2 ?v3 ?v4))) ?b4))
        case b1 => kspl_open ltr
        case b2 => kspl_open ltr
        case v1 => exact fun _ => rfl
        case v2 => exact fun _ => swap2 (by decide +kernel) (by kernel_rfl)
        case v3 => decide +kernel
        case v4 => kspl_open lev
        case b4 => exact weak_v [0, 1, 5, 6] (by decide +kernel) rfl
    · have q1 : decide (256 ≤ v) = false := decide_eq_false d1
      rw [if_neg d1]
      rcases Classical.em (v = 12 ∨ v = 0) with d2 | d2
      · have q2 : (decide (v = 12) || (decide (v = 0) || false)) = true := by simpa using d2
        rw [if_pos d2]
        with_reducible refine' xs_one (ex_ifFe ?c1 q1 (xs_one (ex_ifTe ?c2 q2 (xs_weak (xs_one ?c3) ?c4))))
        case c1 => kspl_open ltr
        case c2 => kspl_open ltr
        case c3 => kspl_open lst
        case c4 => exact weak_v [0, 3, 4, 5] (by decide +kernel) rfl
      · have q2 : (decide (v = 12) || (decide (v = 0) || false)) = false := by simpa using d2
        have q3 : decide (v < 256) = true := decide_eq_true (by omega)
        rw [if_neg d2]
        with_reducible refine' xs_one (ex_ifFe ?e1 q1 (xs_one (ex_ifFe ?e2 q2 (xs_one (ex_ifTe ?e3 q3 (xs_weak (xs_one ?e4) ?e5))))))
        case e1 => kspl_open ltr
        case e2 => kspl_open ltr
        case e3 => kspl_open ltr
        case e4 => kspl_open lst
        case e5 => exact weak_v [0, 3, 4, 5] (by decide +kernel) rfl
noncomputable def saInv (a : SA) (l : List Int) : Prop := a.sts.length + l.length ≤ 1000
theorem sa_inv {a : SA} {v : Int} {r : List Int} (h : saInv a (v :: r)) : saInv (saStep a v) r := by
  unfold saInv at h ⊢
  simp only [List.length_cons] at h
  unfold saStep
  split
  · simp only; split
    · simp only [List.length_append, List.length_cons, List.length_nil]; omega
    · omega
  · split <;> simp only <;> omega
theorem stat_loop {n : Nat} {l : List Int} (hl : l.length ≤ 500) : Call (n + 2) "_law_statements" [.list (l.map .int)] (.list ((l.foldl saStep ⟨[], 0, 0⟩).sts.map encT)) := by
  refine call_ok (fn := fnAt 65) fn_stat (by kernel_rfl) (fun _ _ _ _ _ => by show _ = _; kernel_rfl) rfl ?h
  case h =>
    show Exs (n + 1) (stV stN ["symbols"] [.list (l.map .int)] none) (_ :: .Assign [.Tuple [.Name _ _, .Name _ _] _ _] (.Tuple _ _ _) _ :: _ :: _ :: []) _
    have L := fl_fold (n := n + 1) (body := bodyOf (fnAt 65).body) (mk := saMk (.list (l.map .int))) (v := D.int) (step := saStep) saInv (t := targetOf (fnAt 65).body) (fun b a r h => ⟨sa_inv h, sa_turn (by unfold saInv at h; simp only [List.length_cons] at h; omega)⟩) l ⟨[], 0, 0⟩ (by show 0 + l.length ≤ 1000; omega)
    with_reducible refine' xs_cons ?a1 (xs_cons (ex_tup2V (d1 := .int 0) (d2 := .int 0) ?v1 ?v2 ?v3 ?v4) (xs_cons (ex_for ?a3 ?a4 it_list ?a6) (xs_ret (ex_retV ?a5))))
    case a1 => kspl_open lst
    case v1 => exact fun _ => rfl
    case v2 => exact fun _ => swap2 (by decide +kernel) (by kernel_rfl)
    case v3 => decide +kernel
    case v4 => kspl_open lev
    case a6 => exact L
    case a3 => exact fun _ _ => rfl
    case a4 => kspl_open lev
    case a5 => kspl_open lev
noncomputable def toT (x : St3) : T3 := ((x.1 : Nat), sgV x.2.1, (x.2.2 : Nat))
theorem sgV_facts {g : Nat} (h : g < 3) : 0 < sgV g ∧ sgV g < 256 ∧ ¬ (sgV g = 12 ∨ sgV g = 0) := by
  rcases (show g = 0 ∨ g = 1 ∨ g = 2 by omega) with rfl | rfl | rfl <;> decide
theorem sa_sign {a : SA} {g : Nat} (h : g < 3) : saStep a (sgV g) = ⟨a.sts, a.left, sgV g⟩ := by
  obtain ⟨h1, h2, h3⟩ := sgV_facts h
  unfold saStep; rw [if_neg (by omega), if_neg h3]
theorem sa_name {a : SA} {w : Nat} : saStep a (256 + (w : Int)) = ⟨if 0 < a.sign then a.sts ++ [(a.left, a.sign, (w : Int))] else a.sts, w, 0⟩ := by
  unfold saStep; rw [if_pos (by omega), show (256 + (w : Int) - 256) = w by omega]
theorem sa_fold : ∀ (l : List St3) (first : Bool) (last : Int) (acc : List T3) (left : Int), (∀ x ∈ l, Ok3 x) → (last = left ∨ last = -1) →
    ∃ left', (syR first last l).foldl saStep ⟨acc, left, 0⟩ = ⟨acc ++ l.map toT, left', 0⟩
  | [], first, last, acc, left, _, _ => ⟨left, by simp [syR]⟩
  | (o, g, w) :: r, first, last, acc, left, h, hl => by
    obtain ⟨h1, h2, h3⟩ := h _ List.mem_cons_self
    simp only at h1 h2 h3
    obtain ⟨p1, p2, p3⟩ := sgV_facts h2
    obtain ⟨left', ih⟩ := sa_fold r false (w : Nat) (acc ++ [toT (o, g, w)]) (w : Nat) (fun y hy => h y (List.mem_cons_of_mem _ hy)) (.inl rfl)
    refine ⟨left', ?_⟩
    have fin : ∀ left, left = (o : Int) → ([sgV g, 256 + (w : Int)] ++ syR false (w : Nat) r).foldl saStep ⟨acc, left, 0⟩ = ⟨acc ++ ((o, g, w) :: r).map toT, left', 0⟩ := by
      rintro left rfl
      simp only [List.cons_append, List.nil_append, List.foldl_cons]
      rw [sa_sign h2, sa_name]
      simp only [p1, if_true]
      have : (acc ++ [((o : Int), sgV g, (w : Int))]) = acc ++ [toT (o, g, w)] := rfl
      rw [this, ih]
      simp
    unfold syR
    simp only
    by_cases c1 : (o : Int) = last
    · rw [if_pos c1, List.nil_append]
      exact fin left (by omega)
    · rw [if_neg c1, List.append_assoc, List.append_assoc, List.foldl_append]
      have e : (if first then ([] : List Int) else [12]).foldl saStep ⟨acc, left, 0⟩ = ⟨acc, left, 0⟩ := by
        cases first
        · rfl
        · rfl
      rw [e]
      show ((256 + (o : Int)) :: _).foldl saStep _ = _
      rw [List.foldl_cons, sa_name]
      simp only [show ¬ (0 : Int) < 0 by omega, if_false]
      exact fin (o : Int) rfl
theorem statements_of {n : Nat} {l : List St3} (hl : l.length ≤ 5) (hok : ∀ x ∈ l, Ok3 x) : Call (n + 2) "_law_statements" [.list ((syR true (-1) l ++ [0]).map .int)] (.list ((l.map toT).map encT)) := by
  have h2 := syR_len l true (-1)
  have q := @stat_loop n (syR true (-1) l ++ [0]) (by simp only [List.length_append, List.length_cons, List.length_nil]; omega)
  obtain ⟨left', h⟩ := sa_fold l true (-1) [] 0 hok (.inr rfl)
  rw [List.foldl_append, h] at q
  exact q
end
noncomputable section
open PyProof.Rows
noncomputable def fitsB (f : List Nat) (mid : List (List Nat)) (l got : List Nat) : Bool := f.isPrefixOf got && (l.isSuffixOf got && (decide (f.length + l.length ≤ got.length) && mLoop got (got.length - l.length) (keepE f ++ mid ++ keepE l) f.length))
theorem fitsB_iff {f l got : List Nat} {mid : List (List Nat)} : fitsB f mid l got = true ↔ Fits f mid l got := by
  unfold fitsB
  rw [Bool.and_eq_true, Bool.and_eq_true, Bool.and_eq_true, List.isPrefixOf_iff_prefix, List.isSuffixOf_iff_suffix, decide_eq_true_iff]
  constructor
  · rintro ⟨h1, h2, h3, h4⟩
    exact (fits_iff h1 h2 (by omega) h2.length_le).mpr h4
  · intro h
    obtain ⟨u, e, _⟩ := id h
    have hl : got.length = f.length + u.length + l.length := by rw [e]; simp [Nat.add_assoc]
    have h1 : f <+: got := ⟨u ++ l, by rw [e, List.append_assoc]⟩
    have h2 : l <:+ got := ⟨f ++ u, e.symm⟩
    exact ⟨h1, h2, by omega, (fits_iff h1 h2 (by omega) h2.length_le).mp h⟩
noncomputable def joinB (ps : List (List Nat)) (got : List Nat) : Bool := ps.all (fun p => okP p && decide (p.length ≤ 1000)) && (decide ((joinD ps).length ≤ 100000) && (decide (ps.length ≤ 500) && decide (got.length ≤ 100000)))
theorem match_B {n : Nat} {f l got : List Nat} {mid : List (List Nat)} (h : joinB (f :: (mid ++ [l])) got = true) : Call (n + 1) "_ellipsis_match" [.str (S (joinD (f :: (mid ++ [l])))), .str (S got)] (.bool (fitsB f mid l got)) := by
  unfold joinB at h
  rw [Bool.and_eq_true, Bool.and_eq_true, Bool.and_eq_true, decide_eq_true_iff, decide_eq_true_iff, decide_eq_true_iff, List.all_eq_true] at h
  obtain ⟨h1, h2, h3, h4⟩ := h
  refine match_join ⟨fun p hp => ?_, h2, ?_, h4⟩ fitsB_iff
  · have := h1 p hp
    rw [Bool.and_eq_true, decide_eq_true_iff] at this
    exact this
  · simp only [List.length_cons, List.length_append, List.length_nil] at h3; omega
/-- the pieces, joined by dots, against a text -/
noncomputable def askB : List (List Nat) → List Nat → Bool → Bool
  | [], _, _ => false
  | [f], got, due => okP f && (decide (f = got) == due)
  | f :: a :: r, got, due => joinB (f :: a :: r) got && (fitsB f (a :: r).dropLast ((a :: r).getLast (List.cons_ne_nil _ _)) got == due)
theorem ask_ok {n : Nat} : ∀ {ps : List (List Nat)} {got : List Nat} {due : Bool} (_ : askB ps got due = true), Call (n + 1) "_ellipsis_match" [.str (S (joinD ps)), .str (S got)] (.bool due)
  | [f], got, due, h => by
    obtain ⟨h1, h2⟩ := Bool.and_eq_true_iff.mp h
    rw [← beq_iff_eq.mp h2]
    exact match_plain h1
  | f :: a :: r, got, due, h => by
    obtain ⟨h1, h2⟩ := Bool.and_eq_true_iff.mp h
    have e := (List.dropLast_concat_getLast (List.cons_ne_nil a r)).symm
    rw [e] at h1
    have q := @match_B n _ _ _ _ h1
    rw [← e, beq_iff_eq.mp h2] at q
    exact q
theorem it_r0 {b : Int} {n : Nat} (h : b = n) (h2 : b ≤ 1048576) : Iter (.rng 0 b) ((List.range n).map fun k : Nat => .int k) := by
  have q := @it_rng n 0 b (by omega) (by omega) h2
  simp only [Int.zero_add] at q
  exact @q
noncomputable def ins (c : Nat) (o : List Nat) : List (List Nat) := (List.range (o.length + 1)).map fun k => o.take k ++ [c] ++ o.drop k
noncomputable def ordersL : List (List Nat) := [97, 98, 99, 100].foldl (fun os c => os.flatMap (ins c)) [[]]
theorem fn_ord : fns "_law_orders" = some (fnAt 69) := by unfold fns; kernel_rfl
noncomputable abbrev oN := (fnAt 69).scope.names
noncomputable abbrev oMk (os : List (List Nat)) : St := stV oN ["orders"] [.list (os.map encP)] none
noncomputable def chainB : List (List Nat) → List Nat → Bool
  | _, [] => true
  | os, c :: r => os.all (fun o => decide (o.length ≤ 10)) && (decide ((os.flatMap (ins c)).length ≤ 1000) && chainB (os.flatMap (ins c)) r)
set_option maxHeartbeats 4000000 in
theorem or_turn {n : Nat} {os : List (List Nat)} {c : Nat} (h1 : ∀ o ∈ os, o.length ≤ 10) (h2 : (os.flatMap (ins c)).length ≤ 1000) :
    ∃ σ₁, BindF (oMk os) (targetOf (fnAt 69).body) (.str (S [c])) σ₁ ∧ Exs n σ₁ (bodyOf (fnAt 69).body) (.next (oMk (os.flatMap (ins c)))) := by
  refine ⟨stV oN ["name", "orders"] [.str (S [c]), .list (os.map encP)] none, ?_, ?_⟩
  · show BindF _ (.Name _ _) _ _
    kspl_open lbf
  · show Exs n _ (.Assign _ (.ListComp _ [⟨_, _, _, _⟩, ⟨_, _, _, _⟩] _ _) _ :: []) _
    have e : (os.flatMap (ins c)).map encP = os.flatMap fun o => (List.range (o.length + 1)).map fun k => D.str (S (o.take k ++ [c] ++ o.drop k)) := by
      rw [List.map_flatMap]
      refine congrArg (os.flatMap ·) (funext fun o => ?_)
      unfold ins; rw [List.map_map]; rfl
    have hl : (os.flatMap fun o => (List.range (o.length + 1)).map fun k => D.str (S (o.take k ++ [c] ++ o.drop k))).length ≤ 2097152 := by rw [← e, List.length_map]; omega
    with_reducible refine' xs_weak (xs_one (ex_ce ?a1 ?a2 (ce_two ⟨rfl, ?b0⟩ ?b1 ?b2 ?b3 it_list hl (fun o ho => ?b4)))) ?a3
    case a1 => exact fun _ => ⟨_, rfl⟩
    case a2 => kernel_rfl
    case b0 => exact fun _ _ => rfl
    case b1 => kernel_rfl
    case b2 => exact fun _ _ => rfl
    case b3 => kspl_open lev
    case a3 => exact weak_v [0] (by decide +kernel) (by rw [e]; rfl)
    case b4 =>
      have ho := h1 o ho
      have ir : Iter (.rng 0 ((o.length : Int) + 1)) ((List.range (o.length + 1)).map fun k : Nat => .int k) := @it_r0 _ _ (by omega) (by omega)
      with_reducible refine' tv_map ?c1 ?c2 ?c3 ir (fun k hk => ?c4)
      case c1 => kspl_open lbn
      case c2 => exact fun _ _ => rfl
      case c3 => kspl_open lev
      case c4 =>
        have hk1 : (o.take k).length ≤ 10 := by rw [List.length_take]; omega
        have hk2 : (o.drop k).length ≤ 10 := by rw [List.length_drop]; omega
        kspl_open ltu
theorem abcd_it : Iter (.str (S [97, 98, 99, 100])) (([97, 98, 99, 100] : List Nat).map fun c => .str (S [c])) := @it_str _
theorem orders_spec {n : Nat} : Call (n + 1) "_law_orders" [] (.list (ordersL.map encP)) := by
  have k1 := nil_S
  have k3 := abcd_S
  refine call_ok (fn := fnAt 69) fn_ord (by kernel_rfl) (fun _ _ _ _ => by show _ = _; kernel_rfl) rfl ?h
  case h =>
    show Exs n (stV oN [] [] none) (_ :: _ :: _ :: []) _
    have L := fl_fold (n := n) (body := bodyOf (fnAt 69).body) (mk := oMk) (v := fun c => .str (S [c])) (step := fun os c => os.flatMap (ins c)) (fun os l => chainB os l = true) (t := targetOf (fnAt 69).body) (fun b a r h => by
      unfold chainB at h
      obtain ⟨q1, h⟩ := Bool.and_eq_true_iff.mp h
      obtain ⟨q2, h⟩ := Bool.and_eq_true_iff.mp h
      exact ⟨h, or_turn (fun o ho => of_decide_eq_true (List.all_eq_true.mp q1 o ho)) (of_decide_eq_true q2)⟩) [97, 98, 99, 100] [[]] (by decide +kernel)
    have ia := @abcd_it
    with_reducible refine' xs_cons ?a1 (xs_cons (ex_for ?a3 ?a4 ia ?a6) ?a5)
    case a1 => kspl_open lst
    case a6 => exact L
    case a3 => exact fun _ _ => rfl
    case a4 => kspl_open lev
    case a5 => kspl_open lret
end
noncomputable section
open PyProof.Rows
noncomputable def before (o w : Nat) (l : List Nat) : Bool := decide (l.idxOf (97 + o) < l.idxOf (97 + w))
theorem match_all : ((List.range 4).all fun o => (List.range 4).all fun w => ordersL.all fun l => askB [[], [97 + o], [97 + w], []] l (before o w l)) = true := by decide +kernel
theorem match_of {n o w : Nat} {l : List Nat} (hl : l ∈ ordersL) (ho : o < 4) (hw : w < 4) : Call (n + 1) "_ellipsis_match" [.str (S ([46, 46, 46] ++ [97 + o] ++ [46, 46, 46] ++ [97 + w] ++ [46, 46, 46])), .str (S l)] (.bool (before o w l)) := by
  have h := List.all_eq_true.mp (List.all_eq_true.mp (List.all_eq_true.mp match_all o (List.mem_range.mpr ho)) w (List.mem_range.mpr hw)) l hl
  exact ask_ok h
noncomputable abbrev encA (x : List (List Nat) × Bool) : D := .tuple [.list (x.1.map encP), .bool x.2]
noncomputable def askedL (p q r s : Nat) : List (List (List Nat) × Bool) :=
  [([[p, q, r, s]], true), ([[q, r, s]], false), ([[p, q, r]], false), ([[p], [s]], true), ([[q], [s]], false), ([[p], [r]], false)] ++ [([[p], [p], [s]], false), ([[p], [s], [s]], false), ([[p, q, r, s], [s]], false), ([[p, q], [r, s]], true)]
noncomputable def joinChk (ps : List (List Nat)) : Bool := PySem.JoinOk (S DD) (ps.map S) && Txt.join (S DD) (ps.map S) == S (joinD ps)
theorem join_S {ps : List (List Nat)} (h : joinChk ps = true) : MethOk (.str (S DD)) "join" [.list (ps.map encP)] (.str (S (joinD ps))) "str" "str.join" := by
  obtain ⟨h1, h2⟩ := Bool.and_eq_true_iff.mp h
  have q := @md_join _ _ h1
  rw [beq_iff_eq.mp h2, List.map_map] at q
  exact q
noncomputable def takenB (p q r s : Nat) : Bool := (askedL p q r s).all (fun a => joinChk a.1 && askB a.1 [p, q, r, s] a.2) && askB [[], [s], [p], []] ([p, q, r, s] ++ [p, q, r, s]) true
theorem taken_all : (ordersL.all fun l => decide (l.length = 4) && takenB (l.getD 0 0) (l.getD 1 0) (l.getD 2 0) (l.getD 3 0)) = true := by decide +kernel
theorem fn_taken : fns "_law_taken" = some (fnAt 67) := by unfold fns; kernel_rfl
noncomputable abbrev kN := (fnAt 67).scope.names
set_option maxHeartbeats 8000000 in
theorem taken_walk {n p q r s : Nat} (h : takenB p q r s = true) : Call (n + 2) "_law_taken" [.str (S [p, q, r, s])] (.bool true) := by
  obtain ⟨h1, h2⟩ := Bool.and_eq_true_iff.mp h
  have hm : ∀ a ∈ askedL p q r s, MethOk (.str (S DD)) "join" [.list (a.1.map encP)] (.str (S (joinD a.1))) "str" "str.join" ∧ Call (n + 1) "_ellipsis_match" [.str (S (joinD a.1)), .str (S [p, q, r, s])] (.bool a.2) := fun a ha => by
    obtain ⟨q1, q2⟩ := Bool.and_eq_true_iff.mp (List.all_eq_true.mp h1 a ha)
    exact ⟨join_S q1, ask_ok q2⟩
  have hz : Call (n + 1) "_ellipsis_match" [.str (S ([46, 46, 46] ++ [s] ++ [46, 46, 46] ++ [p] ++ [46, 46, 46])), .str (S ([p, q, r, s] ++ [p, q, r, s]))] (.bool true) := ask_ok h2
  have k1 : Str.ofString "..." = S [46, 46, 46] := dots_S
  have i0 : ItemOk (.str (S [p, q, r, s])) (.int 0) (.str (S [p])) := @im_S _ 0 _ rfl rfl
  have i1 : ItemOk (.str (S [p, q, r, s])) (.int 1) (.str (S [q])) := @im_S _ 1 _ rfl rfl
  have i2 : ItemOk (.str (S [p, q, r, s])) (.int 2) (.str (S [r])) := @im_S _ 2 _ rfl rfl
  have i3 : ItemOk (.str (S [p, q, r, s])) (.int 3) (.str (S [s])) := @im_S _ 3 _ rfl rfl
  have hl : [p, q, r, s].length ≤ 1048576 := Nat.le_of_ble_eq_true rfl
  have s1 : SliceOk (.str (S [p, q, r, s])) (some 1) none none (.str (S [q, r, s])) := @sl_from _ 1 hl
  have s2 : SliceOk (.str (S [p, q, r, s])) (some 2) none none (.str (S [r, s])) := @sl_from _ 2 hl
  have s3 : SliceOk (.str (S [p, q, r, s])) none (some 3) none (.str (S [p, q, r])) := @sl_to _ 3 hl
  have s4 : SliceOk (.str (S [p, q, r, s])) none (some 2) none (.str (S [p, q])) := @sl_to _ 2 hl
  have hnil : ((askedL p q r s).filter fun a => !(a.2 == a.2)).map (fun a => D.list (a.1.map encP)) = [] := by
    rw [List.filter_eq_nil_iff.mpr fun a _ => by simp]; rfl
  have hc : CmpOk .Eq (.list (((askedL p q r s).filter fun a => !(a.2 == a.2)).map (fun a => D.list (a.1.map encP)))) (.list []) true := by
    rw [hnil]; exact @cm_eq _ _ _ (eq_list .nil)
  have ia : Iter (.list ((askedL p q r s).map encA)) ((askedL p q r s).map encA) := @it_list _
  refine call_ok (fn := fnAt 67) fn_taken (by kernel_rfl) (fun _ _ _ _ _ => by show _ = _; kernel_rfl) rfl ?h
  case h =>
    show Exs (n + 1) (stV kN ["order"] [.str (S [p, q, r, s])] none) (.Assign [.Tuple [.Name _ _, .Name _ _] _ _] (.Tuple _ _ _) _ :: _ :: _ :: .Assign _ (.ListComp _ [⟨_, _, [_], _⟩] _ _) _ :: _ :: []) _
    with_reducible refine' xs_cons (ex_tup2V (d1 := .str (S [p])) (d2 := .str (S [s])) ?v1 ?v2 ?v3 ?v4) (xs_cons (σ₁ := stV kN ["asked", "last", "first", "order"] [.list ([([[p, q, r, s]], true), ([[q, r, s]], false), ([[p, q, r]], false), ([[p], [s]], true), ([[q], [s]], false), ([[p], [r]], false)].map encA), .str (S [s]), .str (S [p]), .str (S [p, q, r, s])] none) ?a1 (xs_cons (σ₁ := stV kN ["asked", "asked", "last", "first", "order"] [.list ((askedL p q r s).map encA), .list ([([[p, q, r, s]], true), ([[q, r, s]], false), ([[p, q, r]], false), ([[p], [s]], true), ([[q], [s]], false), ([[p], [r]], false)].map encA), .str (S [s]), .str (S [p]), .str (S [p, q, r, s])] none) ?a2 (xs_cons (ex_ce ?b1 ?b2 (ce_filter ?b3 ?b4 ?b5 ia ?b6 (fun a ha => ?b7))) (xs_ret (ex_retV (ev_as ?a4 ?a5))))))
    case v1 => exact fun _ => rfl
    case v2 => exact fun _ => swap2 (by decide +kernel) (by kernel_rfl)
    case v3 => decide +kernel
    case v4 => kspl_open lev
    case a1 =>
      show Ex (n + 1) _ _ (.next (stV kN ["asked", "last", "first", "order"] [.list [.tuple [.list [.str (S [p, q, r, s])], .bool true], .tuple [.list [.str (S [q, r, s])], .bool false], .tuple [.list [.str (S [p, q, r])], .bool false], .tuple [.list [.str (S [p]), .str (S [s])], .bool true], .tuple [.list [.str (S [q]), .str (S [s])], .bool false], .tuple [.list [.str (S [p]), .str (S [r])], .bool false]], .str (S [s]), .str (S [p]), .str (S [p, q, r, s])] none))
      kspl_open lasg
    case a2 =>
      show Ex (n + 1) _ _ (.next (stV kN ["asked", "asked", "last", "first", "order"] [.list (([([[p, q, r, s]], true), ([[q, r, s]], false), ([[p, q, r]], false), ([[p], [s]], true), ([[q], [s]], false), ([[p], [r]], false)].map encA) ++ [.tuple [.list [.str (S [p]), .str (S [p]), .str (S [s])], .bool false], .tuple [.list [.str (S [p]), .str (S [s]), .str (S [s])], .bool false], .tuple [.list [.str (S [p, q, r, s]), .str (S [s])], .bool false], .tuple [.list [.str (S [p, q]), .str (S [r, s])], .bool true]]), _, _, _, _] none))
      kspl_open lasg
    case b1 => exact fun _ => ⟨_, rfl⟩
    case b2 => kernel_rfl
    case b3 => kernel_rfl
    case b4 => exact fun _ _ => rfl
    case b5 => kspl_open lev
    case b6 => exact Nat.le_of_ble_eq_true rfl
    case b7 =>
      obtain ⟨m1, m2⟩ := hm a ha
      kspl_open ltu
    case a4 => kspl_open lev
    case a5 => rfl
theorem taken_of {n : Nat} {l : List Nat} (hl : l ∈ ordersL) : Call (n + 2) "_law_taken" [.str (S l)] (.bool true) := by
  obtain ⟨h1, h2⟩ := Bool.and_eq_true_iff.mp (List.all_eq_true.mp taken_all l hl)
  have h1 := of_decide_eq_true h1
  rcases l with _ | ⟨p, _ | ⟨q, _ | ⟨r, _ | ⟨s, _ | ⟨_, _⟩⟩⟩⟩⟩
  · cases h1
  · cases h1
  · cases h1
  · cases h1
  · exact taken_walk h2
  · cases h1
end
noncomputable section
open PyProof.Rows
theorem eq_ints {n : Nat} : ∀ {a b : List Int}, a.length = b.length → ∃ ks, EqAll n (a.map .int) (b.map .int) ks ∧ ks.all id = decide (a = b)
  | [], [], _ => ⟨[], .nil, rfl⟩
  | x :: a, y :: b, h => by
    obtain ⟨ks, h1, h2⟩ := eq_ints (n := n) (a := a) (b := b) (Nat.succ.inj h)
    refine ⟨(x == y) :: ks, .cons eq_int h1, ?_⟩
    rw [List.all_cons, h2]
    by_cases e : x = y <;> simp [e]
theorem eqo_ints {n : Nat} {a b : List Int} (h : a.length = b.length) : EqOk (n + 1) (.list (a.map .int)) (.list (b.map .int)) (decide (a = b)) := by
  obtain ⟨ks, h1, h2⟩ := eq_ints (n := n) h
  rw [← h2]; exact eq_list h1
noncomputable abbrev encR (r : List Int) : D := .list (r.map .int)
theorem any_ints {r : List Int} : ∀ {W : List (List Int)}, (∀ w ∈ W, w.length = r.length) → AnyEq 6 (encR r) (W.map encR) (decide (r ∈ W))
  | [], _ => .nil
  | x :: W, h => by
    have e : decide (r ∈ x :: W) = (decide (x = r) || decide (r ∈ W)) := by
      rw [← Bool.decide_or]
      exact decide_eq_decide.mpr (by rw [List.mem_cons]; exact ⟨Or.imp_left Eq.symm, Or.imp_left Eq.symm⟩)
    rw [e]
    exact .cons (eqo_ints (n := 5) (h x List.mem_cons_self)) (any_ints fun w hw => h w (List.mem_cons_of_mem _ hw))
theorem range_getD {α : Type} (l : List α) (d : α) : (List.range l.length).map (fun k => l.getD k d) = l := by
  apply List.ext_getElem
  · simp
  · intro i h1 h2
    simp only [List.getElem_map, List.getElem_range]
    simp at h1
    simp [h1]
theorem range_filter {α β : Type} (l : List α) (d : α) (c : α → Bool) (h : α → β) : ((List.range l.length).filter fun k => c (l.getD k d)).map (fun k => h (l.getD k d)) = (l.filter c).map h := by
  have e : l.filter c = ((List.range l.length).map (fun k => l.getD k d)).filter c := by rw [range_getD]
  rw [e, List.filter_map, List.map_map]
  rfl
theorem im_getD {α : Type} {v : α → D} {l : List α} {d : α} {k : Nat} (hk : k < l.length) (hl : l.length ≤ 1048576) : ItemOk (.list (l.map v)) (.int (k : Nat)) (v (l.getD k d)) := by
  rw [List.getD_eq_getElem?_getD, List.getElem?_eq_getElem hk]
  exact im_at hl (List.getElem?_eq_getElem hk)
theorem im_t0 {a : D} {r : List D} (h : (a :: r).length ≤ 1048576) : ItemOk (.tuple (a :: r)) (.int 0) a := im_tuple (k := 0) (j := 0) rfl h rfl
theorem fn_ways : fns "_law_ways" = some (fnAt 70) := by unfold fns; kernel_rfl
noncomputable abbrev Way := List Nat × List Int
noncomputable abbrev encW (x : Way) : D := .tuple [.str (S x.1), encR x.2]
/-- does the order fit the statement -/
noncomputable def wyOk (s : T3) (x : Way) : Bool :=
  ((before s.1.toNat s.2.2.toNat x.1 && (!decide (s.2.1 = 21) && true)) || ((!before s.1.toNat s.2.2.toNat x.1 && (!decide (s.1 = s.2.2) && (!decide (s.2.1 = 20) && true))) || false))
noncomputable def wyNew (s : T3) (x : Way) : Way := (x.1, x.2 ++ [if before s.1.toNat s.2.2.toNat x.1 then 20 else 21])
noncomputable def wyStep (ws : List Way) (s : T3) : List Way := (ws.filter (wyOk s)).map (wyNew s)
noncomputable def OkT (s : T3) : Prop := 0 ≤ s.1 ∧ s.1 < 4 ∧ 0 ≤ s.2.2 ∧ s.2.2 < 4 ∧ 0 ≤ s.2.1 ∧ s.2.1 ≤ 100
noncomputable abbrev wN := (fnAt 70).scope.names
noncomputable abbrev wyMk (l os : D) (ws : List Way) : St := stV wN ["ways", "orders", "statements"] [.list (ws.map encW), os, l] none
theorem abcd_atI {o : Int} (h0 : 0 ≤ o) (h : o < 4) : ItemOk (.str (S [97, 98, 99, 100])) (.int o) (.str (S [97 + o.toNat])) := by
  have q := @abcd_at o.toNat (by omega)
  rw [show ((o.toNat : Nat) : Int) = o by omega] at q
  exact @q
theorem wy_new (s : T3) (y : Way) : encW (wyNew s y) = D.tuple [D.str (S y.1), D.list (y.2.map D.int ++ [D.int (if before s.1.toNat s.2.2.toNat y.1 then 20 else 21)])] := by unfold wyNew encW encR; simp [List.map_append]
set_option maxHeartbeats 8000000 in
theorem wy_turn {n : Nat} {l os : D} {ws : List Way} {s : T3} (hs : OkT s) (hw : ∀ x ∈ ws, x.1 ∈ ordersL ∧ x.2.length ≤ 100) (hl : ws.length ≤ 1000) :
    ∃ σ₁, BindF (wyMk l os ws) (targetOf (fnAt 70).body) (encT s) σ₁ ∧ Exs (n + 1) σ₁ (bodyOf (fnAt 70).body) (.next (wyMk l os (wyStep ws s))) := by
  obtain ⟨one, sign, two⟩ := s
  obtain ⟨h1, h2, h3, h4, h5, h6⟩ := hs
  simp only at h1 h2 h3 h4 h5 h6
  have k1 : Str.ofString "..." = S [46, 46, 46] := dots_S
  have k3 := abcd_S
  have i1 := @abcd_atI one h1 h2
  have i2 := @abcd_atI two h3 h4
  have hlw : ws.length ≤ 2097152 := by omega
  have hnil : ((ws.filter fun x => !(before one.toNat two.toNat x.1 == true) && (!(before one.toNat two.toNat x.1 == false) && true)).map fun x => D.bool (before one.toNat two.toNat x.1)) = [] := by
    rw [List.map_eq_nil_iff, List.filter_eq_nil_iff]
    intro x _
    cases before one.toNat two.toNat x.1 <;> simp
  have hc : CmpOk .NotEq (.list ((ws.filter fun x => !(before one.toNat two.toNat x.1 == true) && (!(before one.toNat two.toNat x.1 == false) && true)).map fun x => D.bool (before one.toNat two.toNat x.1))) (.list []) false := by
    rw [hnil]; exact @cm_ne _ _ _ (eq_list .nil)
  have hfin : ((List.range ws.length).filter (fun x => wyOk (one, sign, two) (ws.getD x ([], [])))).map (fun x => encW (wyNew (one, sign, two) (ws.getD x ([], [])))) = (wyStep ws (one, sign, two)).map encW := by
    rw [range_filter ws ([], []) (wyOk (one, sign, two)) (fun y => encW (wyNew (one, sign, two) y))]
    unfold wyStep; rw [List.map_map]; rfl
  have b1 : BltOk (.builtin "len") [.list (ws.map encW)] (.int (ws.length : Nat)) := by
    have q := @bl_lenL (ws.map encW) (by rw [List.length_map]; omega)
    rw [List.length_map] at q; exact @q
  have ir : Iter (.rng 0 (ws.length : Nat)) ((List.range ws.length).map fun k : Nat => .int k) := @it_r0 _ _ rfl (by omega)
  refine ⟨stV wN ["two", "sign", "one", "ways", "orders", "statements"] [.int two, .int sign, .int one, .list (ws.map encW), os, l] none, ?_, ?_⟩
  · show BindF _ (.Tuple _ _ _) (.tuple [_, _, _]) _
    kspl_open lbf
  · show Exs (n + 1) _ (.Assign _ (.ListComp _ [⟨_, _, [], _⟩] _ _) _ :: .If (.Compare (.ListComp _ [⟨_, _, [_], _⟩] _ _) _ _ _) _ _ _ :: .Assign _ (.ListComp _ [⟨_, _, [_], _⟩] _ _) _ :: []) _
    with_reducible refine' xs_weak (xs_cons (ex_ce ?a1 ?a2 (ce_map (w := fun x : Way => .bool (before one.toNat two.toNat x.1)) ?a3 ?a4 ?a5 it_list hlw (fun x hx => ?a6))) (xs_cons (ex_ifF ?b1 xs_nil) (xs_one (ex_ce ?c1 ?c2 (ce_filter (b := fun x => wyOk (one, sign, two) (ws.getD x ([], []))) (w := fun x => encW (wyNew (one, sign, two) (ws.getD x ([], [])))) ?c3 ?c4 ?c5 ir ?c7 (fun x hx => ?c6)))))) ?z
    case a1 => exact fun _ => ⟨_, rfl⟩
    case a2 => kernel_rfl
    case a3 => kernel_rfl
    case a4 => exact fun _ _ => rfl
    case a5 => kspl_open lev
    case a6 =>
      have hm := @match_of n one.toNat two.toNat x.1 (hw x hx).1 (by omega) (by omega)
      kspl_open ltu
    case b1 => kspl_open ltr
    case c1 => exact fun _ => ⟨_, rfl⟩
    case c2 => kernel_rfl
    case c3 => kernel_rfl
    case c4 => exact fun _ _ => rfl
    case c5 => kspl_open lev
    case c7 => rw [List.length_range]; omega
    case c6 =>
      have hx' := List.mem_range.mp hx
      have g1 := @im_getD _ encW ws ([], []) x hx' (by omega)
      have g2 := @im_getD _ (fun x : Way => D.bool (before one.toNat two.toNat x.1)) ws ([], []) x hx' (by omega)
      have g3 : (ws.getD x ([], [])).2.length ≤ 100 := by
        have : ws.getD x ([], []) ∈ ws := by
          rw [List.getD_eq_getElem?_getD, List.getElem?_eq_getElem hx']; exact List.getElem_mem _
        exact (hw _ this).2
      rw [wy_new]
      unfold wyOk
      kspl_open ltu
    case z => exact weak_v [0, 6, 7] (by decide +kernel) (by rw [hfin]; rfl)
theorem ordersL_len : ordersL.length = 24 := by decide +kernel
theorem wyStep_len (ws : List Way) (s : T3) : (wyStep ws s).length ≤ ws.length := by
  unfold wyStep; rw [List.length_map]; exact List.length_filter_le _ _
theorem wyStep_mem {ws : List Way} {s : T3} {x : Way} (h : x ∈ wyStep ws s) : ∃ y ∈ ws, x.1 = y.1 ∧ x.2.length = y.2.length + 1 := by
  unfold wyStep at h
  rw [List.mem_map] at h
  obtain ⟨y, hy, rfl⟩ := h
  exact ⟨y, (List.mem_filter.mp hy).1, rfl, by simp [wyNew]⟩
end
noncomputable section
open PyProof.Rows
structure WyI (ws : List Way) (l : List T3) : Prop where
  s : ∀ x ∈ l, OkT x
  w : ∀ x ∈ ws, x.1 ∈ ordersL ∧ x.2.length + l.length ≤ 100
  n : ws.length ≤ 1000
theorem wy_inv {ws : List Way} {a : T3} {l : List T3} (h : WyI ws (a :: l)) : WyI (wyStep ws a) l := ⟨fun x hx => h.s x (List.mem_cons_of_mem _ hx), fun x hx => by
  obtain ⟨y, hy, a1, a2⟩ := wyStep_mem hx
  have := h.w y hy
  rw [List.length_cons] at this
  exact ⟨a1 ▸ this.1, by omega⟩, Nat.le_trans (wyStep_len ws a) h.n⟩
noncomputable def wrStep (W : List (List Int)) (x : Way) : List (List Int) := if x.2 ∈ W then W else W ++ [x.2]
noncomputable abbrev wrMk (l os : D) (ws : List Way) (W : List (List Int)) : St := stV wN ["writings", "ways", "orders", "statements"] [.list (W.map encR), .list (ws.map encW), os, l] (some "writings")
structure WrI (m : Nat) (W : List (List Int)) (l : List Way) : Prop where
  w : ∀ w ∈ W, w.length = m
  q : ∀ x ∈ l, x.2.length = m
  n : W.length + l.length ≤ 1000
theorem wr_inv {m : Nat} {W : List (List Int)} {x : Way} {l : List Way} (h : WrI m W (x :: l)) : WrI m (wrStep W x) l := by
  have hn := h.n
  rw [List.length_cons] at hn
  refine ⟨fun w hw => ?_, fun y hy => h.q y (List.mem_cons_of_mem _ hy), ?_⟩
  · unfold wrStep at hw
    split at hw
    · exact h.w w hw
    · rcases List.mem_append.mp hw with hw | hw
      · exact h.w w hw
      · rw [List.mem_singleton.mp hw]; exact h.q x List.mem_cons_self
  · unfold wrStep; split
    · omega
    · rw [List.length_append, List.length_singleton]; omega
noncomputable abbrev wB2 := (fnAt 70).body.drop 2
set_option maxHeartbeats 4000000 in
theorem wr_turn {n m : Nat} {l os : D} {ws : List Way} {W : List (List Int)} {x : Way} {r : List Way} (h : WrI m W (x :: r)) :
    ∃ σ₁, BindF (wrMk l os ws W) (targetOf wB2) (encW x) σ₁ ∧ Exs n σ₁ (bodyOf wB2) (.next (wrMk l os ws (wrStep W x))) := by
  have hn := h.n
  have hsl : (W.map encR).length ≤ 1048576 := by rw [List.length_map]; omega
  have hc : CmpOk .NotIn (encR x.2) (.list (W.map encR)) (!decide (x.2 ∈ W)) := @cm_ninL _ _ _ (any_ints fun w hw => (h.w w hw).trans (h.q x List.mem_cons_self).symm)
  refine ⟨stV wN ["row", "order", "writings", "ways", "orders", "statements"] [encR x.2, .str (S x.1), .list (W.map encR), .list (ws.map encW), os, l] (some "writings"), ?_, ?_⟩
  · show BindF _ (.Tuple _ _ _) (.tuple [_, _]) _
    kspl_open lbf
  · show Exs n _ (.If _ [.Expr (.Call (.Attribute _ _ _) [_] [] _) _] _ _ :: []) _
    unfold wrStep
    rcases Classical.em (x.2 ∈ W) with d | d
    · rw [if_pos d]
      have q1 : (!decide (x.2 ∈ W)) = false := by rw [decide_eq_true d]; rfl
      with_reducible refine' xs_weak (xs_one (ex_ifFe ?a1 q1 xs_nil)) ?a2
      case a1 => kspl_open ltr
      case a2 => exact weak_v [2, 3, 4, 5] (by decide +kernel) rfl
    · rw [if_neg d]
      have q1 : (!decide (x.2 ∈ W)) = true := by rw [decide_eq_false d]; rfl
      with_reducible refine' xs_weak (xs_one (ex_ifTe ?b1 q1 (xs_one (ex_appendV 2 ?t1 ?t2 ?t3 ?t4 ?t5 ?t6 ?t7)))) ?b2
      case b1 => kspl_open ltr
      case t1 => kernel_rfl
      case t2 => rfl
      case t3 => exact fun _ => rfl
      case t4 => rfl
      case t5 => exact fun _ => rfl
      case t6 => exact hsl
      case t7 => kspl_open lev
      case b2 => exact weak_v [0, 4, 5, 6] (by decide +kernel) (by rw [List.map_append]; rfl)
noncomputable def ways0 : List Way := ordersL.map fun o => (o, [])
noncomputable def writingsL (l : List T3) : List (List Int) := (l.foldl wyStep ways0).foldl wrStep []
theorem fold_wy_len : ∀ (l : List T3) (ws : List Way), (l.foldl wyStep ws).length ≤ ws.length
  | [], _ => Nat.le_refl _
  | s :: l, ws => Nat.le_trans (fold_wy_len l (wyStep ws s)) (wyStep_len ws s)
theorem fold_wy_m : ∀ (l : List T3) (ws : List Way) (m : Nat), (∀ x ∈ ws, x.2.length = m) → ∀ x ∈ l.foldl wyStep ws, x.2.length = m + l.length
  | [], _, _, h => h
  | s :: l, ws, m, h => fun x hx => by
    rw [fold_wy_m l (wyStep ws s) (m + 1) (fun x hx => by obtain ⟨y, hy, _, a2⟩ := wyStep_mem hx; rw [a2, h y hy]) x hx, List.length_cons, Nat.add_assoc, Nat.add_comm 1]
set_option maxHeartbeats 4000000 in
theorem ways_spec {n : Nat} {l : List T3} (hl : l.length ≤ 100) (hok : ∀ s ∈ l, OkT s) :
    Call (n + 2) "_law_ways" [.list (l.map encT), .list (ordersL.map encP)] (.list ((writingsL l).map encR)) := by
  have h24 : ways0.length = 24 := by unfold ways0; rw [List.length_map, ordersL_len]
  have hol : ordersL.length ≤ 2097152 := by rw [ordersL_len]; omega
  have hlen := fold_wy_len l ways0
  have L1 := fl_fold (n := n + 1) (body := bodyOf (fnAt 70).body) (mk := wyMk (.list (l.map encT)) (.list (ordersL.map encP))) (v := encT) (step := wyStep) WyI (t := targetOf (fnAt 70).body) (fun b a r h => ⟨wy_inv h, wy_turn (h.s a List.mem_cons_self) (fun x hx => ⟨(h.w x hx).1, by have := (h.w x hx).2; omega⟩) h.n⟩) l ways0 ⟨hok, fun x hx => by
    obtain ⟨o, ho, rfl⟩ := List.mem_map.mp hx
    exact ⟨ho, by simpa using hl⟩, by omega⟩
  have L2 := fl_fold (n := n + 1) (body := bodyOf wB2) (mk := wrMk (.list (l.map encT)) (.list (ordersL.map encP)) (l.foldl wyStep ways0)) (v := encW) (step := wrStep) (WrI (0 + l.length)) (t := targetOf wB2) (fun b a r h => ⟨wr_inv h, wr_turn h⟩) (l.foldl wyStep ways0) [] ⟨nofun, fold_wy_m l ways0 0 (fun x hx => by obtain ⟨o, ho, rfl⟩ := List.mem_map.mp hx; rfl), by simp; omega⟩
  have e0 : (ordersL.map fun o => D.tuple [.str (S o), .list []]) = ways0.map encW := by unfold ways0; rw [List.map_map]; rfl
  refine call_ok (fn := fnAt 70) fn_ways (by kernel_rfl) (fun _ _ _ _ _ _ => by show _ = _; kernel_rfl) rfl ?h
  case h =>
    show Exs (n + 1) (stV wN ["statements", "orders"] [.list (l.map encT), .list (ordersL.map encP)] none) (.Assign _ (.ListComp _ [⟨_, _, [], _⟩] _ _) _ :: _ :: _ :: _ :: _ :: []) _
    with_reducible refine' xs_cons (ex_weak (ex_ce ?a1 ?a2 (ce_map ?a3 ?a4 ?a5 it_list hol (fun x hx => ?a6))) ?a7) (xs_cons (ex_for ?b1 ?b2 it_list ?b3) (xs_cons ?c1 (xs_cons (ex_for ?d1 ?d2 it_list ?d3) (xs_ret (ex_retV ?d4)))))
    case a1 => exact fun _ => ⟨_, rfl⟩
    case a2 => kernel_rfl
    case a3 => kernel_rfl
    case a4 => exact fun _ _ => rfl
    case a5 => kspl_open lev
    case a6 => kspl_open ltu
    case b3 => exact L1
    case a7 => exact weak_v [0, 2, 1] (by decide +kernel) (by rw [e0]; rfl)
    case b1 => exact fun _ _ => rfl
    case b2 => kspl_open lev
    case c1 => kspl_open lst
    case d3 => exact L2
    case d1 => exact fun _ _ => rfl
    case d2 => kspl_open lev
    case d4 => kspl_open lev
end
noncomputable section
open PyProof.Rows
theorem fn_stairs : fns "_law_stairs" = some (fnAt 68) := by unfold fns; kernel_rfl
noncomputable def mxL (r : List Nat) : Nat := r.foldl max 0
noncomputable def kids (r : List Nat) : List (List Nat) := ((List.range (mxL r + 1)).map fun s => r ++ [s]) ++ ((List.range (mxL r + 2)).map fun s => (r.map fun o => if s ≤ o then o + 1 else o) ++ [s])
noncomputable def WO : Nat → List (List Nat)
  | 0 => [[0]]
  | k + 1 => (WO k).flatMap kids
noncomputable abbrev encI (x : Nat) : D := .int (x : Nat)
noncomputable abbrev encN (r : List Nat) : D := .list (r.map encI)
theorem bl_maxL {is : List Int} {m : Int} (h0 : 0 < is.length) (h : is[argBest (fun i j => decide (is[i]?.getD 0 > is[j]?.getD 0)) (is.length - 1)]? = some m) : BltOk (.builtin "max") [.list (is.map .int)] (.int m) := blt1 fun hA _ _ a => by
  obtain ⟨_, vs, rfl, p, r⟩ := a.list
  obtain ⟨xs, h1, h2⟩ := ints_of r
  have h1 : vs = intItems xs.toArray := by apply Array.toList_inj.mp; rw [h1]; simp [intItems]
  subst h1
  have z : xs.toArray.size = is.length := by rw [← h2]; simp
  have fn : numAt xs.toArray = fun i => is[i]?.getD 0 := funext fun i => by simp [numAt, ← h2]
  refine max_intList hA p.isList (by rw [z]; exact h0) fun v h' tk hv hk => ⟨kOf hk, ?_⟩
  rw [fn, z] at hv
  rw [← h2, List.getElem?_map] at h
  rw [← h2] at hv
  generalize argBest _ _ = q at h hv
  obtain ⟨y, e1, e2⟩ := Option.map_eq_some_iff.mp h
  have e3 : (intItems xs.toArray)[q]? = some (.int y.1 y.2) := by simp [intItems, e1]
  rw [e3] at hv
  cases hv
  subst e2
  exact rInt
noncomputable def maxOk (r : List Nat) : Bool := decide (0 < r.length) && decide ((r.map fun x : Nat => (x : Int))[argBest (fun i j => decide ((r.map fun x : Nat => (x : Int))[i]?.getD 0 > (r.map fun x : Nat => (x : Int))[j]?.getD 0)) ((r.map fun x : Nat => (x : Int)).length - 1)]? = some ((mxL r : Nat) : Int))
theorem WO_all : ((List.range 4).all fun k => (WO k).all fun r => decide (r.length = k + 1) && ((r.all fun x => decide (x < 4)) && maxOk r)) = true := by decide +kernel
structure RowOk (k : Nat) (r : List Nat) : Prop where
  n : r.length = k + 1
  b : ∀ x ∈ r, x < 4
  m : BltOk (.builtin "max") [encN r] (.int (mxL r : Nat))
theorem WO_facts {k : Nat} (hk : k < 4) {r : List Nat} (hr : r ∈ WO k) : RowOk k r := by
  obtain ⟨a, h⟩ := Bool.and_eq_true_iff.mp (List.all_eq_true.mp (List.all_eq_true.mp WO_all k (List.mem_range.mpr hk)) r hr)
  obtain ⟨b, c⟩ := Bool.and_eq_true_iff.mp h
  obtain ⟨c1, c2⟩ := Bool.and_eq_true_iff.mp c
  refine ⟨of_decide_eq_true a, fun x hx => of_decide_eq_true (List.all_eq_true.mp b x hx), ?_⟩
  have q := @bl_maxL (r.map fun x : Nat => (x : Int)) _ (by rw [List.length_map]; exact of_decide_eq_true c1) (of_decide_eq_true c2)
  rw [List.map_map] at q
  exact @q
theorem WO_lens : (WO 0).length = 1 ∧ (WO 1).length = 3 ∧ (WO 2).length = 13 ∧ (WO 3).length = 75 := by decide +kernel
theorem mx_lt {k : Nat} (hk : k < 4) {r : List Nat} (hr : r ∈ WO k) : mxL r < 4 := by
  have q : ((List.range 4).all fun k => (WO k).all fun r => decide (mxL r < 4)) = true := by decide +kernel
  exact of_decide_eq_true (List.all_eq_true.mp (List.all_eq_true.mp q k (List.mem_range.mpr hk)) r hr)
noncomputable abbrev rowV (v : Nat → D) : D := .list [v 0, v 1, v 2, v 3]
noncomputable abbrev seenV (v : Nat → D) : D := .list [rowV v, rowV v, rowV v, rowV v]
structure Asc (v : Nat → D) : Prop where
  lt : ∀ i j, i < 4 → j < 4 → CmpOk .Lt (v i) (v j) (decide (i < j))
  gt : ∀ i j, i < 4 → j < 4 → CmpOk .Gt (v i) (v j) (decide (j < i))
theorem im_rowV {v : Nat → D} {i : Nat} (h : i < 4) : ItemOk (rowV v) (.int (i : Nat)) (v i) := im_list (k := i) (j := i) rfl (Nat.le_of_ble_eq_true rfl) (by
  rcases (show i = 0 ∨ i = 1 ∨ i = 2 ∨ i = 3 by omega) with rfl | rfl | rfl | rfl <;> rfl)
theorem im_seenV {v : Nat → D} {i : Int} (h : 0 ≤ i ∧ i < 4) : ItemOk (seenV v) (.int i) (rowV v) := im_list (k := i) (j := i.toNat) (by omega) (Nat.le_of_ble_eq_true rfl) (by
  rcases (show i = 0 ∨ i = 1 ∨ i = 2 ∨ i = 3 by omega) with rfl | rfl | rfl | rfl <;> rfl)
theorem im_encN {r : List Nat} {i : Int} (h : 0 ≤ i) (h' : i.toNat < r.length) (hl : r.length ≤ 100) : ItemOk (encN r) (.int i) (.int (r.getD i.toNat 0 : Nat)) := by
  have q := @im_getD _ encI r 0 i.toNat h' (by omega)
  rw [show ((i.toNat : Nat) : Int) = i by omega] at q
  exact @q
theorem getD_lt {r : List Nat} {i : Nat} (hi : i < r.length) (h : ∀ x ∈ r, x < 4) : r.getD i 0 < 4 := by
  rw [List.getD_eq_getElem?_getD, List.getElem?_eq_getElem hi]
  exact h _ (List.getElem_mem hi)
noncomputable def stOkB (s : T3) (r : List Nat) : Bool := ((!decide (s.2.1 = 21) && (decide (r.getD s.1.toNat 0 < r.getD s.2.2.toNat 0) && true)) || ((!decide (s.2.1 = 20) && (decide (r.getD s.2.2.toNat 0 < r.getD s.1.toNat 0) && true)) || false))
noncomputable abbrev rN := (fnAt 68).scope.names
noncomputable abbrev osMk (l sn : D) (rows : List (List Nat)) : St := stV rN ["rows", "seen", "statements"] [.list (rows.map encN), sn, l] none
noncomputable abbrev srMk (l sn : D) (name : Int) (rows : List (List Nat)) : St := stV rN ["rows", "name", "seen", "statements"] [.list (rows.map encN), .int name, sn, l] none
noncomputable def stF (k : Nat) (rows : List (List Nat)) (s : T3) : List (List Nat) := if (if s.1 < s.2.2 then s.2.2 else s.1) = (k : Int) then rows.filter (stOkB s) else rows
noncomputable abbrev inner : List Stmt := (bodyOf (fnAt 68).body).drop 1
/-- what is told of two names in a row -/
structure Told (v : Nat → D) (x : List Nat) (s : T3) : Prop where
  a : ItemOk (encN x) (.int s.1) (.int (x.getD s.1.toNat 0 : Nat))
  b : ItemOk (encN x) (.int s.2.2) (.int (x.getD s.2.2.toNat 0 : Nat))
  c : ItemOk (seenV v) (.int s.1) (rowV v)
  d : ItemOk (seenV v) (.int s.2.2) (rowV v)
  e : ItemOk (rowV v) (.int (x.getD s.1.toNat 0 : Nat)) (v (x.getD s.1.toNat 0))
  f : ItemOk (rowV v) (.int (x.getD s.2.2.toNat 0 : Nat)) (v (x.getD s.2.2.toNat 0))
  lt : CmpOk .Lt (v (x.getD s.1.toNat 0)) (v (x.getD s.2.2.toNat 0)) (decide (x.getD s.1.toNat 0 < x.getD s.2.2.toNat 0))
  gt : CmpOk .Gt (v (x.getD s.1.toNat 0)) (v (x.getD s.2.2.toNat 0)) (decide (x.getD s.2.2.toNat 0 < x.getD s.1.toNat 0))
theorem told_of {v : Nat → D} (hv : Asc v) {k : Nat} (hk : k < 4) {x : List Nat} (hx : x ∈ WO k) {s : T3} (hs : OkT s) (o1 : s.1.toNat < k + 1) (o2 : s.2.2.toNat < k + 1) : Told v x s := by
  obtain ⟨w1, w2, _⟩ := WO_facts hk hx
  obtain ⟨h1, h2, h3, h4, h5, h6⟩ := hs
  have p1 : x.getD s.1.toNat 0 < 4 := getD_lt (by omega) w2
  have p2 : x.getD s.2.2.toNat 0 < 4 := getD_lt (by omega) w2
  exact ⟨im_encN h1 (by omega) (by omega), im_encN h3 (by omega) (by omega), im_seenV ⟨h1, h2⟩, im_seenV ⟨h3, h4⟩, im_rowV p1, im_rowV p2, hv.lt _ _ p1 p2, hv.gt _ _ p1 p2⟩
set_option maxHeartbeats 8000000 in
theorem sr_turn {n k : Nat} {l : D} {v : Nat → D} {rows : List (List Nat)} {s : T3} (hv : Asc v) (hk : k < 4) (hs : OkT s) (hsub : ∀ x ∈ rows, x ∈ WO k) (hl : rows.length ≤ 1000) :
    ∃ σ₁, BindF (srMk l (seenV v) (k : Nat) rows) (targetOf inner) (encT s) σ₁ ∧ Exs n σ₁ (bodyOf inner) (.next (srMk l (seenV v) (k : Nat) (stF k rows s))) := by
  obtain ⟨one, sign, two⟩ := s
  have hs' := hs
  obtain ⟨h1, h2, h3, h4, h5, h6⟩ := hs'
  simp only at h1 h2 h3 h4 h5 h6
  refine ⟨stV rN ["two", "sign", "one", "rows", "name", "seen", "statements"] [.int two, .int sign, .int one, .list (rows.map encN), .int (k : Nat), seenV v, l] none, ?_, ?_⟩
  · show BindF _ (.Tuple _ _ _) (.tuple [_, _, _]) _
    kspl_open lbf
  · show Exs n _ (.If _ [.Assign _ (.ListComp _ [⟨_, _, [_], _⟩] _ _) _] _ _ :: []) _
    unfold stF
    simp only
    rcases Classical.em ((if one < two then two else one) = (k : Int)) with d | d
    · rw [if_pos d]
      have q1 : decide ((if one < two then two else one) = (k : Int)) = true := decide_eq_true d
      have hlr : rows.length ≤ 2097152 := by omega
      have o1 : one.toNat < k + 1 := by split at d <;> omega
      have o2 : two.toNat < k + 1 := by split at d <;> omega
      with_reducible refine' xs_weak (xs_one (ex_ifTe ?a1 q1 (xs_one (ex_ce ?b1 ?b2 (ce_filter (b := stOkB (one, sign, two)) (w := encN) ?b3 ?b4 ?b5 it_list hlr (fun x hx => ?b6)))))) ?z
      case a1 => kspl_open ltr
      case b1 => exact fun _ => ⟨_, rfl⟩
      case b2 => kernel_rfl
      case b3 => kernel_rfl
      case b4 => exact fun _ _ => rfl
      case b5 => kspl_open lev
      case b6 =>
        obtain ⟨g1, g2, g3, g4, g5, g6, g7, g8⟩ := told_of hv hk (hsub x hx) hs o1 o2
        unfold stOkB
        simp only at g1 g2 g3 g4 g5 g6 g7 g8
        kspl_open ltu
      case z => exact weak_v [0, 5, 6, 7] (by decide +kernel) rfl
    · rw [if_neg d]
      have q1 : decide ((if one < two then two else one) = (k : Int)) = false := decide_eq_false d
      with_reducible refine' xs_weak (xs_one (ex_ifFe ?c1 q1 xs_nil)) ?y
      case c1 => kspl_open ltr
      case y => exact weak_v [3, 4, 5, 6] (by decide +kernel) rfl
theorem sub_flatMap {α β : Type} (f : α → List β) {a b : List α} (h : a.Sublist b) : (a.flatMap f).Sublist (b.flatMap f) := by
  induction h with
  | slnil => exact List.Sublist.refl _
  | cons x _ ih => rw [List.flatMap_cons]; exact List.sublist_append_of_sublist_right ih
  | cons_cons x _ ih => rw [List.flatMap_cons, List.flatMap_cons]; exact List.Sublist.append (List.Sublist.refl _) ih
theorem WO_len {k : Nat} (hk : k < 4) {rows : List (List Nat)} (h : rows.Sublist (WO k)) : rows.length ≤ 75 := by
  have h1 := h.length_le
  obtain ⟨a, b, c, d⟩ := WO_lens
  rcases (show k = 0 ∨ k = 1 ∨ k = 2 ∨ k = 3 by omega) with rfl | rfl | rfl | rfl <;> omega
theorem stF_sub (k : Nat) (rows : List (List Nat)) (s : T3) : (stF k rows s).Sublist rows := by
  unfold stF
  by_cases h : (if s.1 < s.2.2 then s.2.2 else s.1) = (k : Int)
  · rw [if_pos h]; exact List.filter_sublist
  · rw [if_neg h]; exact List.Sublist.refl _
theorem foldF_sub (k : Nat) : ∀ (l : List T3) (rows : List (List Nat)), (l.foldl (stF k) rows).Sublist rows
  | [], _ => List.Sublist.refl _
  | s :: l, rows => (foldF_sub k l (stF k rows s)).trans (stF_sub k rows s)
noncomputable def grow (k : Nat) (rows : List (List Nat)) : List (List Nat) := if k = 0 then rows else rows.flatMap kids
noncomputable def stage (l : List T3) (rows : List (List Nat)) (k : Nat) : List (List Nat) := l.foldl (stF k) (grow k rows)
theorem grow_sub {k : Nat} {rows : List (List Nat)} (h : rows.Sublist (WO (k - 1))) : (grow k rows).Sublist (WO k) := by
  unfold grow
  cases k with
  | zero => exact h
  | succ k => rw [if_neg (by omega)]; exact sub_flatMap kids h
theorem stage_sub {l : List T3} {k : Nat} {rows : List (List Nat)} (h : rows.Sublist (WO (k - 1))) : (stage l rows k).Sublist (WO k) := (foldF_sub k l _).trans (grow_sub h)
end
noncomputable section
open PyProof.Rows
noncomputable abbrev gSt : Stmt := (bodyOf (fnAt 68).body).headD (.Pass ⟨0, 0, 0, 0⟩)
set_option maxHeartbeats 8000000 in
theorem grow_step {n k : Nat} {l sn : D} {rows : List (List Nat)} (hk : k < 4) (h : rows.Sublist (WO (k - 1))) : Ex n (stV rN ["name", "rows", "seen", "statements"] [.int (k : Nat), .list (rows.map encN), sn, l] none) gSt (.next (srMk l sn (k : Nat) (grow k rows))) := by
  have hlr := WO_len (k := k - 1) (by omega) h
  have hlg := WO_len hk (grow_sub h)
  show Ex n _ (.If _ [.Assign _ (.ListComp _ [⟨_, _, [], _⟩, ⟨_, .BinOp (.ListComp (.BinOp _ _ _ _) [⟨_, _, [], _⟩] _ _) _ (.ListComp (.BinOp (.ListComp _ [⟨_, _, [], _⟩] _ _) _ _ _) [⟨_, _, [], _⟩] _ _) _, [], _⟩] _ _) _] _ _) _
  rcases Classical.em (k = 0) with k0 | k0
  · have q1 : decide ((0 : Int) < (k : Nat)) = false := decide_eq_false (by omega)
    have e : grow k rows = rows := if_pos k0
    rw [e]
    with_reducible refine' ex_weak (ex_ifFe ?a1 q1 xs_nil) ?a2
    case a1 => kspl_open ltr
    case a2 => exact weak_v [1, 0, 2, 3] (by decide +kernel) rfl
  · have q1 : decide ((0 : Int) < (k : Nat)) = true := decide_eq_true (by omega)
    have e : grow k rows = rows.flatMap kids := if_neg k0
    rw [e] at hlg
    rw [e]
    have e2 : (rows.flatMap fun x => (kids x).map encN) = (rows.flatMap kids).map encN := by rw [List.map_flatMap]
    have hl2 : (rows.flatMap fun x => (kids x).map encN).length ≤ 2097152 := by rw [e2, List.length_map]; omega
    with_reducible refine' ex_weak (ex_ifTe ?b1 q1 (xs_one (ex_ce ?b2 ?b3 (ce_two (w := fun x => (kids x).map encN) ⟨rfl, ?b4⟩ ?b5 ?b6 ?b7 it_list hl2 (fun x hx => ?b8))))) ?b9
    case b1 => kspl_open ltr
    case b2 => exact fun _ => ⟨_, rfl⟩
    case b3 => kernel_rfl
    case b4 => exact fun _ _ => rfl
    case b5 => kernel_rfl
    case b6 => exact fun _ _ => rfl
    case b7 => kspl_open lev
    case b9 => exact weak_v [0, 1, 3, 4] (by decide +kernel) (by rw [e2]; rfl)
    case b8 =>
      have hx2 := h.subset hx
      have hk1 : k - 1 < 4 := by omega
      obtain ⟨w1, w2, w3⟩ := WO_facts hk1 hx2
      have hm := mx_lt hk1 hx2
      have lx : (x.map encI).length ≤ 100 := by rw [List.length_map]; omega
      have r1 : Iter (.rng 0 ((mxL x : Nat) + 1)) ((List.range (mxL x + 1)).map fun k : Nat => .int k) := @it_r0 _ _ (by omega) (by omega)
      have r2 : Iter (.rng 0 ((mxL x : Nat) + 2)) ((List.range (mxL x + 2)).map fun k : Nat => .int k) := @it_r0 _ _ (by omega) (by omega)
      have l1 : (List.range (mxL x + 1)).length ≤ 2097152 := by rw [List.length_range]; omega
      have l2 : (List.range (mxL x + 2)).length ≤ 2097152 := by rw [List.length_range]; omega
      have l3 : x.length ≤ 2097152 := by omega
      have ek : ((List.range (mxL x + 1)).map fun s : Nat => D.list (x.map encI ++ [.int (s : Nat)])) ++ ((List.range (mxL x + 2)).map fun s : Nat => D.list ((x.map fun o => encI (if s ≤ o then o + 1 else o)) ++ [.int (s : Nat)])) = (kids x).map encN := by
        unfold kids
        rw [List.map_append, List.map_map, List.map_map]
        refine congr (congrArg _ (List.map_congr_left fun s _ => ?_)) (List.map_congr_left fun s _ => ?_)
        · show _ = encN (x ++ [s]); unfold encN; rw [List.map_append]; rfl
        · show _ = encN ((x.map fun o => if s ≤ o then o + 1 else o) ++ [s]); unfold encN; rw [List.map_append, List.map_map]; rfl
      have it : Iter (.list (((List.range (mxL x + 1)).map fun s : Nat => D.list (x.map encI ++ [.int (s : Nat)])) ++ ((List.range (mxL x + 2)).map fun s : Nat => D.list ((x.map fun o => encI (if s ≤ o then o + 1 else o)) ++ [.int (s : Nat)])))) ((kids x).map encN) := by
        rw [ek]; exact @it_list _
      have ha : ((List.range (mxL x + 1)).map fun s : Nat => D.list (x.map encI ++ [.int (s : Nat)])).length + ((List.range (mxL x + 2)).map fun s : Nat => D.list ((x.map fun o => encI (if s ≤ o then o + 1 else o)) ++ [.int (s : Nat)])).length ≤ 1048576 := by
        rw [List.length_map, List.length_map, List.length_range, List.length_range]; omega
      with_reducible refine' tv_map (w := encN) ?c1 ?c2 (ev_bin (pkEv (ev_ce (ce_map ?d1 ?d2 ?d3 r1 l1 (fun s hs => ?d4)))) (pkEv (ev_ce (ce_map ?e1 ?e2 ?e3 r2 l2 (fun s hs => ?e4)))) (bi_app ha)) it (fun r hr => ?c3)
      case c1 => kspl_open lbn
      case c2 => exact fun _ _ => rfl
      case d1 => kernel_rfl
      case d2 => exact fun _ _ => rfl
      case d3 => kspl_open lev
      case d4 => kspl_open ltu
      case e1 => kernel_rfl
      case e2 => exact fun _ _ => rfl
      case e3 => kspl_open lev
      case e4 =>
        have hb : (x.map fun o => encI (if s ≤ o then o + 1 else o)).length + [D.int (s : Nat)].length ≤ 1048576 := by rw [List.length_map, List.length_singleton]; omega
        with_reducible refine' tu_all ?f1 (ev_bin (pkEv (ev_ce (ce_map ?g1 ?g2 ?g3 it_list l3 (fun o ho => ?g4)))) ?f2 (bi_app hb))
        case f1 => kspl_open lbn
        case f2 => kspl_open lpk
        case g1 => kernel_rfl
        case g2 => exact fun _ _ => rfl
        case g3 => kspl_open lev
        case g4 =>
          have eo : encI (if s ≤ o then o + 1 else o) = .int (if decide ((s : Int) ≤ (o : Nat)) = true then ((o : Nat) : Int) + 1 else (o : Nat)) := by
            by_cases c : s ≤ o
            · rw [if_pos c, if_pos (decide_eq_true (by omega))]; rfl
            · rw [if_neg c, if_neg (by rw [decide_eq_true_iff]; omega)]
          rw [eo]
          kspl_open ltu
      case c3 => kspl_open ltu
theorem os_turn {n k : Nat} {v : Nat → D} {l : List T3} {rows : List (List Nat)} (hv : Asc v) (hk : k < 4) (hok : ∀ s ∈ l, OkT s) (h : rows.Sublist (WO (k - 1))) :
    ∃ σ₁, BindF (osMk (.list (l.map encT)) (seenV v) rows) (targetOf (fnAt 68).body) (.int (k : Nat)) σ₁ ∧ Exs n σ₁ (bodyOf (fnAt 68).body) (.next (osMk (.list (l.map encT)) (seenV v) (stage l rows k))) := by
  refine ⟨stV rN ["name", "rows", "seen", "statements"] [.int (k : Nat), .list (rows.map encN), seenV v, .list (l.map encT)] none, ?_, ?_⟩
  · show BindF _ (.Name _ _) _ _
    kspl_open lbf
  · have L := fl_fold (n := n) (body := bodyOf inner) (mk := srMk (.list (l.map encT)) (seenV v) (k : Nat)) (v := encT) (step := stF k) (fun rows r => rows.Sublist (WO k) ∧ ∀ s ∈ r, OkT s) (t := targetOf inner) (fun b a r h => ⟨⟨(stF_sub k b a).trans h.1, fun s hs => h.2 s (List.mem_cons_of_mem _ hs)⟩, sr_turn hv hk (h.2 a List.mem_cons_self) (fun x hx => h.1.subset hx) (Nat.le_trans (WO_len hk h.1) (by omega))⟩) l (grow k rows) ⟨grow_sub h, hok⟩
    have g := @grow_step n k (.list (l.map encT)) (seenV v) rows hk h
    show Exs n _ (gSt :: _ :: []) _
    with_reducible refine' xs_weak (xs_cons g (xs_one (ex_for ?a1 ?a2 it_list ?a3))) ?a4
    case a3 => exact L
    case a1 => exact fun _ _ => rfl
    case a2 => kspl_open lev
    case a4 => exact weak_v [0, 2, 3] (by decide +kernel) rfl
noncomputable def stairsR (l : List T3) : List (List Nat) := stage l (stage l (stage l (stage l [[0]] 0) 1) 2) 3
noncomputable def signsOf (l : List T3) (r : List Nat) : List Int := l.map fun s => if decide (r.getD s.1.toNat 0 < r.getD s.2.2.toNat 0) then 20 else 21
noncomputable abbrev encS (l : List T3) (r : List Nat) : D := .tuple [.list ((signsOf l r).map .int), .int (mxL r + 1)]
theorem stairsR_sub (l : List T3) : (stairsR l).Sublist (WO 3) := stage_sub (stage_sub (stage_sub (stage_sub (List.Sublist.refl _))))
set_option maxHeartbeats 8000000 in
theorem stairs_spec {n : Nat} {v : Nat → D} {l : List T3} (hv : Asc v) (hl : l.length ≤ 100) (hok : ∀ s ∈ l, OkT s) : Call (n + 1) "_law_stairs" [.list (l.map encT), seenV v] (.list ((stairsR l).map (encS l))) := by
  have L := fl_fold (n := n) (body := bodyOf (fnAt 68).body) (mk := osMk (.list (l.map encT)) (seenV v)) (v := fun k : Nat => .int (k : Nat)) (step := stage l) (fun rows ks => ∃ k, ks = List.range' k (4 - k) ∧ rows.Sublist (WO (k - 1))) (t := targetOf (fnAt 68).body) (fun b a r h => by
    obtain ⟨k, h1, h2⟩ := h
    obtain ⟨m, hm⟩ : ∃ m, 4 - k = m + 1 := by
      cases e : 4 - k with
      | zero => rw [e] at h1; cases h1
      | succ m => exact ⟨m, rfl⟩
    rw [hm, List.range'_succ] at h1
    cases h1
    exact ⟨⟨a + 1, by rw [show 4 - (a + 1) = m by omega], stage_sub h2⟩, os_turn hv (by omega) hok h2⟩) (List.range 4) [[0]] ⟨0, by decide, List.Sublist.refl _⟩
  have r4 : Iter (.rng 0 4) ((List.range 4).map fun k : Nat => .int k) := @it_r0 4 4 rfl (by decide)
  have hsub := stairsR_sub l
  have hlr := WO_len (k := 3) (by omega) hsub
  have hlr2 : (stairsR l).length ≤ 2097152 := by omega
  have hll : l.length ≤ 2097152 := by omega
  have es : ∀ r, encS l r = .tuple [.list (l.map fun s => .int (if decide (r.getD s.1.toNat 0 < r.getD s.2.2.toNat 0) then 20 else 21)), .int (mxL r + 1)] := fun r => by unfold encS signsOf; rw [List.map_map]; rfl
  refine call_ok (fn := fnAt 68) fn_stairs (by kernel_rfl) (fun _ _ _ _ _ _ => by show _ = _; kernel_rfl) rfl ?h
  case h =>
    show Exs n (stV rN ["statements", "seen"] [.list (l.map encT), seenV v] none) (_ :: _ :: .Return (some (.ListComp (.Tuple [.ListComp _ [⟨_, _, [], _⟩] _ _, _] _ _) [⟨_, _, [], _⟩] _ _)) _ :: []) _
    with_reducible refine' xs_cons (ex_weak ?a1 ?a2) (xs_cons (ex_for ?b1 ?b2 r4 ?b3) (xs_ret (ex_retV (ev_ce (ce_map (w := encS l) ?c1 ?c2 ?c3 it_list hlr2 (fun r hr => ?c4))))))
    case a1 => kspl_open lst
    case b3 => exact L
    case a2 => exact weak_v [0, 2, 1] (by decide +kernel) rfl
    case b1 => exact fun _ _ => rfl
    case b2 => kspl_open lev
    case c1 => kernel_rfl
    case c2 => exact fun _ _ => rfl
    case c3 => exact ev_v 0 (by decide +kernel) rfl
    case c4 =>
      obtain ⟨w1, w2, w3⟩ := WO_facts (show 3 < 4 by omega) (hsub.subset hr)
      rw [es]
      with_reducible refine' tu_all ?d1 (ev_tuple ?d2 ?d3 (ea_cons (ev_ce (ce_map ?e1 ?e2 ?e3 it_list hll (fun s hs => ?e4))) (ea_cons ?d4 ea_nil)))
      case d1 => kspl_open lbn
      case d2 => exact fun _ => rfl
      case d3 => exact Nat.le_of_ble_eq_true rfl
      case e1 => kernel_rfl
      case e2 => exact fun _ _ => rfl
      case e3 => kspl_open lev
      case e4 =>
        have ho := hok s hs
        obtain ⟨h1, h2, h3, h4, _⟩ := id ho
        obtain ⟨g1, g2, g3, g4, g5, g6, g7, g8⟩ := told_of hv (show 3 < 4 by omega) (hsub.subset hr) ho (by omega) (by omega)
        kspl_open ltu
      case d4 => kspl_open lev
end
noncomputable section
noncomputable def mxS (s : T3) : Int := if s.1 < s.2.2 then s.2.2 else s.1
theorem foldF_eq (k : Nat) : ∀ (l : List T3) (rows : List (List Nat)), l.foldl (stF k) rows = rows.filter fun r => l.all fun s => !decide (mxS s = (k : Int)) || stOkB s r
  | [], rows => (List.filter_eq_self.mpr fun _ _ => rfl).symm
  | s :: l, rows => by
    rw [List.foldl_cons, foldF_eq k l]
    unfold stF
    by_cases h : (if s.1 < s.2.2 then s.2.2 else s.1) = (k : Int)
    · have h2 : mxS s = (k : Int) := h
      rw [if_pos h, List.filter_filter]
      apply List.filter_congr
      intro r _
      simp only [List.all_cons, h2, decide_true, Bool.not_true, Bool.false_or]
      rw [Bool.and_comm]
    · have h2 : ¬ mxS s = (k : Int) := h
      rw [if_neg h]
      apply List.filter_congr
      intro r _
      simp only [List.all_cons, h2, decide_false, Bool.not_false, Bool.true_or, Bool.true_and]
noncomputable def Qk (l : List T3) (k : Nat) (r : List Nat) : Bool := l.all fun s => !decide (mxS s ≤ (k : Int)) || stOkB s r
theorem filter_flatMap {α β : Type} {f : α → List β} {q : α → Bool} {q' : β → Bool} : ∀ {l : List α}, (∀ r ∈ l, ∀ c ∈ f r, q' c = q r) → (l.filter q).flatMap f = (l.flatMap f).filter q'
  | [], _ => rfl
  | r :: l, h => by
    have ih := filter_flatMap (l := l) fun r hr => h r (List.mem_cons_of_mem _ hr)
    rw [List.flatMap_cons, List.filter_append, ← ih]
    have h1 := h r List.mem_cons_self
    cases e : q r with
    | true =>
      rw [List.filter_cons_of_pos e, List.flatMap_cons]
      congr 1
      symm
      rw [List.filter_eq_self]
      intro c hc; rw [h1 c hc, e]
    | false =>
      rw [List.filter_cons_of_neg (by rw [e]; decide)]
      have : (f r).filter q' = [] := by
        rw [List.filter_eq_nil_iff]
        intro c hc; rw [h1 c hc, e]; decide
      rw [this, List.nil_append]
theorem kids_all : ((List.range 3).all fun k => (WO k).all fun r => (kids r).all fun c => (List.range (k + 1)).all fun i => (List.range (k + 1)).all fun j => decide (c.getD i 0 < c.getD j 0) == decide (r.getD i 0 < r.getD j 0)) = true := by decide +kernel
theorem kids_cmp {k : Nat} (hk : k < 3) {r c : List Nat} (hr : r ∈ WO k) (hc : c ∈ kids r) {i j : Nat} (hi : i ≤ k) (hj : j ≤ k) : decide (c.getD i 0 < c.getD j 0) = decide (r.getD i 0 < r.getD j 0) := by
  have h := kids_all
  simp only [List.all_eq_true, List.mem_range] at h
  exact beq_iff_eq.mp (h k hk r hr c hc i (by omega) j (by omega))
theorem all_congr' {α : Type} {p q : α → Bool} : ∀ {l : List α}, (∀ x ∈ l, p x = q x) → l.all p = l.all q
  | [], _ => rfl
  | x :: l, h => by rw [List.all_cons, List.all_cons, h x List.mem_cons_self, all_congr' fun y hy => h y (List.mem_cons_of_mem _ hy)]
theorem mxS_le {s : T3} {k : Int} (h : mxS s ≤ k) : s.1 ≤ k ∧ s.2.2 ≤ k := by
  unfold mxS at h; split at h <;> omega
theorem Qk_kids {l : List T3} (hok : ∀ s ∈ l, OkT s) {k : Nat} (hk : k < 3) {r c : List Nat} (hr : r ∈ WO k) (hc : c ∈ kids r) : Qk l k c = Qk l k r := by
  unfold Qk
  refine all_congr' fun s hs => ?_
  by_cases h : mxS s ≤ (k : Int)
  · obtain ⟨a, b⟩ := mxS_le h
    obtain ⟨h1, h2, h3, h4, _⟩ := hok s hs
    simp only [h, decide_true, Bool.not_true, Bool.false_or]
    unfold stOkB
    rw [kids_cmp hk hr hc (i := s.1.toNat) (j := s.2.2.toNat) (by omega) (by omega), kids_cmp hk hr hc (i := s.2.2.toNat) (j := s.1.toNat) (by omega) (by omega)]
  · simp [h]
theorem Qk_step {l : List T3} {k : Nat} (r : List Nat) : (Qk l k r && l.all fun s => !decide (mxS s = ((k + 1 : Nat) : Int)) || stOkB s r) = Qk l (k + 1) r := by
  unfold Qk
  induction l with
  | nil => rfl
  | cons s l ih =>
    simp only [List.all_cons]
    rw [← ih]
    have e : (!decide (mxS s ≤ ((k + 1 : Nat) : Int)) || stOkB s r) = ((!decide (mxS s ≤ (k : Int)) || stOkB s r) && (!decide (mxS s = ((k + 1 : Nat) : Int)) || stOkB s r)) := by
      by_cases a : mxS s ≤ (k : Int)
      · have b : mxS s ≤ ((k + 1 : Nat) : Int) := by omega
        have c : ¬ mxS s = ((k + 1 : Nat) : Int) := by omega
        rw [decide_eq_true a, decide_eq_true b, decide_eq_false c]; cases stOkB s r <;> rfl
      · by_cases c : mxS s = ((k + 1 : Nat) : Int)
        · have b : mxS s ≤ ((k + 1 : Nat) : Int) := by omega
          rw [decide_eq_false a, decide_eq_true b, decide_eq_true c]; cases stOkB s r <;> rfl
        · have b : ¬ mxS s ≤ ((k + 1 : Nat) : Int) := by omega
          rw [decide_eq_false a, decide_eq_false b, decide_eq_false c]; cases stOkB s r <;> rfl
    rw [e]
    generalize (!decide (mxS s ≤ (k : Int)) || stOkB s r) = u
    generalize (!decide (mxS s = ((k + 1 : Nat) : Int)) || stOkB s r) = v
    cases u <;> cases v <;> simp
theorem stage_next {l : List T3} (hok : ∀ s ∈ l, OkT s) {k : Nat} (hk : k < 3) {rows : List (List Nat)} (h : rows = (WO k).filter (Qk l k)) : stage l rows (k + 1) = (WO (k + 1)).filter (Qk l (k + 1)) := by
  unfold stage
  rw [foldF_eq]
  have e : grow (k + 1) rows = (WO (k + 1)).filter (Qk l k) := by
    unfold grow
    rw [if_neg (by omega), h]
    exact filter_flatMap fun r hr c hc => Qk_kids hok hk hr hc
  rw [e, List.filter_filter]
  apply List.filter_congr
  intro r _
  rw [← Qk_step, Bool.and_comm]
theorem stairsR_eq {l : List T3} (hok : ∀ s ∈ l, OkT s) : stairsR l = (WO 3).filter fun r => l.all fun s => stOkB s r := by
  have h0 : stage l [[0]] 0 = (WO 0).filter (Qk l 0) := by
    unfold stage
    rw [foldF_eq]
    show List.filter _ (grow 0 [[0]]) = List.filter _ [[0]]
    apply List.filter_congr
    intro r _
    unfold Qk
    refine all_congr' fun s hs => ?_
    obtain ⟨h1, h2, h3, h4, _⟩ := hok s hs
    have : (mxS s ≤ ((0 : Nat) : Int)) ↔ (mxS s = ((0 : Nat) : Int)) := by unfold mxS; split <;> omega
    simp only [this]
  have h1 := stage_next hok (by omega) h0
  have h2 := stage_next hok (by omega) h1
  have h3 := stage_next hok (by omega) h2
  show stage l (stage l (stage l (stage l [[0]] 0) 1) 2) 3 = _
  rw [h3]
  apply List.filter_congr
  intro r _
  unfold Qk
  refine all_congr' fun s hs => ?_
  obtain ⟨a1, a2, a3, a4, _⟩ := hok s hs
  have : mxS s ≤ ((0 + 1 + 1 + 1 : Nat) : Int) := by unfold mxS; split <;> omega
  rw [decide_eq_true this]; rfl
/-- the signs that an order writes -/
noncomputable def sgO (l : List T3) (x : List Nat) : List Int := l.map fun s => if before s.1.toNat s.2.2.toNat x then 20 else 21
theorem ways_fold : ∀ (l : List T3) (ws : List Way), l.foldl wyStep ws = (ws.filter fun x => l.all fun s => wyOk s x).map fun x => (x.1, x.2 ++ sgO l x.1)
  | [], ws => by
    have h : (ws.filter fun x => ([] : List T3).all fun s => wyOk s x) = ws := List.filter_eq_self.mpr fun _ _ => rfl
    rw [h]
    simp [sgO]
  | s :: l, ws => by
    rw [List.foldl_cons, ways_fold l]
    unfold wyStep
    rw [List.filter_map, List.filter_filter, List.map_map]
    have : (fun x : Way => ((fun x : Way => l.all fun s => wyOk s x) ∘ wyNew s) x && wyOk s x) = fun x : Way => (s :: l).all fun s => wyOk s x := by
      funext x
      simp only [Function.comp, List.all_cons]
      rw [Bool.and_comm]
      rfl
    rw [this]
    refine List.map_congr_left fun x _ => ?_
    show ((wyNew s x).1, (wyNew s x).2 ++ sgO l (wyNew s x).1) = (x.1, x.2 ++ sgO (s :: l) x.1)
    unfold wyNew sgO
    rw [List.map_cons, List.append_assoc]
    rfl
theorem wr_mem (r : List Int) : ∀ (l : List Way) (W : List (List Int)), r ∈ l.foldl wrStep W ↔ r ∈ W ∨ ∃ x ∈ l, x.2 = r
  | [], W => by simp
  | x :: l, W => by
    rw [List.foldl_cons, wr_mem r l]
    unfold wrStep
    split
    · rename_i h
      constructor
      · rintro (a | ⟨y, hy, e⟩)
        · exact .inl a
        · exact .inr ⟨y, List.mem_cons_of_mem _ hy, e⟩
      · rintro (a | ⟨y, hy, e⟩)
        · exact .inl a
        · rcases List.mem_cons.mp hy with rfl | hy
          · exact .inl (e ▸ h)
          · exact .inr ⟨y, hy, e⟩
    · rename_i h
      constructor
      · rintro (a | ⟨y, hy, e⟩)
        · rcases List.mem_append.mp a with a | a
          · exact .inl a
          · exact .inr ⟨x, List.mem_cons_self, (List.mem_singleton.mp a).symm⟩
        · exact .inr ⟨y, List.mem_cons_of_mem _ hy, e⟩
      · rintro (a | ⟨y, hy, e⟩)
        · exact .inl (List.mem_append.mpr (.inl a))
        · rcases List.mem_cons.mp hy with rfl | hy
          · exact .inl (List.mem_append.mpr (.inr (List.mem_singleton.mpr e.symm)))
          · exact .inr ⟨y, hy, e⟩
theorem writings_mem {l : List T3} {r : List Int} : r ∈ writingsL l ↔ ∃ x ∈ ordersL, (∀ s ∈ l, wyOk s (x, []) = true) ∧ sgO l x = r := by
  unfold writingsL
  rw [wr_mem, ways_fold]
  unfold ways0
  constructor
  · rintro (h | ⟨y, hy, e⟩)
    · cases h
    · obtain ⟨z, hz, rfl⟩ := List.mem_map.mp hy
      obtain ⟨hz1, hz2⟩ := List.mem_filter.mp hz
      obtain ⟨x, hx, rfl⟩ := List.mem_map.mp hz1
      refine ⟨x, hx, fun s hs => List.all_eq_true.mp hz2 s hs, ?_⟩
      simpa using e
  · rintro ⟨x, hx, h1, h2⟩
    refine .inr ⟨(x, sgO l x), List.mem_map.mpr ⟨(x, []), List.mem_filter.mpr ⟨List.mem_map.mpr ⟨x, hx, rfl⟩, List.all_eq_true.mpr h1⟩, by simp⟩, h2⟩
theorem lin_all : ((WO 3).all fun w => ordersL.any fun x => (List.range 4).all fun o => (List.range 4).all fun t => (!decide (w.getD o 0 < w.getD t 0) || before o t x) && (!decide (w.getD t 0 < w.getD o 0) || !before o t x)) = true := by decide +kernel
theorem lin_of {w : List Nat} (hw : w ∈ WO 3) : ∃ x ∈ ordersL, ∀ o t, o < 4 → t < 4 → (w.getD o 0 < w.getD t 0 → before o t x = true) ∧ (w.getD t 0 < w.getD o 0 → before o t x = false) := by
  have h := lin_all
  simp only [List.all_eq_true, List.any_eq_true, List.mem_range, Bool.and_eq_true, Bool.or_eq_true, Bool.not_eq_true', decide_eq_false_iff_not] at h
  obtain ⟨x, hx, h⟩ := h w hw
  refine ⟨x, hx, fun o t ho ht => ?_⟩
  obtain ⟨a, b⟩ := h o ho t ht
  exact ⟨fun c => a.resolve_left fun d => d c, fun c => b.resolve_left fun d => d c⟩
theorem signs_in {l : List T3} (hok : ∀ s ∈ l, OkT s) {w : List Nat} (hw : w ∈ stairsR l) : signsOf l w ∈ writingsL l := by
  rw [stairsR_eq hok, List.mem_filter, List.all_eq_true] at hw
  obtain ⟨hw1, hw2⟩ := hw
  obtain ⟨x, hx, hl⟩ := lin_of hw1
  rw [writings_mem]
  have key : ∀ s ∈ l, wyOk s (x, []) = true ∧ before s.1.toNat s.2.2.toNat x = decide (w.getD s.1.toNat 0 < w.getD s.2.2.toNat 0) := by
    intro s hs
    obtain ⟨h1, h2, h3, h4, _⟩ := hok s hs
    have a := hw2 s hs
    obtain ⟨b, c⟩ := hl s.1.toNat s.2.2.toNat (by omega) (by omega)
    unfold stOkB at a
    unfold wyOk
    simp only [Bool.or_eq_true, Bool.and_eq_true, Bool.not_eq_true', decide_eq_true_eq, decide_eq_false_iff_not, and_true, or_false, Bool.false_eq_true] at a ⊢
    rcases a with ⟨a1, a2⟩ | ⟨a1, a2⟩
    · exact ⟨.inl ⟨b a2, a1⟩, by rw [b a2, decide_eq_true a2]⟩
    · refine ⟨.inr ⟨c a2, fun e => ?_, a1⟩, by rw [c a2, decide_eq_false (by omega)]⟩
      rw [e] at a2; omega
  refine ⟨x, hx, fun s hs => (key s hs).1, ?_⟩
  unfold sgO signsOf
  refine List.map_congr_left fun s hs => ?_
  rw [(key s hs).2]
end
noncomputable section
noncomputable def agO (w x : List Nat) (o t : Nat) : Bool := if before o t x then decide (w.getD o 0 < w.getD t 0) else decide (w.getD t 0 < w.getD o 0)
noncomputable def bits6 (a b c d e f : Bool) : Nat := a.toNat + 2 * b.toNat + 4 * c.toNat + 8 * d.toNat + 16 * e.toNat + 32 * f.toNat
noncomputable def maskO (w x : List Nat) : Nat := bits6 (agO w x 0 1) (agO w x 0 2) (agO w x 0 3) (agO w x 1 2) (agO w x 1 3) (agO w x 2 3)
noncomputable def isP (o t : Nat) (s : T3) : Bool := (decide (s.1.toNat = o) && decide (s.2.2.toNat = t)) || (decide (s.1.toNat = t) && decide (s.2.2.toNat = o))
noncomputable def maskE (l : List T3) : Nat := bits6 (l.any (isP 0 1)) (l.any (isP 0 2)) (l.any (isP 0 3)) (l.any (isP 1 2)) (l.any (isP 1 3)) (l.any (isP 2 3))
noncomputable def sgW (w : List Nat) : Int := 1 - 2 * ((mxL w + 1 : Int) % 2)
noncomputable def imp (a b : Bool) : Bool := !a || b
theorem bits_and : ∀ a b c d e f u v w x y z : Bool, (bits6 a b c d e f &&& bits6 u v w x y z == bits6 a b c d e f) = (imp a u && imp b v && imp c w && imp d x && imp e y && imp f z) := by decide +kernel
theorem bits_lt (a b c d e f : Bool) : bits6 a b c d e f < 64 := by revert a b c d e f; decide +kernel
noncomputable def tab02 : List (List (Nat × Int)) := [[(0, -1), (52, 1), (0, 1), (30, 1), (10, 1), (62, -1), (30, -1), (10, -1), (32, 1), (0, 1), (52, -1), (32, -1), (0, -1), (7, 1), (3, 1), (55, -1), (7, -1), (3, -1), (37, 1), (1, 1), (53, -1), (37, -1), (1, -1), (31, -1), (15, -1), (11, -1), (63, 1), (31, 1), (15, 1), (11, 1), (39, -1), (7, -1), (3, -1), (55, 1), (39, 1), (7, 1), (3, 1), (37, -1), (33, -1), (1, -1), (53, 1), (37, 1), (33, 1), (1, 1), (24, 1), (8, 1), (60, -1), (24, -1), (8, -1), (48, 1), (0, 1), (52, -1), (48, -1), (0, -1), (30, -1), (26, -1), (10, -1), (62, 1), (30, 1), (26, 1), (10, 1), (56, -1), (24, -1), (8, -1), (60, 1), (56, 1), (24, 1), (8, 1), (48, -1), (32, -1), (0, -1), (52, 1), (48, 1), (32, 1), (0, 1)],
  [(0, -1), (20, 1), (32, 1), (30, 1), (42, 1), (30, -1), (62, -1), (42, -1), (0, 1), (0, 1), (20, -1), (0, -1), (32, -1), (7, 1), (35, 1), (23, -1), (39, -1), (35, -1), (5, 1), (1, 1), (21, -1), (5, -1), (33, -1), (31, -1), (47, -1), (43, -1), (31, 1), (63, 1), (47, 1), (43, 1), (7, -1), (7, -1), (35, -1), (23, 1), (7, 1), (39, 1), (35, 1), (5, -1), (1, -1), (1, -1), (21, 1), (5, 1), (1, 1), (33, 1), (24, 1), (40, 1), (28, -1), (56, -1), (40, -1), (16, 1), (0, 1), (20, -1), (16, -1), (32, -1), (30, -1), (58, -1), (42, -1), (30, 1), (62, 1), (58, 1), (42, 1), (24, -1), (24, -1), (40, -1), (28, 1), (24, 1), (56, 1), (40, 1), (16, -1), (0, -1), (0, -1), (20, 1), (16, 1), (0, 1), (32, 1)],
  [(0, -1), (4, 1), (48, 1), (14, 1), (42, 1), (14, -1), (46, -1), (58, -1), (0, 1), (16, 1), (4, -1), (16, -1), (48, -1), (7, 1), (51, 1), (7, -1), (55, -1), (51, -1), (5, 1), (17, 1), (5, -1), (21, -1), (49, -1), (15, -1), (47, -1), (59, -1), (15, 1), (47, 1), (63, 1), (59, 1), (7, -1), (23, -1), (51, -1), (7, 1), (23, 1), (55, 1), (51, 1), (5, -1), (17, -1), (17, -1), (5, 1), (21, 1), (17, 1), (49, 1), (8, 1), (40, 1), (12, -1), (40, -1), (56, -1), (0, 1), (0, 1), (4, -1), (0, -1), (48, -1), (14, -1), (42, -1), (42, -1), (14, 1), (46, 1), (42, 1), (58, 1), (8, -1), (8, -1), (40, -1), (12, 1), (8, 1), (40, 1), (56, 1), (0, -1), (0, -1), (16, -1), (4, 1), (0, 1), (16, 1), (48, 1)],
  [(0, -1), (0, 1), (52, 1), (10, 1), (42, 1), (10, -1), (42, -1), (62, -1), (0, 1), (20, 1), (0, -1), (20, -1), (52, -1), (3, 1), (51, 1), (3, -1), (51, -1), (55, -1), (1, 1), (17, 1), (1, -1), (17, -1), (53, -1), (11, -1), (43, -1), (59, -1), (11, 1), (43, 1), (59, 1), (63, 1), (3, -1), (19, -1), (51, -1), (3, 1), (19, 1), (51, 1), (55, 1), (1, -1), (17, -1), (21, -1), (1, 1), (17, 1), (21, 1), (53, 1), (8, 1), (44, 1), (8, -1), (44, -1), (60, -1), (0, 1), (4, 1), (0, -1), (4, -1), (52, -1), (10, -1), (42, -1), (46, -1), (10, 1), (42, 1), (46, 1), (62, 1), (8, -1), (12, -1), (44, -1), (8, 1), (12, 1), (44, 1), (60, 1), (0, -1), (4, -1), (20, -1), (0, 1), (4, 1), (20, 1), (52, 1)],
  [(0, -1), (52, 1), (0, 1), (22, 1), (2, 1), (54, -1), (22, -1), (2, -1), (40, 1), (8, 1), (60, -1), (40, -1), (8, -1), (7, 1), (3, 1), (55, -1), (7, -1), (3, -1), (45, 1), (9, 1), (61, -1), (45, -1), (9, -1), (23, -1), (7, -1), (3, -1), (55, 1), (23, 1), (7, 1), (3, 1), (47, -1), (15, -1), (11, -1), (63, 1), (47, 1), (15, 1), (11, 1), (45, -1), (41, -1), (9, -1), (61, 1), (45, 1), (41, 1), (9, 1), (16, 1), (0, 1), (52, -1), (16, -1), (0, -1), (48, 1), (0, 1), (52, -1), (48, -1), (0, -1), (22, -1), (18, -1), (2, -1), (54, 1), (22, 1), (18, 1), (2, 1), (48, -1), (16, -1), (0, -1), (52, 1), (48, 1), (16, 1), (0, 1), (56, -1), (40, -1), (8, -1), (60, 1), (56, 1), (40, 1), (8, 1)],
  [(0, -1), (36, 1), (16, 1), (6, 1), (2, 1), (38, -1), (6, -1), (18, -1), (40, 1), (24, 1), (44, -1), (56, -1), (24, -1), (7, 1), (19, 1), (39, -1), (23, -1), (19, -1), (45, 1), (25, 1), (45, -1), (61, -1), (25, -1), (7, -1), (7, -1), (19, -1), (39, 1), (7, 1), (23, 1), (19, 1), (47, -1), (31, -1), (27, -1), (47, 1), (63, 1), (31, 1), (27, 1), (45, -1), (57, -1), (25, -1), (45, 1), (61, 1), (57, 1), (25, 1), (0, 1), (0, 1), (36, -1), (0, -1), (16, -1), (32, 1), (0, 1), (36, -1), (32, -1), (16, -1), (6, -1), (2, -1), (2, -1), (38, 1), (6, 1), (2, 1), (18, 1), (32, -1), (0, -1), (0, -1), (36, 1), (32, 1), (0, 1), (16, 1), (40, -1), (40, -1), (24, -1), (44, 1), (40, 1), (56, 1), (24, 1)],
  [(0, -1), (4, 1), (48, 1), (6, 1), (34, 1), (6, -1), (38, -1), (50, -1), (8, 1), (24, 1), (12, -1), (24, -1), (56, -1), (7, 1), (51, 1), (7, -1), (55, -1), (51, -1), (13, 1), (25, 1), (13, -1), (29, -1), (57, -1), (7, -1), (39, -1), (51, -1), (7, 1), (39, 1), (55, 1), (51, 1), (15, -1), (31, -1), (59, -1), (15, 1), (31, 1), (63, 1), (59, 1), (13, -1), (25, -1), (25, -1), (13, 1), (29, 1), (25, 1), (57, 1), (0, 1), (32, 1), (4, -1), (32, -1), (48, -1), (0, 1), (0, 1), (4, -1), (0, -1), (48, -1), (6, -1), (34, -1), (34, -1), (6, 1), (38, 1), (34, 1), (50, 1), (0, -1), (0, -1), (32, -1), (4, 1), (0, 1), (32, 1), (48, 1), (8, -1), (8, -1), (24, -1), (12, 1), (8, 1), (24, 1), (56, 1)],
  [(0, -1), (0, 1), (52, 1), (2, 1), (34, 1), (2, -1), (34, -1), (54, -1), (8, 1), (28, 1), (8, -1), (28, -1), (60, -1), (3, 1), (51, 1), (3, -1), (51, -1), (55, -1), (9, 1), (25, 1), (9, -1), (25, -1), (61, -1), (3, -1), (35, -1), (51, -1), (3, 1), (35, 1), (51, 1), (55, 1), (11, -1), (27, -1), (59, -1), (11, 1), (27, 1), (59, 1), (63, 1), (9, -1), (25, -1), (29, -1), (9, 1), (25, 1), (29, 1), (61, 1), (0, 1), (36, 1), (0, -1), (36, -1), (52, -1), (0, 1), (4, 1), (0, -1), (4, -1), (52, -1), (2, -1), (34, -1), (38, -1), (2, 1), (34, 1), (38, 1), (54, 1), (0, -1), (4, -1), (36, -1), (0, 1), (4, 1), (36, 1), (52, 1), (8, -1), (12, -1), (28, -1), (8, 1), (12, 1), (28, 1), (60, 1)],
  [(0, -1), (52, 1), (0, 1), (20, 1), (0, 1), (52, -1), (20, -1), (0, -1), (42, 1), (10, 1), (62, -1), (42, -1), (10, -1), (5, 1), (1, 1), (53, -1), (5, -1), (1, -1), (45, 1), (9, 1), (61, -1), (45, -1), (9, -1), (21, -1), (5, -1), (1, -1), (53, 1), (21, 1), (5, 1), (1, 1), (45, -1), (13, -1), (9, -1), (61, 1), (45, 1), (13, 1), (9, 1), (47, -1), (43, -1), (11, -1), (63, 1), (47, 1), (43, 1), (11, 1), (16, 1), (0, 1), (52, -1), (16, -1), (0, -1), (50, 1), (2, 1), (54, -1), (50, -1), (2, -1), (20, -1), (16, -1), (0, -1), (52, 1), (20, 1), (16, 1), (0, 1), (50, -1), (18, -1), (2, -1), (54, 1), (50, 1), (18, 1), (2, 1), (58, -1), (42, -1), (10, -1), (62, 1), (58, 1), (42, 1), (10, 1)],
  [(0, -1), (36, 1), (16, 1), (4, 1), (0, 1), (36, -1), (4, -1), (16, -1), (42, 1), (26, 1), (46, -1), (58, -1), (26, -1), (5, 1), (17, 1), (37, -1), (21, -1), (17, -1), (45, 1), (25, 1), (45, -1), (61, -1), (25, -1), (5, -1), (5, -1), (17, -1), (37, 1), (5, 1), (21, 1), (17, 1), (45, -1), (29, -1), (25, -1), (45, 1), (61, 1), (29, 1), (25, 1), (47, -1), (59, -1), (27, -1), (47, 1), (63, 1), (59, 1), (27, 1), (0, 1), (0, 1), (36, -1), (0, -1), (16, -1), (34, 1), (2, 1), (38, -1), (34, -1), (18, -1), (4, -1), (0, -1), (0, -1), (36, 1), (4, 1), (0, 1), (16, 1), (34, -1), (2, -1), (2, -1), (38, 1), (34, 1), (2, 1), (18, 1), (42, -1), (42, -1), (26, -1), (46, 1), (42, 1), (58, 1), (26, 1)],
  [(0, -1), (32, 1), (20, 1), (0, 1), (0, 1), (32, -1), (0, -1), (20, -1), (42, 1), (30, 1), (42, -1), (62, -1), (30, -1), (1, 1), (17, 1), (33, -1), (17, -1), (21, -1), (41, 1), (25, 1), (41, -1), (57, -1), (29, -1), (1, -1), (1, -1), (17, -1), (33, 1), (1, 1), (17, 1), (21, 1), (41, -1), (25, -1), (25, -1), (41, 1), (57, 1), (25, 1), (29, 1), (43, -1), (59, -1), (31, -1), (43, 1), (59, 1), (63, 1), (31, 1), (0, 1), (4, 1), (32, -1), (4, -1), (20, -1), (34, 1), (6, 1), (34, -1), (38, -1), (22, -1), (0, -1), (0, -1), (4, -1), (32, 1), (0, 1), (4, 1), (20, 1), (34, -1), (6, -1), (6, -1), (34, 1), (38, 1), (6, 1), (22, 1), (42, -1), (46, -1), (30, -1), (42, 1), (46, 1), (62, 1), (30, 1)],
  [(0, -1), (0, 1), (52, 1), (0, 1), (32, 1), (0, -1), (32, -1), (52, -1), (10, 1), (30, 1), (10, -1), (30, -1), (62, -1), (1, 1), (49, 1), (1, -1), (49, -1), (53, -1), (9, 1), (25, 1), (9, -1), (25, -1), (61, -1), (1, -1), (33, -1), (49, -1), (1, 1), (33, 1), (49, 1), (53, 1), (9, -1), (25, -1), (57, -1), (9, 1), (25, 1), (57, 1), (61, 1), (11, -1), (27, -1), (31, -1), (11, 1), (27, 1), (31, 1), (63, 1), (0, 1), (36, 1), (0, -1), (36, -1), (52, -1), (2, 1), (6, 1), (2, -1), (6, -1), (54, -1), (0, -1), (32, -1), (36, -1), (0, 1), (32, 1), (36, 1), (52, 1), (2, -1), (6, -1), (38, -1), (2, 1), (6, 1), (38, 1), (54, 1), (10, -1), (14, -1), (30, -1), (10, 1), (14, 1), (30, 1), (62, 1)],
  [(0, -1), (52, 1), (0, 1), (30, 1), (10, 1), (62, -1), (30, -1), (10, -1), (32, 1), (0, 1), (52, -1), (32, -1), (0, -1), (6, 1), (2, 1), (54, -1), (6, -1), (2, -1), (36, 1), (0, 1), (52, -1), (36, -1), (0, -1), (30, -1), (14, -1), (10, -1), (62, 1), (30, 1), (14, 1), (10, 1), (38, -1), (6, -1), (2, -1), (54, 1), (38, 1), (6, 1), (2, 1), (36, -1), (32, -1), (0, -1), (52, 1), (36, 1), (32, 1), (0, 1), (25, 1), (9, 1), (61, -1), (25, -1), (9, -1), (49, 1), (1, 1), (53, -1), (49, -1), (1, -1), (31, -1), (27, -1), (11, -1), (63, 1), (31, 1), (27, 1), (11, 1), (57, -1), (25, -1), (9, -1), (61, 1), (57, 1), (25, 1), (9, 1), (49, -1), (33, -1), (1, -1), (53, 1), (49, 1), (33, 1), (1, 1)],
  [(0, -1), (20, 1), (32, 1), (30, 1), (42, 1), (30, -1), (62, -1), (42, -1), (0, 1), (0, 1), (20, -1), (0, -1), (32, -1), (6, 1), (34, 1), (22, -1), (38, -1), (34, -1), (4, 1), (0, 1), (20, -1), (4, -1), (32, -1), (30, -1), (46, -1), (42, -1), (30, 1), (62, 1), (46, 1), (42, 1), (6, -1), (6, -1), (34, -1), (22, 1), (6, 1), (38, 1), (34, 1), (4, -1), (0, -1), (0, -1), (20, 1), (4, 1), (0, 1), (32, 1), (25, 1), (41, 1), (29, -1), (57, -1), (41, -1), (17, 1), (1, 1), (21, -1), (17, -1), (33, -1), (31, -1), (59, -1), (43, -1), (31, 1), (63, 1), (59, 1), (43, 1), (25, -1), (25, -1), (41, -1), (29, 1), (25, 1), (57, 1), (41, 1), (17, -1), (1, -1), (1, -1), (21, 1), (17, 1), (1, 1), (33, 1)],
  [(0, -1), (16, 1), (36, 1), (26, 1), (42, 1), (26, -1), (58, -1), (46, -1), (0, 1), (4, 1), (16, -1), (4, -1), (36, -1), (2, 1), (34, 1), (18, -1), (34, -1), (38, -1), (0, 1), (0, 1), (16, -1), (0, -1), (36, -1), (26, -1), (42, -1), (42, -1), (26, 1), (58, 1), (42, 1), (46, 1), (2, -1), (2, -1), (34, -1), (18, 1), (2, 1), (34, 1), (38, 1), (0, -1), (0, -1), (4, -1), (16, 1), (0, 1), (4, 1), (36, 1), (25, 1), (45, 1), (25, -1), (61, -1), (45, -1), (17, 1), (5, 1), (17, -1), (21, -1), (37, -1), (27, -1), (59, -1), (47, -1), (27, 1), (59, 1), (63, 1), (47, 1), (25, -1), (29, -1), (45, -1), (25, 1), (29, 1), (61, 1), (45, 1), (17, -1), (5, -1), (5, -1), (17, 1), (21, 1), (5, 1), (37, 1)],
  [(0, -1), (0, 1), (52, 1), (10, 1), (42, 1), (10, -1), (42, -1), (62, -1), (0, 1), (20, 1), (0, -1), (20, -1), (52, -1), (2, 1), (50, 1), (2, -1), (50, -1), (54, -1), (0, 1), (16, 1), (0, -1), (16, -1), (52, -1), (10, -1), (42, -1), (58, -1), (10, 1), (42, 1), (58, 1), (62, 1), (2, -1), (18, -1), (50, -1), (2, 1), (18, 1), (50, 1), (54, 1), (0, -1), (16, -1), (20, -1), (0, 1), (16, 1), (20, 1), (52, 1), (9, 1), (45, 1), (9, -1), (45, -1), (61, -1), (1, 1), (5, 1), (1, -1), (5, -1), (53, -1), (11, -1), (43, -1), (47, -1), (11, 1), (43, 1), (47, 1), (63, 1), (9, -1), (13, -1), (45, -1), (9, 1), (13, 1), (45, 1), (61, 1), (1, -1), (5, -1), (21, -1), (1, 1), (5, 1), (21, 1), (53, 1)],
  [(0, -1), (52, 1), (0, 1), (28, 1), (8, 1), (60, -1), (28, -1), (8, -1), (34, 1), (2, 1), (54, -1), (34, -1), (2, -1), (4, 1), (0, 1), (52, -1), (4, -1), (0, -1), (36, 1), (0, 1), (52, -1), (36, -1), (0, -1), (28, -1), (12, -1), (8, -1), (60, 1), (28, 1), (12, 1), (8, 1), (36, -1), (4, -1), (0, -1), (52, 1), (36, 1), (4, 1), (0, 1), (38, -1), (34, -1), (2, -1), (54, 1), (38, 1), (34, 1), (2, 1), (25, 1), (9, 1), (61, -1), (25, -1), (9, -1), (51, 1), (3, 1), (55, -1), (51, -1), (3, -1), (29, -1), (25, -1), (9, -1), (61, 1), (29, 1), (25, 1), (9, 1), (59, -1), (27, -1), (11, -1), (63, 1), (59, 1), (27, 1), (11, 1), (51, -1), (35, -1), (3, -1), (55, 1), (51, 1), (35, 1), (3, 1)],
  [(0, -1), (48, 1), (4, 1), (24, 1), (8, 1), (56, -1), (24, -1), (12, -1), (34, 1), (6, 1), (50, -1), (38, -1), (6, -1), (0, 1), (0, 1), (48, -1), (0, -1), (4, -1), (32, 1), (0, 1), (48, -1), (32, -1), (4, -1), (24, -1), (8, -1), (8, -1), (56, 1), (24, 1), (8, 1), (12, 1), (32, -1), (0, -1), (0, -1), (48, 1), (32, 1), (0, 1), (4, 1), (34, -1), (34, -1), (6, -1), (50, 1), (34, 1), (38, 1), (6, 1), (25, 1), (13, 1), (57, -1), (29, -1), (13, -1), (51, 1), (7, 1), (51, -1), (55, -1), (7, -1), (25, -1), (25, -1), (13, -1), (57, 1), (25, 1), (29, 1), (13, 1), (59, -1), (31, -1), (15, -1), (59, 1), (63, 1), (31, 1), (15, 1), (51, -1), (39, -1), (7, -1), (51, 1), (55, 1), (39, 1), (7, 1)],
  [(0, -1), (16, 1), (36, 1), (24, 1), (40, 1), (24, -1), (56, -1), (44, -1), (2, 1), (6, 1), (18, -1), (6, -1), (38, -1), (0, 1), (32, 1), (16, -1), (32, -1), (36, -1), (0, 1), (0, 1), (16, -1), (0, -1), (36, -1), (24, -1), (40, -1), (40, -1), (24, 1), (56, 1), (40, 1), (44, 1), (0, -1), (0, -1), (32, -1), (16, 1), (0, 1), (32, 1), (36, 1), (2, -1), (2, -1), (6, -1), (18, 1), (2, 1), (6, 1), (38, 1), (25, 1), (45, 1), (25, -1), (61, -1), (45, -1), (19, 1), (7, 1), (19, -1), (23, -1), (39, -1), (25, -1), (57, -1), (45, -1), (25, 1), (57, 1), (61, 1), (45, 1), (27, -1), (31, -1), (47, -1), (27, 1), (31, 1), (63, 1), (47, 1), (19, -1), (7, -1), (7, -1), (19, 1), (23, 1), (7, 1), (39, 1)],
  [(0, -1), (0, 1), (52, 1), (8, 1), (40, 1), (8, -1), (40, -1), (60, -1), (2, 1), (22, 1), (2, -1), (22, -1), (54, -1), (0, 1), (48, 1), (0, -1), (48, -1), (52, -1), (0, 1), (16, 1), (0, -1), (16, -1), (52, -1), (8, -1), (40, -1), (56, -1), (8, 1), (40, 1), (56, 1), (60, 1), (0, -1), (16, -1), (48, -1), (0, 1), (16, 1), (48, 1), (52, 1), (2, -1), (18, -1), (22, -1), (2, 1), (18, 1), (22, 1), (54, 1), (9, 1), (45, 1), (9, -1), (45, -1), (61, -1), (3, 1), (7, 1), (3, -1), (7, -1), (55, -1), (9, -1), (41, -1), (45, -1), (9, 1), (41, 1), (45, 1), (61, 1), (11, -1), (15, -1), (47, -1), (11, 1), (15, 1), (47, 1), (63, 1), (3, -1), (7, -1), (23, -1), (3, 1), (7, 1), (23, 1), (55, 1)],
  [(0, -1), (52, 1), (0, 1), (20, 1), (0, 1), (52, -1), (20, -1), (0, -1), (42, 1), (10, 1), (62, -1), (42, -1), (10, -1), (4, 1), (0, 1), (52, -1), (4, -1), (0, -1), (44, 1), (8, 1), (60, -1), (44, -1), (8, -1), (20, -1), (4, -1), (0, -1), (52, 1), (20, 1), (4, 1), (0, 1), (44, -1), (12, -1), (8, -1), (60, 1), (44, 1), (12, 1), (8, 1), (46, -1), (42, -1), (10, -1), (62, 1), (46, 1), (42, 1), (10, 1), (17, 1), (1, 1), (53, -1), (17, -1), (1, -1), (51, 1), (3, 1), (55, -1), (51, -1), (3, -1), (21, -1), (17, -1), (1, -1), (53, 1), (21, 1), (17, 1), (1, 1), (51, -1), (19, -1), (3, -1), (55, 1), (51, 1), (19, 1), (3, 1), (59, -1), (43, -1), (11, -1), (63, 1), (59, 1), (43, 1), (11, 1)],
  [(0, -1), (48, 1), (4, 1), (16, 1), (0, 1), (48, -1), (16, -1), (4, -1), (42, 1), (14, 1), (58, -1), (46, -1), (14, -1), (0, 1), (0, 1), (48, -1), (0, -1), (4, -1), (40, 1), (8, 1), (56, -1), (40, -1), (12, -1), (16, -1), (0, -1), (0, -1), (48, 1), (16, 1), (0, 1), (4, 1), (40, -1), (8, -1), (8, -1), (56, 1), (40, 1), (8, 1), (12, 1), (42, -1), (42, -1), (14, -1), (58, 1), (42, 1), (46, 1), (14, 1), (17, 1), (5, 1), (49, -1), (21, -1), (5, -1), (51, 1), (7, 1), (51, -1), (55, -1), (7, -1), (17, -1), (17, -1), (5, -1), (49, 1), (17, 1), (21, 1), (5, 1), (51, -1), (23, -1), (7, -1), (51, 1), (55, 1), (23, 1), (7, 1), (59, -1), (47, -1), (15, -1), (59, 1), (63, 1), (47, 1), (15, 1)],
  [(0, -1), (32, 1), (20, 1), (0, 1), (0, 1), (32, -1), (0, -1), (20, -1), (42, 1), (30, 1), (42, -1), (62, -1), (30, -1), (0, 1), (16, 1), (32, -1), (16, -1), (20, -1), (40, 1), (24, 1), (40, -1), (56, -1), (28, -1), (0, -1), (0, -1), (16, -1), (32, 1), (0, 1), (16, 1), (20, 1), (40, -1), (24, -1), (24, -1), (40, 1), (56, 1), (24, 1), (28, 1), (42, -1), (58, -1), (30, -1), (42, 1), (58, 1), (62, 1), (30, 1), (1, 1), (5, 1), (33, -1), (5, -1), (21, -1), (35, 1), (7, 1), (35, -1), (39, -1), (23, -1), (1, -1), (1, -1), (5, -1), (33, 1), (1, 1), (5, 1), (21, 1), (35, -1), (7, -1), (7, -1), (35, 1), (39, 1), (7, 1), (23, 1), (43, -1), (47, -1), (31, -1), (43, 1), (47, 1), (63, 1), (31, 1)],
  [(0, -1), (0, 1), (52, 1), (0, 1), (32, 1), (0, -1), (32, -1), (52, -1), (10, 1), (30, 1), (10, -1), (30, -1), (62, -1), (0, 1), (48, 1), (0, -1), (48, -1), (52, -1), (8, 1), (24, 1), (8, -1), (24, -1), (60, -1), (0, -1), (32, -1), (48, -1), (0, 1), (32, 1), (48, 1), (52, 1), (8, -1), (24, -1), (56, -1), (8, 1), (24, 1), (56, 1), (60, 1), (10, -1), (26, -1), (30, -1), (10, 1), (26, 1), (30, 1), (62, 1), (1, 1), (37, 1), (1, -1), (37, -1), (53, -1), (3, 1), (7, 1), (3, -1), (7, -1), (55, -1), (1, -1), (33, -1), (37, -1), (1, 1), (33, 1), (37, 1), (53, 1), (3, -1), (7, -1), (39, -1), (3, 1), (7, 1), (39, 1), (55, 1), (11, -1), (15, -1), (31, -1), (11, 1), (15, 1), (31, 1), (63, 1)]]
theorem tab_ok : (ordersL.map fun x => (WO 3).map fun w => (maskO w x, sgW w)) = tab02 := by decide +kernel
theorem tab_sum : (tab02.all fun row => (List.range 64).all fun E => decide (((row.filter fun p => E &&& p.1 == E).map fun p => p.2).sum = 1)) = true := by decide +kernel
theorem sum_one {x : List Nat} (hx : x ∈ ordersL) {E : Nat} (hE : E < 64) : (((WO 3).filter fun w => E &&& maskO w x == E).map sgW).sum = 1 := by
  have h := tab_sum
  rw [← tab_ok] at h
  simp only [List.all_eq_true, List.mem_map, List.mem_range, decide_eq_true_eq] at h
  have h2 := h _ ⟨x, hx, rfl⟩ E hE
  rw [List.filter_map, List.map_map] at h2
  exact h2
theorem sym_all : (ordersL.all fun x => (List.range 4).all fun o => (List.range 4).all fun t => decide (o = t) || (before t o x == !before o t x)) = true := by decide +kernel
theorem ag_sym {w x : List Nat} (hx : x ∈ ordersL) {o t : Nat} (ho : o < 4) (ht : t < 4) (h : o ≠ t) : agO w x t o = agO w x o t := by
  have a := sym_all
  simp only [List.all_eq_true, List.mem_range, Bool.or_eq_true, decide_eq_true_eq, beq_iff_eq] at a
  have b := (a x hx o ho t ht).resolve_left h
  unfold agO
  rw [b]
  cases before o t x <;> rfl
theorem any_ag {l : List T3} {w x : List Nat} (hx : x ∈ ordersL) {o t : Nat} (ho : o < 4) (ht : t < 4) (h : o ≠ t) (ha : ∀ s ∈ l, agO w x s.1.toNat s.2.2.toNat = true) : imp (l.any (isP o t)) (agO w x o t) = true := by
  unfold imp
  cases e : l.any (isP o t) with
  | false => rfl
  | true =>
    obtain ⟨s, hs, hp⟩ := List.any_eq_true.mp e
    have := ha s hs
    unfold isP at hp
    simp only [Bool.or_eq_true, Bool.and_eq_true, decide_eq_true_eq] at hp
    rcases hp with ⟨a, b⟩ | ⟨a, b⟩
    · rw [a, b] at this; simp [this]
    · rw [a, b, ag_sym hx ho ht h] at this; simp [this]
theorem ag_any {l : List T3} {w x : List Nat} {s : T3} (hs : s ∈ l) {o t : Nat} (ho : s.1.toNat = o) (ht : s.2.2.toNat = t) (hi : imp (l.any (isP o t)) (agO w x o t) = true) : agO w x o t = true := by
  have : l.any (isP o t) = true := List.any_eq_true.mpr ⟨s, hs, by unfold isP; simp [ho, ht]⟩
  unfold imp at hi
  rw [this] at hi
  simpa using hi
theorem ag_any' {l : List T3} {w x : List Nat} (hx : x ∈ ordersL) {s : T3} (hs : s ∈ l) {o t : Nat} (h1 : o < 4) (h2 : t < 4) (h3 : o ≠ t) (ho : s.1.toNat = t) (ht : s.2.2.toNat = o) (hi : imp (l.any (isP o t)) (agO w x o t) = true) : agO w x t o = true := by
  have : l.any (isP o t) = true := List.any_eq_true.mpr ⟨s, hs, by unfold isP; simp [ho, ht]⟩
  unfold imp at hi
  rw [this] at hi
  rw [ag_sym hx h1 h2 h3]
  simpa using hi
theorem all_mask {l : List T3} {w x : List Nat} (hx : x ∈ ordersL) (hok : ∀ s ∈ l, OkT s) (hne : ∀ s ∈ l, s.1 ≠ s.2.2) : (l.all fun s => agO w x s.1.toNat s.2.2.toNat) = (maskE l &&& maskO w x == maskE l) := by
  unfold maskE maskO
  rw [bits_and, Bool.eq_iff_iff, List.all_eq_true]
  simp only [Bool.and_eq_true]
  constructor
  · intro h
    exact ⟨⟨⟨⟨⟨any_ag hx (by omega) (by omega) (by omega) h, any_ag hx (by omega) (by omega) (by omega) h⟩, any_ag hx (by omega) (by omega) (by omega) h⟩, any_ag hx (by omega) (by omega) (by omega) h⟩, any_ag hx (by omega) (by omega) (by omega) h⟩, any_ag hx (by omega) (by omega) (by omega) h⟩
  · rintro ⟨⟨⟨⟨⟨a1, a2⟩, a3⟩, a4⟩, a5⟩, a6⟩ s hs
    obtain ⟨h1, h2, h3, h4, _⟩ := hok s hs
    have hn := hne s hs
    rcases (show s.1.toNat = 0 ∨ s.1.toNat = 1 ∨ s.1.toNat = 2 ∨ s.1.toNat = 3 by omega) with e | e | e | e <;>
      rcases (show s.2.2.toNat = 0 ∨ s.2.2.toNat = 1 ∨ s.2.2.toNat = 2 ∨ s.2.2.toNat = 3 by omega) with g | g | g | g <;> rw [e, g] <;>
      first
      | (exfalso; omega)
      | exact ag_any hs e g (by assumption)
      | exact ag_any' hx hs (by omega) (by omega) (by omega) e g (by assumption)
theorem sums_one {l : List T3} (hok : ∀ s ∈ l, OkT s) {r : List Int} (hr : r ∈ writingsL l) : (((stairsR l).filter fun w => decide (signsOf l w = r)).map sgW).sum = 1 := by
  obtain ⟨x, hx, h1, rfl⟩ := writings_mem.mp hr
  have hne : ∀ s ∈ l, s.1 ≠ s.2.2 := by
    intro s hs e
    have a := h1 s hs
    unfold wyOk at a
    have b : before s.1.toNat s.2.2.toNat x = false := by rw [e]; unfold before; simp
    rw [b] at a
    simp [e] at a
  have key : ∀ w ∈ WO 3, ((decide (signsOf l w = sgO l x)) && l.all fun s => stOkB s w) = (maskE l &&& maskO w x == maskE l) := by
    intro w _
    rw [← all_mask hx hok hne, Bool.eq_iff_iff, Bool.and_eq_true, List.all_eq_true, List.all_eq_true, decide_eq_true_eq]
    unfold signsOf sgO
    rw [List.map_inj_left]
    refine Iff.trans (show _ ↔ ∀ s ∈ l, _ ∧ _ from ⟨fun h s hs => ⟨h.1 s hs, h.2 s hs⟩, fun h => ⟨fun s hs => (h s hs).1, fun s hs => (h s hs).2⟩⟩) ?_
    refine forall_congr' fun s => forall_congr' fun hs => ?_
    have a := h1 s hs
    unfold wyOk at a
    unfold stOkB agO
    generalize w.getD s.1.toNat 0 = u at *
    generalize w.getD s.2.2.toNat 0 = v at *
    cases b : before s.1.toNat s.2.2.toNat x with
    | true =>
      simp only [b, Bool.or_eq_true, Bool.and_eq_true, Bool.not_eq_true', decide_eq_true_eq, decide_eq_false_iff_not, and_true, or_false, Bool.false_eq_true, Bool.not_true, false_and, if_true] at a ⊢
      by_cases c : u < v
      · simp [c, a]
      · simp [c]
    | false =>
      simp only [b, Bool.or_eq_true, Bool.and_eq_true, Bool.not_eq_true', decide_eq_true_eq, decide_eq_false_iff_not, and_true, or_false, Bool.false_eq_true, Bool.not_false, false_and, if_false, false_or, true_and] at a ⊢
      by_cases c : u < v
      · have : ¬ v < u := by omega
        simp [c, this]
      · simp [c, a]
  rw [stairsR_eq hok, List.filter_filter, List.filter_congr key]
  exact sum_one hx (bits_lt _ _ _ _ _ _)
end
noncomputable section
open PyProof.Rows
noncomputable abbrev lN := (fnAt iLaw).scope.names
noncomputable abbrev LB (k : Nat) : List Stmt := (fnAt iLaw).body.drop k
noncomputable abbrev pairT (d : D) : D := .tuple [d, .bool true]
theorem wr_len {l : List T3} {r : List Int} (h : r ∈ writingsL l) : r.length = l.length := by
  obtain ⟨x, _, _, rfl⟩ := writings_mem.mp h
  exact List.length_map _
theorem wr_few (l : List T3) : (writingsL l).length ≤ 24 := by
  unfold writingsL
  have a := fold_wy_len l ways0
  have b : ways0.length = 24 := by unfold ways0; rw [List.length_map, ordersL_len]
  have c : ∀ (l : List Way) (W : List (List Int)), (l.foldl wrStep W).length ≤ W.length + l.length := by
    intro l
    induction l with
    | nil => intro W; exact Nat.le_refl _
    | cons x l ih =>
      intro W
      rw [List.foldl_cons]
      refine Nat.le_trans (ih _) ?_
      unfold wrStep
      split
      · simp only [List.length_cons]; omega
      · rw [List.length_append]; simp only [List.length_cons, List.length_nil]; omega
  have d := c (l.foldl wyStep ways0) []
  simp only [List.length_nil] at d
  omega
theorem sg_len (l : List T3) (w : List Nat) : (signsOf l w).length = l.length := List.length_map _
set_option maxHeartbeats 8000000 in
theorem law_end {n : Nat} {l : List T3} (hok : ∀ s ∈ l, OkT s) : Exs n (stV lN ["writings", "stairs"] [.list ((writingsL l).map encR), .list ((stairsR l).map (encS l))] none) (LB 15) (.ret (.bool true)) := by
  have hst := WO_len (k := 3) (by omega) (stairsR_sub l)
  have hs2 : (stairsR l).length ≤ 2097152 := by omega
  have hwr := wr_few l
  have hw2 : (writingsL l).length ≤ 2097152 := by omega
  have e1 : ((stairsR l).filter fun w => !decide (signsOf l w ∈ writingsL l)).map (fun w => encR (signsOf l w)) = [] := by
    rw [List.map_eq_nil_iff, List.filter_eq_nil_iff]
    intro w hw
    rw [decide_eq_true (signs_in hok hw)]; decide
  have hc1 : CmpOk .NotEq (.list (((stairsR l).filter fun w => !decide (signsOf l w ∈ writingsL l)).map (fun w => encR (signsOf l w)))) (.list []) false := by
    rw [e1]; exact @cm_ne _ _ _ (eq_list .nil)
  have e2 : ((writingsL l).filter fun r => !decide ((((stairsR l).filter fun w => decide (signsOf l w = r)).map sgW).sum = 1)).map encR = [] := by
    rw [List.map_eq_nil_iff, List.filter_eq_nil_iff]
    intro r hr
    rw [decide_eq_true (sums_one hok hr)]; decide
  have hc2 : CmpOk .Eq (.list (((writingsL l).filter fun r => !decide ((((stairsR l).filter fun w => decide (signsOf l w = r)).map sgW).sum = 1)).map encR)) (.list []) true := by
    rw [e2]; exact @cm_eq _ _ _ (eq_list .nil)
  show Exs n _ (.If (.Compare (.ListComp _ [⟨_, _, [_], _⟩] _ _) _ _ _) _ _ _ :: .Return (some (.Compare (.ListComp _ [⟨_, _, [.Compare (.Call _ [.ListComp _ [⟨_, _, [_], _⟩] _ _] _ _) _ _ _], _⟩] _ _) _ _ _)) _ :: []) _
  with_reducible refine' xs_cons (ex_ifF (tr_cmp ?a1 (pkEv (ev_ce (ce_filter (b := fun w => !decide (signsOf l w ∈ writingsL l)) (w := fun w => encR (signsOf l w)) ?b1 ?b2 ?b3 it_list hs2 (fun w hw => ?b4)))) ?a2 hc1) xs_nil) (xs_ret (ex_retV (ev_cmp ?c1 (pkEv (ev_ce (ce_filter (b := fun r => !decide ((((stairsR l).filter fun w => decide (signsOf l w = r)).map sgW).sum = 1)) (w := encR) ?d1 ?d2 ?d3 it_list hw2 (fun r hr => ?d4)))) ?c2 hc2)))
  case a1 => rfl
  case a2 => kspl_open lpk
  case b1 => kernel_rfl
  case b2 => exact fun _ _ => rfl
  case b3 => kspl_open lev
  case b4 =>
    have q : CmpOk .NotIn (encR (signsOf l w)) (.list ((writingsL l).map encR)) (!decide (signsOf l w ∈ writingsL l)) := @cm_ninL _ _ _ (any_ints fun r hr => (wr_len hr).trans (sg_len l w).symm)
    kspl_open ltu
  case c1 => rfl
  case c2 => kspl_open lpk
  case d1 => kernel_rfl
  case d2 => exact fun _ _ => rfl
  case d3 => kspl_open lev
  case d4 =>
    have bs : BltOk (.builtin "sum") [.list (((stairsR l).filter fun w => decide (signsOf l w = r)).map fun w => D.int (sgW w))] (.int (((stairsR l).filter fun w => decide (signsOf l w = r)).map sgW).sum) := by
      have q := @bl_sum (((stairsR l).filter fun w => decide (signsOf l w = r)).map sgW)
      rw [List.map_map] at q
      exact @q
    with_reducible refine' tu_if ?e1 (tr_cmp ?e2 (pkEv (ev_bltV ?f1 ?f2 ?f3 (pa_cons (pkEv (ev_ce (ce_filter (b := fun w => decide (signsOf l w = r)) (w := fun w => D.int (sgW w)) ?g1 ?g2 ?g3 it_list hs2 (fun w hw => ?g4)))) pa_nil) bs)) ?e4 cm_neI) (fun hc => ?e3)
    case e1 => kspl_open lbn
    case e2 => rfl
    case e3 => kspl_open lev
    case e4 => kspl_open lpk
    case f1 => decide +kernel
    case f2 => rfl
    case f3 => exact fun _ => rfl
    case g1 => kernel_rfl
    case g2 => exact fun _ _ => rfl
    case g3 => kspl_open lev
    case g4 =>
      have q : CmpOk .Eq (encR (signsOf l w)) (encR r) (decide (signsOf l w = r)) := @cm_eq _ _ _ (eqo_ints (n := 7) ((sg_len l w).trans (wr_len hr).symm))
      unfold sgW
      kspl_open ltu
set_option maxHeartbeats 8000000 in
theorem law_mid {n : Nat} {c v : Nat → D} {dr : Nat → Int} {l : List T3} (hl : l.length ≤ 5) (hok : ∀ s ∈ l, OkT s) (hv : Asc v) (hc : ∀ k, k < 16 → c k = v (k % 4)) :
    Exs (n + 2) (stV lN ["sights", "statements", "draws"] [.list ((List.range 18).map fun k => pairT (c k)), .list (l.map encT), .list ((List.range 7).map fun k => .int (dr k))] none) (LB 11) (.ret (.bool true)) := by
  have ho := @orders_spec (n + 1)
  have i6 : ItemOk (.list ((List.range 7).map fun k => D.int (dr k))) (.int 6) (.int (dr 6)) := @im_at _ (List.range 7) (fun k => D.int (dr k)) 6 6 (by decide) rfl
  have hk : (dr 6 / 65536 % 24).toNat < ordersL.length := by rw [ordersL_len]; omega
  have io := @im_getD _ encP ordersL [] _ hk (by rw [ordersL_len]; omega)
  rw [show (((dr 6 / 65536 % 24).toNat : Nat) : Int) = dr 6 / 65536 % 24 by omega] at io
  have hmem : ordersL.getD (dr 6 / 65536 % 24).toNat [] ∈ ordersL := by
    rw [List.getD_eq_getElem?_getD, List.getElem?_eq_getElem hk]; exact List.getElem_mem _
  have ht := @taken_of n _ hmem
  have hs := @stairs_spec (n + 1) v l hv (by omega) hok
  have hw := @ways_spec n l (by omega) hok
  have r4 : Iter (.rng 0 4) ((List.range 4).map fun k : Nat => .int k) := @it_r0 4 4 rfl (by decide)
  have l4 : (List.range 4).length ≤ 2097152 := by decide
  have hend := @law_end (n + 2) l hok
  show Exs (n + 2) _ (_ :: .If (.UnaryOp .Not _ _) _ _ _ :: .Assign _ (.Call _ [_, .ListComp (.ListComp _ [⟨_, _, [], _⟩] _ _) [⟨_, _, [], _⟩] _ _] _ _) _ :: _ :: LB 15) _
  with_reducible refine' xs_cons ?a1 (xs_cons (ex_ifFe ?a2 ?ae xs_nil) (xs_cons (ex_asgV ?b1 ?b2 (ev_callV (ds' := [.list (l.map encT), seenV v]) ?b3 ?b4 (ea_cons ?b5 (ea_cons (ev_as (ev_ce (ce_map (w := fun _ => rowV v) ?c1 ?c2 ?c3 r4 l4 (fun name hn => ?c4))) ?c5) ea_nil)) hs)) (xs_cons ?a3 (xs_less ?a4 hend))))
  case a1 => kspl_open lst
  case a2 => kspl_open ltr
  case ae => rfl
  case b1 => exact fun _ => rfl
  case b2 => kernel_rfl
  case b3 => decide +kernel
  case b4 => exact fun _ => rfl
  case b5 => kspl_open lev
  case c5 => rfl
  case c1 => kernel_rfl
  case c2 => exact fun _ _ => rfl
  case c3 => kspl_open lev
  case c4 =>
    with_reducible refine' tu_all ?d1 (ev_as (ev_ce (ce_map (w := v) ?d2 ?d3 ?d4 r4 l4 (fun step hs => ?d5))) ?d6)
    case d1 => kspl_open lbn
    case d2 => kernel_rfl
    case d3 => exact fun _ _ => rfl
    case d4 => kspl_open lev
    case d6 => rfl
    case d5 =>
      have hn := List.mem_range.mp hn
      have hs := List.mem_range.mp hs
      have g : ItemOk (.list ((List.range 18).map fun k => pairT (c k))) (.int (4 * (name : Int) + (step : Int))) (pairT (v step)) := by
        have q := @im_at _ (List.range 18) (fun k => pairT (c k)) (4 * name + step) (4 * name + step) (by decide) (by rw [List.getElem?_range (by omega)])
        rw [hc _ (by omega), show (4 * name + step) % 4 = step by omega, show ((4 * name + step : Nat) : Int) = 4 * (name : Int) + (step : Int) by omega] at q
        exact @q
      kspl_open ltu
  case a3 => kspl_open lst
  case a4 => exact weak_v [0, 1] (by decide +kernel) rfl
end
noncomputable section
open PyProof.Rows
noncomputable def huF (d6 : Int) (x : Nat) : Int := 16 * (x : Int) + d6 / (16 ^ x) % 16
noncomputable def shF (d5 : Int) (x : Nat) : Int := (d5 / 6 + 37 * (x : Int)) % 96
noncomputable def clF (d5 d6 : Int) (x : Nat) : Int := hueOf (huF d6 (x % 4)) (if !decide ((x : Int) = 16) then shF d5 x % 4 + 1 else 0) (if !decide ((x : Int) = 17) then shF d5 x / 4 % 4 + 1 else 0)
theorem huF_b {d6 : Int} {x : Nat} (h : x < 4) : 16 * (x : Int) ≤ huF d6 x ∧ huF d6 x ≤ 16 * (x : Int) + 15 := by
  unfold huF
  generalize d6 / 16 ^ x = q
  omega
theorem clF_lo {d5 d6 : Int} {x : Nat} (h : x < 16) : clF d5 d6 x = 8 * huF d6 (x % 4) := by
  unfold clF
  rw [if_pos (by rw [decide_eq_false (by omega)]; rfl), if_pos (by rw [decide_eq_false (by omega)]; rfl)]
  unfold hueOf
  rw [ilt_dec, decide_eq_true (Int.mul_pos (by omega) (by omega))]
  rfl
theorem asc_hu (d6 : Int) : Asc fun i => .float (Fx (8 * huF d6 i)) where
  lt i j hi hj := by
    have a := huF_b (d6 := d6) hi
    have b := huF_b (d6 := d6) hj
    have q : CmpOk .Lt (.float (Fx (8 * huF d6 i))) (.float (Fx (8 * huF d6 j))) _ := cm_ltF
    rw [fx_cmp (by omega) (by omega), beq_cmp_lt, show decide (8 * huF d6 i < 8 * huF d6 j) = decide (i < j) by
      rw [decide_eq_decide]
      rcases (show i = j ∨ i < j ∨ j < i by omega) with rfl | h | h <;> omega] at q
    exact @q
  gt i j hi hj := by
    have a := huF_b (d6 := d6) hi
    have b := huF_b (d6 := d6) hj
    have q : CmpOk .Gt (.float (Fx (8 * huF d6 i))) (.float (Fx (8 * huF d6 j))) _ := cm_gtF
    rw [fx_cmp (by omega) (by omega), beq_cmp_gt, show decide (8 * huF d6 j < 8 * huF d6 i) = decide (j < i) by
      rw [decide_eq_decide]
      rcases (show i = j ∨ i < j ∨ j < i by omega) with rfl | h | h <;> omega] at q
    exact @q
theorem sight_int {n : Nat} {p s k c : Int} (h : 0 ≤ p ∧ p ≤ 63 ∧ 0 ≤ s ∧ s ≤ 4 ∧ 0 ≤ k ∧ k ≤ 4 ∧ 0 ≤ c ∧ c ≤ 5) : Call (n + 2) "_law_sight" [.int p, .int s, .int k, .int c] (.tuple [.float (Fx (hueOf p s k)), .bool true]) := by
  have q := @sight_ok n p.toNat s.toNat k.toNat c.toNat (by omega) (by omega) (by omega) (by omega)
  rw [Int.toNat_of_nonneg (by omega), Int.toNat_of_nonneg (by omega), Int.toNat_of_nonneg (by omega), Int.toNat_of_nonneg (by omega)] at q
  exact q
set_option maxHeartbeats 8000000 in
theorem law_hues {n : Nat} {dr : Nat → Int} {l : List T3} (hl : l.length ≤ 5) (hok : ∀ s ∈ l, OkT s) :
    Exs (n + 2) (stV lN ["statements", "draws"] [.list (l.map encT), .list ((List.range 7).map fun k => .int (dr k))] none) (LB 7) (.ret (.bool true)) := by
  have i5 : ItemOk (.list ((List.range 7).map fun k => D.int (dr k))) (.int 5) (.int (dr 5)) := @im_at _ (List.range 7) (fun k => D.int (dr k)) 5 5 (by decide) rfl
  have i6 : ItemOk (.list ((List.range 7).map fun k => D.int (dr k))) (.int 6) (.int (dr 6)) := @im_at _ (List.range 7) (fun k => D.int (dr k)) 6 6 (by decide) rfl
  have hend := @law_mid n (fun k => .float (Fx (clF (dr 5) (dr 6) k))) _ dr l hl hok (asc_hu (dr 6)) (fun k hk => by rw [clF_lo hk])
  have r4 : Iter (.rng 0 4) ((List.range 4).map fun k : Nat => .int k) := @it_r0 4 4 rfl (by decide)
  have l4 : (List.range 4).length ≤ 2097152 := by decide
  have r18 : Iter (.rng 0 18) ((List.range 18).map fun k : Nat => .int k) := @it_r0 18 18 rfl (by decide)
  have l18 : (List.range 18).length ≤ 2097152 := by decide
  have e1 : ((List.range 18).filter fun _ => !true).map (fun _ => D.int 1) = [] := by
    rw [List.filter_eq_nil_iff.mpr (fun _ _ => by decide)]; rfl
  have hc1 : CmpOk .NotEq (.list (((List.range 18).filter fun _ => !true).map (fun _ => D.int 1))) (.list []) false := by
    rw [e1]; exact @cm_ne _ _ _ (eq_list .nil)
  show Exs (n + 2) _ (.Assign _ (.ListComp _ [⟨_, _, [], _⟩] _ _) _ :: .Assign _ (.ListComp _ [⟨_, _, [], _⟩] _ _) _ :: .Assign _ (.ListComp _ [⟨_, _, [], _⟩] _ _) _ :: .If (.Compare (.ListComp _ [⟨_, _, [_], _⟩] _ _) _ _ _) _ _ _ :: LB 11) _
  with_reducible refine' xs_cons (ex_ce ?a1 ?a2 (ce_map (w := fun x => .int (huF (dr 6) x)) ?a3 ?a4 ?a5 r4 l4 (fun x hx => ?a6))) (xs_cons (ex_ce ?b1 ?b2 (ce_map (w := fun x => .int (shF (dr 5) x)) ?b3 ?b4 ?b5 r18 l18 (fun x hx => ?b6))) (xs_cons (ex_ce ?c1 ?c2 (ce_map (w := fun x => pairT (.float (Fx (clF (dr 5) (dr 6) x)))) ?c3 ?c4 ?c5 r18 l18 (fun x hx => ?c6)))
    (xs_cons (ex_ifF (tr_cmp ?d1 (pkEv (ev_ce (ce_filter (b := fun _ => !true) (w := fun _ => D.int 1) ?d2 ?d3 ?d4 it_list l18 (fun x hx => ?d5)))) ?d6 hc1) xs_nil) (xs_less ?e1 hend))))
  case a1 => exact fun _ => ⟨_, rfl⟩
  case a2 => kernel_rfl
  case a3 => kernel_rfl
  case a4 => exact fun _ _ => rfl
  case a5 => kspl_open lev
  case a6 =>
    have hx' := List.mem_range.mp hx
    have p : (16 : Int) ^ (x : Int).toNat = 16 ^ x := by rw [Int.toNat_natCast]
    have g2 : BinOk .Pow (.int 16) (.int (x : Nat)) (.int (16 ^ x)) := by
      have q : BinOk .Pow (.int 16) (.int (x : Nat)) _ := bi_pow (by omega) (by omega) (by unfold small; omega)
      rw [p] at q
      exact @q
    have g3 : BinOk .FloorDiv (.int (dr 6)) (.int (16 ^ x)) (.int (dr 6 / 16 ^ x)) := by
      rcases (show x = 0 ∨ x = 1 ∨ x = 2 ∨ x = 3 by omega) with rfl | rfl | rfl | rfl <;> exact bi_fdiv (by decide) (by unfold small; decide)
    show Tu _ _ _ _ _ _ _ (.int (16 * (x : Int) + dr 6 / (16 ^ x) % 16))
    kspl_open ltu
  case b1 => exact fun _ => ⟨_, rfl⟩
  case b2 => kernel_rfl
  case b3 => kernel_rfl
  case b4 => exact fun _ _ => rfl
  case b5 => kspl_open lev
  case b6 =>
    show Tu _ _ _ _ _ _ _ (.int ((dr 5 / 6 + 37 * (x : Int)) % 96))
    kspl_open ltu
  case c1 => exact fun _ => ⟨_, rfl⟩
  case c2 => kernel_rfl
  case c3 => kernel_rfl
  case c4 => exact fun _ _ => rfl
  case c5 => kspl_open lev
  case c6 =>
    have hx' := List.mem_range.mp hx
    have g2 : ItemOk (.list ((List.range 4).map fun x => D.int (huF (dr 6) x))) (.int ((x : Int) % 4)) (.int (huF (dr 6) (x % 4))) := by
      have q := @im_at _ (List.range 4) (fun x => D.int (huF (dr 6) x)) (x % 4) (x % 4) (by decide) (by rw [List.getElem?_range (by omega)])
      rw [show ((x % 4 : Nat) : Int) = (x : Int) % 4 by omega] at q
      exact @q
    have g3 : ItemOk (.list ((List.range 18).map fun x => D.int (shF (dr 5) x))) (.int (x : Nat)) (.int (shF (dr 5) x)) := @im_at _ (List.range 18) (fun x => D.int (shF (dr 5) x)) x x (by decide) (by rw [List.getElem?_range hx'])
    have hb : 0 ≤ shF (dr 5) x ∧ shF (dr 5) x < 96 := by unfold shF; omega
    have hp := huF_b (d6 := dr 6) (show x % 4 < 4 by omega)
    have hcall := @sight_int n (huF (dr 6) (x % 4)) (if !decide ((x : Int) = 16) then shF (dr 5) x % 4 + 1 else 0) (if !decide ((x : Int) = 17) then shF (dr 5) x / 4 % 4 + 1 else 0) (shF (dr 5) x / 16) ⟨by omega, by omega, by split <;> omega, by split <;> omega, by split <;> omega, by split <;> omega, by omega, by omega⟩
    show Tu _ _ _ _ _ _ _ (.tuple [.float (Fx (hueOf (huF (dr 6) (x % 4)) (if !decide ((x : Int) = 16) then shF (dr 5) x % 4 + 1 else 0) (if !decide ((x : Int) = 17) then shF (dr 5) x / 4 % 4 + 1 else 0))), .bool true])
    kspl_open ltu
  case d1 => rfl
  case d2 => kernel_rfl
  case d3 => exact fun _ _ => rfl
  case d4 => kspl_open lev
  case d5 => kspl_open ltu
  case d6 => kspl_open lpk
  case e1 => exact weak_v [0, 3, 4] (by decide +kernel) rfl
end
noncomputable section
open PyProof.Rows
theorem pick_map {α β : Type} (f : α → β) (l : List α) (lo hi st : Option Int) : pick (l.map f) lo hi st = (pick l lo hi st).map f := by
  unfold pick
  simp only [List.length_map, List.map_filterMap, List.getElem?_map]
theorem b5 : ((List.range 6).all fun m => decide ((sliceRange (sliceBounds none (some (m : Int)) none 7).1 (sliceBounds none (some (m : Int)) none 7).2.1 (sliceBounds none (some (m : Int)) none 7).2.2).length ≤ 5)) = true := by decide +kernel
theorem pick5 {α : Type} {l : List α} (h : l.length = 7) {m : Nat} (hm : m < 6) : (pick l none (some (m : Int)) none).length ≤ 5 := by
  refine Nat.le_trans (List.length_filterMap_le _ _) ?_
  rw [h]
  exact of_decide_eq_true (List.all_eq_true.mp b5 m (List.mem_range.mpr hm))
noncomputable def gOf (y : Int) : Nat := if y % 4 = 1 then 1 else if y % 4 = 3 then 2 else 0
noncomputable def toS (y : Int) : St3 := ((y / 4 % 4).toNat, gOf y, ((y / 4 + (if decide (y / 16 % 13 < 12) then y / 16 % 13 % 3 + 1 else 0)) % 4).toNat)
theorem toS_ok (y : Int) : Ok3 (toS y) := by
  refine ⟨?_, ?_, ?_⟩
  · show (y / 4 % 4).toNat < 4; omega
  · show gOf y < 3
    unfold gOf
    split
    · omega
    · split <;> omega
  · show ((y / 4 + (if decide (y / 16 % 13 < 12) then y / 16 % 13 % 3 + 1 else 0)) % 4).toNat < 4; omega
theorem eqa_encT {n : Nat} : ∀ l : List T3, ∃ ks, EqAll (n + 1) (l.map encT) (l.map encT) ks ∧ ks.all id = true
  | [] => ⟨[], .nil, rfl⟩
  | x :: l => by
    obtain ⟨ks, h1, h2⟩ := eqa_encT (n := n) l
    refine ⟨_ :: ks, .cons (eq_tuple (.cons eq_int (.cons eq_int (.cons eq_int .nil)))) h1, ?_⟩
    rw [List.all_cons, h2]
    simp
theorem OkT_toT {x : St3} (h : Ok3 x) : OkT (toT x) := by
  obtain ⟨o, g, w⟩ := x
  obtain ⟨h1, h2, h3⟩ := h
  obtain ⟨p1, p2, _⟩ := sgV_facts h2
  have : sgV g ≤ 100 := by
    simp only at h2
    rcases (show g = 0 ∨ g = 1 ∨ g = 2 by omega) with rfl | rfl | rfl <;> decide
  have p : 0 < sgV g := p1
  simp only at h1 h3
  exact ⟨by show (0 : Int) ≤ (o : Nat); omega, by show ((o : Nat) : Int) < 4; omega, by show (0 : Int) ≤ (w : Nat); omega, by show ((w : Nat) : Int) < 4; omega, by show 0 ≤ sgV g; omega, this⟩
theorem sgV_sgL {g : Nat} (h : g < 3) : sgV g = if decide (sgL g = [33, 61]) = true then 28 else if decide (sgL g = [60]) = true then 20 else 21 := by
  rcases (show g = 0 ∨ g = 1 ∨ g = 2 by omega) with rfl | rfl | rfl <;> rfl
noncomputable def odd3 (x : Int) : Bool := !(decide (x < 256) == decide (x < 256)) || (!(decide (256 ≤ x) == decide (255 < x)) || (!(decide (x = 0) == decide (x = 0)) || false))
theorem odd3_no (x : Int) : odd3 x = false := by
  have : decide (256 ≤ x) = decide (255 < x) := decide_eq_decide.mpr (by omega)
  unfold odd3
  rw [this]; simp
set_option maxHeartbeats 8000000 in
theorem law_drawn {n : Nat} {dr : Nat → Int} : Exs (n + 2) (stV lN ["draws"] [.list ((List.range 7).map fun k => .int (dr k))] none) (LB 2) (.ret (.bool true)) := by
  have i5 : ItemOk (.list ((List.range 7).map fun k => D.int (dr k))) (.int 5) (.int (dr 5)) := @im_at _ (List.range 7) (fun k => D.int (dr k)) 5 5 (by decide) rfl
  have hsl : ∃ ys : List Int, ys.length ≤ 5 ∧ SliceOk (.list ((List.range 7).map fun k => D.int (dr k))) none (some (dr 5 % 6)) none (.list (ys.map .int)) := by
    refine ⟨pick ((List.range 7).map dr) none (some (((dr 5 % 6).toNat : Nat) : Int)) none, pick5 (by simp) (by omega), ?_⟩
    rw [Int.toNat_of_nonneg (by omega), ← pick_map, List.map_map]
    exact sl_list (by simp) (by simp)
  obtain ⟨ys, hlen, hsl⟩ := hsl
  have hL : (ys.map toS).length ≤ 5 := by rw [List.length_map]; exact hlen
  have hok : ∀ x ∈ ys.map toS, Ok3 x := fun x hx => by
    obtain ⟨y, _, rfl⟩ := List.mem_map.mp hx
    exact toS_ok y
  have f1 := @text_spec (n + 1) _ hL hok
  have f2 := @symbols_of (n + 1) _ hL hok
  have f3 := @statements_of n _ hL hok
  have hsy := syR_len (ys.map toS) true (-1)
  have hend := @law_hues n dr ((ys.map toS).map toT) (by rw [List.length_map]; exact hL) (fun s hs => by
    obtain ⟨x, hx, rfl⟩ := List.mem_map.mp hs
    exact OkT_toT (hok x hx))
  have ee : ys.map (fun y => enc1 (toS y)) = (ys.map toS).map enc1 := by rw [List.map_map]; rfl
  have k1 : Str.ofString "!=" = S [33, 61] := by decide +kernel
  have k2 : Str.ofString "<" = S [60] := by decide +kernel
  have k3 : Str.ofString ">" = S [62] := by decide +kernel
  have hyl : ys.length ≤ 2097152 := by omega
  generalize ys.map toS = L at *
  have et : (L.map fun x => encT (toT x)) = (L.map toT).map encT := by rw [List.map_map]; rfl
  have hLl : L.length ≤ 2097152 := by omega
  have hcl : (syR true (-1) L ++ [0]).length ≤ 2097152 := by rw [List.length_append, List.length_singleton]; omega
  generalize syR true (-1) L ++ [0] = sy at *
  have e1 : (sy.filter odd3).map D.int = [] := by
    rw [List.filter_eq_nil_iff.mpr (fun x _ => by rw [odd3_no]; decide)]; rfl
  have hc1 : CmpOk .NotEq (.list ((sy.filter odd3).map D.int)) (.list []) false := by
    rw [e1]; exact @cm_ne _ _ _ (eq_list .nil)
  have hc2 : CmpOk .NotEq (.list ((L.map toT).map encT)) (.list (L.map fun x => encT (toT x))) false := by
    rw [et]
    obtain ⟨ks, h1, h2⟩ := eqa_encT (n := 6) (L.map toT)
    have q : CmpOk .NotEq (.list ((L.map toT).map encT)) (.list ((L.map toT).map encT)) _ := cm_ne (eq_list h1)
    rw [h2] at q
    exact @q
  show Exs (n + 2) _ (.Assign _ (.ListComp _ [⟨_, _, [], _⟩] _ _) _ :: .Assign _ (.Call _ [.Call _ [_] _ _] _ _) _ :: .If (.Compare (.ListComp _ [⟨_, _, [_], _⟩] _ _) _ _ _) _ _ _ :: _ :: .If (.Compare _ _ [.ListComp _ [⟨_, _, [], _⟩] _ _] _) _ _ _ :: LB 7) _
  with_reducible refine' xs_cons (ex_weak (ex_ce ?a1 ?a2 (ce_map (w := fun y => enc1 (toS y)) ?a3 ?a4 ?a5 it_list hyl (fun y hy => ?a6))) ?a7) (xs_cons ?b1 (xs_cons (ex_ifF (tr_cmp ?c1 (pkEv (ev_ce (ce_filter (b := odd3) (w := D.int) ?c2 ?c3 ?c4 it_list hcl (fun x hx => ?c5)))) ?c6 hc1) xs_nil)
    (xs_cons ?d1 (xs_cons (ex_ifF (tr_cmp ?e1 ?e2 (pkEv (ev_ce (ce_map (w := fun x => encT (toT x)) ?e3 ?e4 ?e5 it_list hLl (fun x hx => ?e6)))) hc2) xs_nil) (xs_less ?g1 hend)))))
  case a1 => exact fun _ => ⟨_, rfl⟩
  case a2 => kernel_rfl
  case a3 => kernel_rfl
  case a4 => exact fun _ _ => rfl
  case a5 => kspl_open lev
  case a6 =>
    have q4 : ItemOk (.tuple [.str (S [33, 61]), .str (S [60]), .str (S [33, 61]), .str (S [62])]) (.int (y % 4)) (.str (S (sgL (gOf y)))) := by
      refine im_tuple (k := y % 4) (j := (y % 4).toNat) (by omega) (Nat.le_of_ble_eq_true rfl) ?_
      unfold gOf
      rcases (show y % 4 = 0 ∨ y % 4 = 1 ∨ y % 4 = 2 ∨ y % 4 = 3 by omega) with e | e | e | e <;> rw [e] <;> rfl
    have ew : enc1 (toS y) = .tuple [.int (y / 4 % 4), .str (S (sgL (gOf y))), .int ((y / 4 + (if decide (y / 16 % 13 < 12) then y / 16 % 13 % 3 + 1 else 0)) % 4)] := by
      show D.tuple [.int ((y / 4 % 4).toNat : Nat), _, .int (((y / 4 + (if decide (y / 16 % 13 < 12) then y / 16 % 13 % 3 + 1 else 0)) % 4).toNat : Nat)] = _
      rw [Int.toNat_of_nonneg (by omega), Int.toNat_of_nonneg (by omega)]
      rfl
    rw [ew]
    kspl_open ltu
  case a7 => exact weak_v (xs' := ["drawn", "draws"]) (ds' := [.list (L.map enc1), .list ((List.range 7).map fun k => .int (dr k))]) [0, 1] (by decide +kernel) (by rw [ee]; rfl)
  case b1 => kspl_open lst
  case c1 => rfl
  case c2 => kernel_rfl
  case c3 => exact fun _ _ => rfl
  case c4 => kspl_open lev
  case c5 =>
    have t1 := @ist_spec (n + 1) x
    have t2 := @isn_spec (n + 1) x
    have t3 := @eof_spec (n + 1) x
    unfold odd3
    kspl_open ltu
  case c6 => kspl_open lpk
  case d1 => kspl_open lst
  case e1 => rfl
  case e2 => kspl_open lpk
  case e3 => kernel_rfl
  case e4 => exact fun _ _ => rfl
  case e5 => kspl_open lev
  case e6 =>
    have hx3 := hok x hx
    have ew : encT (toT x) = .tuple [.int (x.1 : Nat), .int (if decide (sgL x.2.1 = [33, 61]) = true then 28 else if decide (sgL x.2.1 = [60]) = true then 20 else 21), .int (x.2.2 : Nat)] := by rw [← sgV_sgL hx3.2.1]; rfl
    rw [ew]
    kspl_open ltu
  case g1 => exact weak_v [0, 3] (by decide +kernel) rfl
theorem b60 : ((List.range 64).all fun n => decide ((sliceRange (sliceBounds none (some 60) none n).1 (sliceBounds none (some 60) none n).2.1 (sliceBounds none (some 60) none n).2.2).length ≤ 60)) = true := by decide +kernel
theorem pick60 {α : Type} {l : List α} (h : l.length ≤ 63) : (pick l none (some 60) none).length ≤ 60 :=
  Nat.le_trans (List.length_filterMap_le _ _) (of_decide_eq_true (List.all_eq_true.mp b60 l.length (List.mem_range.mpr (by omega))))
noncomputable def c7 (k : Nat) : Int := [157, 102, 24, 48, 11, 88, 44377].getD k 0
noncomputable def drF (cs : List Int) (k : Nat) : Int := c7 k + (pick cs (some (k : Int)) none (some 7)).sum
theorem fn_law : fns "law" = some (fnAt iLaw) := by unfold fns; kernel_rfl
set_option maxHeartbeats 8000000 in
theorem law_start {n : Nat} {ns : List Int} (h : ns.length ≤ 63) : Call (n + 3) "law" [.list (ns.map .int)] (.bool true) := by
  have hms := pick60 h
  have hs0 : SliceOk (.list (ns.map .int)) none (some 60) none (.list ((pick ns none (some 60) none).map .int)) := by
    rw [← pick_map]
    exact sl_list (by rw [List.length_map]; omega) (by simp)
  have p6 : BinOk .Pow (.int 10) (.int 6) (.int 1000000) := bi_pow (i := 10) (j := 6) (by decide) (by decide) (by unfold small; decide)
  have r7 : Iter (.rng 0 7) ((List.range 7).map fun k : Nat => .int k) := @it_r0 7 7 rfl (by decide)
  have l7 : (List.range 7).length ≤ 2097152 := by decide
  generalize pick ns none (some 60) none = ms at *
  have hml : ms.length ≤ 2097152 := by omega
  have hcl : (ms.map fun x => x % 1000000).length ≤ 63 := by rw [List.length_map]; omega
  have ecs : ms.map (fun x => D.int (x % 1000000)) = (ms.map fun x => x % 1000000).map D.int := by rw [List.map_map]; rfl
  generalize (ms.map fun x => x % 1000000) = cs at *
  have hend := @law_drawn n (drF cs)
  refine call_ok (fn := fnAt iLaw) fn_law (by kernel_rfl) (fun _ _ _ _ _ => by show _ = _; kernel_rfl) rfl ?h
  case h =>
    show Exs (n + 2) (stV lN ["script"] [.list (ns.map .int)] none) (.Assign _ (.ListComp _ [⟨_, _, [], _⟩] _ _) _ :: .Assign _ (.ListComp _ [⟨_, _, [], _⟩] _ _) _ :: LB 2) _
    with_reducible refine' xs_cons (ex_weak (ex_ce ?a1 ?a2 (ce_map (w := fun x => .int (x % 1000000)) ?a3 ?a4 ?a5 it_list hml (fun y hy => ?a6))) ?a7) (xs_cons (ex_ce ?b1 ?b2 (ce_map (w := fun k => .int (drF cs k)) ?b3 ?b4 ?b5 r7 l7 (fun k hk => ?b6))) (xs_less ?c1 hend))
    case a1 => exact fun _ => ⟨_, rfl⟩
    case a2 => kernel_rfl
    case a3 => kernel_rfl
    case a4 => exact fun _ _ => rfl
    case a5 => kspl_open lev
    case a6 => kspl_open ltu
    case a7 => exact weak_v (xs' := ["cells"]) (ds' := [.list (cs.map .int)]) [0] (by decide +kernel) (by rw [ecs]; rfl)
    case b1 => exact fun _ => ⟨_, rfl⟩
    case b2 => kernel_rfl
    case b3 => kernel_rfl
    case b4 => exact fun _ _ => rfl
    case b5 => kspl_open lev
    case b6 =>
      have hk' := List.mem_range.mp hk
      have q1 : ItemOk (.tuple [.int 157, .int 102, .int 24, .int 48, .int 11, .int 88, .int 44377]) (.int (k : Nat)) (.int (c7 k)) := by
        refine im_tuple (k := (k : Int)) (j := k) rfl (Nat.le_of_ble_eq_true rfl) ?_
        rcases (show k = 0 ∨ k = 1 ∨ k = 2 ∨ k = 3 ∨ k = 4 ∨ k = 5 ∨ k = 6 by omega) with rfl | rfl | rfl | rfl | rfl | rfl | rfl <;> rfl
      have q2 : SliceOk (.list (cs.map .int)) (some (k : Int)) none (some 7) (.list ((pick cs (some (k : Int)) none (some 7)).map .int)) := by
        rw [← pick_map]
        exact sl_list (by rw [List.length_map]; omega) (by simp)
      show Tu _ _ _ _ _ _ _ (.int (c7 k + (pick cs (some (k : Int)) none (some 7)).sum))
      kspl_open ltu
    case c1 => exact weak_v [0] (by decide +kernel) rfl
end
theorem theLaw (ns : List Int) (h : ns.length ≤ 63) : Call 6 "law" [.list (ns.map .int)] (.bool true) := law_start (n := 3) h
noncomputable def hd.tw16214242421675126336 : Program := PySem.Challenge.pw_rs0155_02
theorem hd.te16214242421675126336 : PySem.Challenge.pw_rs0155_02 = hd.tw16214242421675126336 := rfl
noncomputable def hd.tw1389597878260852781 : Unit := ()
noncomputable def hd.tw6596136833678090234 : Unit := ()
noncomputable def hd.tw3334744987090369021 : Unit := ()
noncomputable def hd.tw12319353311459017080 : Unit := ()
noncomputable def hd.tw1836080755315867724 : Unit := ()
noncomputable def hd.tw1171348915726550028 : Unit := ()
noncomputable def hd.tw5363564295841288755 : Unit := ()
noncomputable def hd.tw17907119631360928549 : Unit := ()
noncomputable def hd.tw14457593812595234344 : Unit := ()
noncomputable def hd.tw16473244170626142550 : Unit := ()
noncomputable def hd.tw1589133516308662214 : Unit := ()
noncomputable def hd.tw395138700845864316 : Unit := ()
noncomputable def hd.tw13903934854276604550 : Unit := ()
noncomputable def hd.tw16722109127936396110 : Unit := ()
noncomputable def hd.tw2999033326186475339 : Unit := ()
noncomputable def hd.tw2323474266016966308 : Unit := ()
noncomputable def hd.tw5366084841770067474 : Unit := ()
noncomputable def hd.tw11213053971927718326 : Unit := ()
noncomputable def hd.tw10752148897807903841 : Unit := ()
noncomputable def hd.tw7068711184596962023 : Unit := ()
noncomputable def hd.tw2216850387143573719 : Unit := ()
noncomputable def hd.tw14960593345356199642 : Unit := ()
noncomputable def hd.tw2603259988358896889 : Unit := ()
noncomputable def hd.tw17901334829092211166 : Unit := ()
noncomputable def hd.tw1359830224848277088 : Unit := ()
noncomputable def hd.tw7082855905992002993 : Unit := ()
noncomputable def hd.tw5367187694478559379 : Unit := ()
noncomputable def hd.tw6982297934935202809 : Unit := ()
noncomputable def hd.tw7355570028127101125 : Unit := ()
noncomputable def hd.tw5732804406350252772 : Unit := ()
noncomputable def hd.tw8745986378241412371 : Unit := ()
noncomputable def hd.tw3109861748172591687 : Unit := ()
noncomputable def hd.tw16540589490461094875 : Unit := ()
noncomputable def hd.tw11754176132448286083 : Unit := ()
noncomputable def hd.tw1847840615245081061 : Unit := ()
noncomputable def hd.tw16970440968685349367 : Unit := ()
noncomputable def hd.tw12614811148066621264 : Unit := ()
noncomputable def hd.tw8977307856219701671 : Unit := ()
noncomputable def hd.tw12629568148972539762 : Unit := ()
noncomputable def hd.tw11184233589655437745 : Unit := ()
noncomputable def hd.tw3381375190539634487 : Unit := ()
noncomputable def hd.tw4297731678662094536 : Unit := ()
noncomputable def hd.tw5608270528595127837 : Unit := ()
noncomputable def hd.tw17711083657039698284 : Unit := ()
noncomputable def hd.tw9345929723534960622 : Unit := ()
noncomputable def hd.tw14892549342360969540 : Unit := ()
noncomputable def hd.tw17948085552500728524 : Unit := ()
noncomputable def hd.tw13372043803930879067 : Unit := ()
noncomputable def hd.tw11128854368766332075 : Unit := ()
open PySem.W PyProof.Rows PySem.W.X
set_option maxHeartbeats 8000000
set_option Elab.async true in
theorem hd : PySem.Challenge.rw_rs0155_02.Holds := by
  w_on; o_law; z_head; (case hw => w_witness2)
  k_fill
  intro w s₀ s₁ mg mb G y fa o pm cd doc dV kV ho hd hcd hD hmg hg args vals as L hpre hlay hrd hwl hlo
  z_open y L KX ZH ZN ZT
  refine Ground.open G ?_
  intro T B D TE TW
  clear hd hcd hD
  wrow_args hpre hlay hrd hwl hlo
  have htk := script_toks L ZT
  rename_i ns hs h0 h1 h2 h3 h4 h5 aa vs x1 hl x2 x3 x4 hi x6 hlen x7
  have hl' := script_obj L hl
  refine Mine.top_ok (n := 6) (by decide) T KX ?X (ns := ns) (Nat.lt_of_lt_of_le (by decide) htk) hmg ⟨_, hl'⟩ hi (Mine.theLaw ns (by omega)) ?Q
  case X =>
    refine ⟨⟨_, _, rfl, rfl⟩, ?_, ?_, ?_, ?_, ⟨_, _, _, _, _, _, _, Mine.rowsAt (hd.heap_1_155 w.params) 43, rfl, rfl, rfl, rfl, rfl, ⟨rfl, rfl, rfl⟩, rfl, ?_, ?_, ?_⟩⟩
    · kernel_rfl
    · kernel_rfl
    · kernel_rfl
    · kernel_rfl
    · kernel_rfl
    · kernel_rfl
    · intro x hx
      simp only [Mine.bltT, List.mem_cons, List.not_mem_nil, or_false] at hx
      rcases hx with rfl | rfl | rfl | rfl | rfl | rfl | rfl | rfl | rfl <;> kernel_rfl
  case Q =>
    intro s' k
    obtain ⟨h', tk', rfl, kk⟩ := k
    refine ⟨.inl ⟨_, _, [], rfl, fun _ => rfl, ReadsW.bool true, ?_, fun _ => ⟨List.nodup_nil, fun _ hm => (nomatch hm)⟩⟩, OldK.of_keep kk, rfl, .of_eq ?_⟩
    · first | rfl | wrow_post
    · exact hg
end Mine
theorem PySem.Challenge.cw_rs0155_02_holds : PySem.Challenge.rw_rs0155_02.Holds :=
  Mine.hd
