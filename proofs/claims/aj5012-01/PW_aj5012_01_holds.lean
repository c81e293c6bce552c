import PyProof.Rows.All
import Wide.All
import OpenK.AllK
import Wide.FinOn
import PySem.Challenge.RW_aj5012_01
set_option Elab.async false
section
open PySem PySem.W PyProof.Rows
set_option maxRecDepth 100000
set_option maxHeartbeats 8000000
open_top hd for PySem.Challenge.rw_aj5012_01
end
/-! part A1 -/
namespace Mine
open PySem PySem.W PyProof.Rows
set_option maxRecDepth 100000
/-- a small language of my own: names are numbers, globals are data or addresses -/
inductive CE where
  | lit (d : PyData)
  | var (i : Nat)
  | bin (op : Operator) (a b : CE)
  | neg (a : CE)
  | not (a : CE)
  | and (a b : CE)
  | or (a b : CE)
  | ite (c a b : CE)
  | cmp (op : CmpOp) (a b : CE)
  | chain (p q : CmpOp) (a b c : CE)
  | call (f : Addr) (args : List CE)
  | abs (a : CE)
  | mn (a b : CE)
  | mx (a b : CE)
  | dm (a b : CE)
  | len (a : CE)
  | bits (a : CE)
  | tup (es : List CE)
  | lst (es : List CE)
  | idx (a i : CE)
  | tab (a : Addr) (i : CE) (kvs : List (Str × PyData))
  | tail (a : CE)
  | comp (f : Addr) (a : CE)

inductive CS where
  | asg (i : Nat) (e : CE)
  | asgT (is : List Nat) (e : CE)
  | asg2 (i j : Nat) (e : CE)
  | aug (i : Nat) (op : Operator) (e : CE)
  | ite (c : CE) (a b : List CS)
  | ret (e : CE)
  | asrt (c : CE)
  | stop
  | loop (i : Nat) (e : CE) (body : List CS)

/-- data of a value that stands in the written part -/
def kD (K : Frag) : Nat → Value → Option PyData
  | _, .int i _ => some (.int i)
  | _, .str s _ => some (.str s)
  | _, .bool b => some (.bool b)
  | n + 1, .ref a => match K.lookup a with
    | some ⟨.type "tuple", _, .seq vs _, _⟩ => (vs.toList.mapM (kD K n)).map .tuple
    | _ => none
  | _, _ => none

def isFun (K : Frag) (a : Addr) : Bool := match K.lookup a with
  | some ⟨_, _, .func _, _⟩ => true
  | _ => false

def kTab (K : Frag) (a : Addr) : Option (List (Str × PyData)) := match K.lookup a with
  | some ⟨.type "dict", none, .dict es _, ⟨[]⟩⟩ => es.toList.mapM fun e => match e.key with
    | .str s _ => (kD K 4 e.val).map fun d => (s, d)
    | _ => none
  | _ => none

def idxOf : List Str → Str → Option Nat
  | [], _ => none
  | y :: r, x => if y = x then some 0 else (idxOf r x).map (· + 1)

def foldBool (op : BoolOp) : List CE → Option CE
  | [] => none
  | [a] => some a
  | a :: r => (foldBool op r).map fun b => match op with
    | .And => .and a b
    | .Or => .or a b

def builtinCE (x : Str) : List CE → Option CE
  | [a] => if x = ("abs" : Str) then some (.abs a) else if x = ("len" : Str) then some (.len a) else none
  | [a, b] => if x = ("min" : Str) then some (.mn a b) else if x = ("max" : Str) then some (.mx a b) else if x = ("divmod" : Str) then some (.dm a b) else none
  | _ => none

def globalOf? (K : Frag) (sc : List (Str × NameKind)) (x : Str) : Option (Option Value) :=
  if x = ("__debug__" : Str) then none else match sc.lookup x with
    | some .globalImplicit => nsIn K mainGlobals x
    | _ => none

def tabAt? (K : Frag) (sc : List (Str × NameKind)) (TA : Addr) : Expr → Option (List (Str × PyData))
  | .Name x _ => if globalOf? K sc x = some (some (.ref TA)) then kTab K TA else none
  | _ => none

def noCall : Expr → Bool
  | .Name _ _ => true
  | .BinOp _ _ _ _ => true
  | _ => false

def compE (K : Frag) (TA : Addr) (sc : List (Str × NameKind)) (vs : List Str) : Nat → Expr → Option CE
  | 0, _ => none
  | n + 1, e => match e with
    | .Constant (.int i) _ _ => some (.lit (.int i))
    | .Constant (.str s) _ _ => some (.lit (.str s))
    | .Constant (.bool b) _ _ => some (.lit (.bool b))
    | .Name x _ => if x = ("__debug__" : Str) then none else match sc.lookup x with
      | some .local => (idxOf vs x).map .var
      | some .globalImplicit => match nsIn K mainGlobals x with
        | some (some v) => (kD K 4 v).map .lit
        | _ => none
      | _ => none
    | .BoolOp op es _ => (es.mapM (compE K TA sc vs n)).bind (foldBool op)
    | .BinOp l op r _ => (compE K TA sc vs n l).bind fun a => (compE K TA sc vs n r).map fun b => .bin op a b
    | .UnaryOp .USub x _ => (compE K TA sc vs n x).map .neg
    | .UnaryOp .Not x _ => (compE K TA sc vs n x).map .not
    | .IfExp c a b _ => (compE K TA sc vs n c).bind fun c => (compE K TA sc vs n a).bind fun a => (compE K TA sc vs n b).map fun b => .ite c a b
    | .Compare l [op] [r] _ => (compE K TA sc vs n l).bind fun a => (compE K TA sc vs n r).map fun b => .cmp op a b
    | .Compare l [p, q] [r, t] _ => (compE K TA sc vs n l).bind fun a => (compE K TA sc vs n r).bind fun b => (compE K TA sc vs n t).map fun c => .chain p q a b c
    | .Call (.Attribute o m ap) [] [] p => if m = ("bit_length" : Str) ∧ noCall o = true ∧ (ap.endLine == p.line) = true then (compE K TA sc vs n o).map .bits else none
    | .Call (.Name f _) args [] _ => (args.mapM (compE K TA sc vs n)).bind fun as => match globalOf? K sc f with
      | some (some (.ref a)) => if isFun K a ∧ as.isEmpty = false then some (.call a as) else none
      | some none => builtinCE f as
      | _ => none
    | .Tuple es _ _ => (es.mapM (compE K TA sc vs n)).map .tup
    | .List es _ => (es.mapM (compE K TA sc vs n)).map .lst
    | .Subscript a i _ => match a, i with
      | .Name _ _, .Slice (some (.Constant (.int 1) _ _)) none none _ => (compE K TA sc vs n a).map .tail
      | _, _ => match tabAt? K sc TA a with
        | some kvs => (compE K TA sc vs n i).map fun i => .tab TA i kvs
        | none => (compE K TA sc vs n a).bind fun a => (compE K TA sc vs n i).map fun i => .idx a i
    | .ListComp (.Call (.Name f _) [.Name y _] [] _) [⟨.Name z _, iter, [], 0⟩] scope _ =>
      if y = z ∧ scope.names = [((".0" : Str), .local), (y, .local), (f, .globalImplicit)] ∧ scope.kind = .function ∧ y ≠ f ∧ y ≠ (".0" : Str) ∧ f ≠ (".0" : Str) ∧ y ≠ ("__debug__" : Str) ∧ f ≠ ("__debug__" : Str) ∧ noCall iter = true then match nsIn K mainGlobals f with
        | some (some (.ref a)) => if isFun K a then (compE K TA sc vs n iter).map fun e => .comp a e else none
        | _ => none
      else none
    | _ => none

def tgt (vs : List Str) : Expr → Option Nat
  | .Name x _ => idxOf vs x
  | _ => none

def isComp : Expr → Bool
  | .ListComp _ _ _ _ => true
  | _ => false
def allConst : Expr → Bool
  | .Tuple vs _ _ => vs.all (constantsAlone 8)
  | _ => false
def nodupB : List Nat → Bool
  | [] => true
  | i :: r => !r.contains i && nodupB r

def compS (K : Frag) (TA : Addr) (sc : List (Str × NameKind)) (vs : List Str) : Nat → Stmt → Option CS
  | 0, _ => none
  | n + 1, s => match s with
    | .Assign [.Name x _] e _ => if isComp e then none else (idxOf vs x).bind fun i => (compE K TA sc vs n e).map fun c => .asg i c
    | .Assign [.Tuple ts _ _] e _ => if allConst e then none else (ts.mapM (tgt vs)).bind fun is => if nodupB is then (compE K TA sc vs n e).map fun c => .asgT is c else none
    | .Assign [.Name x _, .Name y _] e _ => (idxOf vs x).bind fun i => (idxOf vs y).bind fun j => (compE K TA sc vs n e).map fun c => .asg2 i j c
    | .AugAssign (.Name x _) op e _ => (idxOf vs x).bind fun i => (compE K TA sc vs n e).map fun c => .aug i op c
    | .If c a b _ => (compE K TA sc vs n c).bind fun c => (a.mapM (compS K TA sc vs n)).bind fun a => (b.mapM (compS K TA sc vs n)).map fun b => .ite c a b
    | .Return (some e) _ => some (match compE K TA sc vs n e with
      | some c => .ret c
      | none => .stop)
    | .Assert c none _ => (compE K TA sc vs n c).map .asrt
    | .Raise _ _ _ => some .stop
    | .For (.Name x _) e body [] _ => (idxOf vs x).bind fun i => (compE K TA sc vs n e).bind fun c => (body.mapM (compS K TA sc vs n)).map fun b => .loop i c b
    | _ => none

def localsOf (sc : List (Str × NameKind)) : List Str := sc.filterMap fun p => match p.2 with
  | .local => some p.1
  | _ => none

def compF (K : Frag) (TA : Addr) (a : Addr) : Option (List CS) := match K.lookup a with
  | some ⟨_, _, .func fd, _⟩ => (match fd.body with
    | .stmts body => body.mapM (compS K TA fd.scope.names (localsOf fd.scope.names) 40)
    | _ => none)
  | _ => none

end Mine
/-! part A2 -/
namespace Mine
open PySem PySem.W PyProof.Rows
set_option maxRecDepth 100000
/-- every object stays -/
def Ext (h h' : Heap) : Prop := ∀ b o, h.get? b = some o → h'.get? b = some o
/-- every list and tuple stays -/
def Seqs (h h' : Heap) : Prop := ∀ b o vs n, h.get? b = some o → o.data = .seq vs n → h'.get? b = some o
theorem Ext.refl (h : Heap) : Ext h h := fun _ _ e => e
theorem Ext.trans {a b c : Heap} (x : Ext a b) (y : Ext b c) : Ext a c := fun _ _ e => y _ _ (x _ _ e)
theorem Ext.seqs {h h' : Heap} (x : Ext h h') : Seqs h h' := fun b o _ _ e _ => x b o e
theorem Seqs.trans {a b c : Heap} (x : Seqs a b) (y : Seqs b c) : Seqs a c := fun b o vs n e d => y b o vs n (x b o vs n e d) d
theorem Ext.push (h : Heap) (o : Obj) : Ext h (h.push o) := fun _ _ e => Heap.get?_push_of_some _ e

mutual
inductive Rep (h : Heap) : Value → PyData → Prop
  | int (i : Int) (t : Tok) : Rep h (.int i t) (.int i)
  | str (x : Str) (t : Tok) : Rep h (.str x t) (.str x)
  | bool (b : Bool) : Rep h (.bool b) (.bool b)
  | tup {a : Addr} {o : Obj} {vs : Array Value} {n : Nat} {ds : List PyData} : h.get? a = some o → o.cls = .type "tuple" → o.data = .seq vs n → RepAll h vs.toList ds → Rep h (.ref a) (.tuple ds)
  | lst {a : Addr} {o : Obj} {vs : Array Value} {n : Nat} {ds : List PyData} : h.get? a = some o → o.cls = .type "list" → o.data = .seq vs n → RepAll h vs.toList ds → Rep h (.ref a) (.list ds)
inductive RepAll (h : Heap) : List Value → List PyData → Prop
  | nil : RepAll h [] []
  | cons {v : Value} {vs : List Value} {d : PyData} {ds : List PyData} : Rep h v d → RepAll h vs ds → RepAll h (v :: vs) (d :: ds)
end
mutual
theorem Rep.mono {h h' : Heap} (k : Seqs h h') : ∀ {v : Value} {d : PyData}, Rep h v d → Rep h' v d
  | _, _, .int i t => .int i t
  | _, _, .str x t => .str x t
  | _, _, .bool b => .bool b
  | _, _, .tup h1 h2 h3 r => .tup (k _ _ _ _ h1 h3) h2 h3 (RepAll.mono k r)
  | _, _, .lst h1 h2 h3 r => .lst (k _ _ _ _ h1 h3) h2 h3 (RepAll.mono k r)
theorem RepAll.mono {h h' : Heap} (k : Seqs h h') : ∀ {vs : List Value} {ds : List PyData}, RepAll h vs ds → RepAll h' vs ds
  | _, _, .nil => .nil
  | _, _, .cons a r => .cons (Rep.mono k a) (RepAll.mono k r)
end
mutual
theorem Rep.reads {h : Heap} : ∀ {v : Value} {d : PyData}, Rep h v d → ∃ as, Reads h v d as
  | _, _, .int i t => ⟨_, .int i t⟩
  | _, _, .str x t => ⟨_, .str x t⟩
  | _, _, .bool b => ⟨_, .bool b⟩
  | _, _, .tup h1 h2 h3 r => let ⟨_, q⟩ := RepAll.reads r; ⟨_, .tuple h1 h2 h3 q⟩
  | _, _, .lst h1 h2 h3 r => let ⟨_, q⟩ := RepAll.reads r; ⟨_, .list h1 h2 h3 q⟩
theorem RepAll.reads {h : Heap} : ∀ {vs : List Value} {ds : List PyData}, RepAll h vs ds → ∃ as, ReadsAll h vs ds as
  | _, _, .nil => ⟨_, .nil⟩
  | _, _, .cons a r => let ⟨_, p⟩ := Rep.reads a; let ⟨_, q⟩ := RepAll.reads r; ⟨_, .cons p q⟩
end
theorem RepAll.length {h : Heap} {vs : List Value} {ds : List PyData} (r : RepAll h vs ds) : vs.length = ds.length := by
  induction vs generalizing ds with
  | nil => cases r; rfl
  | cons v vs ih => cases r with | cons a r => rw [List.length_cons, List.length_cons, ih r]
theorem RepAll.get {h : Heap} {vs : List Value} {ds : List PyData} (r : RepAll h vs ds) {k : Nat} {d : PyData} (hk : ds[k]? = some d) : ∃ v, vs[k]? = some v ∧ Rep h v d := by
  induction vs generalizing ds k with
  | nil => cases r; simp at hk
  | cons v vs ih =>
    cases r with
    | cons a r => cases k with
      | zero => simp at hk; subst hk; exact ⟨v, rfl, a⟩
      | succ k => exact ih r (by simpa using hk)
theorem RepAll.append {h : Heap} {vs ws : List Value} {ds es : List PyData} (r : RepAll h vs ds) (q : RepAll h ws es) : RepAll h (vs ++ ws) (ds ++ es) := by
  induction vs generalizing ds with
  | nil => cases r; exact q
  | cons v vs ih => cases r with | cons a r => exact .cons a (ih r)
theorem RepAll.drop {h : Heap} {vs : List Value} {ds : List PyData} (r : RepAll h vs ds) (k : Nat) : RepAll h (vs.drop k) (ds.drop k) := by
  induction vs generalizing ds k with
  | nil => cases r; simpa using RepAll.nil
  | cons v vs ih => cases r with
    | cons a r => cases k with
      | zero => exact .cons a r
      | succ k => exact ih r k
theorem RepAll.ints {h : Heap} {vs : List Value} {ns : List Int} (r : IntsAre vs ns) : RepAll h vs (ns.map .int) := by
  induction r with
  | nil => exact .nil
  | cons i t _ ih => exact .cons (.int _ _) ih
theorem Rep.isTup {h : Heap} {a : Addr} {ds : List PyData} (r : Rep h (.ref a) (.tuple ds)) : ∃ vs, IsTup h a vs ∧ RepAll h vs.toList ds := by
  cases r with | tup h1 h2 h3 q => exact ⟨_, ⟨_, h1, h2, _, h3⟩, q⟩
theorem Rep.isList {h : Heap} {a : Addr} {ds : List PyData} (r : Rep h (.ref a) (.list ds)) : ∃ vs, h.IsList a vs ∧ RepAll h vs.toList ds := by
  cases r with | lst h1 h2 h3 q => exact ⟨_, ⟨_, h1, h2, _, h3⟩, q⟩
theorem Rep.newTup {h : Heap} {vs : List Value} {ds : List PyData} (r : RepAll h vs ds) : Rep (h.push { cls := .type "tuple", data := .seq vs.toArray }) (.ref h.objs.size) (.tuple ds) :=
  .tup (Heap.get?_push_size _ rfl) rfl rfl (by simpa using RepAll.mono (Ext.push _ _).seqs r)
theorem Rep.newList {h : Heap} {vs : List Value} {ds : List PyData} (r : RepAll h vs ds) : Rep (h.push { cls := .type "list", data := .seq vs.toArray }) (.ref h.objs.size) (.list ds) :=
  .lst (Heap.get?_push_size _ rfl) rfl rfl (by simpa using RepAll.mono (Ext.push _ _).seqs r)

/-- what the heap must say of the top -/
structure HK (K : Frag) (h : Heap) : Prop where
  k : K.In h
  g : ∃ mg mb, h.Ns mainGlobals mg ∧ h.Ns builtinsNs mb ∧ ∀ x : Str, x ≠ "__name__" → mb x = bootBuiltins x
  lim : h.NoLimit
theorem HK.keeps {K : Frag} {h h' : Heap} (x : HK K h) (k : Ext h h') : HK K h' :=
  ⟨x.k.keeps k, let ⟨mg, mb, a, b, c⟩ := x.g; ⟨mg, mb, a.keeps k, b.keeps k, c⟩, x.lim.keeps k⟩
theorem HK.of {K : Frag} {h : Heap} {p : Program} {loose : List Str} {mean : ExcName → Option Value} {mg mb : Str → Option Value} (x : K.In h) (T : Top p loose mean mg mb h) : HK K h :=
  ⟨x, ⟨mg, mb, T.g, T.b, T.builtins⟩, T.nolimit⟩

/-! values of the written part -/
inductive All2 {α β : Type} (R : α → β → Prop) : List α → List β → Prop
  | nil : All2 R [] []
  | cons {a : α} {b : β} {l : List α} {r : List β} : R a b → All2 R l r → All2 R (a :: l) (b :: r)
theorem mapM_some {α β : Type} {f : α → Option β} : ∀ {l : List α} {r : List β}, l.mapM f = some r → All2 (fun a b => f a = some b) l r := by
  intro l
  induction l with
  | nil => intro r h; simp at h; subst h; exact .nil
  | cons a l ih =>
    intro r h
    rw [List.mapM_cons] at h
    cases h1 : f a with
    | none => rw [h1] at h; simp at h
    | some b =>
      rw [h1] at h
      cases h2 : l.mapM f with
      | none => rw [h2] at h; simp at h
      | some bs => rw [h2] at h; simp at h; subst h; exact .cons h1 (ih h2)

theorem kD_rep {K : Frag} {h : Heap} (x : K.In h) : ∀ (n : Nat) {v : Value} {d : PyData}, kD K n v = some d → Rep h v d := by
  intro n
  induction n with
  | zero =>
    intro v d e
    cases v <;> simp [kD] at e <;> subst e
    · exact .bool _
    · exact .int _ _
    · exact .str _ _
  | succ n ih =>
    intro v d e
    cases v with
    | bool b => simp [kD] at e; subst e; exact .bool _
    | int i t => simp [kD] at e; subst e; exact .int _ _
    | str s t => simp [kD] at e; subst e; exact .str _ _
    | ref a =>
      simp only [kD] at e
      split at e
      · rename_i q
        simp only [Option.map_eq_some_iff] at e
        obtain ⟨ds, h1, rfl⟩ := e
        refine .tup (x _ _ q) rfl rfl ?_
        have h2 := mapM_some h1
        clear h1 q
        generalize Array.toList _ = l at h2
        induction h2 with
        | nil => exact .nil
        | cons h _ i => exact .cons (ih h) i
      · cases e
    | _ => simp [kD] at e
end Mine
/-! part A3 -/
namespace Mine
open PySem PySem.W PyProof.Rows
set_option maxRecDepth 100000
abbrev Rho := List (Nat × PyData)
def getV : Rho → Nat → Option PyData
  | [], _ => none
  | (j, d) :: r, i => if i = j then some d else getV r i
def bindT : List Nat → List PyData → Rho → Rho
  | i :: is, d :: ds, ρ => bindT is ds ((i, d) :: ρ)
  | _, _, ρ => ρ

/-- two ways -/
@[irreducible] def brD (b : Bool) (X Y : Prop) : Prop := if b = true then X else Y
theorem brD_t {X Y : Prop} : brD true X Y = X := by unfold brD; simp
theorem brD_f {X Y : Prop} : brD false X Y = Y := by unfold brD; simp
def asB : PyData → Bool
  | .bool b => b
  | _ => false
def truD (d : PyData) (k : PyData → Prop) : Prop := match d with
  | .int i => k (.bool (i != 0))
  | .bool b => k (.bool b)
  | _ => False
def negD (d : PyData) (k : PyData → Prop) : Prop := match d with
  | .int i => k (.int (-i))
  | _ => False
def absD (d : PyData) (k : PyData → Prop) : Prop := match d with
  | .int i => k (.int (if i < 0 then -i else i))
  | _ => False
def bitsD (d : PyData) (k : PyData → Prop) : Prop := match d with
  | .int i => k (.int (Builtin.Int.intBits i))
  | _ => False
def lenD (d : PyData) (k : PyData → Prop) : Prop := match d with
  | .list xs => xs.length < 2 ^ 62 ∧ k (.int xs.length)
  | _ => False
def mnD (a b : PyData) (k : PyData → Prop) : Prop := match a, b with
  | .int x, .int y => k (.int (if y < x then y else x))
  | _, _ => False
def mxD (a b : PyData) (k : PyData → Prop) : Prop := match a, b with
  | .int x, .int y => k (.int (if y > x then y else x))
  | _, _ => False
def dmD (a b : PyData) (k : PyData → Prop) : Prop := match a, b with
  | .int x, .int y => y ≠ 0 ∧ y.natAbs.log2 < 9000 ∧ k (.tuple [.int (x.fdiv y), .int (x.fmod y)])
  | _, _ => False
def opD (op : Operator) (a b : PyData) (k : PyData → Prop) : Prop := match op, a, b with
  | .Add, .int x, .int y => k (.int (x + y))
  | .Sub, .int x, .int y => k (.int (x - y))
  | .Mult, .int x, .int y => IntMulOk x y ∧ k (.int (x * y))
  | .FloorDiv, .int x, .int y => y ≠ 0 ∧ y.natAbs.log2 < 9000 ∧ k (.int (x.fdiv y))
  | .Mod, .int x, .int y => y ≠ 0 ∧ k (.int (x.fmod y))
  | .Pow, .int x, .int y => 0 ≤ y ∧ (Builtin.Int.intBits x : Int) * y ≤ 2 ^ 27 ∧ k (.int (x ^ y.toNat))
  | .LShift, .int x, .int y => 0 ≤ y ∧ (Builtin.Int.intBits x : Int) + y ≤ 2 ^ 27 ∧ k (.int (x * 2 ^ y.toNat))
  | .RShift, .int x, .int y => 0 ≤ y ∧ k (.int (x.fdiv (2 ^ y.toNat)))
  | .BitAnd, .int x, .int y => k (.int (Builtin.bitAnd x y))
  | .BitXor, .int x, .int y => k (.int (Builtin.bitXor x y))
  | .Add, .tuple xs, .tuple ys => xs ≠ [] ∧ ys ≠ [] ∧ xs.length + ys.length ≤ 1000 ∧ k (.tuple (xs ++ ys))
  | _, _, _ => False
def augD (op : Operator) (a b : PyData) (k : PyData → Prop) : Prop := match op, a, b with
  | .Add, .int x, .int y => k (.int (x + y))
  | .Sub, .int x, .int y => k (.int (x - y))
  | .LShift, .int x, .int y => 0 ≤ y ∧ (Builtin.Int.intBits x : Int) + y ≤ 2 ^ 27 ∧ k (.int (x * 2 ^ y.toNat))
  | .RShift, .int x, .int y => 0 ≤ y ∧ k (.int (x.fdiv (2 ^ y.toNat)))
  | .BitXor, .int x, .int y => k (.int (Builtin.bitXor x y))
  | _, _, _ => False
def cmpD (op : CmpOp) (a b : PyData) (k : PyData → Prop) : Prop := match op, a, b with
  | .Eq, .int x, .int y => k (.bool (x == y))
  | .NotEq, .int x, .int y => k (.bool (x != y))
  | .Lt, .int x, .int y => k (.bool (decide (x < y)))
  | .LtE, .int x, .int y => k (.bool (decide (x ≤ y)))
  | .Gt, .int x, .int y => k (.bool (decide (y < x)))
  | .GtE, .int x, .int y => k (.bool (decide (y ≤ x)))
  | .Eq, x, y => SeqAt.shaped x = true ∧ SeqAt.shaped y = true ∧ k (.bool (PyData.eqv x y))
  | .NotEq, x, y => SeqAt.shaped x = true ∧ SeqAt.shaped y = true ∧ k (.bool (!PyData.eqv x y))
  | .In, x, .tuple ys => SeqAt.shaped x = true ∧ SeqAt.shaped (.tuple ys) = true ∧ k (.bool (ys.any fun y => PyData.eqv y x))
  | .In, x, .list ys => SeqAt.shaped x = true ∧ SeqAt.shaped (.list ys) = true ∧ k (.bool (ys.any fun y => PyData.eqv y x))
  | _, _, _ => False
def atD : Option PyData → (PyData → Prop) → Prop
  | some d, k => k d
  | none, _ => False
def idxD (a i : PyData) (k : PyData → Prop) : Prop := match a, i with
  | .tuple ds, .int i => (0 ≤ i ∧ i < 2 ^ 62) ∧ atD ds[i.toNat]? k
  | .list ds, .int i => (0 ≤ i ∧ i < 2 ^ 62) ∧ atD ds[i.toNat]? k
  | _, _ => False
def tabD (kvs : List (Str × PyData)) (i : PyData) (k : PyData → Prop) : Prop := match i with
  | .str x => atD (kvs.lookup x) k
  | _ => False
def tailD (a : PyData) (k : PyData → Prop) : Prop := match a with
  | .list ds => (1 ≤ ds.length ∧ ds.length ≤ 1000) ∧ k (.list (ds.drop 1))
  | _ => False

def vcL (f : CE → (PyData → Prop) → Prop) : List CE → (List PyData → Prop) → Prop
  | [], k => k []
  | e :: es, k => f e fun d => vcL f es fun ds => k (d :: ds)
def flat1 : PyData → Bool
  | .int _ => true
  | .str _ => true
  | .bool _ => true
  | _ => false
def flat2 : PyData → Bool
  | .int _ => true
  | .str _ => true
  | .bool _ => true
  | .tuple xs => xs.all flat1
  | _ => false
def mapD (f : List PyData → (PyData → Prop) → Prop) : List PyData → (List PyData → Prop) → Prop
  | [], k => k []
  | d :: ds, k => f [d] fun r => flat2 r = true ∧ mapD f ds fun rs => k (r :: rs)
def compD (f : List PyData → (PyData → Prop) → Prop) (a : PyData) (k : PyData → Prop) : Prop := match a with
  | .tuple ds => ds.length ≤ 1000 ∧ mapD f ds fun rs => k (.list rs)
  | _ => False

abbrev Gam := Addr → List PyData → (PyData → Prop) → Prop

/-- what an expression asks; in the first mode its truth is asked -/
def vc (Γ : Gam) : Nat → Bool → Rho → CE → (PyData → Prop) → Prop
  | 0, _, _, _, _ => False
  | n + 1, true, ρ, c, k => match c with
    | .not a => vc Γ n true ρ a fun d => k (.bool (!asB d))
    | .and a b => vc Γ n true ρ a fun d => brD (asB d) (vc Γ n true ρ b k) (k (.bool false))
    | .or a b => vc Γ n true ρ a fun d => brD (asB d) (k (.bool true)) (vc Γ n true ρ b k)
    | .ite c a b => vc Γ n true ρ c fun d => brD (asB d) (vc Γ n true ρ a k) (vc Γ n true ρ b k)
    | c => vc Γ n false ρ c fun d => truD d k
  | n + 1, false, ρ, c, k => match c with
    | .lit d => k d
    | .var i => atD (getV ρ i) k
    | .bin op a b => vc Γ n false ρ a fun x => vc Γ n false ρ b fun y => opD op x y k
    | .neg a => vc Γ n false ρ a fun x => negD x k
    | .not a => vc Γ n false ρ a fun x => truD x fun d => k (.bool (!asB d))
    | .and a b => vc Γ n false ρ a fun x => truD x fun d => brD (asB d) (vc Γ n false ρ b k) (k x)
    | .or a b => vc Γ n false ρ a fun x => truD x fun d => brD (asB d) (k x) (vc Γ n false ρ b k)
    | .ite c a b => vc Γ n true ρ c fun d => brD (asB d) (vc Γ n false ρ a k) (vc Γ n false ρ b k)
    | .cmp op a b => vc Γ n false ρ a fun x => vc Γ n false ρ b fun y => cmpD op x y k
    | .chain p q a b c => vc Γ n false ρ a fun x => vc Γ n false ρ b fun y => cmpD p x y fun r => truD r fun d => brD (asB d) (vc Γ n false ρ c fun z => cmpD q y z k) (k r)
    | .call f as => vcL (vc Γ n false ρ) as fun ds => Γ f ds k
    | .abs a => vc Γ n false ρ a fun x => absD x k
    | .mn a b => vc Γ n false ρ a fun x => vc Γ n false ρ b fun y => mnD x y k
    | .mx a b => vc Γ n false ρ a fun x => vc Γ n false ρ b fun y => mxD x y k
    | .dm a b => vc Γ n false ρ a fun x => vc Γ n false ρ b fun y => dmD x y k
    | .len a => vc Γ n false ρ a fun x => lenD x k
    | .bits a => vc Γ n false ρ a fun x => bitsD x k
    | .tup es => es.length ≤ 1000 ∧ vcL (vc Γ n false ρ) es fun ds => k (.tuple ds)
    | .lst es => es.length ≤ 1000 ∧ vcL (vc Γ n false ρ) es fun ds => k (.list ds)
    | .idx a i => vc Γ n false ρ a fun x => vc Γ n false ρ i fun y => idxD x y k
    | .tab _ i kvs => vc Γ n false ρ i fun y => tabD kvs y k
    | .tail a => vc Γ n false ρ a fun x => tailD x k
    | .comp f a => vc Γ n false ρ a fun x => compD (Γ f) x k

def unpD (is : List Nat) (d : PyData) (ρ : Rho) (k : Rho → Prop) : Prop := match d with
  | .tuple ds => is.length = ds.length ∧ k (bindT is ds ρ)
  | .list ds => is.length = ds.length ∧ k (bindT is ds ρ)
  | _ => False
def loopD (body : Rho → (Rho → Prop) → Prop) (i : Nat) : List PyData → Rho → (Rho → Prop) → Prop
  | [], ρ, k => k ρ
  | d :: ds, ρ, k => body ((i, d) :: ρ) fun ρ' => loopD body i ds ρ' k
def forD (body : Rho → (Rho → Prop) → Prop) (i : Nat) (d : PyData) (ρ : Rho) (k : Rho → Prop) : Prop := match d with
  | .list ds => ds.length ≤ 1000 ∧ loopD body i ds ρ k
  | _ => False

/-- what statements ask: `r` of what is returned, `nx` behind their end -/
def vcS (Γ : Gam) : Nat → Rho → List CS → (PyData → Prop) → (Rho → Prop) → Prop
  | 0, _, _, _, _ => False
  | n + 1, ρ, l, r, nx => match l with
    | [] => nx ρ
    | s :: rest => match s with
      | .asg i e => vc Γ n false ρ e fun d => vcS Γ n ((i, d) :: ρ) rest r nx
      | .asgT is e => vc Γ n false ρ e fun d => unpD is d ρ fun ρ' => vcS Γ n ρ' rest r nx
      | .asg2 i j e => vc Γ n false ρ e fun d => vcS Γ n ((j, d) :: (i, d) :: ρ) rest r nx
      | .aug i op e => atD (getV ρ i) fun x => vc Γ n false ρ e fun y => augD op x y fun d => vcS Γ n ((i, d) :: ρ) rest r nx
      | .ite c a b => vc Γ n true ρ c fun d => brD (asB d) (vcS Γ n ρ a r fun ρ' => vcS Γ n ρ' rest r nx) (vcS Γ n ρ b r fun ρ' => vcS Γ n ρ' rest r nx)
      | .ret e => vc Γ n false ρ e r
      | .asrt c => vc Γ n true ρ c fun d => asB d = true ∧ vcS Γ n ρ rest r nx
      | .stop => False
      | .loop i e body => vc Γ n false ρ e fun d => forD (fun ρ' k => vcS Γ n ρ' body r k) i d ρ fun ρ' => vcS Γ n ρ' rest r nx

/-- a call of the def at `f` on `ds` gives a value of which `k` holds: in every state, `n` calls deep at most -/
def CallOK (prog : Program) (w : World) (K : Frag) (n : Nat) : Gam := fun f ds k =>
  ∀ (A : Around) (s : Shared) (vs : List Value) (Q E : Value → Shared → Prop), A.handled = none → A.depth + n < recursionLimit → A.units + 8 * n + 200 < cLine → HK K s.heap → RepAll s.heap vs ds →
    (∀ d v h' tk', k d → Ext s.heap h' → Rep h' v d → Q v { s with heap := h', toks := tk' }) → wpAny (model prog w) A (call (.ref f) vs) Q E s
theorem CallOK.mono {prog : Program} {w : World} {K : Frag} {n : Nat} {f : Addr} {ds : List PyData} {k k' : PyData → Prop} (x : CallOK prog w K n f ds k) (h : ∀ d, k d → k' d) : CallOK prog w K n f ds k' :=
  fun A s vs Q E h1 h2 h3 h4 h5 h6 => x A s vs Q E h1 h2 h3 h4 h5 fun d v h' tk' hk => h6 d v h' tk' (h d hk)
theorem CallOK.up {prog : Program} {w : World} {K : Frag} {n m : Nat} {f : Addr} {ds : List PyData} {k : PyData → Prop} (x : CallOK prog w K n f ds k) (h : n ≤ m) : CallOK prog w K m f ds k :=
  fun A s vs Q E h1 h2 h3 h4 h5 h6 => x A s vs Q E h1 (by omega) (by omega) h4 h5 h6

def Loc (vs : List Str) (m : Str → Option Value) (ρ : Rho) (h : Heap) : Prop := ∀ x i d, idxOf vs x = some i → getV ρ i = some d → ∃ v, m x = some v ∧ Rep h v d
theorem Loc.mono {vs : List Str} {m : Str → Option Value} {ρ : Rho} {h h' : Heap} (l : Loc vs m ρ h) (k : Seqs h h') : Loc vs m ρ h' := fun x i d a b => let ⟨v, e, r⟩ := l x i d a b; ⟨v, e, r.mono k⟩
theorem idxOf_at : ∀ {vs : List Str} {x : Str} {i : Nat}, idxOf vs x = some i → vs[i]? = some x
  | y :: r, x, i, h => by
    rw [idxOf] at h
    split at h
    · rename_i e; cases h; rw [e]; rfl
    · simp only [Option.map_eq_some_iff] at h
      obtain ⟨j, hj, rfl⟩ := h
      rw [List.getElem?_cons_succ]; exact idxOf_at hj
theorem Loc.set {vs : List Str} {m : Str → Option Value} {ρ : Rho} {h : Heap} {x : Str} {i : Nat} {v : Value} {d : PyData} (l : Loc vs m ρ h) (hx : idxOf vs x = some i) (r : Rep h v d) :
    Loc vs (fun y => if y = x then some v else m y) ((i, d) :: ρ) h := by
  intro y j e hy hj
  rw [getV] at hj
  split at hj
  · rename_i q
    subst q
    cases hj
    have h1 := idxOf_at hx
    rw [idxOf_at hy] at h1
    cases h1
    exact ⟨v, by simp, r⟩
  · rename_i q
    obtain ⟨u, h1, h2⟩ := l y j e hy hj
    refine ⟨u, ?_, h2⟩
    have : y ≠ x := fun z => by subst z; rw [hx] at hy; cases hy; exact q rfl
    simp [this, h1]
end Mine
/-! part A4 -/
namespace Mine
open PySem PySem.W PyProof.Rows PySem.Calls
set_option maxRecDepth 100000
structure Cx (A : Around) (env : Env) (N : Nat) : Prop where
  h : A.handled = none
  d : A.depth + N < recursionLimit
  u : A.units + 8 * N + 200 < cLine
  g : env.globals = mainGlobals
  b : env.builtins = builtinsNs
  k : env.scope.kind = .function
  c : env.cells = []

section
variable {prog : Program} {w : World} {A : Around} {E : Value → Shared → Prop} {s : Shared} {k : PyData → Prop} {Q : Value → Shared → Prop}

/-- what is done with a value that is made from `s` on -/
abbrev Goes (s : Shared) (k : PyData → Prop) (Q : Value → Shared → Prop) : Prop :=
  ∀ d v h' tk', k d → Ext s.heap h' → Rep h' v d → Q v { s with heap := h', toks := tk' }

theorem goes_int (hq : Goes s k Q) {i : Int} (hk : k (.int i)) (t : Tok) (tk : Nat) : Q (.int i t) { s with toks := tk } := hq _ _ s.heap tk hk (Ext.refl _) (.int i t)
theorem goes_bool (hq : Goes s k Q) {b : Bool} (hk : k (.bool b)) : Q (.bool b) s := hq _ _ s.heap s.toks hk (Ext.refl _) (.bool b)

theorem op_sound {op : Operator} {a b : PyData} {x y : Value} (h : opD op a b k) (ra : Rep s.heap x a) (rb : Rep s.heap y b) (hq : Goes s k Q) : wpAny (model prog w) A (binaryOp op x y) Q E s := by
  unfold opD at h
  split at h
  · cases ra; cases rb; exact add_int (goes_int hq h _ _)
  · cases ra; cases rb; exact sub_int (goes_int hq h _ _)
  · cases ra; cases rb; exact mul_int (goes_int hq h.2 _ _) h.1
  · cases ra; cases rb; exact floordiv_int h.1 (goes_int hq h.2.2 _ _) (.inl (PyProof.noPylong_of_log2 h.2.1))
  · cases ra; cases rb; exact mod_int h.1 (goes_int hq h.2 _ _)
  · cases ra; cases rb; exact pow_int h.1 h.2.1 (goes_int hq h.2.2 _ _)
  · cases ra; cases rb; exact lshift_int h.1 h.2.1 (goes_int hq h.2.2 _ _)
  · cases ra; cases rb; exact rshift_int h.1 (goes_int hq h.2 _ _)
  · cases ra; cases rb; exact and_int (goes_int hq h _ _)
  · cases ra; cases rb; exact xor_int (goes_int hq h _ _)
  · rename_i xs ys
    obtain ⟨hx, hy, hl, hk⟩ := h
    cases ra with
    | tup h1 h2 h3 q1 => cases rb with
      | tup g1 g2 g3 q2 =>
        rename_i t o vs n b o2 vs2 n2
        obtain ⟨cls, dd, data, sl⟩ := o
        obtain ⟨cls2, dd2, data2, sl2⟩ := o2
        simp only at h2 h3 g2 g3
        subst h2 h3 g2 g3
        have l1 := q1.length
        have l2 := q2.length
        refine concat_meets ⟨_, h1, rfl⟩ ⟨_, g1, rfl⟩ noFill_tuple_add seq_tuple_add PySem.F.slot_tuple_add PySem.F.entry_tuple_add (PySem.F.args_tuple_add_2 _ _)
          (tuple_addW2 t b vs vs2 n n2 dd dd2 sl sl2 ?_ ?_ ?_) ⟨h1, g1, ?_⟩
        · intro e; apply hx; apply List.eq_nil_of_length_eq_zero; rw [← l1]; simp [Array.length_toList] at e ⊢; simpa using e
        · intro e; apply hy; apply List.eq_nil_of_length_eq_zero; rw [← l2]; simp [Array.length_toList] at e ⊢; simpa using e
        · rw [sizeLine_eq]; rw [Array.length_toList] at l1 l2; omega
        · have e : vs ++ vs2 = (vs.toList ++ vs2.toList).toArray := by simp
          rw [e]
          exact hq _ _ _ _ hk (Ext.push _ _) (Rep.newTup (q1.append q2))
  · exact h.elim

theorem aug_sound {op : Operator} {a b : PyData} {x y : Value} (h : augD op a b k) (ra : Rep s.heap x a) (rb : Rep s.heap y b) (hq : Goes s k Q) : wpAny (model prog w) A (inplaceOp op x y) Q E s := by
  unfold augD at h
  split at h
  · cases ra; cases rb; exact P.iadd_int (goes_int hq h _ _)
  · cases ra; cases rb; exact P.isub_int (goes_int hq h _ _)
  · cases ra; cases rb; exact ilshift_int h.1 h.2.1 (goes_int hq h.2.2 _ _)
  · cases ra; cases rb; exact irshift_int h.1 (goes_int hq h.2 _ _)
  · cases ra; cases rb; exact ixor_int (goes_int hq h _ _)
  · exact h.elim

theorem cmp_sound {op : CmpOp} {a b : PyData} {x y : Value} (hu : A.units + 200 < cLine) (h : cmpD op a b k) (ra : Rep s.heap x a) (rb : Rep s.heap y b) (hq : Goes s k Q) : wpAny (model prog w) A (compareOp op x y) Q E s := by
  have hu' : A.units + 64 < cLine := by omega
  obtain ⟨as, ra'⟩ := ra.reads
  obtain ⟨bs, rb'⟩ := rb.reads
  unfold cmpD at h
  split at h
  · cases ra; cases rb; exact eq_int (goes_bool hq h)
  · cases ra; cases rb; exact P.ne_int (goes_bool hq h)
  · cases ra; cases rb; exact lt_int (goes_bool hq h)
  · cases ra; cases rb; exact le_int (goes_bool hq h)
  · cases ra; cases rb; exact gt_int (goes_bool hq h)
  · cases ra; cases rb; exact ge_int (goes_bool hq h)
  · exact eq_dataH ra' rb' h.1 h.2.1 hu' (goes_bool hq h.2.2)
  · exact ne_dataH ra' rb' h.1 h.2.1 hu' (goes_bool hq h.2.2)
  · rename_i ys
    obtain ⟨h1, h2, h3⟩ := h
    simp only [SeqAt.shaped, Bool.and_eq_true, decide_eq_true_eq, PyData.canLay0] at h1 h2
    refine SeqAt.in_tuple_reads rb' ra' h2.1 h1.1 ?_ (goes_bool hq h3)
    have := Nat.min_le_right (PyData.depthAll ys) (PyData.depth a)
    omega
  · rename_i ys
    obtain ⟨h1, h2, h3⟩ := h
    simp only [SeqAt.shaped, Bool.and_eq_true, decide_eq_true_eq, PyData.canLay0] at h1 h2
    refine SeqAt.in_list_reads rb' ra' h2.1 h1.1 ?_ (goes_bool hq h3)
    have := Nat.min_le_right (PyData.depthAll ys) (PyData.depth a)
    omega
  · exact h.elim

theorem tru_sound {d : PyData} {x : Value} {Q : Bool → Shared → Prop} (h : truD d k) (r : Rep s.heap x d) (hq : ∀ b, k (.bool b) → Q b s) : wpAny (model prog w) A (truthy x) Q E s := by
  unfold truD at h
  split at h
  · cases r; exact truthy_int (hq _ h)
  · cases r; exact wpAny_truthy_bool (hq _ h)
  · exact h.elim
theorem tru_sound2 {d : PyData} {x : Value} {Q : Bool → Shared → Prop} (h : truD d k) (r : Rep s.heap x d) (hq : ∀ b, k (.bool b) → (∀ k', truD d k' → k' (.bool b)) → Q b s) : wpAny (model prog w) A (truthy x) Q E s := by
  unfold truD at h
  split at h
  · cases r; exact truthy_int (hq _ h fun _ x => x)
  · cases r; exact wpAny_truthy_bool (hq _ h fun _ x => x)
  · exact h.elim
theorem neg_sound {d : PyData} {x : Value} (h : negD d k) (r : Rep s.heap x d) (hq : Goes s k Q) : wpAny (model prog w) A (unaryOp .USub x) Q E s := by
  unfold negD at h
  split at h
  · cases r; exact neg_int (goes_int hq h _ _)
  · exact h.elim
theorem abs_sound {d : PyData} {x : Value} (h : absD d k) (r : Rep s.heap x d) (hq : Goes s k Q) : wpAny (model prog w) A (call (.builtin "abs") [x]) Q E s := by
  unfold absD at h
  split at h
  · cases r; exact call_abs_int fun _ _ => goes_int hq h _ _
  · exact h.elim
theorem mn_sound {a b : PyData} {x y : Value} (hA : A.handled = none) (h : mnD a b k) (ra : Rep s.heap x a) (rb : Rep s.heap y b) (hq : Goes s k Q) : wpAny (model prog w) A (call (.builtin "min") [x, y]) Q E s := by
  unfold mnD at h
  split at h
  · cases ra; cases rb
    refine min_two_ints hA fun h' tk e => ?_
    split at h
    · rename_i c; rw [if_pos c]; exact hq _ _ h' tk h e (.int _ _)
    · rename_i c; rw [if_neg c]; exact hq _ _ h' tk h e (.int _ _)
  · exact h.elim
theorem mx_sound {a b : PyData} {x y : Value} (hA : A.handled = none) (h : mxD a b k) (ra : Rep s.heap x a) (rb : Rep s.heap y b) (hq : Goes s k Q) : wpAny (model prog w) A (call (.builtin "max") [x, y]) Q E s := by
  unfold mxD at h
  split at h
  · cases ra; cases rb
    refine max_two_ints hA fun h' tk e => ?_
    split at h
    · rename_i c; rw [if_pos c]; exact hq _ _ h' tk h e (.int _ _)
    · rename_i c; rw [if_neg c]; exact hq _ _ h' tk h e (.int _ _)
  · exact h.elim
theorem dm_sound {a b : PyData} {x y : Value} (h : dmD a b k) (ra : Rep s.heap x a) (rb : Rep s.heap y b) (hq : Goes s k Q) : wpAny (model prog w) A (call (.builtin "divmod") [x, y]) Q E s := by
  unfold dmD at h
  split at h
  · cases ra; cases rb
    refine divmod_int h.1 ?_ (.inl (PyProof.noPylong_of_log2 h.2.1))
    exact hq _ _ _ _ h.2.2 (Ext.push _ _) (Rep.newTup (vs := [_, _]) (.cons (.int _ _) (.cons (.int _ _) .nil)))
  · exact h.elim
theorem len_sound {a : PyData} {x : Value} (h : lenD a k) (ra : Rep s.heap x a) (hq : Goes s k Q) : wpAny (model prog w) A (call (.builtin "len") [x]) Q E s := by
  unfold lenD at h
  split at h
  · cases ra with
    | lst h1 h2 h3 q =>
      have l := q.length
      rw [Array.length_toList] at l
      refine call_len_list ⟨_, h1, h2, _, h3⟩ (by rw [l]; omega) ?_
      rw [l]
      exact goes_int hq h.2 _ _
  · exact h.elim
theorem bits_sound {a : PyData} {x : Value} (h : bitsD a k) (ra : Rep s.heap x a) (hq : Goes s k Q) : ∃ i t, x = .int i t ∧ wpAny (model prog w) A (call (.builtin "int.bit_length") [x]) Q E s := by
  unfold bitsD at h
  split at h
  · cases ra; exact ⟨_, _, rfl, call_int_bit_length (goes_int hq h _ _)⟩
  · exact h.elim
theorem idx_sound {a i : PyData} {x y : Value} {value slice : PySem.Expr} (hs : ∀ o i : Value, subscripted slice false o i = operate [o, i] (getItem o i)) (h : idxD a i k) (ra : Rep s.heap x a) (rb : Rep s.heap y i) (hq : Goes s k Q) : wpAny (model prog w) A (subscriptTail value slice x y) Q E s := by
  unfold idxD at h
  split at h
  · rename_i ds i
    cases rb
    cases ra with
    | tup h1 h2 h3 q =>
      obtain ⟨⟨hi, hj⟩, h⟩ := h
      cases e : ds[i.toNat]? with
      | none => rw [e] at h; exact h.elim
      | some d =>
        rw [e] at h
        obtain ⟨v, hv, r⟩ := q.get e
        have hlt := (List.getElem?_eq_some_iff.mp hv).1
        have l := q.length
        refine tail_any (IsTup.typeIs ⟨_, h1, h2, _, h3⟩) slot_tuple_getitem.lookup (getItem_tuple ⟨_, h1, h2, _, h3⟩ (by omega) (by omega) (j := i.toNat) (x := v) ?_ ?_ ?_) (hs _ _)
        · unfold seqIndex?
          rw [Array.length_toList] at hlt
          simp only [show ¬ i < 0 by omega, if_false]
          rw [if_pos (by simp; omega)]
        · rw [← Array.getElem?_toList]; exact hv
        · exact hq _ _ s.heap s.toks h (Ext.refl _) r
  · rename_i ds i
    cases rb
    cases ra with
    | lst h1 h2 h3 q =>
      obtain ⟨⟨hi, hj⟩, h⟩ := h
      cases e : ds[i.toNat]? with
      | none => rw [e] at h; exact h.elim
      | some d =>
        rw [e] at h
        obtain ⟨v, hv, r⟩ := q.get e
        refine tail_any (Heap.IsList.typeIs ⟨_, h1, h2, _, h3⟩) slot_list_getitem.lookup (wpAny_getItem_list ⟨_, h1, h2, _, h3⟩ hi (by omega) (x := v) ?_ ?_) (hs _ _)
        · rw [← Array.getElem?_toList]; exact hv
        · exact hq _ _ s.heap s.toks h (Ext.refl _) r
  · exact h.elim
end
end Mine
/-! part A5 -/
namespace Mine
open PySem PySem.W PyProof.Rows PySem.Calls
set_option maxRecDepth 100000
section
variable (prog : Program) (w : World) (K : Frag) (A : Around) (env : Env) (vs : List Str) (N : Nat)

def EvV (e : Expr) (c : CE) : Prop := ∀ f ρ k, vc (CallOK prog w K N) f false ρ c k → ∀ s m Q E, s.heap.Ns env.locals m → Loc vs m ρ s.heap → HK K s.heap → Goes s k Q → wpAny (model prog w) A (eval e env) Q E s
def EvT (e : Expr) (c : CE) : Prop := ∀ f ρ k, vc (CallOK prog w K N) f true ρ c k → ∀ s m (Q : Bool → Shared → Prop) E, s.heap.Ns env.locals m → Loc vs m ρ s.heap → HK K s.heap →
  (∀ b h' tk', k (.bool b) → Ext s.heap h' → Q b { s with heap := h', toks := tk' }) → wpAny (model prog w) A (isTrue e env (eval e env)) Q E s
def EvL (es : List Expr) (cs : List CE) : Prop := ∀ f ρ k, vcL (vc (CallOK prog w K N) f false ρ) cs k → ∀ pos s m (Q : List Value → Shared → Prop) E, s.heap.Ns env.locals m → Loc vs m ρ s.heap → HK K s.heap →
  (∀ ds us h' tk', k ds → ds.length = cs.length → Ext s.heap h' → RepAll h' us ds → Q us { s with heap := h', toks := tk' }) → wpAny (model prog w) A (spliced (backTo pos (starEach es env))) Q E s
end

section
variable {prog : Program} {w : World} {K : Frag} {A : Around} {env : Env} {vs : List Str} {N : Nat}

/-- two steps one behind the other -/
theorem goes_next {s : Shared} {k : PyData → Prop} {Q : Value → Shared → Prop} {h : Heap} {tk : Nat} (hq : Goes s k Q) (e : Ext s.heap h) : Goes { s with heap := h, toks := tk } k Q :=
  fun d v h' tk' hk e' r => hq d v h' tk' hk (e.trans e') r

theorem ev_int {i : Int} {u : Nat} {pos : Pos} : EvV prog w K A env vs N (.Constant (.int i) u pos) (.lit (.int i)) := by
  intro f ρ k h s m Q E _ _ _ hq
  cases f with
  | zero => exact h.elim
  | succ f => exact fun _ _ _ => goes_int hq h s.toks (s.toks + 1)
theorem ev_str {x : Str} {u : Nat} {pos : Pos} : EvV prog w K A env vs N (.Constant (.str x) u pos) (.lit (.str x)) := by
  intro f ρ k h s m Q E _ _ _ hq
  cases f with
  | zero => exact h.elim
  | succ f => exact Constant_str (hq _ _ s.heap _ h (Ext.refl _) (.str _ _))
theorem ev_bool {x : Bool} {u : Nat} {pos : Pos} : EvV prog w K A env vs N (.Constant (.bool x) u pos) (.lit (.bool x)) := by
  intro f ρ k h s m Q E _ _ _ hq
  cases f with
  | zero => exact h.elim
  | succ f => exact Constant_bool (goes_bool hq h)
theorem ev_var {x : Str} {i : Nat} {pos : Pos} (C : Cx A env N) (hx : env.kindOf x = some .local) (hi : idxOf vs x = some i) (hd : x ≠ ("__debug__" : Str)) : EvV prog w K A env vs N (.Name x pos) (.var i) := by
  intro f ρ k h s m Q E hn hl _ hq
  cases f with
  | zero => exact h.elim
  | succ f =>
    have h' : atD (getV ρ i) k := h
    cases e : getV ρ i with
    | none => rw [e] at h'; exact h'.elim
    | some d =>
      rw [e] at h'
      obtain ⟨v, hv, r⟩ := hl x i d hi e
      exact wpAny_Name (wpAny_loadName_local C.k hx hn hv (hq d v s.heap s.toks h' (Ext.refl _) r)) (beq_eq_false_iff_ne.mpr hd)
theorem ev_globV {x : Str} {v : Value} {pos : Pos} {s : Shared} {Q : Value → Shared → Prop} {E : Value → Shared → Prop} (C : Cx A env N) (hx : env.kindOf x = some .globalImplicit) (hd : x ≠ ("__debug__" : Str)) (hv : nsIn K mainGlobals x = some (some v)) (H : HK K s.heap)
    (h : Q v s) : wpAny (model prog w) A (eval (.Name x pos) env) Q E s := by
  obtain ⟨mg, mb, g, b, _⟩ := H.g
  exact Name_function_global C.k hx (loadGlobal_global (env := env) (by rw [C.g]; exact g) (mg_of H.k g hv) h) (beq_eq_false_iff_ne.mpr hd)
theorem ev_builtinV {x : Str} {v : Value} {pos : Pos} {s : Shared} {Q : Value → Shared → Prop} {E : Value → Shared → Prop} (C : Cx A env N) (hx : env.kindOf x = some .globalImplicit) (hd : x ≠ ("__debug__" : Str)) (hv : nsIn K mainGlobals x = some none) (hb : bootBuiltins x = some v) (hn : x ≠ ("__name__" : Str)) (H : HK K s.heap)
    (h : Q v s) : wpAny (model prog w) A (eval (.Name x pos) env) Q E s := by
  obtain ⟨mg, mb, g, b, c⟩ := H.g
  exact Name_function_global C.k hx (loadGlobal_builtin (env := env) (by rw [C.g]; exact g) (mg_none_of H.k g hv) (by rw [C.b]; exact b) ((c x hn).trans hb) h) (beq_eq_false_iff_ne.mpr hd)
theorem ev_glob {x : Str} {v : Value} {d : PyData} {pos : Pos} (C : Cx A env N) (hx : env.kindOf x = some .globalImplicit) (hd : x ≠ ("__debug__" : Str)) (hv : nsIn K mainGlobals x = some (some v)) (hk : kD K 4 v = some d) : EvV prog w K A env vs N (.Name x pos) (.lit d) := by
  intro f ρ k h s m Q E hn hl H hq
  cases f with
  | zero => exact h.elim
  | succ f => exact ev_globV C hx hd hv H (hq d v s.heap s.toks h (Ext.refl _) (kD_rep H.k 4 hk))

theorem ev_bin {op : Operator} {l r : Expr} {a b : CE} {pos : Pos} (ha : EvV prog w K A env vs N l a) (hb : EvV prog w K A env vs N r b) : EvV prog w K A env vs N (.BinOp l op r pos) (.bin op a b) := by
  intro f ρ k h s m Q E hn hl H hq
  cases f with
  | zero => exact h.elim
  | succ f =>
    rw [arm_eval_BinOp]
    refine wpAny_bind (ha f ρ _ h s m _ E hn hl H fun x v h1 t1 hx e1 r1 => ?_)
    refine wpAny_bind (wpAny_holding (hb f ρ _ hx _ m _ E (hn.keeps e1) (hl.mono e1.seqs) (H.keeps e1) fun y u h2 t2 hy e2 r2 => ?_))
    exact wpAny_bind (wpAny_standAt (wpAny_operate' (op_sound hy (r1.mono e2.seqs) r2 (goes_next (goes_next hq e1) e2))))
theorem ev_neg {x : Expr} {a : CE} {pos : Pos} (ha : EvV prog w K A env vs N x a) : EvV prog w K A env vs N (.UnaryOp .USub x pos) (.neg a) := by
  intro f ρ k h s m Q E hn hl H hq
  cases f with
  | zero => exact h.elim
  | succ f => exact UnaryOp_ (ha f ρ _ h s m _ E hn hl H fun x v h1 t1 hx e1 r1 => neg_sound hx r1 (goes_next hq e1))
theorem ev_not {x : Expr} {a : CE} {pos : Pos} (ha : EvV prog w K A env vs N x a) : EvV prog w K A env vs N (.UnaryOp .Not x pos) (.not a) := by
  intro f ρ k h s m Q E hn hl H hq
  cases f with
  | zero => exact h.elim
  | succ f => exact UnaryOp_ (ha f ρ _ h s m _ E hn hl H fun x v h1 t1 hx e1 r1 => not_of (tru_sound hx r1 fun b hb => goes_bool (goes_next hq e1) hb))
theorem et_not {x : Expr} {a : CE} {pos : Pos} (ha : EvT prog w K A env vs N x a) : EvT prog w K A env vs N (.UnaryOp .Not x pos) (.not a) := by
  intro f ρ k h s m Q E hn hl H hq
  cases f with
  | zero => exact h.elim
  | succ f => exact isTrue_not (ha f ρ _ h s m _ E hn hl H fun b h1 t1 hb e1 => hq _ _ _ hb e1)
theorem ev_ite {c x y : Expr} {t a b : CE} {pos : Pos} (hc : EvT prog w K A env vs N c t) (ha : EvV prog w K A env vs N x a) (hb : EvV prog w K A env vs N y b) : EvV prog w K A env vs N (.IfExp c x y pos) (.ite t a b) := by
  intro f ρ k h s m Q E hn hl H hq
  cases f with
  | zero => exact h.elim
  | succ f =>
    refine IfExp_ (hc f ρ _ h s m _ E hn hl H fun v h1 t1 hv e1 => ?_)
    simp only [asB] at hv
    cases v with
    | true => simp only [brD_t] at hv; simp only [if_true]; exact ha f ρ k hv _ m Q E (hn.keeps e1) (hl.mono e1.seqs) (H.keeps e1) (goes_next hq e1)
    | false => simp only [brD_f] at hv; simp only [Bool.false_eq_true, if_false]; exact hb f ρ k hv _ m Q E (hn.keeps e1) (hl.mono e1.seqs) (H.keeps e1) (goes_next hq e1)
theorem et_ite {c x y : Expr} {t a b : CE} {pos : Pos} (hc : EvT prog w K A env vs N c t) (ha : EvT prog w K A env vs N x a) (hb : EvT prog w K A env vs N y b) : EvT prog w K A env vs N (.IfExp c x y pos) (.ite t a b) := by
  intro f ρ k h s m Q E hn hl H hq
  cases f with
  | zero => exact h.elim
  | succ f =>
    refine isTrue_IfExp (hc f ρ _ h s m _ E hn hl H fun v h1 t1 hv e1 => ?_)
    simp only [asB] at hv
    cases v with
    | true => simp only [brD_t] at hv; simp only [if_true]; exact ha f ρ k hv _ m Q E (hn.keeps e1) (hl.mono e1.seqs) (H.keeps e1) fun b h2 t2 hb e2 => hq b h2 t2 hb (e1.trans e2)
    | false => simp only [brD_f] at hv; simp only [Bool.false_eq_true, if_false]; exact hb f ρ k hv _ m Q E (hn.keeps e1) (hl.mono e1.seqs) (H.keeps e1) fun b h2 t2 hb e2 => hq b h2 t2 hb (e1.trans e2)

theorem ev_andor {op : BoolOp} {pos : Pos} : ∀ {es : List Expr} {cs : List CE} {c : CE}, All2 (EvV prog w K A env vs N) es cs → foldBool op cs = some c → EvV prog w K A env vs N (.BoolOp op es pos) c
  | _, _, _, .nil, hf => by simp [foldBool] at hf
  | _, _, _, .cons h1 .nil, hf => by
    simp [foldBool] at hf; subst hf
    intro f ρ k h s m Q E hn hl H hq
    exact BoolOp_one (h1 f ρ k h s m Q E hn hl H hq)
  | _, _, _, .cons (a := e1) (b := c1) (l := e2 :: es) (r := c2 :: cs) h1 (.cons h2 hr), hf => by
    rw [foldBool] at hf
    · simp only [Option.map_eq_some_iff] at hf
      obtain ⟨c', hc', hf⟩ := hf
      have ih := ev_andor (op := op) (pos := pos) (All2.cons h2 hr) hc'
      cases op with
      | And =>
        simp only at hf; subst hf
        intro f ρ k h s m Q E hn hl H hq
        cases f with
        | zero => exact h.elim
        | succ f =>
          refine BoolOp_and (h1 f ρ _ h s m _ E hn hl H fun x v h1 t1 hx e1 r1 => ?_)
          refine tru_sound hx r1 fun b hb => ?_
          simp only [asB] at hb
          cases b with
          | true => simp only [brD_t] at hb; simp only [if_true]; exact ih f ρ k hb _ m Q E (hn.keeps e1) (hl.mono e1.seqs) (H.keeps e1) (goes_next hq e1)
          | false => simp only [brD_f] at hb; simp only [Bool.false_eq_true, if_false]; exact hq x v h1 t1 hb e1 r1
      | Or =>
        simp only at hf; subst hf
        intro f ρ k h s m Q E hn hl H hq
        cases f with
        | zero => exact h.elim
        | succ f =>
          refine BoolOp_or (h1 f ρ _ h s m _ E hn hl H fun x v h1 t1 hx e1 r1 => ?_)
          refine tru_sound hx r1 fun b hb => ?_
          simp only [asB] at hb
          cases b with
          | false => simp only [brD_f] at hb; simp only [Bool.false_eq_true, if_false]; exact ih f ρ k hb _ m Q E (hn.keeps e1) (hl.mono e1.seqs) (H.keeps e1) (goes_next hq e1)
          | true => simp only [brD_t] at hb; simp only [if_true]; exact hq x v h1 t1 hb e1 r1
    · simp
theorem et_andor {op : BoolOp} {pos : Pos} : ∀ {es : List Expr} {cs : List CE} {c : CE}, All2 (EvT prog w K A env vs N) es cs → foldBool op cs = some c → EvT prog w K A env vs N (.BoolOp op es pos) c
  | _, _, _, .nil, hf => by simp [foldBool] at hf
  | _, _, _, .cons h1 .nil, hf => by
    simp [foldBool] at hf; subst hf
    intro f ρ k h s m Q E hn hl H hq
    cases op with
    | And =>
      refine isTrue_and (h1 f ρ k h s m _ E hn hl H fun b h1 t1 hb e1 => ?_)
      cases b with
      | true => simp only [if_true]; exact isTrue_and_nil (hq _ _ _ hb e1)
      | false => simp only [Bool.false_eq_true, if_false]; exact hq _ _ _ hb e1
    | Or =>
      refine isTrue_or (h1 f ρ k h s m _ E hn hl H fun b h1 t1 hb e1 => ?_)
      cases b with
      | false => simp only [Bool.false_eq_true, if_false]; exact isTrue_or_nil (hq _ _ _ hb e1)
      | true => simp only [if_true]; exact hq _ _ _ hb e1
  | _, _, _, .cons (a := e1) (b := c1) (l := e2 :: es) (r := c2 :: cs) h1 (.cons h2 hr), hf => by
    rw [foldBool] at hf
    · simp only [Option.map_eq_some_iff] at hf
      obtain ⟨c', hc', hf⟩ := hf
      have ih := et_andor (op := op) (pos := pos) (All2.cons h2 hr) hc'
      cases op with
      | And =>
        simp only at hf; subst hf
        intro f ρ k h s m Q E hn hl H hq
        cases f with
        | zero => exact h.elim
        | succ f =>
          refine isTrue_and (h1 f ρ _ h s m _ E hn hl H fun b h1 t1 hb e1 => ?_)
          simp only [asB] at hb
          cases b with
          | true => simp only [brD_t] at hb; simp only [if_true]; exact ih f ρ k hb _ m Q E (hn.keeps e1) (hl.mono e1.seqs) (H.keeps e1) fun b h2 t2 hb e2 => hq b h2 t2 hb (e1.trans e2)
          | false => simp only [brD_f] at hb; simp only [Bool.false_eq_true, if_false]; exact hq _ _ _ hb e1
      | Or =>
        simp only at hf; subst hf
        intro f ρ k h s m Q E hn hl H hq
        cases f with
        | zero => exact h.elim
        | succ f =>
          refine isTrue_or (h1 f ρ _ h s m _ E hn hl H fun b h1 t1 hb e1 => ?_)
          simp only [asB] at hb
          cases b with
          | false => simp only [brD_f] at hb; simp only [Bool.false_eq_true, if_false]; exact ih f ρ k hb _ m Q E (hn.keeps e1) (hl.mono e1.seqs) (H.keeps e1) fun b h2 t2 hb e2 => hq b h2 t2 hb (e1.trans e2)
          | true => simp only [brD_t] at hb; simp only [if_true]; exact hq _ _ _ hb e1
    · simp

theorem ev_cmp {op : CmpOp} {l r : Expr} {a b : CE} {pos : Pos} (hu : A.units + 200 < cLine) (ha : EvV prog w K A env vs N l a) (hb : EvV prog w K A env vs N r b) (hm : behindInMarks op r = false) : EvV prog w K A env vs N (.Compare l [op] [r] pos) (.cmp op a b) := by
  intro f ρ k h s m Q E hn hl H hq
  cases f with
  | zero => exact h.elim
  | succ f =>
    show wpAny _ A (do compareChain pos (← eval l env) [op] (markedEach [op] [r] [eval r env])) Q E s
    rw [markedEach_of_false _ _ _ (by simpa [lastMarks] using hm)]
    refine wpAny_bind (ha f ρ _ h s m _ E hn hl H fun x v h1 t1 hx e1 r1 => ?_)
    refine chain_last (hb f ρ _ hx _ m _ E (hn.keeps e1) (hl.mono e1.seqs) (H.keeps e1) fun y u h2 t2 hy e2 r2 => ?_)
    exact cmp_sound hu hy (r1.mono e2.seqs) r2 (goes_next (goes_next hq e1) e2)
theorem et_plain {e : Expr} {c : CE} (he : isTrue e env (eval e env) = (do let v ← eval e env; standAt e.pos; holding [v] (truthy v))) (ha : EvV prog w K A env vs N e c)
    (hc : ∀ Γ f ρ k, vc Γ (f + 1) true ρ c k = vc Γ f false ρ c fun d => truD d k) : EvT prog w K A env vs N e c := by
  intro f ρ k h s m Q E hn hl H hq
  cases f with
  | zero => exact h.elim
  | succ f =>
    rw [hc] at h
    exact isTrue_plain (ha f ρ _ h s m _ E hn hl H fun x v h1 t1 hx e1 r1 => tru_sound hx r1 fun b hb => hq b h1 t1 hb e1) he
theorem et_cmp {op : CmpOp} {l r : Expr} {a b : CE} {pos : Pos} (hu : A.units + 200 < cLine) (ha : EvV prog w K A env vs N l a) (hb : EvV prog w K A env vs N r b) (hm : behindInMarks op r = false) : EvT prog w K A env vs N (.Compare l [op] [r] pos) (.cmp op a b) := by
  intro f ρ k h s m Q E hn hl H hq
  cases f with
  | zero => exact h.elim
  | succ f => cases f with
    | zero => exact h.elim
    | succ f =>
      show wpAny _ A (do testChain pos (← eval l env) [op] (markedEach [op] [r] [eval r env])) Q E s
      rw [markedEach_of_false _ _ _ (by simpa [lastMarks] using hm)]
      refine wpAny_bind (ha f ρ _ h s m _ E hn hl H fun x v h1 t1 hx e1 r1 => ?_)
      show wpAny _ A (do let rv ← holding [v] (eval r env); standAt pos; let c ← operate [v, rv] (compareOp op v rv); holding [c] (truthy c)) Q E _
      refine wpAny_bind (wpAny_holding (hb f ρ _ hx _ m _ E (hn.keeps e1) (hl.mono e1.seqs) (H.keeps e1) fun y u h2 t2 hy e2 r2 => ?_))
      refine wpAny_bind (wpAny_standAt (wpAny_bind (wpAny_operate' (cmp_sound hu hy (r1.mono e2.seqs) r2 fun z t h3 t3 hz e3 r3 => ?_))))
      exact wpAny_holding (tru_sound hz r3 fun b hb => hq b h3 t3 hb ((e1.trans e2).trans e3))
theorem ev_chain {p q : CmpOp} {l r t : Expr} {a b c : CE} {pos : Pos} (hu : A.units + 200 < cLine) (ha : EvV prog w K A env vs N l a) (hb : EvV prog w K A env vs N r b) (hc : EvV prog w K A env vs N t c) (hm : behindInMarks q t = false) :
    EvV prog w K A env vs N (.Compare l [p, q] [r, t] pos) (.chain p q a b c) := by
  intro f ρ k h s m Q E hn hl H hq
  cases f with
  | zero => exact h.elim
  | succ f =>
    refine Compare_chain (ha f ρ _ h s m _ E hn hl H fun x v h1 t1 hx e1 r1 => ?_) (by simpa [lastMarks] using hm)
    refine chain_link (hb f ρ _ hx _ m _ E (hn.keeps e1) (hl.mono e1.seqs) (H.keeps e1) fun y u h2 t2 hy e2 r2 => ?_)
    refine cmp_sound hu hy (r1.mono e2.seqs) r2 fun z vz h3 t3 hz e3 r3 => ?_
    have e12 := e1.trans e2
    have e13 := e12.trans e3
    refine tru_sound hz r3 fun d hd => ?_
    simp only [asB] at hd
    cases d with
    | true =>
      simp only [brD_t] at hd; simp only [if_true]
      refine chain_last (hc f ρ _ hd _ m _ E (hn.keeps e13) (hl.mono e13.seqs) (H.keeps e13) fun o vo h4 t4 ho e4 r4 => ?_)
      exact cmp_sound hu ho ((r2.mono e3.seqs).mono e4.seqs) r4 (goes_next (goes_next hq e13) e4)
    | false => simp only [brD_f] at hd; simp only [Bool.false_eq_true, if_false]; exact hq z vz h3 t3 hd e13 r3
theorem et_chain {p q : CmpOp} {l r t : Expr} {a b c : CE} {pos : Pos} (hu : A.units + 200 < cLine) (ha : EvV prog w K A env vs N l a) (hb : EvV prog w K A env vs N r b) (hc : EvV prog w K A env vs N t c) (hm : behindInMarks q t = false) :
    EvT prog w K A env vs N (.Compare l [p, q] [r, t] pos) (.chain p q a b c) := by
  intro f ρ k h s m Q E hn hl H hq
  cases f with
  | zero => exact h.elim
  | succ f => cases f with
    | zero => exact h.elim
    | succ f =>
      refine isTrue_chain (ha f ρ _ h s m _ E hn hl H fun x v h1 t1 hx e1 r1 => ?_) (by simpa [lastMarks] using hm)
      show wpAny _ A (do
        let rv ← holding [v] (eval r env)
        standAt pos
        let c ← holding [v, rv] (compareOp p v rv)
        release [v, rv] [c]
        if ← holding [c, rv] (truthy c) then testChain pos rv [q] [eval t env] else pure false) Q E _
      refine wpAny_bind (wpAny_holding (hb f ρ _ hx _ m _ E (hn.keeps e1) (hl.mono e1.seqs) (H.keeps e1) fun y u h2 t2 hy e2 r2 => ?_))
      refine wpAny_bind (wpAny_standAt (wpAny_bind (wpAny_holding (cmp_sound hu hy (r1.mono e2.seqs) r2 fun z vz h3 t3 hz e3 r3 => ?_))))
      refine wpAny_bind (wpAny_release' ?_)
      have e12 := e1.trans e2
      have e13 := e12.trans e3
      refine wpAny_bind (wpAny_holding (tru_sound2 hz r3 fun d hd hk => ?_))
      simp only [asB] at hd
      cases d with
      | true =>
        simp only [brD_t] at hd; simp only [if_true]
        show wpAny _ A (do let rv ← holding [u] (eval t env); standAt pos; let c ← operate [u, rv] (compareOp q u rv); holding [c] (truthy c)) Q E _
        refine wpAny_bind (wpAny_holding (hc f ρ _ hd _ m _ E (hn.keeps e13) (hl.mono e13.seqs) (H.keeps e13) fun o vo h4 t4 ho e4 r4 => ?_))
        refine wpAny_bind (wpAny_standAt (wpAny_bind (wpAny_operate' (cmp_sound hu ho ((r2.mono e3.seqs).mono e4.seqs) r4 fun z2 vz2 h5 t5 hz2 e5 r5 => ?_))))
        exact wpAny_holding (tru_sound hz2 r5 fun b hb => hq b h5 t5 hb ((e13.trans e4).trans e5))
      | false =>
        simp only [brD_f] at hd; simp only [Bool.false_eq_true, if_false]
        exact wpAny_pure (hq _ _ _ (hk _ hd) e13)
end
end Mine
/-! part A6 -/
namespace Mine
open PySem PySem.W PyProof.Rows PySem.Calls
set_option maxRecDepth 100000
section
variable {prog : Program} {w : World} {K : Frag} {A : Around} {env : Env} {vs : List Str} {N : Nat}

theorem evl {es : List Expr} {cs : List CE} (h : All2 (EvV prog w K A env vs N) es cs) (hs : ∀ e ∈ es, ∀ r, starEach (e :: r) env = (false, eval e env) :: starEach r env) : EvL prog w K A env vs N es cs := by
  intro f ρ
  induction h with
  | nil => exact fun k h pos s m Q E _ _ _ hq => spliced_none (hq [] [] s.heap s.toks h rfl (Ext.refl _) .nil)
  | @cons e c es cs h1 hr ih =>
    intro k h pos s m Q E hn hl H hq
    refine spliced_more (h1 f ρ _ h s m _ E hn hl H fun d v h1 t1 hd e1 r1 => ?_) (hs e (.head _) es)
    exact ih (fun e' he' => hs e' (.tail _ he')) _ hd pos _ m _ E (hn.keeps e1) (hl.mono e1.seqs) (H.keeps e1) fun ds us h2 t2 hds hlen e2 r2 => hq (d :: ds) (v :: us) h2 t2 hds (by simp [hlen]) (e1.trans e2) (.cons (r1.mono e2.seqs) r2)

theorem isFun_at {a : Addr} (h : isFun K a = true) : ∃ o fd, K.lookup a = some o ∧ o.data = .func fd := by
  unfold isFun at h
  split at h
  · rename_i q; exact ⟨_, _, q, rfl⟩
  · cases h

theorem ev_call {x : Str} {a : Addr} {e : Expr} {es : List Expr} {cs : List CE} (C : Cx A env N) (hx : env.kindOf x = some .globalImplicit) (hd : x ≠ ("__debug__" : Str)) (hv : nsIn K mainGlobals x = some (some (.ref a))) (hf : isFun K a = true)
    (h : All2 (EvV prog w K A env vs N) (e :: es) cs) (hs : ∀ e' ∈ e :: es, ∀ r, starEach (e' :: r) env = (false, eval e' env) :: starEach r env) : ∀ fp pos : Pos, EvV prog w K A env vs N (.Call (.Name x fp) (e :: es) [] pos) (.call a cs) := by
  intro fp pos f ρ k h' s m Q E hn hl H hq
  cases f with
  | zero => exact h'.elim
  | succ f =>
    obtain ⟨o, fd, ho, hdat⟩ := isFun_at hf
    refine Call_ (ev_globV C hx hd hv H ?_)
    refine callWith_def hdat ?_ (hs e (.head _) es)
    refine evl h hs f ρ _ h' pos s m _ E hn hl H fun ds us h1 t1 hk _ e1 r1 => ⟨e1 _ _ (H.k _ _ ho), ?_⟩
    exact hk A _ us Q E C.h C.d C.u (H.keeps e1) r1 fun d v h2 t2 hd e2 r2 => hq d v h2 t2 hd (e1.trans e2) r2

theorem ev_bi1 {x : Str} {id : String} {e : Expr} {c : CE} {D : PyData → (PyData → Prop) → Prop} (cc : CE) (C : Cx A env N) (hx : env.kindOf x = some .globalImplicit) (hd : x ≠ ("__debug__" : Str)) (hv : nsIn K mainGlobals x = some none) (hb : bootBuiltins x = some (.builtin id)) (hnm : x ≠ ("__name__" : Str))
    (h : EvV prog w K A env vs N e c) (hs : ∀ r, starEach (e :: r) env = (false, eval e env) :: starEach r env)
    (hc : ∀ Γ f ρ k, vc Γ (f + 1) false ρ cc k = vc Γ f false ρ c fun x => D x k)
    (hD : ∀ (d : PyData) (v : Value) (k : PyData → Prop) (s : Shared) (Q E : Value → Shared → Prop), D d k → Rep s.heap v d → Goes s k Q → wpAny (model prog w) A (call (.builtin id) [v]) Q E s) : ∀ fp pos : Pos, EvV prog w K A env vs N (.Call (.Name x fp) [e] [] pos) cc := by
  intro fp pos f ρ k h' s m Q E hn hl H hq
  cases f with
  | zero => exact h'.elim
  | succ f =>
    rw [hc] at h'
    refine Call_ (ev_builtinV C hx hd hv hb hnm H ?_)
    refine callWith_builtin1 ?_ (hs [])
    refine spliced_more (h f ρ _ h' s m _ E hn hl H fun d v h1 t1 hd e1 r1 => ?_) (hs [])
    exact spliced_none (hD d v k _ Q E hd r1 (goes_next hq e1))
theorem ev_bi2 {x : Str} {id : String} {e e' : Expr} {c c' : CE} {D : PyData → PyData → (PyData → Prop) → Prop} (cc : CE) (C : Cx A env N) (hx : env.kindOf x = some .globalImplicit) (hd : x ≠ ("__debug__" : Str)) (hv : nsIn K mainGlobals x = some none) (hb : bootBuiltins x = some (.builtin id)) (hnm : x ≠ ("__name__" : Str))
    (h : EvV prog w K A env vs N e c) (h2 : EvV prog w K A env vs N e' c') (hs : ∀ r, starEach (e :: r) env = (false, eval e env) :: starEach r env) (hs2 : ∀ r, starEach (e' :: r) env = (false, eval e' env) :: starEach r env)
    (hc : ∀ Γ f ρ k, vc Γ (f + 1) false ρ cc k = vc Γ f false ρ c fun x => vc Γ f false ρ c' fun y => D x y k)
    (hD : ∀ (d d' : PyData) (v v' : Value) (k : PyData → Prop) (s : Shared) (Q E : Value → Shared → Prop), D d d' k → Rep s.heap v d → Rep s.heap v' d' → Goes s k Q → wpAny (model prog w) A (call (.builtin id) [v, v']) Q E s) : ∀ fp pos : Pos, EvV prog w K A env vs N (.Call (.Name x fp) [e, e'] [] pos) cc := by
  intro fp pos f ρ k h' s m Q E hn hl H hq
  cases f with
  | zero => exact h'.elim
  | succ f =>
    rw [hc] at h'
    refine Call_ (ev_builtinV C hx hd hv hb hnm H ?_)
    refine callWith_builtin1 ?_ (hs [e']) (by rw [hs2]; rfl)
    refine spliced_more (h f ρ _ h' s m _ E hn hl H fun d v h1 t1 hd e1 r1 => ?_) (hs [e'])
    refine spliced_more (h2 f ρ _ hd _ m _ E (hn.keeps e1) (hl.mono e1.seqs) (H.keeps e1) fun d' v' h2 t2 hd' e2 r2 => ?_) (hs2 [])
    exact spliced_none (hD d d' v v' k _ Q E hd' (r1.mono e2.seqs) r2 (goes_next (goes_next hq e1) e2))

theorem ev_bits {o : Expr} {c : CE} {ap pos : Pos} (ho : noCall o = true) (hp : (ap.endLine == pos.line) = true) (h : EvV prog w K A env vs N o c) : EvV prog w K A env vs N (.Call (.Attribute o ("bit_length" : Str) ap) [] [] pos) (.bits c) := by
  intro f ρ k h' s m Q E hn hl H hq
  cases f with
  | zero => exact h'.elim
  | succ f =>
    have he : eval (.Call (.Attribute o ("bit_length" : Str) ap) [] [] pos) env = (do
        let ov ← eval o env
        standAt ap.atName
        methodCall o ("bit_length" : Str) ap pos env ov 0 [] []) := by cases o <;> first | rfl | (simp [noCall] at ho)
    rw [he]
    refine wpAny_bind (h f ρ _ h' s m _ E hn hl H fun d v h1 t1 hd e1 r1 => wpAny_bind (wpAny_standAt ?_))
    obtain ⟨i, t, rfl, hw⟩ := bits_sound (prog := prog) (w := w) (A := A) (E := E) (s := { s with heap := h1, toks := t1 }) hd r1 (goes_next hq e1)
    unfold methodCall
    refine wpAny_bind (wpAny_holding ?_)
    show wpAny _ A (getMethod (.int i t) ("bit_length" : Str) (do return (← importBound o env).getD true)) _ E _
    refine getMethod_int_bit_length ?_
    have hpos : methodCallPos (methodCallForm 0 [] []) o env ap pos = pure pos := by
      unfold methodCallPos
      rw [if_pos (by rw [hp, Bool.or_true])]
    dsimp only
    rw [hpos]
    refine wpAny_bind (wpAny_pure ?_)
    exact callWith_method0 (env := env) hw

theorem ev_tup {es : List Expr} {cs : List CE} {u : Nat} {pos : Pos} (h : All2 (EvV prog w K A env vs N) es cs) (hs : ∀ e ∈ es, ∀ r, starEach (e :: r) env = (false, eval e env) :: starEach r env) : EvV prog w K A env vs N (.Tuple es u pos) (.tup cs) := by
  intro f ρ k h' s m Q E hn hl H hq
  cases f with
  | zero => exact h'.elim
  | succ f =>
    refine Tuple_ (evl h hs f ρ _ h'.2 pos s m _ E hn hl H fun ds us h1 t1 hk hlen e1 r1 => ?_)
    refine wpAny_newObj_type (hq _ _ _ t1 hk (e1.trans (Ext.push _ _)) (Rep.newTup r1)) ?_
    show us.toArray.size ≤ sizeLine
    rw [List.size_toArray, r1.length, hlen, sizeLine_eq]
    have := h'.1
    omega
theorem ev_lst {es : List Expr} {cs : List CE} {pos : Pos} (h : All2 (EvV prog w K A env vs N) es cs) (hs : ∀ e ∈ es, ∀ r, starEach (e :: r) env = (false, eval e env) :: starEach r env) : EvV prog w K A env vs N (.List es pos) (.lst cs) := by
  intro f ρ k h' s m Q E hn hl H hq
  cases f with
  | zero => exact h'.elim
  | succ f =>
    refine List_ (evl h hs f ρ _ h'.2 pos s m _ E hn hl H fun ds us h1 t1 hk hlen e1 r1 => ?_)
    refine wpAny_newObj_type (hq _ _ _ t1 hk (e1.trans (Ext.push _ _)) (Rep.newList r1)) ?_
    show us.toArray.size ≤ sizeLine
    rw [List.size_toArray, r1.length, hlen, sizeLine_eq]
    have := h'.1
    omega

theorem ev_idx {a i : Expr} {c d : CE} {pos : Pos} (ha : EvV prog w K A env vs N a c) (hi : EvV prog w K A env vs N i d) (hs : ∀ o v : Value, subscripted i false o v = operate [o, v] (getItem o v)) : EvV prog w K A env vs N (.Subscript a i pos) (.idx c d) := by
  intro f ρ k h' s m Q E hn hl H hq
  cases f with
  | zero => exact h'.elim
  | succ f =>
    refine Subscript_ (ha f ρ _ h' s m _ E hn hl H fun x v h1 t1 hx e1 r1 => ?_)
    refine hi f ρ _ hx _ m _ E (hn.keeps e1) (hl.mono e1.seqs) (H.keeps e1) fun y u h2 t2 hy e2 r2 => ?_
    exact idx_sound hs hy (r1.mono e2.seqs) r2 (goes_next (goes_next hq e1) e2)

theorem kTab_at {a : Addr} {kvs : List (Str × PyData)} {x : Str} {d : PyData} (h : kTab K a = some kvs) (hx : kvs.lookup x = some d) : ∃ es n v, K.lookup a = some ⟨.type "dict", none, .dict es n, #[]⟩ ∧ nsIn K a x = some (some v) ∧ kD K 4 v = some d := by
  unfold kTab at h
  split at h
  · rename_i es n q
    refine ⟨es, n, ?_⟩
    have h2 := mapM_some h
    clear h
    have : ∃ e v, es.toList.find? (·.key.isStr x) = some e ∧ e.val = v ∧ kD K 4 v = some d := by
      clear q
      generalize es.toList = l at h2
      induction h2 with
      | nil => simp at hx
      | @cons e p l r h1 _ ih =>
        split at h1
        · rename_i s t ek
          simp only [Option.map_eq_some_iff] at h1
          obtain ⟨d', hd', rfl⟩ := h1
          rw [List.lookup_cons] at hx
          by_cases hs : (x == s) = true
          · rw [hs] at hx
            cases hx
            refine ⟨e, _, ?_, rfl, hd'⟩
            rw [List.find?_cons, ek]
            have : Value.isStr (.str s t) x = true := by simp only [Value.isStr]; exact beq_iff_eq.mpr (beq_iff_eq.mp hs).symm
            rw [this]
          · have hs' : (x == s) = false := by simpa using hs
            rw [hs'] at hx
            obtain ⟨e', v, h3, h4, h5⟩ := ih hx
            refine ⟨e', v, ?_, h4, h5⟩
            rw [List.find?_cons, ek]
            have : Value.isStr (.str s t) x = false := by
              simp only [Value.isStr]
              exact beq_eq_false_iff_ne.mpr fun q => hs (beq_iff_eq.mpr q.symm)
            rw [this]; exact h3
        · cases h1
    obtain ⟨e, v, h3, h4, h5⟩ := this
    refine ⟨v, q, ?_, h5⟩
    unfold nsIn
    rw [q]
    dsimp only
    rw [h3, ← h4]
  · cases h

theorem ev_tab {x : Str} {T : Addr} {i : Expr} {d : CE} {kvs : List (Str × PyData)} {xp pos : Pos} (C : Cx A env N) (hx : env.kindOf x = some .globalImplicit) (hd : x ≠ ("__debug__" : Str)) (hv : nsIn K mainGlobals x = some (some (.ref T))) (hk : kTab K T = some kvs)
    (hlit : ∀ es n, K.lookup T = some ⟨.type "dict", none, .dict es n, #[]⟩ → KeysLit w.params es.toList)
    (hi : EvV prog w K A env vs N i d) (hs : ∀ o v : Value, subscripted i false o v = operate [o, v] (getItem o v)) : EvV prog w K A env vs N (.Subscript (.Name x xp) i pos) (.tab T d kvs) := by
  intro f ρ k h' s m Q E hn hl H hq
  cases f with
  | zero => exact h'.elim
  | succ f =>
    refine Subscript_ (ev_globV C hx hd hv H ?_)
    refine hi f ρ _ h' s m _ E hn hl H fun y u h2 t2 hy e2 r2 => ?_
    change tabD kvs y k at hy
    unfold tabD at hy
    split at hy
    · cases r2
      rename_i x' t'
      cases e : kvs.lookup x' with
      | none => rw [e] at hy; exact hy.elim
      | some d' =>
        rw [e] at hy
        obtain ⟨es, n, v, h3, h4, h5⟩ := kTab_at hk e
        have HX := (H.keeps e2).k
        have hm := mapOf_K (prog := prog) HX h3 (hlit es n h3)
        exact tail_any (s := { s with heap := h2, toks := t2 }) hm.typeIs slot_dict_getitem.lookup (wpAny_getItem_of (strKind_is prog w x' t') hm (find_K h3 h4) (hq d' v h2 (t2 + 1) hy e2 (kD_rep HX 4 h5))) (hs _ _)
    · exact hy.elim

theorem constInt {M : Model} {i : Int} {u : Nat} {pos : Pos} {s : Shared} {Q : Value → Shared → Prop} {E : Value → Shared → Prop} (h : Q (.int i s.toks) { s with toks := s.toks + 1 }) : wpAny M A (eval (.Constant (.int i) u pos) env) Q E s := fun _ _ _ => h

theorem ev_tail {x : Str} {c : CE} {xp : Pos} (ha : EvV prog w K A env vs N (.Name x xp) c) : ∀ (u1 : Nat) (p1 p2 pos : Pos), EvV prog w K A env vs N (.Subscript (.Name x xp) (.Slice (some (.Constant (.int 1) u1 p1)) none none p2) pos) (.tail c) := by
  intro u1 p1 p2 pos f ρ k h' s m Q E hn hl H hq
  cases f with
  | zero => exact h'.elim
  | succ f =>
    refine wpAny_Subscript_Slice list_getitem_lookup (ha f ρ _ h' s m _ E hn hl H fun y v h1 t1 hy e1 r1 => ?_)
    change tailD y k at hy
    unfold tailD at hy
    split at hy
    · rename_i ds
      obtain ⟨⟨hl1, hlen⟩, hy⟩ := hy
      cases r1 with
      | lst g1 g2 g3 q =>
        rename_i a o us n
        have l := q.length
        rw [Array.length_toList] at l
        refine wpAny_Slice ?_
        rw [evalPart_some]
        refine constInt ?_
        refine wpAny_pure (wpAny_pure ?_)
        have hL : Heap.IsList h1 a us := ⟨_, g1, g2, _, g3⟩
        refine ⟨Heap.IsList.typeIs (s := { s with heap := h1.push { cls := .type "slice", data := .fields #[.int 1 t1, .none, .none] }, toks := t1 + 1 }) (hL.push _), ?_⟩
        refine wpAny_getItem_list_slice (s := { s with heap := h1.push { cls := .type "slice", data := .fields #[.int 1 t1, .none, .none] }, toks := t1 + 1 }) (hL.push _) (Heap.IsSliceOf.new ..) (.int 1 t1) .none .none (by simp) ?_ (by rw [sizeLine_eq]; omega)
        have e2 : Ext h1 ((h1.push { cls := .type "slice", data := .fields #[.int 1 t1, .none, .none] }).push { cls := .type "list", data := .seq (slicePick us (some 1) none none) }) := (Ext.push _ _).trans (Ext.push _ _)
        refine hq _ _ _ _ hy (e1.trans e2) ?_
        have hp : slicePick us (some 1) none none = (us.toList.drop 1).toArray := slicePick_from us 1 (by omega)
        rw [hp]
        exact Rep.newList (RepAll.mono (Ext.push _ _).seqs (q.drop 1))
    · exact hy.elim
end
end Mine
/-! part A7 -/
namespace Mine
open PySem PySem.W PyProof.Rows PySem.Calls
set_option maxRecDepth 100000
def TK (h h' : Heap) : Prop := ∀ b o vs n, h.get? b = some o → o.cls = .type "tuple" → o.data = .seq vs n → h'.get? b = some o
theorem TK.trans {a b c : Heap} (x : TK a b) (y : TK b c) : TK a c := fun b o vs n e d q => y b o vs n (x b o vs n e d q) d q
theorem TK.ext {h h' : Heap} (x : Ext h h') : TK h h' := fun b o _ _ e _ _ => x b o e
theorem TK.but {h h' : Heap} {X : Addr} {o : Obj} (x : Heap.SameBut X h h') (ho : h.get? X = some o) (hc : o.cls ≠ .type "tuple" ∨ ∀ vs n, o.data ≠ .seq vs n) : TK h h' := by
  intro b o' vs n e d q
  by_cases hb : b = X
  · subst hb
    rw [ho] at e; cases e
    rcases hc with hc | hc
    · exact absurd d hc
    · exact absurd q (hc vs n)
  · exact (x.2 b hb).trans e
theorem flat1_mono {h h' : Heap} {v : Value} {d : PyData} (hf : flat1 d = true) (r : Rep h v d) : Rep h' v d := by
  cases r with
  | int i t => exact .int i t
  | str i t => exact .str i t
  | bool b => exact .bool b
  | tup => simp [flat1] at hf
  | lst => simp [flat1] at hf
theorem flat1_all {h h' : Heap} : ∀ {vs : List Value} {ds : List PyData}, ds.all flat1 = true → RepAll h vs ds → RepAll h' vs ds
  | _, _, _, .nil => .nil
  | _, _, hf, .cons a r => by
    rw [List.all_cons, Bool.and_eq_true] at hf
    exact .cons (flat1_mono hf.1 a) (flat1_all hf.2 r)
theorem Rep.monoT {h h' : Heap} {v : Value} {d : PyData} (hf : flat2 d = true) (k : TK h h') (r : Rep h v d) : Rep h' v d := by
  cases r with
  | int i t => exact .int i t
  | str i t => exact .str i t
  | bool b => exact .bool b
  | tup h1 h2 h3 q => exact .tup (k _ _ _ _ h1 h2 h3) h2 h3 (flat1_all (by simpa [flat2] using hf) q)
  | lst => simp [flat2] at hf
theorem RepAll.monoT {h h' : Heap} (k : TK h h') : ∀ {vs : List Value} {ds : List PyData}, ds.all flat2 = true → RepAll h vs ds → RepAll h' vs ds
  | _, _, _, .nil => .nil
  | _, _, hf, .cons a r => by
    rw [List.all_cons, Bool.and_eq_true] at hf
    exact .cons (a.monoT hf.1 k) (RepAll.monoT k hf.2 r)

section
variable {prog : Program} {w : World} {K : Frag} {A : Around} {env : Env} {N : Nat}

theorem ev_comp {g y : Str} {iter : Expr} {scope : Scope} {a : Addr} {c : CE} {vs : List Str} (C : Cx A env N) (hsc : scope.names = [((".0" : Str), .local), (y, .local), (g, .globalImplicit)]) (hk : scope.kind = .function) (hyg : y ≠ g) (hy0 : y ≠ (".0" : Str)) (hg0 : g ≠ (".0" : Str))
    (hyd : y ≠ ("__debug__" : Str)) (hgd : g ≠ ("__debug__" : Str)) (hv : nsIn K mainGlobals g = some (some (.ref a))) (hf : isFun K a = true) (hi : noCall iter = true) (h : EvV prog w K A env vs N iter c) :
    ∀ gp yp zp cp pos : Pos, EvV prog w K A env vs N (.ListComp (.Call (.Name g gp) [.Name y yp] [] cp) [⟨.Name y zp, iter, [], 0⟩] scope pos) (.comp a c) := by
  intro gp yp zp cp pos f ρ k h' s m Q E hn hl H hq
  cases f with
  | zero => exact h'.elim
  | succ f =>
  have hlk : scope.names.lookup y = some .local := by
    rw [hsc]
    simp [List.lookup_cons, beq_eq_false_iff_ne.mpr hy0]
  have hlg : scope.names.lookup g = some .globalImplicit := by
    rw [hsc]
    simp [List.lookup_cons, beq_eq_false_iff_ne.mpr hg0, beq_eq_false_iff_ne.mpr hyg.symm]
  have hrel : relabel scope env = scope := by
    unfold relabel
    rw [hsc]
    obtain ⟨k1, n1, g1, c1, m1⟩ := scope
    simp only at hsc
    subst hsc
    rfl
  have hfree : ∀ x ∈ scope.names, x.2 ≠ .free := by rw [hsc]; simp
  have hcell : ∀ x ∈ scope.names, x.2 ≠ .cell := by rw [hsc]; simp
  have hnames : ∀ x ∈ scope.names, x.2 = .local → scope.names.lookup x.1 = some .local := by
    intro x hx hloc
    rw [hsc] at hx
    simp only [List.mem_cons, List.not_mem_nil, or_false] at hx
    rcases hx with rfl | rfl | rfl
    · rw [hsc]; simp
    · exact hlk
    · cases hloc
  show wpAny _ A (comprehension (.ListComp (.Call (.Name g gp) [.Name y yp] [] cp) [⟨.Name y zp, iter, [], 0⟩] scope pos) scope env (firstIterPos [⟨.Name y zp, iter, [], 0⟩] pos) (newList []) false (eval iter env)) Q E s
  refine wpAny_comprehension_free (use := none) rfl (fun x => by cases iter <;> first | rfl | simp [noCall] at hi) (closureFor_none hfree) hk hnames ?_
  refine h f ρ _ h' s m _ E hn hl H fun x v h1 t1 hx e1 r1 => ?_
  change compD (CallOK prog w K N a) x k at hx
  unfold compD at hx
  split at hx
  rotate_left
  · exact hx.elim
  rename_i ds
  obtain ⟨hlen, hx⟩ := hx
  obtain ⟨ax, rfl⟩ : ∃ ax, v = .ref ax := by cases r1; exact ⟨_, rfl⟩
  obtain ⟨us, hT, rus⟩ := r1.isTup
  have lus := rus.length
  rw [Array.length_toList] at lus
  refine wpAny_pyIter_tuple hT ?_
  -- the accumulator and the block's frame
  refine wpAny_newObj_type (wpAny_newFunctionEnv hcell (by intro y hy; simp at hy) (fun h₁ hns₁ hsb₁ => ?_) hk)
  dsimp only at hns₁ hsb₁ ⊢
  generalize hH1 : h1.push { cls := .type "tuple_iterator", data := .fields #[.ref ax, .int 0 0] } = H1 at hns₁ hsb₁ ⊢
  generalize hH2 : H1.push { cls := .type "list", dict := none, data := .seq ([] : List Value).toArray } = H2 at hns₁ hsb₁ ⊢
  have hI : H1.objs.size = h1.objs.size + 1 := by rw [← hH1, Heap.size_push]
  have hC : H2.objs.size = h1.objs.size + 2 := by rw [← hH2, Heap.size_push, hI]
  have hDI : H1.objs.size ≠ h1.objs.size := by rw [hI]; exact Nat.succ_ne_self _
  have hDC : H1.objs.size ≠ H2.objs.size := by rw [hI, hC]; exact Nat.ne_of_lt (Nat.lt_succ_self _)
  have hIC : h1.objs.size ≠ H2.objs.size := by rw [hC]; exact Nat.ne_of_lt (Nat.lt_succ_of_lt (Nat.lt_succ_self _))
  have below : ∀ b o, h1.get? b = some o → b ≠ H2.objs.size ∧ b ≠ h1.objs.size ∧ b ≠ H1.objs.size := fun b o e => by
    have hb := Heap.lt_size e
    exact ⟨by rw [hC]; exact Nat.ne_of_lt (Nat.lt_succ_of_lt (Nat.lt_succ_of_lt hb)), Nat.ne_of_lt hb, by rw [hI]; exact Nat.ne_of_lt (Nat.lt_succ_of_lt hb)⟩
  have old : Ext h1 h₁ := fun b o e => hsb₁.extBut b o (below b o e).1 (Heap.get?_push_of_some _ (hH2 ▸ Heap.get?_push_of_some _ (hH1 ▸ Heap.get?_push_of_some _ e)))
  have hit : IsTupIter h₁ h1.objs.size ax 0 := ⟨_, hsb₁.extBut _ _ hIC (Heap.get?_push_of_some _ (hH2 ▸ Heap.get?_push_of_some _ (hH1 ▸ Heap.get?_push_size _ rfl))), rfl, rfl⟩
  have hacc : h₁.PlainList H1.objs.size #[] := ⟨_, hsb₁.extBut _ _ hDC (Heap.get?_push_of_some _ (hH2 ▸ Heap.get?_push_size _ rfl))⟩
  generalize hce : compEnvC scope [] H2.objs.size env = cenv
  have hcs : cenv.scope = scope := by subst hce; exact hrel
  have Cc : Cx A cenv N := ⟨C.h, C.d, C.u, by subst hce; exact C.g, by subst hce; exact C.b, by rw [hcs]; exact hk, by subst hce; rfl⟩
  have hcl : cenv.locals = H2.objs.size := by subst hce; rfl
  have hky : cenv.kindOf y = some .local := by show cenv.scope.names.lookup y = _; rw [hcs]; exact hlk
  have hkg : cenv.kindOf g = some .globalImplicit := by show cenv.scope.names.lookup g = _; rw [hcs]; exact hlg
  have elt : EvV prog w K A cenv [y] N (.Call (.Name g gp) [.Name y yp] [] cp) (.call a [.var 0]) :=
    ev_call Cc hkg hgd hv hf (.cons (ev_var Cc hky (by simp [idxOf]) hyd) .nil) (by intro e' he' r; simp at he'; subst he'; rfl) _ _
  have loop : codeAny (model prog w) A (.compLoop (.ListComp (.Call (.Name g gp) [.Name y yp] [] cp) [⟨.Name y zp, iter, [], 0⟩] scope pos) 0 (.ref h1.objs.size) (.ref H1.objs.size) cenv)
      (compPost (model prog w) A E none Q (.ref H1.objs.size) H2.objs.size) { s with heap := h₁, toks := t1 + ([] : List (Str × Value)).length } := by
    refine codeAny_compLoop_tests
      (fun j s' => ∃ h' tk m' ys i done, s' = { s with heap := h', toks := tk } ∧ IsTupIter h' h1.objs.size ax i ∧ h'.PlainList H1.objs.size ys ∧ h'.Ns H2.objs.size m' ∧ RepAll h' ys.toList done ∧ done.all flat2 = true ∧
        mapD (CallOK prog w K N a) (ds.drop i) (fun rs => k (.list (done ++ rs))) ∧ i ≤ ds.length ∧ done.length = i ∧ j = ds.length + 1 - i ∧ Ext h1 h') ?_ (ds.length + 1)
      ⟨h₁, _, _, #[], 0, [], rfl, hit, hacc, hns₁, .nil, rfl, hx, Nat.zero_le _, rfl, rfl, old⟩
    rintro j s' ⟨H3, tk, m', ys, i, done, rfl, hit', hacc', hn', hr, hfl, hm, hi', hdl, rfl, hk'⟩
    have hT' : IsTup H3 ax us := hT.keeps hk'
    have laxI : ax ≠ h1.objs.size := by obtain ⟨o, ho, _⟩ := hT; exact (below ax o ho).2.1
    obtain ⟨oI, hoI, hcI, hdI⟩ := id hit'
    by_cases hlt : i < ds.length
    · obtain ⟨v, hv'⟩ : ∃ v, us[i]? = some v := ⟨us[i]'(by omega), by simp⟩
      refine next_tuple_item hit' hT' hv' fun h2 hit2 hs2 => ?_
      have tk2 : TK H3 h2 := TK.but hs2 hoI (.inr fun vs n q => by rw [hdI] at q; cases q)
      refine wpAny_assign_Name (wpAny_storeName_local hky (by rw [hcl]; exact hn'.sameBut hs2 hIC.symm) (fun h3 hn3 hs3 => ?_) (by rw [hcs, hk]; rfl))
      rw [hcl] at hn3 hs3
      obtain ⟨oC, esC, epC, hoC, hdC, _⟩ := hn'.sameBut hs2 hIC.symm
      have tk3 : TK h2 h3 := TK.but hs3 hoC (.inr fun vs n q => by rw [hdC] at q; cases q)
      have k3 : Ext h1 h3 := fun b o e => by
        obtain ⟨b1, b2, b3⟩ := below b o e
        exact hs3.extBut b o b1 (hs2.extBut b o b2 (hk' b o e))
      obtain ⟨d, hd⟩ : ∃ d, ds[i]? = some d := ⟨ds[i]'hlt, by simp [hlt]⟩
      obtain ⟨v2, hv2, rv⟩ := rus.get hd
      rw [Array.getElem?_toList, hv'] at hv2
      cases hv2
      have hdrop : ds.drop i = d :: ds.drop (i + 1) := by
        rw [List.drop_eq_getElem_cons hlt]
        congr 1
        rw [List.getElem?_eq_getElem hlt] at hd
        exact Option.some.inj hd
      rw [hdrop] at hm
      change wpAny _ A (pure true) _ _ _
      refine wpAny_pure ?_
      simp only [if_true]
      have hvc : vc (CallOK prog w K N) 2 false [(0, d)] (.call a [.var 0]) (fun r => flat2 r = true ∧ mapD (CallOK prog w K N a) (ds.drop (i + 1)) fun rs => k (.list (done ++ r :: rs))) := by
        show CallOK prog w K N a [d] _
        exact hm
      refine elt 2 [(0, d)] _ hvc _ _ _ _ (by rw [hcl]; exact hn3) ?_ (H.keeps (e1.trans k3)) fun r vr h4 t4 hr4 e4 rr => ?_
      · intro x j d' hx' hj'
        simp only [idxOf] at hx'
        split at hx'
        · cases hx'
          rename_i q
          subst q
          simp [getV] at hj'
          subst hj'
          exact ⟨v, by simp, rv.mono k3.seqs⟩
        · simp at hx'
      obtain ⟨hfr, hm4⟩ := hr4
      have hacc3 : h3.PlainList H1.objs.size ys := (hacc'.extBut hs2.extBut hDI).extBut hs3.extBut hDC
      have hacc4 : h4.PlainList H1.objs.size ys := hacc3.at fun o e => e4 _ o e
      have lys : ys.size = i := by have := hr.length; rw [Array.length_toList] at this; omega
      refine wpAny_list_append_plain (s := { s with heap := h4, toks := t4 }) hacc4 (fun h5 hl5 hs5 => ?_) (by rw [sizeLine_eq]; omega)
      obtain ⟨nD, hoD⟩ := hacc4
      have tk5 : TK h4 h5 := TK.but hs5 hoD (.inl (by simp))
      have hfin : IsTupIter h5 h1.objs.size ax (i + 1) := by
        obtain ⟨o2, ho2, r2⟩ := hit2
        exact ⟨o2, hs5.extBut _ _ hDI.symm (e4 _ _ (hs3.extBut _ _ hIC ho2)), r2⟩
      refine ⟨ds.length + 1 - (i + 1), by omega, h5, t4, _, ys.push vr, i + 1, done ++ [r], rfl, hfin, hl5, (hn3.keeps e4).sameBut hs5 hDC.symm, ?_, ?_, ?_, hlt, by simp [hdl], rfl, ?_⟩
      · rw [Array.toList_push]
        exact (RepAll.monoT ((tk2.trans tk3).trans ((TK.ext e4).trans tk5)) hfl hr).append (.cons (rr.monoT hfr tk5) .nil)
      · rw [List.all_append, hfl]; simp [hfr]
      · simpa using hm4
      · intro b o e
        exact hs5.extBut b o (below b o e).2.2 (e4 b o (k3 b o e))
    · have hi2 : i = ds.length := by omega
      subst hi2
      rw [List.drop_length] at hm
      change k (.list (done ++ [])) at hm
      rw [List.append_nil] at hm
      refine next_tuple_end C.h hit' hT' (by simp; omega) fun h2 he2 => ?_
      have hCI := hIC.symm
      refine ⟨m', hn'.extBut he2 hCI, fun h3 hs3 => ?_⟩
      have hacc2 : h2.PlainList H1.objs.size ys := hacc'.extBut he2 hDI
      have hacc3 : h3.PlainList H1.objs.size ys := hacc2.extBut hs3.extBut hDC
      obtain ⟨n3, ho3⟩ := hacc3
      have tk2 : TK H3 h2 := by
        intro b o vs n e d q
        refine he2 b o ?_ e
        rintro rfl
        rw [hoI] at e; cases e
        rw [hdI] at q; cases q
      obtain ⟨oC, esC, epC, hoC, hdC, _⟩ := hn'.extBut he2 hCI
      have tk3 : TK h2 h3 := TK.but hs3 hoC (.inr fun vs n q => by rw [hdC] at q; cases q)
      refine hq (.list done) _ h3 tk hm (e1.trans fun b o e => ?_) (.lst ho3 rfl rfl (RepAll.monoT (tk2.trans tk3) hfl hr))
      obtain ⟨b1, b2, b3⟩ := below b o e
      exact hs3.extBut b o b1 (he2 b o b2 (hk' b o e))
  subst hce
  have laxI : ax ≠ h1.objs.size := by obtain ⟨o, ho, _⟩ := hT; exact (below ax o ho).2.1
  exact codeAny_compStart_list loop ((Walks.tuple (prog := prog) (w := w) C.h h1.objs.size ax laxI us).self 0 _ _ _ ⟨hit, hT.keeps old⟩ loop)
end
end Mine
/-! part A8 -/
namespace Mine
open PySem PySem.W PyProof.Rows PySem.Calls
set_option maxRecDepth 100000
theorem All2.imp {α β : Type} {R S : α → β → Prop} (hm : ∀ a b, R a b → S a b) : ∀ {l : List α} {r : List β}, All2 R l r → All2 S l r
  | _, _, .nil => .nil
  | _, _, .cons h t => .cons (hm _ _ h) (All2.imp hm t)

theorem boot_abs : bootBuiltins ("abs" : Str) = some (.builtin "abs") := by boot_fast
theorem boot_len' : bootBuiltins ("len" : Str) = some (.builtin "len") := by boot_fast
theorem boot_min : bootBuiltins ("min" : Str) = some (.builtin "min") := by boot_fast
theorem boot_max : bootBuiltins ("max" : Str) = some (.builtin "max") := by boot_fast
theorem boot_divmod : bootBuiltins ("divmod" : Str) = some (.builtin "divmod") := by boot_fast

section
variable {prog : Program} {w : World} {K : Frag} {TA : Addr} {A : Around} {env : Env} {vs : List Str} {N : Nat}

theorem comp_star {sc : List (Str × NameKind)} {n : Nat} {e : Expr} {c : CE} (h : compE K TA sc vs n e = some c) : ∀ r, starEach (e :: r) env = (false, eval e env) :: starEach r env := by
  intro r
  cases n with
  | zero => simp [compE] at h
  | succ n => cases e <;> first | rfl | (simp [compE] at h; done)
theorem comp_marks {sc : List (Str × NameKind)} {n : Nat} {e : Expr} {c : CE} (op : CmpOp) (h : compE K TA sc vs n e = some c) : behindInMarks op e = false := by
  cases n with
  | zero => simp [compE] at h
  | succ n => cases e <;> first | rfl | (simp [compE] at h; done)
theorem comp_sub {sc : List (Str × NameKind)} {n : Nat} {e : Expr} {c : CE} (h : compE K TA sc vs n e = some c) : ∀ o v : Value, subscripted e false o v = operate [o, v] (getItem o v) := by
  intro o v
  cases n with
  | zero => simp [compE] at h
  | succ n => cases e <;> first | rfl | (simp [compE] at h; done)
theorem all2_star {sc : List (Str × NameKind)} {n : Nat} {es : List Expr} {cs : List CE} (h : All2 (fun e c => compE K TA sc vs n e = some c) es cs) : ∀ e ∈ es, ∀ r, starEach (e :: r) env = (false, eval e env) :: starEach r env := by
  induction h with
  | nil => intro e he; cases he
  | cons h _ ih =>
    intro e he
    rcases List.mem_cons.mp he with rfl | he
    · exact comp_star h
    · exact ih e he

theorem glob_of {sc : List (Str × NameKind)} {x : Str} {v : Option Value} (hsc : env.scope.names = sc) (h : globalOf? K sc x = some v) : env.kindOf x = some .globalImplicit ∧ x ≠ ("__debug__" : Str) ∧ nsIn K mainGlobals x = some v := by
  unfold globalOf? at h
  split at h
  · cases h
  · rename_i hd
    split at h
    · rename_i hl
      exact ⟨by show env.scope.names.lookup x = _; rw [hsc]; exact hl, hd, h⟩
    · cases h

theorem comp_sound (hlit : ∀ es n, K.lookup TA = some ⟨.type "dict", none, .dict es n, #[]⟩ → KeysLit w.params es.toList) (C : Cx A env N) :
    ∀ (n : Nat) (e : Expr) (c : CE), compE K TA env.scope.names vs n e = some c → EvV prog w K A env vs N e c ∧ EvT prog w K A env vs N e c := by
  have hu : A.units + 200 < cLine := by have := C.u; omega
  intro n
  induction n with
  | zero => intro e c h; simp [compE] at h
  | succ n ih =>
    have many : ∀ {es : List Expr} {cs : List CE}, es.mapM (compE K TA env.scope.names vs n) = some cs → All2 (fun e c => compE K TA env.scope.names vs n e = some c) es cs := fun h => mapM_some h
    have manyV : ∀ {es : List Expr} {cs : List CE}, es.mapM (compE K TA env.scope.names vs n) = some cs → All2 (EvV prog w K A env vs N) es cs := fun h => (many h).imp fun a b q => (ih a b q).1
    have manyT : ∀ {es : List Expr} {cs : List CE}, es.mapM (compE K TA env.scope.names vs n) = some cs → All2 (EvT prog w K A env vs N) es cs := fun h => (many h).imp fun a b q => (ih a b q).2
    intro e c h
    cases e with
    | Constant k u pos =>
      cases k with
      | int i => simp only [compE, Option.some.injEq] at h; subst h; exact ⟨ev_int, et_plain rfl ev_int fun _ _ _ _ => rfl⟩
      | str i => simp only [compE, Option.some.injEq] at h; subst h; exact ⟨ev_str, et_plain rfl ev_str fun _ _ _ _ => rfl⟩
      | bool i => simp only [compE, Option.some.injEq] at h; subst h; exact ⟨ev_bool, et_plain rfl ev_bool fun _ _ _ _ => rfl⟩
      | _ => simp [compE] at h
    | Name x pos =>
      simp only [compE] at h
      split at h
      · cases h
      · rename_i hd
        split at h
        · rename_i hl
          simp only [Option.map_eq_some_iff] at h
          obtain ⟨i, hi, rfl⟩ := h
          have := ev_var (prog := prog) (w := w) (K := K) (pos := pos) C hl hi hd
          exact ⟨this, et_plain rfl this fun _ _ _ _ => rfl⟩
        · rename_i hl
          split at h
          · rename_i v hv
            simp only [Option.map_eq_some_iff] at h
            obtain ⟨d, hk, rfl⟩ := h
            have := ev_glob (prog := prog) (w := w) (K := K) (vs := vs) (pos := pos) C hl hd hv hk
            exact ⟨this, et_plain rfl this fun _ _ _ _ => rfl⟩
          · cases h
        · cases h
    | BoolOp op es pos =>
      simp only [compE, Option.bind_eq_some_iff] at h
      obtain ⟨cs, h1, h2⟩ := h
      exact ⟨ev_andor (manyV h1) h2, et_andor (manyT h1) h2⟩
    | BinOp l op r pos =>
      simp only [compE, Option.bind_eq_some_iff, Option.map_eq_some_iff] at h
      obtain ⟨a, h1, b, h2, rfl⟩ := h
      have := ev_bin (op := op) (pos := pos) (ih l a h1).1 (ih r b h2).1
      exact ⟨this, et_plain rfl this fun _ _ _ _ => rfl⟩
    | UnaryOp op x pos =>
      cases op with
      | USub =>
        simp only [compE, Option.map_eq_some_iff] at h
        obtain ⟨a, h1, rfl⟩ := h
        have := ev_neg (pos := pos) (ih x a h1).1
        exact ⟨this, et_plain rfl this fun _ _ _ _ => rfl⟩
      | Not =>
        simp only [compE, Option.map_eq_some_iff] at h
        obtain ⟨a, h1, rfl⟩ := h
        exact ⟨ev_not (ih x a h1).1, et_not (ih x a h1).2⟩
      | _ => simp [compE] at h
    | IfExp t x y pos =>
      simp only [compE, Option.bind_eq_some_iff, Option.map_eq_some_iff] at h
      obtain ⟨a, h1, b, h2, d, h3, rfl⟩ := h
      exact ⟨ev_ite (ih t a h1).2 (ih x b h2).1 (ih y d h3).1, et_ite (ih t a h1).2 (ih x b h2).2 (ih y d h3).2⟩
    | Compare l ops rs pos =>
      unfold compE at h
      split at h <;> (rename_i q; first | (cases q; done) | skip)
      · cases q
        simp only [Option.bind_eq_some_iff, Option.map_eq_some_iff] at h
        obtain ⟨a, h1, b, h2, rfl⟩ := h
        exact ⟨ev_cmp hu (ih _ a h1).1 (ih _ b h2).1 (comp_marks _ h2), et_cmp hu (ih _ a h1).1 (ih _ b h2).1 (comp_marks _ h2)⟩
      · cases q
        simp only [Option.bind_eq_some_iff, Option.map_eq_some_iff] at h
        obtain ⟨a, h1, b, h2, d, h3, rfl⟩ := h
        exact ⟨ev_chain hu (ih _ a h1).1 (ih _ b h2).1 (ih _ d h3).1 (comp_marks _ h3), et_chain hu (ih _ a h1).1 (ih _ b h2).1 (ih _ d h3).1 (comp_marks _ h3)⟩
      · cases h
    | Call fn args kws pos =>
      unfold compE at h
      split at h <;> (rename_i q; first | (cases q; done) | skip)
      · cases q
        split at h
        · rename_i hc
          obtain ⟨rfl, h1, h2⟩ := hc
          simp only [Option.map_eq_some_iff] at h
          obtain ⟨a, h3, rfl⟩ := h
          have := ev_bits (prog := prog) (w := w) (K := K) h1 h2 (ih _ a h3).1
          exact ⟨this, et_plain rfl this fun _ _ _ _ => rfl⟩
        · cases h
      · cases q
        simp only [Option.bind_eq_some_iff] at h
        obtain ⟨cs, h1, h2⟩ := h
        split at h2
        · rename_i a hg
          obtain ⟨k1, k2, k3⟩ := glob_of rfl hg
          split at h2
          · rename_i hf
            cases h2
            have hm := many h1
            cases hm with
            | nil => simp at hf
            | cons q1 qr =>
              have := ev_call (prog := prog) (w := w) C k1 k2 k3 hf.1 (manyV h1) (all2_star (many h1))
              exact ⟨this _ _, et_plain rfl (this _ _) fun _ _ _ _ => rfl⟩
          · cases h2
        · rename_i hg
          obtain ⟨k1, k2, k3⟩ := glob_of rfl hg
          have hm := many h1
          unfold builtinCE at h2
          split at h2
          · cases hm with
            | cons q1 qr => cases qr with
              | nil =>
                split at h2
                · rename_i hx; subst hx; cases h2
                  have := ev_bi1 (prog := prog) (w := w) (D := absD) (.abs _) C k1 k2 k3 boot_abs (by decide +kernel) (ih _ _ q1).1 (comp_star q1) (fun _ _ _ _ => rfl) (fun d v k s Q E h r g => abs_sound h r g)
                  exact ⟨this _ _, et_plain rfl (this _ _) fun _ _ _ _ => rfl⟩
                · split at h2
                  · rename_i hx; subst hx; cases h2
                    have := ev_bi1 (prog := prog) (w := w) (D := lenD) (.len _) C k1 k2 k3 boot_len' (by decide +kernel) (ih _ _ q1).1 (comp_star q1) (fun _ _ _ _ => rfl) (fun d v k s Q E h r g => len_sound h r g)
                    exact ⟨this _ _, et_plain rfl (this _ _) fun _ _ _ _ => rfl⟩
                  · cases h2
          · cases hm with
            | cons q1 qr => cases qr with
              | cons q2 qr => cases qr with
                | nil =>
                  split at h2
                  · rename_i hx; subst hx; cases h2
                    have := ev_bi2 (prog := prog) (w := w) (D := mnD) (.mn _ _) C k1 k2 k3 boot_min (by decide +kernel) (ih _ _ q1).1 (ih _ _ q2).1 (comp_star q1) (comp_star q2) (fun _ _ _ _ => rfl) (fun d d' v v' k s Q E h r r' g => mn_sound C.h h r r' g)
                    exact ⟨this _ _, et_plain rfl (this _ _) fun _ _ _ _ => rfl⟩
                  · split at h2
                    · rename_i hx; subst hx; cases h2
                      have := ev_bi2 (prog := prog) (w := w) (D := mxD) (.mx _ _) C k1 k2 k3 boot_max (by decide +kernel) (ih _ _ q1).1 (ih _ _ q2).1 (comp_star q1) (comp_star q2) (fun _ _ _ _ => rfl) (fun d d' v v' k s Q E h r r' g => mx_sound C.h h r r' g)
                      exact ⟨this _ _, et_plain rfl (this _ _) fun _ _ _ _ => rfl⟩
                    · split at h2
                      · rename_i hx; subst hx; cases h2
                        have := ev_bi2 (prog := prog) (w := w) (D := dmD) (.dm _ _) C k1 k2 k3 boot_divmod (by decide +kernel) (ih _ _ q1).1 (ih _ _ q2).1 (comp_star q1) (comp_star q2) (fun _ _ _ _ => rfl) (fun d d' v v' k s Q E h r r' g => dm_sound h r r' g)
                        exact ⟨this _ _, et_plain rfl (this _ _) fun _ _ _ _ => rfl⟩
                      · cases h2
          · cases h2
        · cases h2
      · cases h
    | Tuple es u pos =>
      simp only [compE, Option.map_eq_some_iff] at h
      obtain ⟨cs, h1, rfl⟩ := h
      have := ev_tup (u := u) (pos := pos) (manyV h1) (all2_star (many h1))
      exact ⟨this, et_plain rfl this fun _ _ _ _ => rfl⟩
    | List es pos =>
      simp only [compE, Option.map_eq_some_iff] at h
      obtain ⟨cs, h1, rfl⟩ := h
      have := ev_lst (pos := pos) (manyV h1) (all2_star (many h1))
      exact ⟨this, et_plain rfl this fun _ _ _ _ => rfl⟩
    | Subscript a i pos =>
      have plain : ∀ {a : Expr} {c : CE}, ((compE K TA env.scope.names vs n a).bind fun a => (compE K TA env.scope.names vs n i).map fun i => CE.idx a i) = some c → EvV prog w K A env vs N (.Subscript a i pos) c ∧ EvT prog w K A env vs N (.Subscript a i pos) c := by
        intro a c h
        simp only [Option.bind_eq_some_iff, Option.map_eq_some_iff] at h
        obtain ⟨b, h1, d, h2, rfl⟩ := h
        have := ev_idx (pos := pos) (ih _ _ h1).1 (ih _ _ h2).1 (comp_sub h2)
        exact ⟨this, et_plain rfl this fun _ _ _ _ => rfl⟩
      simp only [compE] at h
      split at h
      · simp only [Option.map_eq_some_iff] at h
        obtain ⟨b, h1, rfl⟩ := h
        have := ev_tail (prog := prog) (w := w) (K := K) (A := A) (ih _ _ h1).1
        exact ⟨this _ _ _ _, et_plain rfl (this _ _ _ _) fun _ _ _ _ => rfl⟩
      · split at h
        · rename_i kvs hk
          unfold tabAt? at hk
          split at hk
          · split at hk
            · rename_i hg
              obtain ⟨k1, k2, k3⟩ := glob_of rfl hg
              simp only [Option.map_eq_some_iff] at h
              obtain ⟨b, h1, rfl⟩ := h
              have := ev_tab (prog := prog) (xp := ‹Pos›) (pos := pos) C k1 k2 k3 hk hlit (ih _ _ h1).1 (comp_sub h1)
              exact ⟨this, et_plain rfl this fun _ _ _ _ => rfl⟩
            · cases hk
          · cases hk
        · exact plain h
    | ListComp elt gens scope pos =>
      unfold compE at h
      split at h <;> (rename_i q; first | (cases q; done) | skip)
      · cases q
        split at h
        · rename_i hc
          obtain ⟨rfl, h1, h2, h3, h4, h5, h6, h7, h8⟩ := hc
          split at h
          · rename_i a hv
            split at h
            · rename_i hf
              simp only [Option.map_eq_some_iff] at h
              obtain ⟨b, h9, rfl⟩ := h
              have := ev_comp (prog := prog) (w := w) (A := A) C h1 h2 h3 h4 h5 h6 h7 hv hf h8 (ih _ _ h9).1
              exact ⟨this _ _ _ _ _, et_plain rfl (this _ _ _ _ _) fun _ _ _ _ => rfl⟩
            · cases h
          · cases h
        · cases h
      · cases h
    | _ => simp [compE] at h
end
end Mine
/-! part A9 -/
namespace Mine
open PySem PySem.W PyProof.Rows PySem.Calls
set_option maxRecDepth 100000
/-- all but the frame's own dict stays -/
def ExtL (L : Addr) (h h' : Heap) : Prop := ∀ b o, b ≠ L → h.get? b = some o → h'.get? b = some o
theorem ExtL.refl (L : Addr) (h : Heap) : ExtL L h h := fun _ _ _ e => e
theorem ExtL.trans {L : Addr} {a b c : Heap} (x : ExtL L a b) (y : ExtL L b c) : ExtL L a c := fun b o n e => y b o n (x b o n e)
theorem Ext.toL {L : Addr} {h h' : Heap} (x : Ext h h') : ExtL L h h' := fun b o _ e => x b o e
theorem sameBut_L {L : Addr} {h h' : Heap} (x : Heap.SameBut L h h') : ExtL L h h' := fun b o n e => x.extBut b o n e
theorem ExtL.seqs {L : Addr} {h h' : Heap} {m : Str → Option Value} (x : ExtL L h h') (hn : h.Ns L m) : Seqs h h' := by
  intro b o vs n e d
  refine x b o ?_ e
  rintro rfl
  obtain ⟨o', _, _, ho, hd, _⟩ := hn
  rw [ho] at e; cases e
  rw [hd] at d; cases d
theorem ExtL.ext {L : Addr} {h₀ h h' : Heap} (x : ExtL L h h') (e : Ext h₀ h) (hL : h₀.get? L = none) : Ext h₀ h' := fun b o q => x b o (fun z => by subst z; rw [hL] at q; cases q) (e b o q)

/-- a store of a name -/
def Stores (env : Env) (f : Value → Sem Unit) (x : Str) : Prop := ∀ (M : Model) (A : Around) (v : Value) (s : Shared) (Q : Unit → Shared → Prop) (E : Value → Shared → Prop), wpAny M A (storeName env x v) Q E s → wpAny M A (f v) Q E s
theorem stores_name {env : Env} {x : Str} {p : Pos} : Stores env (assign (.Name x p) env) x := fun _ _ _ _ _ _ h => assign_Name h
theorem stores_bind {env : Env} {x : Str} : Stores env (bindName env x) x := fun _ _ _ _ _ _ h => bindName_ h

section
variable {M : Model} {A : Around} {env : Env}
theorem store_one {x : Str} {v : Value} {s : Shared} {m : Str → Option Value} {Q : Unit → Shared → Prop} {E : Value → Shared → Prop} (hk : env.scope.kind = .function) (hx : env.kindOf x = some .local) (hn : s.heap.Ns env.locals m)
    (hq : ∀ h' tk', h'.Ns env.locals (fun y => if y = x then some v else m y) → ExtL env.locals s.heap h' → Q () { s with heap := h', toks := tk' }) : wpAny M A (storeName env x v) Q E s :=
  wpAny_storeName_local hx hn (fun h' hn' hs => hq h' _ hn' (sameBut_L hs)) (by rw [hk]; rfl)

theorem store_all (hk : env.scope.kind = .function) : ∀ (fs : List (Value → Sem Unit)) (xs : List Str) (us : List Value), All2 (Stores env) fs xs → xs.length = us.length → xs.Nodup → (∀ x ∈ xs, env.kindOf x = some .local) →
    ∀ (s : Shared) (m : Str → Option Value) (Q : Unit → Shared → Prop) (E : Value → Shared → Prop), s.heap.Ns env.locals m →
    (∀ m' h' tk', h'.Ns env.locals m' → (∀ (j : Nat) (x : Str) (u : Value), xs[j]? = some x → us[j]? = some u → m' x = some u) → (∀ y, y ∉ xs → m' y = m y) → ExtL env.locals s.heap h' → Q () { s with heap := h', toks := tk' }) →
    wpAny M A (assignInOrder fs us) Q E s
  | _, _, us, .nil, hl, _, _, s, m, Q, E, hn, hq => by
    cases us with
    | nil => exact assignInOrder_nil (hq m s.heap s.toks hn (fun j x u h => by simp at h) (fun _ _ => rfl) (ExtL.refl _ _))
    | cons _ _ => simp at hl
  | _, _, us, .cons (a := f) (b := x) (l := fs) (r := xs) h1 hr, hl, hd, hloc, s, m, Q, E, hn, hq => by
    cases us with
    | nil => simp at hl
    | cons u us =>
      rw [List.nodup_cons] at hd
      refine assignInOrder_cons (h1 M A u s _ E (store_one hk (hloc x (.head _)) hn fun h1 t1 hn1 e1 => ?_))
      refine store_all hk fs xs us hr (by simpa using hl) hd.2 (fun y hy => hloc y (.tail _ hy)) _ _ Q E hn1 fun m' h' tk' hn' ha hb e' => ?_
      refine hq m' h' tk' hn' ?_ ?_ (e1.trans e')
      · intro j y v hj hv
        cases j with
        | zero =>
          simp at hj hv
          subst hj hv
          rw [hb x hd.1]; simp
        | succ j => exact ha j y v (by simpa using hj) (by simpa using hv)
      · intro y hy
        simp only [List.mem_cons, not_or] at hy
        rw [hb y hy.2, if_neg hy.1]
end

theorem getV_bindT_not : ∀ (is : List Nat) (ds : List PyData) (ρ : Rho) (i : Nat), i ∉ is → getV (bindT is ds ρ) i = getV ρ i
  | [], _, _, _, _ => rfl
  | _ :: _, [], _, _, _ => rfl
  | j :: is, d :: ds, ρ, i, h => by
    simp only [List.mem_cons, not_or] at h
    rw [bindT, getV_bindT_not is ds _ i h.2, getV, if_neg h.1]
theorem getV_bindT_at : ∀ (is : List Nat) (ds : List PyData) (ρ : Rho) (j i : Nat), is.Nodup → is[j]? = some i → is.length = ds.length → getV (bindT is ds ρ) i = ds[j]?
  | [], _, _, _, _, _, h, _ => by simp at h
  | _ :: _, [], _, _, _, _, _, h => by simp at h
  | k :: is, d :: ds, ρ, j, i, hd, hj, hl => by
    rw [List.nodup_cons] at hd
    cases j with
    | zero =>
      simp at hj; subst hj
      rw [bindT, getV_bindT_not is ds _ k hd.1, getV, if_pos rfl]; rfl
    | succ j =>
      rw [bindT, getV_bindT_at is ds _ j i hd.2 (by simpa using hj) (by simpa using hl)]; rfl
theorem nodupB_of : ∀ {l : List Nat}, nodupB l = true → l.Nodup
  | [], _ => .nil
  | i :: r, h => by
    simp only [nodupB, Bool.and_eq_true, Bool.not_eq_true', List.contains_eq_mem, decide_eq_false_iff_not] at h
    exact List.nodup_cons.mpr ⟨h.1, nodupB_of h.2⟩

theorem Loc.many {vs : List Str} {m m' : Str → Option Value} {ρ : Rho} {h : Heap} {is : List Nat} {xs : List Str} {us : List Value} {ds : List PyData} (l : Loc vs m ρ h) (hx : All2 (fun x i => idxOf vs x = some i) xs is) (hd : is.Nodup) (r : RepAll h us ds) (hlen : is.length = ds.length)
    (ha : ∀ (j : Nat) (x : Str) (u : Value), xs[j]? = some x → us[j]? = some u → m' x = some u) (hb : ∀ y, y ∉ xs → m' y = m y) : Loc vs m' (bindT is ds ρ) h := by
  have at2 : ∀ {xs : List Str} {is : List Nat}, All2 (fun x i => idxOf vs x = some i) xs is → ∀ {j : Nat} {i : Nat}, is[j]? = some i → ∃ x, xs[j]? = some x ∧ idxOf vs x = some i := by
    intro xs is h
    induction h with
    | nil => intro j i h; simp at h
    | cons q _ ih =>
      intro j i h
      cases j with
      | zero => simp at h; subst h; exact ⟨_, rfl, q⟩
      | succ j => exact ih (by simpa using h)
  have mem2 : ∀ {xs : List Str} {is : List Nat}, All2 (fun x i => idxOf vs x = some i) xs is → ∀ {y : Str}, y ∈ xs → ∃ i ∈ is, idxOf vs y = some i := by
    intro xs is h
    induction h with
    | nil => intro y h; cases h
    | cons q _ ih =>
      intro y hy
      rcases List.mem_cons.mp hy with rfl | hy
      · exact ⟨_, .head _, q⟩
      · obtain ⟨i, hi, e⟩ := ih hy; exact ⟨i, .tail _ hi, e⟩
  intro y i d hy hi
  by_cases hm : i ∈ is
  · obtain ⟨j, hj⟩ := List.getElem?_of_mem hm
    rw [getV_bindT_at is ds ρ j i hd hj hlen] at hi
    obtain ⟨v, hv, rv⟩ := r.get hi
    obtain ⟨x, hxj, hxi⟩ := at2 hx hj
    have : y = x := by
      have h1 := idxOf_at hy
      rw [idxOf_at hxi] at h1
      exact (Option.some.inj h1).symm
    subst this
    exact ⟨v, ha j y v hxj hv, rv⟩
  · rw [getV_bindT_not is ds ρ i hm] at hi
    obtain ⟨v, hv, rv⟩ := l y i d hy hi
    refine ⟨v, ?_, rv⟩
    rw [hb y fun hin => ?_]
    · exact hv
    · obtain ⟨k, hk, e⟩ := mem2 hx hin
      rw [hy] at e; cases e
      exact hm hk

section
variable {prog : Program} {w : World} {A : Around} {E : Value → Shared → Prop} {s : Shared}
theorem draw_list {it t : Addr} {items : Array Value} (hne : t ≠ it) : ∀ (n i : Nat) (s : Shared) (Q : List Value → Shared → Prop), s.heap.IsListIter it t i → s.heap.IsList t items → i + n ≤ items.size →
    (∀ h', h'.IsListIter it t (i + n) → Heap.SameBut it s.heap h' → Q ((items.toList.drop i).take n) { s with heap := h' }) → wpAny (model prog w) A (draw (.ref it) n) Q E s
  | 0, i, s, Q, hit, _, _, hQ => by
    show wpAny _ _ (pure []) Q E s
    exact wpAny_pure (by simpa using hQ s.heap hit (Heap.SameBut.refl ..))
  | n + 1, i, s, Q, hit, ht, hle, hQ => by
    have hlt : i < items.size := by omega
    show wpAny _ _ (pyNext (.ref it) >>= _) Q E s
    refine wpAny_bind (wpAny_pyNext_list_item hit ht (x := items[i]) (by simp [hlt]) fun h₁ hit₁ hs₁ => ?_)
    refine wpAny_bind (wpAny_holding (draw_list hne n (i + 1) _ _ hit₁ (ht.extBut hs₁.extBut hne) (by omega) fun h₂ hit₂ hs₂ => wpAny_pure ?_))
    have hd : items.toList.drop i = items[i] :: items.toList.drop (i + 1) := by simp [List.drop_eq_getElem_cons, hlt]
    have := hQ h₂ (by rw [show i + (n + 1) = i + 1 + n by omega]; exact hit₂) (hs₁.trans hs₂)
    rw [hd, List.take_succ_cons] at this
    exact this
theorem unpackItems_list {t : Addr} {items : Array Value} {Q : List Value → Shared → Prop} (hh : A.handled = none) (ht : s.heap.IsList t items)
    (hQ : ∀ h', Heap.ExtBut s.heap.objs.size s.heap h' → Q items.toList { s with heap := h' }) : wpAny (model prog w) A (unpackItems (.ref t) items.size none) Q E s := by
  have hlt : t ≠ s.heap.objs.size := by obtain ⟨o, ho, _⟩ := ht; exact Nat.ne_of_lt (Heap.lt_size ho)
  unfold unpackItems
  refine wpAny_bind ?_
  · unfold notIterableAtAll
    refine wpAny_bind (wpAny_specialOf ht.typeIs PySem.slot_list_iter.lookup ?_)
    refine wpAny_pure ?_
    simp only [Bool.false_eq_true, if_false]
    refine wpAny_bind (wpAny_holding (wpAny_pyIter_list ht ?_))
    refine wpAny_bind (wpAny_holding (draw_list hlt items.size 0 _ _ ⟨_, Heap.get?_push_size _ rfl, rfl, rfl⟩ (ht.push _) (by omega) fun h₁ hit₁ hs₁ => ?_))
    have hall : List.take items.size (List.drop 0 items.toList) = items.toList := by
      rw [List.drop_zero]; exact List.take_of_length_le (by simp)
    rw [hall]
    rw [if_neg (by simp)]
    have ht₁ : h₁.IsList t items := (ht.push _).extBut hs₁.extBut hlt
    refine wpAny_bind (wpAny_holding (wpAny_pyNext_list_end hh hit₁ ht₁ (by simp) fun h₂ he₂ => ?_))
    simp only [Option.isSome_none, Bool.false_eq_true, if_false]
    refine wpAny_pure (hQ h₂ fun b o hb e => he₂ b o hb (hs₁.extBut b o hb (Heap.get?_push_of_some _ e)))

/-- unpacking of a tuple or a list -/
theorem unpack_items {d : PyData} {v : Value} {ds : List PyData} {n : Nat} {Q : List Value → Shared → Prop} (hh : A.handled = none) (hd : d = .tuple ds ∨ d = .list ds) (r : Rep s.heap v d) (hn : n = ds.length)
    (hQ : ∀ h' us, Ext s.heap h' → RepAll h' us ds → Q us { s with heap := h' }) : wpAny (model prog w) A (unpackItems v n none) Q E s := by
  have new : ∀ h', Heap.ExtBut s.heap.objs.size s.heap h' → Ext s.heap h' := fun h' x b o e => x b o (Nat.ne_of_lt (Heap.lt_size e)) e
  rcases hd with rfl | rfl
  · cases r with
    | tup h1 h2 h3 q =>
      have l := q.length
      rw [Array.length_toList] at l
      rw [hn, ← l]
      exact unpackItems_tuple hh ⟨_, h1, h2, _, h3⟩ fun h' x => hQ h' _ (new h' x) (q.mono (new h' x).seqs)
  · cases r with
    | lst h1 h2 h3 q =>
      have l := q.length
      rw [Array.length_toList] at l
      rw [hn, ← l]
      exact unpackItems_list hh ⟨_, h1, h2, _, h3⟩ fun h' x => hQ h' _ (new h' x) (q.mono (new h' x).seqs)
end
end Mine
/-! part A10 -/
namespace Mine
open PySem PySem.W PyProof.Rows PySem.Calls
set_option maxRecDepth 100000
theorem filterMap_whole {α β : Type} {f : α → Option β} : ∀ {l : List α}, (l.filterMap f).length = l.length → All2 (fun a b => f a = some b) l (l.filterMap f)
  | [], _ => .nil
  | a :: l, h => by
    cases e : f a with
    | none =>
      rw [List.filterMap_cons_none e] at h
      have := List.length_filterMap_le f l
      simp at h; omega
    | some b =>
      rw [List.filterMap_cons_some e] at h ⊢
      exact .cons e (filterMap_whole (by simpa using h))

theorem swapped_of {env : Env} {ts : List Expr} {u : Nat} {p : Pos} {value : Expr} (hc : allConst value = false) :
    ∃ r, swappedStores [.Tuple ts u p] value env = pure r ∧ (r = none ∨ ∃ names, r = some names ∧ names.length = ts.length ∧ All2 (fun t x => ∃ q, t = .Name x q) ts names) := by
  cases value with
  | Tuple es u2 p2 =>
    simp only [allConst] at hc
    simp only [swappedStores]
    split
    · exact ⟨none, rfl, .inl rfl⟩
    · split
      · exact ⟨none, rfl, .inl rfl⟩
      · split
        · exact ⟨none, rfl, .inl rfl⟩
        · rename_i hn
          split
          · exact ⟨none, rfl, .inl rfl⟩
          · split
            · rename_i q; rw [hc] at q; cases q
            · refine ⟨_, rfl, .inr ⟨_, rfl, ?_⟩⟩
              simp only [Bool.or_eq_true, bne_iff_ne, ne_eq, not_or, Decidable.not_not] at hn
              refine ⟨hn.1, (filterMap_whole hn.1).imp fun a b q => ?_⟩
              split at q
              · split at q
                · cases q; exact ⟨_, rfl⟩
                · cases q
              · cases q
  | _ => exact ⟨none, rfl, .inl rfl⟩
end Mine
/-! part A11 -/
namespace Mine
open PySem PySem.W PyProof.Rows PySem.Calls
set_option maxRecDepth 100000
section
variable (prog : Program) (w : World) (K : Frag) (A : Around) (env : Env) (vs : List Str) (N : Nat) (h₀ : Heap)
def Ends (s : Shared) (r : PyData → Prop) (nx : Rho → Prop) (Q : Flow → Shared → Prop) : Prop :=
  (∀ d v h' tk', r d → ExtL env.locals s.heap h' → Rep h' v d → Q (.ret v) { s with heap := h', toks := tk' }) ∧
  (∀ ρ' m' h' tk', nx ρ' → h'.Ns env.locals m' → Loc vs m' ρ' h' → ExtL env.locals s.heap h' → Q .next { s with heap := h', toks := tk' })
def StV (st : List Stmt) (cs : List CS) : Prop := ∀ f ρ r nx, vcS (CallOK prog w K N) f ρ cs r nx → ∀ s m Q E, s.heap.Ns env.locals m → Loc vs m ρ s.heap → Ext h₀ s.heap →
  Ends env vs s r nx Q → wpAny (model prog w) A (execs st env) Q E s
def StS (st : Stmt) (c : CS) : Prop := ∀ f ρ rest r nx, vcS (CallOK prog w K N) (f + 1) ρ (c :: rest) r nx → ∀ s m Q E, s.heap.Ns env.locals m → Loc vs m ρ s.heap → Ext h₀ s.heap →
  Ends env vs s r (fun ρ' => vcS (CallOK prog w K N) f ρ' rest r nx) Q → wpAny (model prog w) A (exec st env) Q E s
end

section
variable {prog : Program} {w : World} {K : Frag} {A : Around} {env : Env} {vs : List Str} {N : Nat} {h₀ : Heap}

theorem Ends.next {s : Shared} {r : PyData → Prop} {nx : Rho → Prop} {Q : Flow → Shared → Prop} {h : Heap} {tk : Nat} (x : Ends env vs s r nx Q) (e : ExtL env.locals s.heap h) : Ends env vs { s with heap := h, toks := tk } r nx Q :=
  ⟨fun d v h' tk' a b c => x.1 d v h' tk' a (e.trans b) c, fun ρ' m' h' tk' a b c d => x.2 ρ' m' h' tk' a b c (e.trans d)⟩

theorem stv_of {st : List Stmt} {cs : List CS} (hL : h₀.get? env.locals = none) (h : All2 (StS prog w K A env vs N h₀) st cs) : StV prog w K A env vs N h₀ st cs := by
  induction h with
  | nil =>
    intro f ρ r nx hv s m Q E hn hl he hq
    cases f with
    | zero => exact hv.elim
    | succ f => exact wpAny_execs_nil (hq.2 ρ m s.heap s.toks hv hn hl (ExtL.refl _ _))
  | @cons a b l r' h1 hr ih =>
    intro f ρ r nx hv s m Q E hn hl he hq
    cases f with
    | zero => exact hv.elim
    | succ f =>
      refine wpAny_execs_cons (h1 f ρ r' r nx hv s m _ E hn hl he ⟨fun d v h' tk' a b c => hq.1 d v h' tk' a b c, fun ρ' m' h' tk' hv' hn' hl' e' => ?_⟩)
      exact ih f ρ' r nx hv' _ m' Q E hn' hl' (e'.ext he hL) (hq.next e')

theorem st_ret {e : Expr} {c : CE} {pos : Pos} (H₀ : HK K h₀) (h : EvV prog w K A env vs N e c) : StS prog w K A env vs N h₀ (.Return (some e) pos) (.ret c) := by
  intro f ρ rest r nx hv s m Q E hn hl he hq
  exact wpAny_Return_some (h f ρ _ hv s m _ E hn hl (H₀.keeps he) fun d v h' tk' hd e' r' => hq.1 d v h' tk' hd e'.toL r')
theorem st_stop {st : Stmt} : StS prog w K A env vs N h₀ st .stop := by
  intro f ρ rest r nx hv
  exact hv.elim
theorem st_asrt {e : Expr} {c : CE} {pos : Pos} {msg : Option Expr} (H₀ : HK K h₀) (h : EvT prog w K A env vs N e c) : StS prog w K A env vs N h₀ (.Assert e msg pos) (.asrt c) := by
  intro f ρ rest r nx hv s m Q E hn hl he hq
  refine wpAny_Assert_holds (h f ρ _ hv s m _ E hn hl (H₀.keeps he) fun b h' tk' hb e' => ?_)
  exact ⟨hb.1, hq.2 ρ m h' tk' hb.2 (hn.keeps e') (hl.mono e'.seqs) e'.toL⟩
theorem st_ite {e : Expr} {c : CE} {a b : List Stmt} {ca cb : List CS} {pos : Pos} (H₀ : HK K h₀) (h : EvT prog w K A env vs N e c) (ha : StV prog w K A env vs N h₀ a ca) (hb : StV prog w K A env vs N h₀ b cb) : StS prog w K A env vs N h₀ (.If e a b pos) (.ite c ca cb) := by
  intro f ρ rest r nx hv s m Q E hn hl he hq
  refine wpAny_If (h f ρ _ hv s m _ E hn hl (H₀.keeps he) fun t h' tk' ht e' => ?_)
  simp only [asB] at ht
  cases t with
  | true => simp only [brD_t] at ht; simp only [if_true]; exact ha f ρ r _ ht _ m Q E (hn.keeps e') (hl.mono e'.seqs) (he.trans e') (hq.next e'.toL)
  | false => simp only [brD_f] at ht; simp only [Bool.false_eq_true, if_false]; exact hb f ρ r _ ht _ m Q E (hn.keeps e') (hl.mono e'.seqs) (he.trans e') (hq.next e'.toL)

theorem swapsWith_none {sc : List (Str × NameKind)} {TA : Addr} {n : Nat} {e : Expr} {c : CE} {t : Option Expr} {line : Nat} (hc : isComp e = false) (h : compE K TA sc vs n e = some c) : swapsWith e t line env = pure false := by
  cases n with
  | zero => simp [compE] at h
  | succ n => cases e <;> first | rfl | (simp [compE] at h; done) | (simp [isComp] at hc; done)
theorem swapsWith_tup {sc : List (Str × NameKind)} {TA : Addr} {n : Nat} {e : Expr} {c : CE} {ts : List Expr} {u : Nat} {p : Pos} {line : Nat} (h : compE K TA sc vs n e = some c) : swapsWith e (some (.Tuple ts u p)) line env = pure false := by
  cases n with
  | zero => simp [compE] at h
  | succ n => cases e <;> first | rfl | (simp [compE] at h; done)

theorem st_asg {e : Expr} {c : CE} {x : Str} {i : Nat} {xp pos : Pos} (C : Cx A env N) (H₀ : HK K h₀) (hx : idxOf vs x = some i) (hk : env.kindOf x = some .local) (h : EvV prog w K A env vs N e c) (hsw : swapsWith e (some (.Name x xp)) pos.line env = pure false) :
    StS prog w K A env vs N h₀ (.Assign [.Name x xp] e pos) (.asg i c) := by
  intro f ρ rest r nx hv s m Q E hn hl he hq
  rw [exec_Assign]
  refine wpAny_bind (wpAny_standAt ?_)
  show wpAny _ A (do if ← swapsWith e (some (.Name x xp)) pos.line env then _ else _) Q E s
  rw [hsw]
  refine wpAny_bind (wpAny_pure ?_)
  rw [if_neg (by decide)]
  refine wpAny_bind (h f ρ _ hv s m _ E hn hl (H₀.keeps he) fun d v h1 t1 hd e1 r1 => ?_)
  refine wpAny_bind (m := swappedStores [.Name x xp] e env) (wpAny_pure ?_)
  show wpAny _ A (do assignAll v [assign (.Name x xp) env]; pure .next) Q E _
  refine wpAny_bind (m := assignAll v [assign (.Name x xp) env]) ?_
  show wpAny _ A (assign (.Name x xp) env v) _ E _
  refine stores_name _ _ _ _ _ _ (store_one C.k hk (hn.keeps e1) fun h2 t2 hn2 e2 => wpAny_pure ?_)
  have r2 := r1.mono (e2.seqs (hn.keeps e1))
  exact hq.2 _ _ h2 t2 hd hn2 (((hl.mono e1.seqs).mono (e2.seqs (hn.keeps e1))).set hx r2) (e1.toL.trans e2)

theorem st_asg2 {e : Expr} {c : CE} {x y : Str} {i j : Nat} {xp yp pos : Pos} (C : Cx A env N) (H₀ : HK K h₀) (hx : idxOf vs x = some i) (hkx : env.kindOf x = some .local) (hy : idxOf vs y = some j) (hky : env.kindOf y = some .local) (h : EvV prog w K A env vs N e c) :
    StS prog w K A env vs N h₀ (.Assign [.Name x xp, .Name y yp] e pos) (.asg2 i j c) := by
  intro f ρ rest r nx hv s m Q E hn hl he hq
  rw [exec_Assign]
  refine wpAny_bind (wpAny_standAt ?_)
  refine wpAny_bind (m := swapsWithSole [.Name x xp, .Name y yp] e pos.line env) (wpAny_pure ?_)
  rw [if_neg (by decide)]
  refine wpAny_bind (h f ρ _ hv s m _ E hn hl (H₀.keeps he) fun d v h1 t1 hd e1 r1 => ?_)
  refine wpAny_bind (m := swappedStores [.Name x xp, .Name y yp] e env) (wpAny_pure ?_)
  show wpAny _ A (do assignAll v [assign (.Name x xp) env, assign (.Name y yp) env]; pure .next) Q E _
  refine wpAny_bind (m := assignAll v [assign (.Name x xp) env, assign (.Name y yp) env]) ?_
  show wpAny _ A (do holding [v] (assign (.Name x xp) env v); assignAll v [assign (.Name y yp) env]) _ E _
  refine wpAny_bind (wpAny_holding (stores_name _ _ _ _ _ _ (store_one C.k hkx (hn.keeps e1) fun h2 t2 hn2 e2 => ?_)))
  show wpAny _ A (assign (.Name y yp) env v) _ E _
  refine stores_name _ _ _ _ _ _ (store_one C.k hky hn2 fun h3 t3 hn3 e3 => wpAny_pure ?_)
  have s2 := e2.seqs (hn.keeps e1)
  have s3 := e3.seqs hn2
  have r2 := r1.mono s2
  exact hq.2 _ _ h3 t3 hd hn3 ((((((hl.mono e1.seqs).mono s2).set hx r2)).mono s3).set hy (r2.mono s3)) ((e1.toL.trans e2).trans e3)

theorem st_aug {e : Expr} {c : CE} {x : Str} {i : Nat} {op : Operator} {xp pos : Pos} (C : Cx A env N) (H₀ : HK K h₀) (hx : idxOf vs x = some i) (hk : env.kindOf x = some .local) (h : EvV prog w K A env vs N e c) :
    StS prog w K A env vs N h₀ (.AugAssign (.Name x xp) op e pos) (.aug i op c) := by
  intro f ρ rest r nx hv s m Q E hn hl he hq
  rw [arm_exec_AugAssign]
  change atD (getV ρ i) _ at hv
  cases eq : getV ρ i with
  | none => rw [eq] at hv; exact hv.elim
  | some d =>
    rw [eq] at hv
    obtain ⟨v, hv', rv⟩ := hl x i d hx eq
    refine wpAny_bind (wpAny_standAt (wpAny_bind (wpAny_loadName_local C.k hk hn hv' ?_)))
    refine wpAny_bind (wpAny_holding (h f ρ _ hv s m _ E hn hl (H₀.keeps he) fun y u h1 t1 hy e1 r1 => ?_))
    refine wpAny_bind (wpAny_standAt (wpAny_bind (wpAny_operate' (aug_sound hy (rv.mono e1.seqs) r1 fun z vz h2 t2 hz e2 r2 => ?_))))
    have e12 := e1.trans e2
    refine wpAny_bind (wpAny_standAt (wpAny_bind (wpAny_bindName (store_one C.k hk (hn.keeps e12) fun h3 t3 hn3 e3 => wpAny_pure ?_))))
    have s3 := e3.seqs (hn.keeps e12)
    exact hq.2 _ _ h3 t3 hz hn3 (((hl.mono e12.seqs).mono s3).set hx (r2.mono s3)) (e12.toL.trans e3)

theorem tgt_names {ts : List Expr} {is : List Nat} (h : All2 (fun t i => tgt vs t = some i) ts is) : ∃ xs, All2 (fun t x => ∃ q, t = .Name x q) ts xs ∧ All2 (fun x i => idxOf vs x = some i) xs is := by
  induction h with
  | nil => exact ⟨[], .nil, .nil⟩
  | @cons t i ts is h1 _ ih =>
    obtain ⟨xs, a, b⟩ := ih
    unfold tgt at h1
    split at h1
    · exact ⟨_, .cons ⟨_, rfl⟩ a, .cons h1 b⟩
    · cases h1
theorem names_uniq {ts : List Expr} {xs ys : List Str} (h : All2 (fun t x => ∃ q, t = Expr.Name x q) ts xs) (g : All2 (fun t x => ∃ q, t = Expr.Name x q) ts ys) : xs = ys := by
  induction h generalizing ys with
  | nil => cases g; rfl
  | cons h1 _ ih =>
    cases g with
    | cons g1 gr =>
      obtain ⟨q, rfl⟩ := h1
      obtain ⟨q', e⟩ := g1
      cases e
      rw [ih gr]
theorem All2.length_eq {α β : Type} {R : α → β → Prop} {l : List α} {r : List β} (h : All2 R l r) : l.length = r.length := by
  induction h with
  | nil => rfl
  | cons _ _ ih => simp [ih]
theorem All2.reverse {α β : Type} {R : α → β → Prop} {l : List α} {r : List β} (h : All2 R l r) : All2 R l.reverse r.reverse := by
  have app : ∀ {l l' : List α} {r r' : List β}, All2 R l r → All2 R l' r' → All2 R (l ++ l') (r ++ r') := by
    intro l l' r r' h g
    induction h with
    | nil => exact g
    | cons a _ ih => exact .cons a ih
  induction h with
  | nil => exact .nil
  | cons a _ ih =>
    rw [List.reverse_cons, List.reverse_cons]
    exact app ih (.cons a .nil)
theorem stores_targets {ts : List Expr} {xs : List Str} (h : All2 (fun t x => ∃ q, t = Expr.Name x q) ts xs) : All2 (Stores env) ((assignEach ts env).map (·.2)) xs ∧ (assignEach ts env).findIdx? (·.1) = none ∧ (assignEach ts env).length = ts.length := by
  induction h with
  | nil => exact ⟨.nil, rfl, rfl⟩
  | cons h1 _ ih =>
    obtain ⟨q, rfl⟩ := h1
    refine ⟨.cons stores_name ih.1, ?_, ?_⟩
    · show ((false, assign (.Name _ q) env) :: assignEach _ env).findIdx? (·.1) = none
      rw [List.findIdx?_cons]
      simp [ih.2.1]
    · show ((false, assign (.Name _ q) env) :: assignEach _ env).length = _
      simp [ih.2.2]
theorem stores_binds : ∀ (xs : List Str), All2 (Stores env) (xs.map fun n => bindName env n) xs
  | [] => .nil
  | _ :: xs => .cons stores_bind (stores_binds xs)

theorem st_asgT {e : Expr} {c : CE} {ts : List Expr} {is : List Nat} {u : Nat} {tp pos : Pos} (C : Cx A env N) (H₀ : HK K h₀) (hts : All2 (fun t i => tgt vs t = some i) ts is) (hk : ∀ x i, idxOf vs x = some i → env.kindOf x = some .local)
    (hnd : is.Nodup) (hac : allConst e = false) (h : EvV prog w K A env vs N e c) (hsw : swapsWith e (some (.Tuple ts u tp)) pos.line env = pure false) :
    StS prog w K A env vs N h₀ (.Assign [.Tuple ts u tp] e pos) (.asgT is c) := by
  intro f ρ rest r nx hv s m Q E hn hl he hq
  obtain ⟨xs, hxs, hxi⟩ := tgt_names hts
  have hxlen := hxi.length_eq
  have hmem : ∀ {xs : List Str} {is : List Nat}, All2 (fun x i => idxOf vs x = some i) xs is → ∀ x ∈ xs, ∃ i ∈ is, idxOf vs x = some i := by
    intro xs is h
    induction h with
    | nil => intro x hx; cases hx
    | cons q _ ih =>
      intro x hx
      rcases List.mem_cons.mp hx with rfl | hx
      · exact ⟨_, .head _, q⟩
      · obtain ⟨i, hi, e⟩ := ih x hx; exact ⟨i, .tail _ hi, e⟩
  have hxnd : xs.Nodup := by
    clear hxs hts hxlen hv
    induction hxi with
    | nil => exact .nil
    | @cons x i xs is q qr ih =>
      rw [List.nodup_cons] at hnd ⊢
      refine ⟨fun hx => ?_, ih hnd.2⟩
      obtain ⟨j, hj, e⟩ := hmem qr x hx
      rw [q] at e; cases e
      exact hnd.1 hj
  have hxk : ∀ x ∈ xs, env.kindOf x = some .local := fun x hx => by
    obtain ⟨i, _, e⟩ := hmem hxi x hx
    exact hk x i e
  rw [exec_Assign]
  refine wpAny_bind (wpAny_standAt ?_)
  show wpAny _ A (do if ← swapsWith e (some (.Tuple ts u tp)) pos.line env then _ else _) Q E s
  rw [hsw]
  refine wpAny_bind (wpAny_pure ?_)
  rw [if_neg (by decide)]
  refine wpAny_bind (h f ρ _ hv s m _ E hn hl (H₀.keeps he) fun d v h1 t1 hd e1 r1 => ?_)
  obtain ⟨sr, hsr, hcase⟩ := swapped_of (env := env) (ts := ts) (u := u) (p := tp) hac
  rw [hsr]
  refine wpAny_bind (wpAny_pure ?_)
  obtain ⟨ds, hds, hlen, hvc⟩ : ∃ ds, (d = .tuple ds ∨ d = .list ds) ∧ is.length = ds.length ∧ vcS (CallOK prog w K N) f (bindT is ds ρ) rest r nx := by
    change unpD is d ρ _ at hd
    unfold unpD at hd
    split at hd
    · exact ⟨_, .inl rfl, hd.1, hd.2⟩
    · exact ⟨_, .inr rfl, hd.1, hd.2⟩
    · exact hd.elim
  have htl := hxs.length_eq
  have fin : ∀ (us : List Value) (h2 : Heap) (m' : Str → Option Value) (h' : Heap) (tk' : Nat), Ext h1 h2 → RepAll h2 us ds → h'.Ns env.locals m' → (∀ (j : Nat) (x : Str) (u : Value), xs[j]? = some x → us[j]? = some u → m' x = some u) → (∀ y, y ∉ xs → m' y = m y) → ExtL env.locals h2 h' →
      Q .next { s with heap := h', toks := tk' } := by
    intro us h2 m' h' tk' e2 rus hn' ha hb e3
    have e12 := e1.trans e2
    have s3 := e3.seqs (hn.keeps e12)
    exact hq.2 _ m' h' tk' hvc hn' (((hl.mono e12.seqs).mono s3).many hxi hnd (rus.mono s3) hlen ha hb) (e12.toL.trans e3)
  rcases hcase with rfl | ⟨names, rfl, hnl, hnames⟩
  · show wpAny _ A (do assignAll v [assign (.Tuple ts u tp) env]; pure .next) Q E _
    refine wpAny_bind (m := assignAll v [assign (.Tuple ts u tp) env]) ?_
    show wpAny _ A (assign (.Tuple ts u tp) env v) _ E _
    rw [assign_Tuple]
    refine wpAny_bind (wpAny_standAt ?_)
    unfold unpack
    obtain ⟨st1, st2, st3⟩ := stores_targets (env := env) hxs
    rw [st2, st3]
    refine wpAny_bind (wpAny_holding (unpack_items (s := { s with heap := h1, toks := t1 }) C.h hds r1 (by omega) fun h2 us e2 rus => ?_))
    have hul := rus.length
    refine store_all C.k _ xs us st1 (by omega) hxnd hxk _ m _ E ((hn.keeps e1).keeps e2) fun m' h' tk' hn' ha hb e3 => wpAny_pure ?_
    exact fin us h2 m' h' tk' e2 rus hn' ha hb e3
  · have : names = xs := names_uniq hnames hxs
    subst this
    show wpAny _ A (do rule "assign.swapped-stores"; let items ← unpackItems v names.length none; assignInOrder (names.reverse.map fun n => bindName env n) items.reverse; pure .next) Q E _
    refine wpAny_bind (wpAny_rule (wpAny_bind (unpack_items (s := { s with heap := h1, toks := t1 }) C.h hds r1 (by omega) fun h2 us e2 rus => ?_)))
    have hul := rus.length
    have hxu : names.length = us.length := by omega
    refine wpAny_bind (store_all C.k _ names.reverse us.reverse (stores_binds _) (by simp [hxu]) (by unfold List.Nodup at hxnd ⊢; rw [List.pairwise_reverse]; exact hxnd.imp fun h => h.symm) (fun x hx => hxk x (List.mem_reverse.mp hx)) _ m _ E ((hn.keeps e1).keeps e2) fun m' h' tk' hn' ha hb e3 => wpAny_pure ?_)
    refine fin us h2 m' h' tk' e2 rus hn' ?_ (fun y hy => hb y fun q => hy (List.mem_reverse.mp q)) e3
    intro j x u' hj hu
    have hj1 := (List.getElem?_eq_some_iff.mp hj).1
    refine ha (names.length - 1 - j) x u' ?_ ?_
    · rw [List.getElem?_reverse (by omega)]
      rw [show names.length - 1 - (names.length - 1 - j) = j by omega]; exact hj
    · rw [List.getElem?_reverse (by omega)]
      rw [show us.length - 1 - (names.length - 1 - j) = j by omega]; exact hu
end
end Mine
/-! part A12 -/
namespace Mine
open PySem PySem.W PyProof.Rows PySem.Calls
set_option maxRecDepth 100000
section
variable {prog : Program} {w : World} {K : Frag} {TA : Addr} {A : Around} {env : Env} {vs : List Str} {N : Nat} {h₀ : Heap}

theorem Seqs.but {h h' : Heap} {X : Addr} {o : Obj} (x : Heap.SameBut X h h') (ho : h.get? X = some o) (hc : ∀ vs n, o.data ≠ .seq vs n) : Seqs h h' := by
  intro b o' vs n e q
  by_cases hb : b = X
  · subst hb; rw [ho] at e; cases e; exact absurd q (hc vs n)
  · exact (x.2 b hb).trans e

theorem st_loop {e : Expr} {c : CE} {x : Str} {i : Nat} {body : List Stmt} {cb : List CS} {xp pos : Pos} (C : Cx A env N) (H₀ : HK K h₀) (hL : h₀.get? env.locals = none) (hx : idxOf vs x = some i) (hk : env.kindOf x = some .local) (h : EvV prog w K A env vs N e c)
    (hb : StV prog w K A env vs N h₀ body cb) (hs : ∀ x, foldedSetIterable e env x = pure x) : StS prog w K A env vs N h₀ (.For (.Name x xp) e body [] pos) (.loop i c cb) := by
  intro f ρ rest r nx hv s m Q E hn hl he hq
  refine wpAny_For (h f ρ _ hv s m _ E hn hl (H₀.keeps he) fun d v h1 t1 hd e1 r1 => ?_) hs
  change forD _ i d ρ _ at hd
  unfold forD at hd
  split at hd
  rotate_left
  · exact hd.elim
  rename_i ds
  obtain ⟨_, hd⟩ := hd
  obtain ⟨ax, rfl⟩ : ∃ ax, v = .ref ax := by cases r1; exact ⟨_, rfl⟩
  obtain ⟨us, hT, rus⟩ := r1.isList
  have lus := rus.length
  rw [Array.length_toList] at lus
  have hn1 := hn.keeps e1
  refine wpAny_pyIter_list hT ?_
  have new : ∀ b o, h1.get? b = some o → b ≠ h1.objs.size := fun b o e => Nat.ne_of_lt (Heap.lt_size e)
  have hLI : env.locals ≠ h1.objs.size := by obtain ⟨o, _, _, ho, _⟩ := hn1; exact new _ _ ho
  have haI : ax ≠ h1.objs.size := by obtain ⟨o, ho, _⟩ := hT; exact new _ _ ho
  have haL : ax ≠ env.locals := by
    rintro rfl
    obtain ⟨o, ho, _, n, hd⟩ := hT
    obtain ⟨o', _, _, ho', hd', _⟩ := hn1
    rw [ho] at ho'; cases ho'
    rw [hd] at hd'; cases hd'
  refine codeAny_forLoop
    (fun j s' => ∃ h' tk m' k ρ', s' = { s with heap := h', toks := tk } ∧ h'.IsListIter h1.objs.size ax k ∧ h'.Ns env.locals m' ∧ Loc vs m' ρ' h' ∧
      loopD (fun ρ' k => vcS (CallOK prog w K N) f ρ' cb r k) i (ds.drop k) ρ' (fun ρ' => vcS (CallOK prog w K N) f ρ' rest r nx) ∧ k ≤ ds.length ∧ j = ds.length + 1 - k ∧ ExtL env.locals h1 h') ?_ (ds.length + 1)
    ⟨_, t1, m, 0, ρ, rfl, ⟨_, Heap.get?_push_size _ rfl, rfl, rfl⟩, hn1.push _, (hl.mono e1.seqs).mono (Ext.push _ _).seqs, hd, Nat.zero_le _, rfl, (Ext.push _ _).toL⟩
  rintro j s' ⟨h2, tk, m', k, ρ', rfl, hit, hn2, hl2, hlp, hk2, rfl, x2⟩
  have hT2 : h2.IsList ax us := hT.at fun o e => x2 ax o haL e
  obtain ⟨oI, hoI, hcI, hdI⟩ := id hit
  by_cases hlt : k < ds.length
  · obtain ⟨d, hdk⟩ : ∃ d, ds[k]? = some d := ⟨ds[k]'hlt, by simp⟩
    obtain ⟨v, hv', rv⟩ := rus.get hdk
    rw [Array.getElem?_toList] at hv'
    have hdrop : ds.drop k = d :: ds.drop (k + 1) := by
      rw [List.drop_eq_getElem_cons hlt]
      congr 1
      rw [List.getElem?_eq_getElem hlt] at hdk
      exact Option.some.inj hdk
    rw [hdrop] at hlp
    refine wpAny_pyNext_list_item hit hT2 hv' fun h3 hit3 hs3 => ?_
    have x3 : ExtL env.locals h1 h3 := fun b o n e => hs3.extBut b o (new b o e) (x2 b o n e)
    have hn3 := hn2.sameBut hs3 hLI
    have s3 : Seqs h2 h3 := Seqs.but hs3 hoI (fun vs n q => by rw [hdI] at q; cases q)
    refine wpAny_assign_Name (store_one C.k hk hn3 fun h4 t4 hn4 e4 => ?_)
    have s4 := e4.seqs hn3
    have x4 := x3.trans e4
    have hext : Ext h₀ h4 := (x4.ext (he.trans e1) hL)
    have rv4 : Rep h4 v d := rv.mono (x4.seqs hn1)
    refine hb f ((i, d) :: ρ') r _ hlp _ _ _ _ hn4 (((hl2.mono s3).mono s4).set hx rv4) hext ⟨fun d' v' h5 t5 hr5 e5 r5 => ?_, fun ρ5 m5 h5 t5 hlp5 hn5 hl5 e5 => ?_⟩
    · exact hq.1 d' v' h5 t5 hr5 ((e1.toL.trans x4).trans e5) r5
    · refine ⟨ds.length + 1 - (k + 1), by omega, h5, t5, m5, k + 1, ρ5, rfl, ?_, hn5, hl5, hlp5, hlt, rfl, x4.trans e5⟩
      obtain ⟨o3, ho3, q3⟩ := hit3
      exact ⟨o3, e5 _ _ hLI.symm (e4 _ _ hLI.symm ho3), q3⟩
  · have hk3 : k = ds.length := by omega
    subst hk3
    rw [List.drop_length] at hlp
    refine wpAny_pyNext_list_end C.h hit hT2 (by simp; omega) fun h3 he3 => wpAny_execs_nil ?_
    have s3 : Seqs h2 h3 := by
      intro b o vs n e q
      refine he3 b o ?_ e
      rintro rfl
      rw [hoI] at e; cases e
      rw [hdI] at q; cases q
    exact hq.2 ρ' m' h3 tk hlp (hn2.extBut he3 hLI) (hl2.mono s3) (e1.toL.trans fun b o n e => he3 b o (new b o e) (x2 b o n e))

theorem folded_none {sc : List (Str × NameKind)} {n : Nat} {e : Expr} {c : CE} (h : compE K TA sc vs n e = some c) : ∀ x, foldedSetIterable e env x = pure x := by
  intro x
  cases n with
  | zero => simp [compE] at h
  | succ n => cases e <;> first | rfl | (simp [compE] at h; done)

theorem compS_sound (hlit : ∀ es n, K.lookup TA = some ⟨.type "dict", none, .dict es n, #[]⟩ → KeysLit w.params es.toList) (C : Cx A env N) (H₀ : HK K h₀) (hL : h₀.get? env.locals = none) (hk : ∀ x i, idxOf vs x = some i → env.kindOf x = some .local) :
    ∀ (n : Nat) (s : Stmt) (c : CS), compS K TA env.scope.names vs n s = some c → StS prog w K A env vs N h₀ s c := by
  have ev : ∀ {n : Nat} {e : Expr} {c : CE}, compE K TA env.scope.names vs n e = some c → EvV prog w K A env vs N e c := fun h => (comp_sound hlit C _ _ _ h).1
  have et : ∀ {n : Nat} {e : Expr} {c : CE}, compE K TA env.scope.names vs n e = some c → EvT prog w K A env vs N e c := fun h => (comp_sound hlit C _ _ _ h).2
  intro n
  induction n with
  | zero => intro s c h; simp [compS] at h
  | succ n ih =>
    have many : ∀ {l : List Stmt} {cs : List CS}, l.mapM (compS K TA env.scope.names vs n) = some cs → StV prog w K A env vs N h₀ l cs := fun h => stv_of hL ((mapM_some h).imp fun a b q => ih a b q)
    intro s c h
    unfold compS at h
    split at h
    · split at h
      · cases h
      · rename_i hc
        simp only [Option.bind_eq_some_iff, Option.map_eq_some_iff] at h
        obtain ⟨i, h1, d, h2, rfl⟩ := h
        exact st_asg C H₀ h1 (hk _ _ h1) (ev h2) (swapsWith_none (by simpa using hc) h2)
    · split at h
      · cases h
      · rename_i hc
        simp only [Option.bind_eq_some_iff] at h
        obtain ⟨is, h1, h2⟩ := h
        split at h2
        · rename_i hnd
          simp only [Option.map_eq_some_iff] at h2
          obtain ⟨d, h3, rfl⟩ := h2
          exact st_asgT C H₀ (mapM_some h1) hk (nodupB_of hnd) (by simpa using hc) (ev h3) (swapsWith_tup h3)
        · cases h2
    · simp only [Option.bind_eq_some_iff, Option.map_eq_some_iff] at h
      obtain ⟨i, h1, j, h2, d, h3, rfl⟩ := h
      exact st_asg2 C H₀ h1 (hk _ _ h1) h2 (hk _ _ h2) (ev h3)
    · simp only [Option.bind_eq_some_iff, Option.map_eq_some_iff] at h
      obtain ⟨i, h1, d, h2, rfl⟩ := h
      exact st_aug C H₀ h1 (hk _ _ h1) (ev h2)
    · simp only [Option.bind_eq_some_iff, Option.map_eq_some_iff] at h
      obtain ⟨d, h1, a, h2, b, h3, rfl⟩ := h
      exact st_ite H₀ (et h1) (many h2) (many h3)
    · split at h
      · rename_i q
        cases h
        exact st_ret H₀ (ev q)
      · cases h; exact st_stop
    · simp only [Option.map_eq_some_iff] at h
      obtain ⟨d, h1, rfl⟩ := h
      exact st_asrt H₀ (et h1)
    · cases h; exact st_stop
    · simp only [Option.bind_eq_some_iff, Option.map_eq_some_iff] at h
      obtain ⟨i, h1, d, h2, b, h3, rfl⟩ := h
      exact st_loop C H₀ hL h1 (hk _ _ h1) (ev h2) (many h3) (folded_none h2)
    · cases h
end

/-! entering a def -/
def bindE (K : Frag) (S : Setting) (f : Addr) (us : List Value) : Option (List (Str × Value)) := match K.lookup f with
  | some ⟨_, _, .func fd, _⟩ => peek K S (bindArgs fd ⟨us, []⟩)
  | _ => none
def dfltOf (K : Frag) (f : Addr) (k : Nat) : List Value := match K.lookup f with
  | some ⟨_, _, .func fd, _⟩ => (match fd.defaults with
    | .ref T => (match K.lookup T with
      | some ⟨_, _, .seq items _, _⟩ => items.toList.drop (items.toList.length - k)
      | _ => [])
    | _ => [])
  | _ => []
def namesOk (vs : List Str) (sc : List (Str × NameKind)) : Nat → List Str → Bool
  | _, [] => true
  | n, x :: r => decide (idxOf vs x = some n) && decide (sc.lookup x = some .local) && namesOk vs sc (n + 1) r
def allLocal (sc : List (Str × NameKind)) : List Str → Bool
  | [] => true
  | x :: r => decide (sc.lookup x = some .local) && allLocal sc r
def noCell : List (Str × NameKind) → Bool
  | [] => true
  | p :: r => (match p.2 with | .cell => false | _ => true) && noCell r
def okFn (K : Frag) (f : Addr) (names : List Str) : Bool := match K.lookup f with
  | some ⟨_, _, .func fd, _⟩ => (match fd.scope.kind with | .function => true | _ => false) && !fd.scope.isCoroutine && !fd.scope.isGenerator && noCell fd.scope.names && Nat.beq fd.globals mainGlobals && Nat.beq fd.builtins builtinsNs && fd.closure.isEmpty &&
      codeIn K fd.code fd.qualname && namesOk (localsOf fd.scope.names) fd.scope.names 0 names && allLocal fd.scope.names (localsOf fd.scope.names)
  | _ => false

theorem noCell_of : ∀ {l : List (Str × NameKind)}, noCell l = true → ∀ x ∈ l, x.2 ≠ .cell
  | [], _, _, h => nomatch h
  | p :: r, h, x, hx => by
    simp only [noCell, Bool.and_eq_true] at h
    rcases List.mem_cons.mp hx with rfl | hx
    · intro e; rw [e] at h; simp at h
    · exact noCell_of h.2 x hx
theorem allLocal_of {sc : List (Str × NameKind)} : ∀ {l : List Str}, allLocal sc l = true → ∀ x ∈ l, sc.lookup x = some .local
  | [], _, _, h => nomatch h
  | p :: r, h, x, hx => by
    simp only [allLocal, Bool.and_eq_true, decide_eq_true_eq] at h
    rcases List.mem_cons.mp hx with rfl | hx
    · exact h.1
    · exact allLocal_of h.2 x hx
theorem namesOk_of {vs : List Str} {sc : List (Str × NameKind)} : ∀ {l : List Str} {n : Nat}, namesOk vs sc n l = true → All2 (fun x i => idxOf vs x = some i) l (List.range' n l.length) ∧ ∀ x ∈ l, sc.lookup x = some .local
  | [], _, _ => ⟨.nil, fun _ h => nomatch h⟩
  | x :: r, n, h => by
    simp only [namesOk, Bool.and_eq_true, decide_eq_true_eq] at h
    obtain ⟨a, b⟩ := namesOk_of h.2
    refine ⟨?_, fun y hy => ?_⟩
    · rw [List.length_cons, List.range'_succ]
      exact .cons h.1.1 a
    · rcases List.mem_cons.mp hy with rfl | hy
      · exact h.1.2
      · exact b y hy
theorem kind_of {k : ScopeKind} (h : (match k with | .function => true | _ => false) = true) : k = .function := by cases k <;> simp_all

theorem lookup_zip : ∀ {xs : List Str} {us : List Value}, xs.Nodup → ∀ (j : Nat) (x : Str) (u : Value), xs[j]? = some x → us[j]? = some u → (xs.zip us).reverse.lookup x = some u := by
  intro xs
  induction xs with
  | nil => intro us _ j x u h; simp at h
  | cons y xs ih =>
    intro us hnd j x u hx hu
    rw [List.nodup_cons] at hnd
    cases us with
    | nil => simp at hu
    | cons v us =>
      rw [List.zip_cons_cons, List.reverse_cons, List.lookup_append]
      cases j with
      | zero =>
        simp at hx hu
        subst hx hu
        have : (xs.zip us).reverse.lookup y = none := by
          rw [List.lookup_eq_none_iff]
          intro p hp
          rw [List.mem_reverse] at hp
          have := List.of_mem_zip hp
          have hne : y ≠ p.1 := fun q => hnd.1 (by rw [q]; exact this.1)
          simpa using hne
        rw [this]; simp
      | succ j =>
        rw [ih hnd.2 j x u (by simpa using hx) (by simpa using hu)]; rfl

theorem mapM_kD {K : Frag} {h : Heap} (X : K.In h) : ∀ {bs : List Value} {dds : List PyData}, bs.mapM (kD K 4) = some dds → RepAll h bs dds := by
  intro bs dds e
  have := mapM_some e
  clear e
  induction this with
  | nil => exact .nil
  | cons h _ ih => exact .cons (kD_rep X 4 h) ih

theorem getElem?_range' : ∀ (n s i : Nat), i < n → (List.range' s n)[i]? = some (s + i) := by
  intro n s i h
  simp [h]

theorem enter {prog : Program} {w : World} {K : Frag} {TA : Addr} {N fuel : Nat} {f : Addr} {names : List Str} {dds : List PyData} {cs : List CS} {ds : List PyData} {r : PyData → Prop}
    (hlit : ∀ es n, K.lookup TA = some ⟨.type "dict", none, .dict es n, #[]⟩ → KeysLit w.params es.toList)
    (hc : compF K TA f = some cs) (hok : okFn K f names = true) (hb : ∀ (S : Setting) (us : List Value), us.length = ds.length → bindE K S f us = some (names.zip (us ++ dfltOf K f dds.length))) (hdd : (dfltOf K f dds.length).mapM (kD K 4) = some dds) (hlen : ds.length + dds.length = names.length)
    (hv : vcS (CallOK prog w K N) fuel (bindT (List.range' 0 names.length) (ds ++ dds) []) cs r (fun _ => False)) : CallOK prog w K (N + 1) f ds r := by
  intro A s us Q E hA hd hu H rus hq
  unfold compF at hc
  split at hc
  rotate_left
  · cases hc
  rename_i oc od fd osl ho
  split at hc
  rotate_left
  · cases hc
  rename_i body hbody
  unfold okFn at hok
  rw [ho] at hok
  simp only [Bool.and_eq_true, Bool.not_eq_true', List.isEmpty_iff] at hok
  obtain ⟨⟨⟨⟨⟨⟨⟨⟨⟨k1, k2⟩, k3⟩, k4⟩, k5⟩, k6⟩, k7⟩, k8⟩, k9⟩, k10⟩ := hok
  have hk := kind_of k1
  have hg := Nat.eq_of_beq_eq_true k5
  have hbn := Nat.eq_of_beq_eq_true k6
  obtain ⟨n1, n2⟩ := namesOk_of k9
  have len := rus.length
  have rdd := mapM_kD H.k hdd
  have ldd := rdd.length
  have hbind : BindsTo s fd ⟨us, []⟩ (names.zip (us ++ dfltOf K f dds.length)) := by
    intro M A' E' Q' q
    have hp := hb ⟨M.prog, M.w.params⟩ us len
    unfold bindE at hp
    rw [ho] at hp
    exact (Looks.of_peek H.k hp).here q
  have hvals : (us ++ dfltOf K f dds.length).length = names.length := by rw [List.length_append]; omega
  have hnd : names.Nodup := by
    have nd : (List.range' 0 names.length).Nodup := List.nodup_range'
    clear hb hbind hvals hv hlen k9 n2
    generalize List.range' 0 names.length = is at n1 nd
    induction n1 with
    | nil => exact .nil
    | @cons x i xs is q qr ih =>
      rw [List.nodup_cons] at nd ⊢
      refine ⟨fun hx => ?_, ih nd.2⟩
      have : ∀ {xs : List Str} {is : List Nat}, All2 (fun x i => idxOf (localsOf fd.scope.names) x = some i) xs is → x ∈ xs → i ∈ is := by
        intro xs is h
        induction h with
        | nil => intro h; cases h
        | cons q' _ ih' =>
          intro h
          rcases List.mem_cons.mp h with rfl | h
          · rw [q] at q'; cases q'; exact .head _
          · exact .tail _ (ih' h)
      exact nd.1 (this qr hx)
  refine wpAny_call (codeAny_call_def (by omega) (H.k _ _ ho) rfl H.lim (codeRec_of H.k k8) hbody hbind (noCell_of k4) ?_ (fun h₁ hns he => ?_) k2 k3 hk)
  · intro x hx
    obtain ⟨a, b⟩ := x
    exact n2 a (List.of_mem_zip hx).1
  · have henv : (callEnv fd s.heap.objs.size f).scope = fd.scope := rfl
    have C : Cx (A.deeper (callEnv fd s.heap.objs.size f)) (callEnv fd s.heap.objs.size f) N := by
      refine ⟨hA, ?_, ?_, ?_, ?_, hk, ?_⟩
      · show A.depth + 1 + N < recursionLimit; omega
      · show A.units + 3 + 8 * N + 200 < cLine; omega
      · exact hg
      · exact hbn
      · show fd.closure = []; exact k7
    have hL : s.heap.get? s.heap.objs.size = none := by
      cases e : s.heap.get? s.heap.objs.size with
      | none => rfl
      | some o => exact absurd (Heap.lt_size e) (Nat.lt_irrefl _)
    have many : All2 (StS prog w K (A.deeper (callEnv fd s.heap.objs.size f)) (callEnv fd s.heap.objs.size f) (localsOf fd.scope.names) N s.heap) body cs :=
      (mapM_some hc).imp fun a b q => compS_sound hlit C H hL (fun x i hx => allLocal_of k10 x (List.mem_of_getElem? (idxOf_at hx))) 40 a b q
    have st := stv_of (by exact hL) many
    have eH : Ext s.heap h₁ := he
    have l0 : Loc (localsOf fd.scope.names) (fun x => (names.zip (us ++ dfltOf K f dds.length)).reverse.lookup x) [] h₁ := fun x i d _ h => by simp [getV] at h
    have loc := l0.many n1 List.nodup_range' ((rus.append rdd).mono eH.seqs) (by simp; omega) (fun j x u hx hu => lookup_zip hnd j x u hx hu) (fun y _ => rfl)
    refine st fuel _ r _ hv _ _ _ _ hns loc eH ⟨fun d v h' tk' hr e' r' => ?_, fun _ _ _ _ h => h.elim⟩
    refine hq d v h' tk' hr (fun b o e => e' b o ?_ (he b o e)) r'
    exact Nat.ne_of_lt (Heap.lt_size e)

/-- the same, closed to the eye of `whnf` -/
@[irreducible] def Calls (prog : Program) (w : World) (K : Frag) (N : Nat) : Gam := CallOK prog w K N
theorem calls_eq {prog : Program} {w : World} {K : Frag} {N : Nat} : Calls prog w K N = CallOK prog w K N := by unfold Calls; rfl
theorem Calls.mono {prog : Program} {w : World} {K : Frag} {n : Nat} {f : Addr} {ds : List PyData} {k k' : PyData → Prop} (x : Calls prog w K n f ds k) (h : ∀ d, k d → k' d) : Calls prog w K n f ds k' := by
  rw [calls_eq] at x ⊢; exact x.mono h
end Mine
/-! part B1 -/
namespace Mine
open PySem PySem.W PyProof.Rows
set_option maxRecDepth 100000
/-! the bodies in the small language (printed by a program of mine: P1) -/
def c_trailing : List CS := [(.ite (.not (.var 0)) [(.ret (.lit (.int 0)))] []), (.ret (.bin .Sub (.bits (.bin .BitAnd (.var 0) (.neg (.var 0)))) (.lit (.int 1))))]
def c_u_normalize : List CS := [(.ite (.not (.var 1)) [(.ret (.lit (.tuple [(.int 0), (.int 0), (.int 0), (.int 0)])))] []), (.asg 6 (.bin .Sub (.var 3) (.var 4))), (.ite (.cmp .Gt (.var 6) (.lit (.int 0))) [(.ite (.cmp .Eq (.var 5) (.lit (.str ⟨#[110]⟩))) [(.asg 7 (.bin .RShift (.var 1) (.bin .Sub (.var 6) (.lit (.int 1))))), (.ite (.and (.bin .BitAnd (.var 7) (.lit (.int 1))) (.or (.bin .BitAnd (.var 7) (.lit (.int 2))) (.bin .BitAnd (.var 1) (.bin .Sub (.bin .LShift (.lit (.int 1)) (.bin .Sub (.var 6) (.lit (.int 1)))) (.lit (.int 1)))))) [(.asg 1 (.bin .Add (.bin .RShift (.var 7) (.lit (.int 1))) (.lit (.int 1))))] [(.asg 1 (.bin .RShift (.var 7) (.lit (.int 1))))])] [(.ite (.idx (.tab 26 (.var 5) [(⟨#[102]⟩, (.tuple [(.int 1), (.int 0)])), (⟨#[99]⟩, (.tuple [(.int 0), (.int 1)])), (⟨#[100]⟩, (.tuple [(.int 1), (.int 1)])), (⟨#[117]⟩, (.tuple [(.int 0), (.int 0)]))]) (.var 0)) [(.aug 1 .RShift (.var 6))] [(.asg 1 (.neg (.bin .RShift (.neg (.var 1)) (.var 6))))])]), (.aug 2 .Add (.var 6)), (.asg 3 (.var 4))] []), (.ite (.not (.bin .BitAnd (.var 1) (.lit (.int 1)))) [(.asg 7 (.call 21 [(.var 1)])), (.aug 1 .RShift (.var 7)), (.aug 2 .Add (.var 7)), (.aug 3 .Sub (.var 7))] []), (.ite (.cmp .Eq (.var 1) (.lit (.int 1))) [(.asg 3 (.lit (.int 1)))] []), (.ret (.tup [(.var 0), (.var 1), (.var 2), (.var 3)]))]
def c_normalize : List CS := [(.asrt (.cmp .Eq (.var 3) (.bits (.var 1)))), (.asrt (.cmp .GtE (.var 1) (.lit (.int 0)))), (.ret (.call 37 [(.var 0), (.var 1), (.var 2), (.var 3), (.var 4), (.var 5)]))]
def c_mpf_cmp : List CS := [(.asgT [2, 3, 4, 5] (.var 0)), (.asgT [6, 7, 8, 9] (.var 1)), (.ite (.or (.not (.var 3)) (.not (.var 7))) [(.ite (.cmp .Eq (.var 0) (.lit (.tuple [(.int 0), (.int 0), (.int 0), (.int 0)]))) [(.ret (.neg (.call 95 [(.var 1)])))] []), (.ite (.cmp .Eq (.var 1) (.lit (.tuple [(.int 0), (.int 0), (.int 0), (.int 0)]))) [(.ret (.call 95 [(.var 0)]))] []), (.ite (.cmp .Eq (.var 0) (.var 1)) [(.ret (.lit (.int 0)))] []), (.ite (.cmp .Eq (.var 1) (.lit (.tuple [(.int 0), (.int 0), (.int (-123)), (.int (-1))]))) [(.ret (.lit (.int 1)))] []), (.ite (.cmp .Eq (.var 0) (.lit (.tuple [(.int 0), (.int 0), (.int (-456)), (.int (-2))]))) [(.ret (.lit (.int 1)))] []), (.ite (.cmp .Eq (.var 1) (.lit (.tuple [(.int 1), (.int 0), (.int (-789)), (.int (-3))]))) [(.ret (.lit (.int 1)))] []), (.ret (.neg (.lit (.int 1))))] []), (.ite (.cmp .NotEq (.var 2) (.var 6)) [(.ite (.not (.var 2)) [(.ret (.lit (.int 1)))] []), (.ret (.neg (.lit (.int 1))))] []), (.ite (.cmp .Eq (.var 4) (.var 8)) [(.ite (.cmp .Eq (.var 3) (.var 7)) [(.ret (.lit (.int 0)))] []), (.ite (.cmp .Gt (.var 3) (.var 7)) [(.ite (.var 2) [(.ret (.neg (.lit (.int 1))))] [(.ret (.lit (.int 1)))])] [(.ite (.var 2) [(.ret (.lit (.int 1)))] [(.ret (.neg (.lit (.int 1))))])])] []), (.asg 10 (.bin .Add (.var 5) (.var 4))), (.asg 11 (.bin .Add (.var 9) (.var 8))), (.ite (.var 2) [(.ite (.cmp .Lt (.var 10) (.var 11)) [(.ret (.lit (.int 1)))] []), (.ite (.cmp .Gt (.var 10) (.var 11)) [(.ret (.neg (.lit (.int 1))))] [])] [(.ite (.cmp .Lt (.var 10) (.var 11)) [(.ret (.neg (.lit (.int 1))))] []), (.ite (.cmp .Gt (.var 10) (.var 11)) [(.ret (.lit (.int 1)))] [])]), (.asg 12 (.call 111 [(.var 0), (.var 1), (.lit (.int 5)), (.lit (.str ⟨#[102]⟩))])), (.ite (.idx (.var 12) (.lit (.int 0))) [(.ret (.neg (.lit (.int 1))))] []), (.ret (.lit (.int 1)))]
def c_mpf_lt : List CS := [(.ite (.or (.cmp .Eq (.var 0) (.lit (.tuple [(.int 0), (.int 0), (.int (-123)), (.int (-1))]))) (.cmp .Eq (.var 1) (.lit (.tuple [(.int 0), (.int 0), (.int (-123)), (.int (-1))])))) [(.ret (.lit (.bool false)))] []), (.ret (.cmp .Lt (.call 51 [(.var 0), (.var 1)]) (.lit (.int 0))))]
def c_mpf_gt : List CS := [(.ite (.or (.cmp .Eq (.var 0) (.lit (.tuple [(.int 0), (.int 0), (.int (-123)), (.int (-1))]))) (.cmp .Eq (.var 1) (.lit (.tuple [(.int 0), (.int 0), (.int (-123)), (.int (-1))])))) [(.ret (.lit (.bool false)))] []), (.ret (.cmp .Gt (.call 51 [(.var 0), (.var 1)]) (.lit (.int 0))))]
def c_mpf_min_max : List CS := [(.asg2 1 2 (.idx (.var 0) (.lit (.int 0)))), (.loop 3 (.tail (.var 0)) [(.ite (.call 58 [(.var 3), (.var 1)]) [(.asg 1 (.var 3))] []), (.ite (.call 65 [(.var 3), (.var 2)]) [(.asg 2 (.var 3))] [])]), (.ret (.tup [(.var 1), (.var 2)]))]
def c_mpf_pos : List CS := [(.ite (.var 1) [(.asgT [3, 4, 5, 6] (.var 0)), (.ite (.and (.not (.var 4)) (.var 5)) [(.ret (.var 0))] []), (.ret (.call 44 [(.var 3), (.var 4), (.var 5), (.var 6), (.var 1), (.var 2)]))] []), (.ret (.var 0))]
def c_mpf_neg : List CS := [(.asgT [3, 4, 5, 6] (.var 0)), (.ite (.not (.var 4)) [(.ite (.var 5) [(.ite (.cmp .Eq (.var 0) (.lit (.tuple [(.int 0), (.int 0), (.int (-456)), (.int (-2))]))) [(.ret (.lit (.tuple [(.int 1), (.int 0), (.int (-789)), (.int (-3))])))] []), (.ite (.cmp .Eq (.var 0) (.lit (.tuple [(.int 1), (.int 0), (.int (-789)), (.int (-3))]))) [(.ret (.lit (.tuple [(.int 0), (.int 0), (.int (-456)), (.int (-2))])))] [])] []), (.ret (.var 0))] []), (.ite (.not (.var 1)) [(.ret (.tup [(.bin .Sub (.lit (.int 1)) (.var 3)), (.var 4), (.var 5), (.var 6)]))] []), (.ret (.call 44 [(.bin .Sub (.lit (.int 1)) (.var 3)), (.var 4), (.var 5), (.var 6), (.var 1), (.var 2)]))]
def c_mpf_sign : List CS := [(.asgT [1, 2, 3, 4] (.var 0)), (.ite (.not (.var 2)) [(.ite (.cmp .Eq (.var 0) (.lit (.tuple [(.int 0), (.int 0), (.int (-456)), (.int (-2))]))) [(.ret (.lit (.int 1)))] []), (.ite (.cmp .Eq (.var 0) (.lit (.tuple [(.int 1), (.int 0), (.int (-789)), (.int (-3))]))) [(.ret (.neg (.lit (.int 1))))] []), (.ret (.lit (.int 0)))] []), (.ret (.bin .Pow (.neg (.lit (.int 1))) (.var 1)))]
def c_mpf_add : List CS := [(.asgT [5, 6, 7, 8] (.var 0)), (.asgT [9, 10, 11, 12] (.var 1)), (.aug 9 .BitXor (.var 4)), (.ite (.and (.var 6) (.var 10)) [(.asg 13 (.bin .Sub (.var 7) (.var 11))), (.ite (.var 13) [(.ite (.cmp .Gt (.var 13) (.lit (.int 0))) [(.ite (.and (.cmp .Gt (.var 13) (.lit (.int 100))) (.var 2)) [(.asg 14 (.bin .Sub (.bin .Sub (.bin .Add (.var 8) (.var 7)) (.var 12)) (.var 11))), (.ite (.cmp .Gt (.var 14) (.bin .Add (.var 2) (.lit (.int 4)))) [(.asg 13 (.bin .Add (.var 2) (.lit (.int 4)))), (.aug 6 .LShift (.var 13)), (.ite (.cmp .Eq (.var 9) (.var 5)) [(.aug 6 .Add (.lit (.int 1)))] [(.aug 6 .Sub (.lit (.int 1)))]), (.ret (.call 44 [(.var 5), (.var 6), (.bin .Sub (.var 7) (.var 13)), (.bits (.var 6)), (.var 2), (.var 3)]))] [])] []), (.ite (.cmp .Eq (.var 5) (.var 9)) [(.asg 15 (.bin .Add (.var 10) (.bin .LShift (.var 6) (.var 13))))] [(.ite (.var 5) [(.asg 15 (.bin .Sub (.var 10) (.bin .LShift (.var 6) (.var 13))))] [(.asg 15 (.bin .Sub (.bin .LShift (.var 6) (.var 13)) (.var 10)))]), (.ite (.cmp .GtE (.var 15) (.lit (.int 0))) [(.asg 5 (.lit (.int 0)))] [(.asg 15 (.neg (.var 15))), (.asg 5 (.lit (.int 1)))])]), (.asg 16 (.bits (.var 15))), (.ret (.call 44 [(.var 5), (.var 15), (.var 11), (.var 16), (.or (.var 2) (.var 16)), (.var 3)]))] [(.ite (.cmp .Lt (.var 13) (.lit (.int 0))) [(.ite (.and (.cmp .Lt (.var 13) (.neg (.lit (.int 100)))) (.var 2)) [(.asg 14 (.bin .Sub (.bin .Sub (.bin .Add (.var 12) (.var 11)) (.var 8)) (.var 7))), (.ite (.cmp .Gt (.var 14) (.bin .Add (.var 2) (.lit (.int 4)))) [(.asg 13 (.bin .Add (.var 2) (.lit (.int 4)))), (.aug 10 .LShift (.var 13)), (.ite (.cmp .Eq (.var 5) (.var 9)) [(.aug 10 .Add (.lit (.int 1)))] [(.aug 10 .Sub (.lit (.int 1)))]), (.ret (.call 44 [(.var 9), (.var 10), (.bin .Sub (.var 11) (.var 13)), (.bits (.var 10)), (.var 2), (.var 3)]))] [])] []), (.ite (.cmp .Eq (.var 5) (.var 9)) [(.asg 15 (.bin .Add (.var 6) (.bin .LShift (.var 10) (.neg (.var 13)))))] [(.ite (.var 9) [(.asg 15 (.bin .Sub (.var 6) (.bin .LShift (.var 10) (.neg (.var 13)))))] [(.asg 15 (.bin .Sub (.bin .LShift (.var 10) (.neg (.var 13))) (.var 6)))]), (.ite (.cmp .GtE (.var 15) (.lit (.int 0))) [(.asg 5 (.lit (.int 0)))] [(.asg 15 (.neg (.var 15))), (.asg 5 (.lit (.int 1)))])]), (.asg 16 (.bits (.var 15))), (.ret (.call 44 [(.var 5), (.var 15), (.var 7), (.var 16), (.or (.var 2) (.var 16)), (.var 3)]))] [])])] []), (.ite (.cmp .Eq (.var 5) (.var 9)) [(.asg 15 (.bin .Add (.var 10) (.var 6)))] [(.ite (.var 5) [(.asg 15 (.bin .Sub (.var 10) (.var 6)))] [(.asg 15 (.bin .Sub (.var 6) (.var 10)))]), (.ite (.cmp .GtE (.var 15) (.lit (.int 0))) [(.asg 5 (.lit (.int 0)))] [(.asg 15 (.neg (.var 15))), (.asg 5 (.lit (.int 1)))])]), (.asg 16 (.bits (.var 15))), (.ret (.call 44 [(.var 5), (.var 15), (.var 11), (.var 16), (.or (.var 2) (.var 16)), (.var 3)]))] []), (.ite (.var 4) [(.asg 1 (.call 88 [(.var 1)]))] []), (.ite (.not (.var 6)) [(.ite (.var 7) [(.ite (.or (.cmp .Eq (.var 0) (.var 1)) (.or (.var 10) (.not (.var 11)))) [(.ret (.var 0))] []), (.ret (.lit (.tuple [(.int 0), (.int 0), (.int (-123)), (.int (-1))])))] []), (.ite (.var 10) [(.ret (.call 44 [(.var 9), (.var 10), (.var 11), (.var 12), (.or (.var 2) (.var 12)), (.var 3)]))] []), (.ret (.var 1))] []), (.ite (.var 11) [(.ret (.var 1))] []), (.ite (.var 6) [(.ret (.call 44 [(.var 5), (.var 6), (.var 7), (.var 8), (.or (.var 2) (.var 8)), (.var 3)]))] []), (.ret (.var 0))]
def c_mpf_sub : List CS := [(.ret (.call 103 [(.var 0), (.var 1), (.var 2), (.var 3), (.lit (.int 1))]))]
def c_mpf_mul : List CS := [(.asgT [4, 5, 6, 7] (.var 0)), (.asgT [8, 9, 10, 11] (.var 1)), (.asg 12 (.bin .BitXor (.var 4) (.var 8))), (.asg 13 (.bin .Mult (.var 5) (.var 9))), (.ite (.var 13) [(.asg 14 (.bits (.var 13))), (.ite (.var 2) [(.ret (.call 44 [(.var 12), (.var 13), (.bin .Add (.var 6) (.var 10)), (.var 14), (.var 2), (.var 3)]))] [(.ret (.tup [(.var 12), (.var 13), (.bin .Add (.var 6) (.var 10)), (.var 14)]))])] []), (.asg 15 (.and (.not (.var 5)) (.var 6))), (.asg 16 (.and (.not (.var 9)) (.var 10))), (.ite (.and (.not (.var 15)) (.not (.var 16))) [(.ret (.lit (.tuple [(.int 0), (.int 0), (.int 0), (.int 0)])))] []), (.ite (.cmp .In (.lit (.tuple [(.int 0), (.int 0), (.int (-123)), (.int (-1))])) (.tup [(.var 0), (.var 1)])) [(.ret (.lit (.tuple [(.int 0), (.int 0), (.int (-123)), (.int (-1))])))] []), (.ite (.and (.not (.var 9)) (.var 10)) [(.asgT [0, 1] (.tup [(.var 1), (.var 0)]))] []), (.ite (.cmp .Eq (.var 1) (.lit (.tuple [(.int 0), (.int 0), (.int 0), (.int 0)]))) [(.ret (.lit (.tuple [(.int 0), (.int 0), (.int (-123)), (.int (-1))])))] []), .stop]
def c_mpf_div : List CS := [(.asgT [4, 5, 6, 7] (.var 0)), (.asgT [8, 9, 10, 11] (.var 1)), (.ite (.or (.not (.var 5)) (.not (.var 9))) [(.ite (.cmp .Eq (.var 0) (.lit (.tuple [(.int 0), (.int 0), (.int 0), (.int 0)]))) [(.ite (.cmp .Eq (.var 1) (.lit (.tuple [(.int 0), (.int 0), (.int 0), (.int 0)]))) [.stop] []), (.ite (.cmp .Eq (.var 1) (.lit (.tuple [(.int 0), (.int 0), (.int (-123)), (.int (-1))]))) [(.ret (.lit (.tuple [(.int 0), (.int 0), (.int (-123)), (.int (-1))])))] []), (.ret (.lit (.tuple [(.int 0), (.int 0), (.int 0), (.int 0)])))] []), (.ite (.cmp .Eq (.var 1) (.lit (.tuple [(.int 0), (.int 0), (.int 0), (.int 0)]))) [.stop] []), (.asg 12 (.and (.not (.var 5)) (.var 6))), (.asg 13 (.and (.not (.var 9)) (.var 10))), (.ite (.and (.var 12) (.var 13)) [(.ret (.lit (.tuple [(.int 0), (.int 0), (.int (-123)), (.int (-1))])))] []), (.ite (.or (.cmp .Eq (.var 0) (.lit (.tuple [(.int 0), (.int 0), (.int (-123)), (.int (-1))]))) (.cmp .Eq (.var 1) (.lit (.tuple [(.int 0), (.int 0), (.int (-123)), (.int (-1))])))) [(.ret (.lit (.tuple [(.int 0), (.int 0), (.int (-123)), (.int (-1))])))] []), (.ite (.not (.var 13)) [(.ite (.cmp .Eq (.var 1) (.lit (.tuple [(.int 0), (.int 0), (.int 0), (.int 0)]))) [(.ret (.lit (.tuple [(.int 0), (.int 0), (.int (-123)), (.int (-1))])))] []), .stop] []), (.ret (.lit (.tuple [(.int 0), (.int 0), (.int 0), (.int 0)])))] []), (.asg 14 (.bin .BitXor (.var 4) (.var 8))), (.ite (.cmp .Eq (.var 9) (.lit (.int 1))) [(.ret (.call 44 [(.var 14), (.var 5), (.bin .Sub (.var 6) (.var 10)), (.var 7), (.var 2), (.var 3)]))] []), (.ite (.not (.var 2)) [(.asg 15 (.bin .Add (.bin .Add (.bin .Sub (.mx (.var 7) (.var 11)) (.var 7)) (.var 11)) (.lit (.int 5))))] [(.asg 15 (.bin .Add (.bin .Add (.bin .Sub (.var 2) (.var 7)) (.var 11)) (.lit (.int 5))))]), (.ite (.cmp .Lt (.var 15) (.lit (.int 5))) [(.asg 15 (.lit (.int 5)))] []), (.asgT [16, 17] (.dm (.bin .LShift (.var 5) (.var 15)) (.var 9))), (.ite (.var 17) [(.asg 16 (.bin .Add (.bin .LShift (.var 16) (.lit (.int 1))) (.lit (.int 1)))), (.aug 15 .Add (.lit (.int 1)))] []), (.asg 18 (.bits (.var 16))), (.ret (.call 44 [(.var 14), (.var 16), (.bin .Sub (.bin .Sub (.var 6) (.var 10)) (.var 15)), (.var 18), (.or (.var 2) (.var 18)), (.var 3)]))]
def c_mpi_add : List CS := [(.asgT [3, 4] (.var 0)), (.asgT [5, 6] (.var 1)), (.asg 7 (.call 103 [(.var 3), (.var 5), (.var 2), (.lit (.str ⟨#[102]⟩))])), (.asg 8 (.call 103 [(.var 4), (.var 6), (.var 2), (.lit (.str ⟨#[99]⟩))])), (.ite (.cmp .Eq (.var 7) (.lit (.tuple [(.int 0), (.int 0), (.int (-123)), (.int (-1))]))) [(.asg 7 (.lit (.tuple [(.int 1), (.int 0), (.int (-789)), (.int (-3))])))] []), (.ite (.cmp .Eq (.var 8) (.lit (.tuple [(.int 0), (.int 0), (.int (-123)), (.int (-1))]))) [(.asg 8 (.lit (.tuple [(.int 0), (.int 0), (.int (-456)), (.int (-2))])))] []), (.ret (.tup [(.var 7), (.var 8)]))]
def c_mpi_pos : List CS := [(.asgT [2, 3] (.var 0)), (.asg 4 (.call 80 [(.var 2), (.var 1), (.lit (.str ⟨#[102]⟩))])), (.asg 5 (.call 80 [(.var 3), (.var 1), (.lit (.str ⟨#[99]⟩))])), (.ret (.tup [(.var 4), (.var 5)]))]
def c_mpi_neg : List CS := [(.asgT [2, 3] (.var 0)), (.asg 4 (.call 88 [(.var 3), (.var 1), (.lit (.str ⟨#[102]⟩))])), (.asg 5 (.call 88 [(.var 2), (.var 1), (.lit (.str ⟨#[99]⟩))])), (.ret (.tup [(.var 4), (.var 5)]))]
def c_mpi_abs : List CS := [(.asgT [2, 3] (.var 0)), (.asg 4 (.call 95 [(.var 2)])), (.asg 5 (.call 95 [(.var 3)])), (.ite (.cmp .GtE (.var 4) (.lit (.int 0))) [(.asg 6 (.call 80 [(.var 2), (.var 1), (.lit (.str ⟨#[102]⟩))])), (.asg 7 (.call 80 [(.var 3), (.var 1), (.lit (.str ⟨#[99]⟩))]))] [(.ite (.cmp .GtE (.var 5) (.lit (.int 0))) [(.asg 6 (.lit (.tuple [(.int 0), (.int 0), (.int 0), (.int 0)]))), (.asg 8 (.call 88 [(.var 2)])), (.ite (.call 58 [(.var 8), (.var 3)]) [(.asg 7 (.call 80 [(.var 3), (.var 1), (.lit (.str ⟨#[99]⟩))]))] [(.asg 7 (.call 80 [(.var 8), (.var 1), (.lit (.str ⟨#[99]⟩))]))])] [(.asg 6 (.call 88 [(.var 3), (.var 1), (.lit (.str ⟨#[102]⟩))])), (.asg 7 (.call 88 [(.var 2), (.var 1), (.lit (.str ⟨#[99]⟩))]))])]), (.ret (.tup [(.var 6), (.var 7)]))]
def c_mpi_mul : List CS := [(.asgT [3, 4] (.var 0)), (.asgT [5, 6] (.var 1)), (.asg 7 (.call 95 [(.var 3)])), (.asg 8 (.call 95 [(.var 4)])), (.asg 9 (.call 95 [(.var 5)])), (.asg 10 (.call 95 [(.var 6)])), (.ite (.chain .Eq .Eq (.var 7) (.var 8) (.lit (.int 0))) [(.ite (.or (.cmp .Eq (.var 5) (.lit (.tuple [(.int 1), (.int 0), (.int (-789)), (.int (-3))]))) (.cmp .Eq (.var 6) (.lit (.tuple [(.int 0), (.int 0), (.int (-456)), (.int (-2))])))) [(.ret (.tup [(.lit (.tuple [(.int 1), (.int 0), (.int (-789)), (.int (-3))])), (.lit (.tuple [(.int 0), (.int 0), (.int (-456)), (.int (-2))]))]))] []), (.ret (.tup [(.lit (.tuple [(.int 0), (.int 0), (.int 0), (.int 0)])), (.lit (.tuple [(.int 0), (.int 0), (.int 0), (.int 0)]))]))] []), (.ite (.chain .Eq .Eq (.var 9) (.var 10) (.lit (.int 0))) [(.ite (.or (.cmp .Eq (.var 3) (.lit (.tuple [(.int 1), (.int 0), (.int (-789)), (.int (-3))]))) (.cmp .Eq (.var 4) (.lit (.tuple [(.int 0), (.int 0), (.int (-456)), (.int (-2))])))) [(.ret (.tup [(.lit (.tuple [(.int 1), (.int 0), (.int (-789)), (.int (-3))])), (.lit (.tuple [(.int 0), (.int 0), (.int (-456)), (.int (-2))]))]))] []), (.ret (.tup [(.lit (.tuple [(.int 0), (.int 0), (.int 0), (.int 0)])), (.lit (.tuple [(.int 0), (.int 0), (.int 0), (.int 0)]))]))] []), (.ite (.cmp .GtE (.var 7) (.lit (.int 0))) [(.ite (.cmp .GtE (.var 9) (.lit (.int 0))) [(.asg 11 (.call 119 [(.var 3), (.var 5), (.var 2), (.lit (.str ⟨#[102]⟩))])), (.asg 12 (.call 119 [(.var 4), (.var 6), (.var 2), (.lit (.str ⟨#[99]⟩))])), (.ite (.cmp .Eq (.var 11) (.lit (.tuple [(.int 0), (.int 0), (.int (-123)), (.int (-1))]))) [(.asg 11 (.lit (.tuple [(.int 0), (.int 0), (.int 0), (.int 0)])))] []), (.ite (.cmp .Eq (.var 12) (.lit (.tuple [(.int 0), (.int 0), (.int (-123)), (.int (-1))]))) [(.asg 12 (.lit (.tuple [(.int 0), (.int 0), (.int (-456)), (.int (-2))])))] [])] [(.ite (.cmp .LtE (.var 10) (.lit (.int 0))) [(.asg 11 (.call 119 [(.var 4), (.var 5), (.var 2), (.lit (.str ⟨#[102]⟩))])), (.asg 12 (.call 119 [(.var 3), (.var 6), (.var 2), (.lit (.str ⟨#[99]⟩))])), (.ite (.cmp .Eq (.var 11) (.lit (.tuple [(.int 0), (.int 0), (.int (-123)), (.int (-1))]))) [(.asg 11 (.lit (.tuple [(.int 1), (.int 0), (.int (-789)), (.int (-3))])))] []), (.ite (.cmp .Eq (.var 12) (.lit (.tuple [(.int 0), (.int 0), (.int (-123)), (.int (-1))]))) [(.asg 12 (.lit (.tuple [(.int 0), (.int 0), (.int 0), (.int 0)])))] [])] [(.asg 11 (.call 119 [(.var 4), (.var 5), (.var 2), (.lit (.str ⟨#[102]⟩))])), (.asg 12 (.call 119 [(.var 4), (.var 6), (.var 2), (.lit (.str ⟨#[99]⟩))])), (.ite (.cmp .Eq (.var 11) (.lit (.tuple [(.int 0), (.int 0), (.int (-123)), (.int (-1))]))) [(.asg 11 (.lit (.tuple [(.int 1), (.int 0), (.int (-789)), (.int (-3))])))] []), (.ite (.cmp .Eq (.var 12) (.lit (.tuple [(.int 0), (.int 0), (.int (-123)), (.int (-1))]))) [(.asg 12 (.lit (.tuple [(.int 0), (.int 0), (.int (-456)), (.int (-2))])))] [])])])] [(.ite (.cmp .LtE (.var 8) (.lit (.int 0))) [(.ite (.cmp .GtE (.var 9) (.lit (.int 0))) [(.asg 11 (.call 119 [(.var 3), (.var 6), (.var 2), (.lit (.str ⟨#[102]⟩))])), (.asg 12 (.call 119 [(.var 4), (.var 5), (.var 2), (.lit (.str ⟨#[99]⟩))])), (.ite (.cmp .Eq (.var 11) (.lit (.tuple [(.int 0), (.int 0), (.int (-123)), (.int (-1))]))) [(.asg 11 (.lit (.tuple [(.int 1), (.int 0), (.int (-789)), (.int (-3))])))] []), (.ite (.cmp .Eq (.var 12) (.lit (.tuple [(.int 0), (.int 0), (.int (-123)), (.int (-1))]))) [(.asg 12 (.lit (.tuple [(.int 0), (.int 0), (.int 0), (.int 0)])))] [])] [(.ite (.cmp .LtE (.var 10) (.lit (.int 0))) [(.asg 11 (.call 119 [(.var 4), (.var 6), (.var 2), (.lit (.str ⟨#[102]⟩))])), (.asg 12 (.call 119 [(.var 3), (.var 5), (.var 2), (.lit (.str ⟨#[99]⟩))])), (.ite (.cmp .Eq (.var 11) (.lit (.tuple [(.int 0), (.int 0), (.int (-123)), (.int (-1))]))) [(.asg 11 (.lit (.tuple [(.int 0), (.int 0), (.int 0), (.int 0)])))] []), (.ite (.cmp .Eq (.var 12) (.lit (.tuple [(.int 0), (.int 0), (.int (-123)), (.int (-1))]))) [(.asg 12 (.lit (.tuple [(.int 0), (.int 0), (.int (-456)), (.int (-2))])))] [])] [(.asg 11 (.call 119 [(.var 3), (.var 6), (.var 2), (.lit (.str ⟨#[102]⟩))])), (.asg 12 (.call 119 [(.var 3), (.var 5), (.var 2), (.lit (.str ⟨#[99]⟩))])), (.ite (.cmp .Eq (.var 11) (.lit (.tuple [(.int 0), (.int 0), (.int (-123)), (.int (-1))]))) [(.asg 11 (.lit (.tuple [(.int 1), (.int 0), (.int (-789)), (.int (-3))])))] []), (.ite (.cmp .Eq (.var 12) (.lit (.tuple [(.int 0), (.int 0), (.int (-123)), (.int (-1))]))) [(.asg 12 (.lit (.tuple [(.int 0), (.int 0), (.int (-456)), (.int (-2))])))] [])])])] [(.asg 13 (.lst [(.call 119 [(.var 3), (.var 5)]), (.call 119 [(.var 3), (.var 6)]), (.call 119 [(.var 4), (.var 5)]), (.call 119 [(.var 4), (.var 6)])])), (.ite (.cmp .In (.lit (.tuple [(.int 0), (.int 0), (.int (-123)), (.int (-1))])) (.var 13)) [(.asgT [11, 12] (.tup [(.lit (.tuple [(.int 1), (.int 0), (.int (-789)), (.int (-3))])), (.lit (.tuple [(.int 0), (.int 0), (.int (-456)), (.int (-2))]))]))] [(.asgT [11, 12] (.call 72 [(.var 13)])), (.asg 11 (.call 80 [(.var 11), (.var 2), (.lit (.str ⟨#[102]⟩))])), (.asg 12 (.call 80 [(.var 12), (.var 2), (.lit (.str ⟨#[99]⟩))]))])])]), (.ret (.tup [(.var 11), (.var 12)]))]
def c_mpi_div : List CS := [(.asgT [3, 4] (.var 0)), (.asgT [5, 6] (.var 1)), (.asg 7 (.call 95 [(.var 3)])), (.asg 8 (.call 95 [(.var 4)])), (.asg 9 (.call 95 [(.var 5)])), (.asg 10 (.call 95 [(.var 6)])), (.ite (.chain .Eq .Eq (.var 7) (.var 8) (.lit (.int 0))) [(.ite (.or (.and (.cmp .Lt (.var 9) (.lit (.int 0))) (.cmp .Gt (.var 10) (.lit (.int 0)))) (.or (.cmp .Eq (.var 9) (.lit (.int 0))) (.cmp .Eq (.var 10) (.lit (.int 0))))) [(.ret (.tup [(.lit (.tuple [(.int 1), (.int 0), (.int (-789)), (.int (-3))])), (.lit (.tuple [(.int 0), (.int 0), (.int (-456)), (.int (-2))]))]))] []), (.ret (.tup [(.lit (.tuple [(.int 0), (.int 0), (.int 0), (.int 0)])), (.lit (.tuple [(.int 0), (.int 0), (.int 0), (.int 0)]))]))] []), (.ite (.and (.cmp .Lt (.var 9) (.lit (.int 0))) (.cmp .Gt (.var 10) (.lit (.int 0)))) [(.ret (.tup [(.lit (.tuple [(.int 1), (.int 0), (.int (-789)), (.int (-3))])), (.lit (.tuple [(.int 0), (.int 0), (.int (-456)), (.int (-2))]))]))] []), (.ite (.cmp .Lt (.var 9) (.lit (.int 0))) [(.ret (.call 173 [(.call 150 [(.var 0)]), (.call 150 [(.var 1)]), (.var 2)]))] []), (.ite (.cmp .Eq (.var 9) (.lit (.int 0))) [(.ite (.and (.cmp .Lt (.var 7) (.lit (.int 0))) (.cmp .Gt (.var 8) (.lit (.int 0)))) [(.ret (.tup [(.lit (.tuple [(.int 1), (.int 0), (.int (-789)), (.int (-3))])), (.lit (.tuple [(.int 0), (.int 0), (.int (-456)), (.int (-2))]))]))] []), (.ite (.cmp .Eq (.var 9) (.var 10)) [(.ret (.tup [(.lit (.tuple [(.int 1), (.int 0), (.int (-789)), (.int (-3))])), (.lit (.tuple [(.int 0), (.int 0), (.int (-456)), (.int (-2))]))]))] []), (.ite (.cmp .GtE (.var 7) (.lit (.int 0))) [(.asg 11 (.call 127 [(.var 3), (.var 6), (.var 2), (.lit (.str ⟨#[102]⟩))])), (.asg 12 (.lit (.tuple [(.int 0), (.int 0), (.int (-456)), (.int (-2))])))] []), (.ite (.cmp .LtE (.var 8) (.lit (.int 0))) [(.asg 11 (.lit (.tuple [(.int 1), (.int 0), (.int (-789)), (.int (-3))]))), (.asg 12 (.call 127 [(.var 4), (.var 6), (.var 2), (.lit (.str ⟨#[99]⟩))]))] [])] [(.ite (.cmp .GtE (.var 7) (.lit (.int 0))) [(.asg 11 (.call 127 [(.var 3), (.var 6), (.var 2), (.lit (.str ⟨#[102]⟩))])), (.asg 12 (.call 127 [(.var 4), (.var 5), (.var 2), (.lit (.str ⟨#[99]⟩))])), (.ite (.cmp .Eq (.var 11) (.lit (.tuple [(.int 0), (.int 0), (.int (-123)), (.int (-1))]))) [(.asg 11 (.lit (.tuple [(.int 0), (.int 0), (.int 0), (.int 0)])))] []), (.ite (.cmp .Eq (.var 12) (.lit (.tuple [(.int 0), (.int 0), (.int (-123)), (.int (-1))]))) [(.asg 12 (.lit (.tuple [(.int 0), (.int 0), (.int (-456)), (.int (-2))])))] [])] [(.ite (.cmp .LtE (.var 8) (.lit (.int 0))) [(.asg 11 (.call 127 [(.var 3), (.var 5), (.var 2), (.lit (.str ⟨#[102]⟩))])), (.asg 12 (.call 127 [(.var 4), (.var 6), (.var 2), (.lit (.str ⟨#[99]⟩))])), (.ite (.cmp .Eq (.var 11) (.lit (.tuple [(.int 0), (.int 0), (.int (-123)), (.int (-1))]))) [(.asg 11 (.lit (.tuple [(.int 1), (.int 0), (.int (-789)), (.int (-3))])))] []), (.ite (.cmp .Eq (.var 12) (.lit (.tuple [(.int 0), (.int 0), (.int (-123)), (.int (-1))]))) [(.asg 12 (.lit (.tuple [(.int 0), (.int 0), (.int 0), (.int 0)])))] [])] [(.asg 11 (.call 127 [(.var 3), (.var 5), (.var 2), (.lit (.str ⟨#[102]⟩))])), (.asg 12 (.call 127 [(.var 4), (.var 5), (.var 2), (.lit (.str ⟨#[99]⟩))])), (.ite (.cmp .Eq (.var 11) (.lit (.tuple [(.int 0), (.int 0), (.int (-123)), (.int (-1))]))) [(.asg 11 (.lit (.tuple [(.int 1), (.int 0), (.int (-789)), (.int (-3))])))] []), (.ite (.cmp .Eq (.var 12) (.lit (.tuple [(.int 0), (.int 0), (.int (-123)), (.int (-1))]))) [(.asg 12 (.lit (.tuple [(.int 0), (.int 0), (.int (-456)), (.int (-2))])))] [])])])]), (.ret (.tup [(.var 11), (.var 12)]))]
def c_u_law_mixed : List CS := [(.asg 2 (.ite (.cmp .Lt (.var 1) (.len (.var 0))) (.idx (.var 0) (.var 1)) (.lit (.int 0)))), (.ite (.cmp .GtE (.var 2) (.bin .Pow (.lit (.int 2)) (.lit (.int 64)))) [(.ret (.var 2))] []), (.ret (.bin .Mod (.bin .FloorDiv (.bin .Pow (.bin .Add (.bin .Mult (.var 2) (.lit (.int 6364136223846793005))) (.bin .Mult (.bin .Add (.var 1) (.lit (.int 1))) (.lit (.int 1442695040888963407)))) (.lit (.int 3))) (.bin .Pow (.lit (.int 2)) (.lit (.int 40)))) (.bin .Pow (.lit (.int 2)) (.lit (.int 190)))))]
def c_u_law_made : List CS := [(.asgT [2, 3] (.ite (.cmp .Lt (.var 0) (.lit (.int 0))) (.tup [(.lit (.int 1)), (.neg (.var 0))]) (.tup [(.lit (.int 0)), (.var 0)]))), (.ite (.cmp .Eq (.var 3) (.lit (.int 0))) [(.ret (.tup [(.lit (.int 0)), (.lit (.int 0)), (.lit (.int 0)), (.lit (.int 0))]))] []), (.asg 4 (.bin .Sub (.bits (.bin .BitAnd (.var 3) (.neg (.var 3)))) (.lit (.int 1)))), (.asg 3 (.bin .FloorDiv (.var 3) (.bin .Pow (.lit (.int 2)) (.var 4)))), (.ret (.tup [(.var 2), (.var 3), (.bin .Add (.var 1) (.var 4)), (.bits (.var 3))]))]
def c_u_law_value : List CS := [(.ret (.tup [(.ite (.cmp .Eq (.idx (.var 0) (.lit (.int 0))) (.lit (.int 1))) (.neg (.idx (.var 0) (.lit (.int 1)))) (.idx (.var 0) (.lit (.int 1)))), (.idx (.var 0) (.lit (.int 2)))]))]
def c_u_law_less : List CS := [(.asg 2 (.mn (.idx (.var 0) (.lit (.int 1))) (.idx (.var 1) (.lit (.int 1))))), (.ret (.cmp .Lt (.bin .Mult (.idx (.var 0) (.lit (.int 0))) (.bin .Pow (.lit (.int 2)) (.bin .Sub (.idx (.var 0) (.lit (.int 1))) (.var 2)))) (.bin .Mult (.idx (.var 1) (.lit (.int 0))) (.bin .Pow (.lit (.int 2)) (.bin .Sub (.idx (.var 1) (.lit (.int 1))) (.var 2))))))]
def c_u_law_grid : List CS := [(.asgT [1, 2, 3] (.tup [(.bin .Mod (.var 0) (.lit (.int 6))), (.bin .Sub (.bin .Mod (.bin .FloorDiv (.var 0) (.lit (.int 6))) (.lit (.int 25))) (.lit (.int 12))), (.bin .Add (.lit (.int 1)) (.bin .Mod (.bin .FloorDiv (.var 0) (.lit (.int 150))) (.lit (.int 24))))])), (.asgT [4, 5] (.tup [(.bin .Sub (.bin .Mod (.bin .FloorDiv (.var 0) (.bin .Pow (.lit (.int 2)) (.lit (.int 13)))) (.bin .Pow (.lit (.int 2)) (.var 3))) (.bin .Pow (.lit (.int 2)) (.bin .Sub (.var 3) (.lit (.int 1))))), (.bin .Mod (.bin .FloorDiv (.var 0) (.bin .Pow (.lit (.int 2)) (.lit (.int 40)))) (.bin .Pow (.lit (.int 2)) (.bin .Add (.lit (.int 1)) (.bin .Mod (.bin .FloorDiv (.var 0) (.bin .Pow (.lit (.int 2)) (.lit (.int 66)))) (.lit (.int 24))))))])), (.ite (.cmp .Eq (.var 1) (.lit (.int 0))) [(.asg 5 (.lit (.int 0)))] [(.ite (.cmp .Eq (.var 1) (.lit (.int 1))) [(.asg 4 (.lit (.int 0)))] [(.ite (.cmp .Eq (.var 1) (.lit (.int 2))) [(.asg 4 (.neg (.var 5)))] [])])]), (.ret (.tup [(.var 4), (.bin .Add (.var 4) (.var 5)), (.var 2)]))]
def c_u_law_apart : List CS := [(.asgT [1, 2, 3] (.call 208 [(.var 0)])), (.asgT [4, 5] (.tup [(.bin .Sub (.var 2) (.var 1)), (.bin .Add (.lit (.int 1)) (.abs (.var 1)))])), (.ret (.ite (.cmp .Eq (.bin .Mod (.bin .FloorDiv (.var 0) (.bin .Pow (.lit (.int 2)) (.lit (.int 110)))) (.lit (.int 2))) (.lit (.int 0))) (.tup [(.var 5), (.bin .Add (.var 5) (.var 4)), (.var 3)]) (.tup [(.bin .Sub (.neg (.var 5)) (.var 4)), (.neg (.var 5)), (.var 3)])))]
def c_u_law_span : List CS := [(.ret (.tup [(.call 187 [(.idx (.var 0) (.lit (.int 0))), (.idx (.var 0) (.lit (.int 2)))]), (.call 187 [(.idx (.var 0) (.lit (.int 1))), (.idx (.var 0) (.lit (.int 2)))])]))]
def c_u_law_within : List CS := [(.asgT [2, 3, 4, 5] (.comp 194 (.bin .Add (.var 0) (.var 1)))), (.ret (.and (.not (.call 201 [(.var 2), (.var 4)])) (.and (.not (.call 201 [(.var 5), (.var 3)])) (.not (.call 201 [(.var 3), (.var 2)])))))]
def c_u_law_due_beside : List CS := [(.asgT [3, 4] (.tup [(.idx (.call 194 [(.idx (.var 0) (.lit (.int 0)))]) (.lit (.int 0))), (.idx (.call 194 [(.idx (.var 0) (.lit (.int 1)))]) (.lit (.int 0)))])), (.ite (.or (.and (.cmp .Lt (.var 3) (.lit (.int 0))) (.cmp .Gt (.var 4) (.lit (.int 0)))) (.and (.cmp .Eq (.var 3) (.lit (.int 0))) (.cmp .Eq (.var 4) (.lit (.int 0))))) [(.ret (.tup [(.lit (.tuple [(.int 1), (.int 0), (.int (-789)), (.int (-3))])), (.lit (.tuple [(.int 0), (.int 0), (.int (-456)), (.int (-2))]))]))] []), (.ret (.ite (.cmp .Eq (.cmp .GtE (.var 3) (.lit (.int 0))) (.var 1)) (.tup [(.idx (.var 2) (.lit (.int 0))), (.lit (.tuple [(.int 0), (.int 0), (.int (-456)), (.int (-2))]))]) (.tup [(.lit (.tuple [(.int 1), (.int 0), (.int (-789)), (.int (-3))])), (.idx (.var 2) (.lit (.int 1)))])))]
def c_law : List CS := [(.asg 1 (.bin .Add (.lit (.int 1)) (.bin .Mod (.call 180 [(.var 0), (.lit (.int 0))]) (.lit (.int 60))))), (.asgT [2, 3] (.tup [(.call 222 [(.call 208 [(.call 180 [(.var 0), (.lit (.int 1))])])]), (.call 222 [(.call 208 [(.call 180 [(.var 0), (.lit (.int 2))])])])])), (.asgT [4, 5, 6] (.call 215 [(.call 180 [(.var 0), (.lit (.int 3))])])), (.asgT [7, 8, 9] (.tup [(.call 222 [(.tup [(.var 4), (.var 5), (.var 6)])]), (.call 187 [(.lit (.int 1)), (.lit (.int 0))]), (.call 187 [(.lit (.int 0)), (.lit (.int 0))])])), (.asgT [10, 11] (.tup [(.call 173 [(.var 2), (.var 7), (.var 1)]), (.call 142 [(.var 2), (.var 1)])])), (.ite (.or (.not (.call 227 [(.var 11), (.call 166 [(.var 10), (.var 7), (.var 1)])])) (.not (.call 227 [(.var 11), (.call 173 [(.call 166 [(.var 2), (.var 7), (.var 1)]), (.var 7), (.var 1)])]))) [(.ret (.lit (.bool false)))] []), (.asg 12 (.call 173 [(.tup [(.var 8), (.var 8)]), (.var 7), (.var 1)])), (.ite (.or (.not (.call 227 [(.var 10), (.call 166 [(.var 2), (.var 12), (.var 1)])])) (.not (.call 227 [(.call 142 [(.var 7), (.var 1)]), (.call 173 [(.tup [(.var 8), (.var 8)]), (.var 12), (.var 1)])]))) [(.ret (.lit (.bool false)))] []), (.ite (.not (.call 227 [(.call 173 [(.call 135 [(.var 2), (.var 3)]), (.var 7), (.var 1)]), (.call 135 [(.var 10), (.call 173 [(.var 3), (.var 7), (.var 1)]), (.var 1)])])) [(.ret (.lit (.bool false)))] []), (.asg 13 (.call 150 [(.var 10)])), (.ite (.or (.cmp .NotEq (.call 173 [(.call 150 [(.var 2)]), (.var 7), (.var 1)]) (.var 13)) (.or (.cmp .NotEq (.call 173 [(.var 2), (.call 150 [(.var 7)]), (.var 1)]) (.var 13)) (.cmp .NotEq (.call 173 [(.call 150 [(.var 2)]), (.call 150 [(.var 7)]), (.var 1)]) (.var 10)))) [(.ret (.lit (.bool false)))] []), (.ite (.cmp .NotEq (.call 158 [(.var 10)]) (.call 173 [(.call 158 [(.var 2)]), (.call 158 [(.var 7)]), (.var 1)])) [(.ret (.lit (.bool false)))] []), (.asgT [14, 15] (.tup [(.call 222 [(.tup [(.mn (.var 4) (.lit (.int 0))), (.mx (.var 5) (.lit (.int 0))), (.var 6)])]), (.call 222 [(.tup [(.mn (.var 4) (.neg (.lit (.int 1)))), (.mx (.var 5) (.lit (.int 1))), (.var 6)])])])), (.ite (.cmp .NotEq (.call 173 [(.var 2), (.var 14), (.var 1)]) (.call 234 [(.var 2), (.cmp .Gt (.var 4) (.lit (.int 0))), (.var 10)])) [(.ret (.lit (.bool false)))] []), (.ret (.and (.cmp .Eq (.call 173 [(.var 2), (.var 15), (.var 1)]) (.tup [(.lit (.tuple [(.int 1), (.int 0), (.int (-789)), (.int (-3))])), (.lit (.tuple [(.int 0), (.int 0), (.int (-456)), (.int (-2))]))])) (.cmp .Eq (.call 173 [(.var 2), (.tup [(.var 9), (.var 9)]), (.var 1)]) (.tup [(.lit (.tuple [(.int 1), (.int 0), (.int (-789)), (.int (-3))])), (.lit (.tuple [(.int 0), (.int 0), (.int (-456)), (.int (-2))]))]))))]
end Mine
/-! part B2 -/
namespace Mine
open PySem PySem.W PyProof.Rows
set_option maxRecDepth 100000
/-- what is asked of the written part -/
structure Facts (K : Frag) : Prop where
  c_trailing : compF K 26 21 = some Mine.c_trailing
  o_trailing : okFn K 21 [("n" : Str)] = true
  b_trailing1 : ∀ (S : Setting) (v0 : Value), bindE K S 21 [v0] = some (([("n" : Str)] : List Str).zip ([v0] ++ dfltOf K 21 0))
  d_trailing1 : (dfltOf K 21 0).mapM (kD K 4) = some []
  c_u_normalize : compF K 26 37 = some Mine.c_u_normalize
  o_u_normalize : okFn K 37 [("sign" : Str), ("man" : Str), ("exp" : Str), ("bc" : Str), ("prec" : Str), ("rnd" : Str)] = true
  b_u_normalize6 : ∀ (S : Setting) (v0 v1 v2 v3 v4 v5 : Value), bindE K S 37 [v0, v1, v2, v3, v4, v5] = some (([("sign" : Str), ("man" : Str), ("exp" : Str), ("bc" : Str), ("prec" : Str), ("rnd" : Str)] : List Str).zip ([v0, v1, v2, v3, v4, v5] ++ dfltOf K 37 0))
  d_u_normalize6 : (dfltOf K 37 0).mapM (kD K 4) = some []
  c_normalize : compF K 26 44 = some Mine.c_normalize
  o_normalize : okFn K 44 [("sign" : Str), ("man" : Str), ("exp" : Str), ("bc" : Str), ("prec" : Str), ("rnd" : Str)] = true
  b_normalize6 : ∀ (S : Setting) (v0 v1 v2 v3 v4 v5 : Value), bindE K S 44 [v0, v1, v2, v3, v4, v5] = some (([("sign" : Str), ("man" : Str), ("exp" : Str), ("bc" : Str), ("prec" : Str), ("rnd" : Str)] : List Str).zip ([v0, v1, v2, v3, v4, v5] ++ dfltOf K 44 0))
  d_normalize6 : (dfltOf K 44 0).mapM (kD K 4) = some []
  c_mpf_cmp : compF K 26 51 = some Mine.c_mpf_cmp
  o_mpf_cmp : okFn K 51 [("s" : Str), ("t" : Str)] = true
  b_mpf_cmp2 : ∀ (S : Setting) (v0 v1 : Value), bindE K S 51 [v0, v1] = some (([("s" : Str), ("t" : Str)] : List Str).zip ([v0, v1] ++ dfltOf K 51 0))
  d_mpf_cmp2 : (dfltOf K 51 0).mapM (kD K 4) = some []
  c_mpf_lt : compF K 26 58 = some Mine.c_mpf_lt
  o_mpf_lt : okFn K 58 [("s" : Str), ("t" : Str)] = true
  b_mpf_lt2 : ∀ (S : Setting) (v0 v1 : Value), bindE K S 58 [v0, v1] = some (([("s" : Str), ("t" : Str)] : List Str).zip ([v0, v1] ++ dfltOf K 58 0))
  d_mpf_lt2 : (dfltOf K 58 0).mapM (kD K 4) = some []
  c_mpf_gt : compF K 26 65 = some Mine.c_mpf_gt
  o_mpf_gt : okFn K 65 [("s" : Str), ("t" : Str)] = true
  b_mpf_gt2 : ∀ (S : Setting) (v0 v1 : Value), bindE K S 65 [v0, v1] = some (([("s" : Str), ("t" : Str)] : List Str).zip ([v0, v1] ++ dfltOf K 65 0))
  d_mpf_gt2 : (dfltOf K 65 0).mapM (kD K 4) = some []
  c_mpf_min_max : compF K 26 72 = some Mine.c_mpf_min_max
  o_mpf_min_max : okFn K 72 [("seq" : Str)] = true
  b_mpf_min_max1 : ∀ (S : Setting) (v0 : Value), bindE K S 72 [v0] = some (([("seq" : Str)] : List Str).zip ([v0] ++ dfltOf K 72 0))
  d_mpf_min_max1 : (dfltOf K 72 0).mapM (kD K 4) = some []
  c_mpf_pos : compF K 26 80 = some Mine.c_mpf_pos
  o_mpf_pos : okFn K 80 [("s" : Str), ("prec" : Str), ("rnd" : Str)] = true
  b_mpf_pos3 : ∀ (S : Setting) (v0 v1 v2 : Value), bindE K S 80 [v0, v1, v2] = some (([("s" : Str), ("prec" : Str), ("rnd" : Str)] : List Str).zip ([v0, v1, v2] ++ dfltOf K 80 0))
  d_mpf_pos3 : (dfltOf K 80 0).mapM (kD K 4) = some []
  c_mpf_neg : compF K 26 88 = some Mine.c_mpf_neg
  o_mpf_neg : okFn K 88 [("s" : Str), ("prec" : Str), ("rnd" : Str)] = true
  b_mpf_neg1 : ∀ (S : Setting) (v0 : Value), bindE K S 88 [v0] = some (([("s" : Str), ("prec" : Str), ("rnd" : Str)] : List Str).zip ([v0] ++ dfltOf K 88 2))
  d_mpf_neg1 : (dfltOf K 88 2).mapM (kD K 4) = some [.int 0, .str ⟨#[100]⟩]
  b_mpf_neg3 : ∀ (S : Setting) (v0 v1 v2 : Value), bindE K S 88 [v0, v1, v2] = some (([("s" : Str), ("prec" : Str), ("rnd" : Str)] : List Str).zip ([v0, v1, v2] ++ dfltOf K 88 0))
  d_mpf_neg3 : (dfltOf K 88 0).mapM (kD K 4) = some []
  c_mpf_sign : compF K 26 95 = some Mine.c_mpf_sign
  o_mpf_sign : okFn K 95 [("s" : Str)] = true
  b_mpf_sign1 : ∀ (S : Setting) (v0 : Value), bindE K S 95 [v0] = some (([("s" : Str)] : List Str).zip ([v0] ++ dfltOf K 95 0))
  d_mpf_sign1 : (dfltOf K 95 0).mapM (kD K 4) = some []
  c_mpf_add : compF K 26 103 = some Mine.c_mpf_add
  o_mpf_add : okFn K 103 [("s" : Str), ("t" : Str), ("prec" : Str), ("rnd" : Str), ("_sub" : Str)] = true
  b_mpf_add4 : ∀ (S : Setting) (v0 v1 v2 v3 : Value), bindE K S 103 [v0, v1, v2, v3] = some (([("s" : Str), ("t" : Str), ("prec" : Str), ("rnd" : Str), ("_sub" : Str)] : List Str).zip ([v0, v1, v2, v3] ++ dfltOf K 103 1))
  d_mpf_add4 : (dfltOf K 103 1).mapM (kD K 4) = some [.int 0]
  b_mpf_add5 : ∀ (S : Setting) (v0 v1 v2 v3 v4 : Value), bindE K S 103 [v0, v1, v2, v3, v4] = some (([("s" : Str), ("t" : Str), ("prec" : Str), ("rnd" : Str), ("_sub" : Str)] : List Str).zip ([v0, v1, v2, v3, v4] ++ dfltOf K 103 0))
  d_mpf_add5 : (dfltOf K 103 0).mapM (kD K 4) = some []
  c_mpf_sub : compF K 26 111 = some Mine.c_mpf_sub
  o_mpf_sub : okFn K 111 [("s" : Str), ("t" : Str), ("prec" : Str), ("rnd" : Str)] = true
  b_mpf_sub4 : ∀ (S : Setting) (v0 v1 v2 v3 : Value), bindE K S 111 [v0, v1, v2, v3] = some (([("s" : Str), ("t" : Str), ("prec" : Str), ("rnd" : Str)] : List Str).zip ([v0, v1, v2, v3] ++ dfltOf K 111 0))
  d_mpf_sub4 : (dfltOf K 111 0).mapM (kD K 4) = some []
  c_mpf_mul : compF K 26 119 = some Mine.c_mpf_mul
  o_mpf_mul : okFn K 119 [("s" : Str), ("t" : Str), ("prec" : Str), ("rnd" : Str)] = true
  b_mpf_mul2 : ∀ (S : Setting) (v0 v1 : Value), bindE K S 119 [v0, v1] = some (([("s" : Str), ("t" : Str), ("prec" : Str), ("rnd" : Str)] : List Str).zip ([v0, v1] ++ dfltOf K 119 2))
  d_mpf_mul2 : (dfltOf K 119 2).mapM (kD K 4) = some [.int 0, .str ⟨#[100]⟩]
  b_mpf_mul4 : ∀ (S : Setting) (v0 v1 v2 v3 : Value), bindE K S 119 [v0, v1, v2, v3] = some (([("s" : Str), ("t" : Str), ("prec" : Str), ("rnd" : Str)] : List Str).zip ([v0, v1, v2, v3] ++ dfltOf K 119 0))
  d_mpf_mul4 : (dfltOf K 119 0).mapM (kD K 4) = some []
  c_mpf_div : compF K 26 127 = some Mine.c_mpf_div
  o_mpf_div : okFn K 127 [("s" : Str), ("t" : Str), ("prec" : Str), ("rnd" : Str)] = true
  b_mpf_div4 : ∀ (S : Setting) (v0 v1 v2 v3 : Value), bindE K S 127 [v0, v1, v2, v3] = some (([("s" : Str), ("t" : Str), ("prec" : Str), ("rnd" : Str)] : List Str).zip ([v0, v1, v2, v3] ++ dfltOf K 127 0))
  d_mpf_div4 : (dfltOf K 127 0).mapM (kD K 4) = some []
  c_mpi_add : compF K 26 135 = some Mine.c_mpi_add
  o_mpi_add : okFn K 135 [("s" : Str), ("t" : Str), ("prec" : Str)] = true
  b_mpi_add2 : ∀ (S : Setting) (v0 v1 : Value), bindE K S 135 [v0, v1] = some (([("s" : Str), ("t" : Str), ("prec" : Str)] : List Str).zip ([v0, v1] ++ dfltOf K 135 1))
  d_mpi_add2 : (dfltOf K 135 1).mapM (kD K 4) = some [.int 0]
  b_mpi_add3 : ∀ (S : Setting) (v0 v1 v2 : Value), bindE K S 135 [v0, v1, v2] = some (([("s" : Str), ("t" : Str), ("prec" : Str)] : List Str).zip ([v0, v1, v2] ++ dfltOf K 135 0))
  d_mpi_add3 : (dfltOf K 135 0).mapM (kD K 4) = some []
  c_mpi_pos : compF K 26 142 = some Mine.c_mpi_pos
  o_mpi_pos : okFn K 142 [("s" : Str), ("prec" : Str)] = true
  b_mpi_pos2 : ∀ (S : Setting) (v0 v1 : Value), bindE K S 142 [v0, v1] = some (([("s" : Str), ("prec" : Str)] : List Str).zip ([v0, v1] ++ dfltOf K 142 0))
  d_mpi_pos2 : (dfltOf K 142 0).mapM (kD K 4) = some []
  c_mpi_neg : compF K 26 150 = some Mine.c_mpi_neg
  o_mpi_neg : okFn K 150 [("s" : Str), ("prec" : Str)] = true
  b_mpi_neg1 : ∀ (S : Setting) (v0 : Value), bindE K S 150 [v0] = some (([("s" : Str), ("prec" : Str)] : List Str).zip ([v0] ++ dfltOf K 150 1))
  d_mpi_neg1 : (dfltOf K 150 1).mapM (kD K 4) = some [.int 0]
  c_mpi_abs : compF K 26 158 = some Mine.c_mpi_abs
  o_mpi_abs : okFn K 158 [("s" : Str), ("prec" : Str)] = true
  b_mpi_abs1 : ∀ (S : Setting) (v0 : Value), bindE K S 158 [v0] = some (([("s" : Str), ("prec" : Str)] : List Str).zip ([v0] ++ dfltOf K 158 1))
  d_mpi_abs1 : (dfltOf K 158 1).mapM (kD K 4) = some [.int 0]
  c_mpi_mul : compF K 26 166 = some Mine.c_mpi_mul
  o_mpi_mul : okFn K 166 [("s" : Str), ("t" : Str), ("prec" : Str)] = true
  b_mpi_mul3 : ∀ (S : Setting) (v0 v1 v2 : Value), bindE K S 166 [v0, v1, v2] = some (([("s" : Str), ("t" : Str), ("prec" : Str)] : List Str).zip ([v0, v1, v2] ++ dfltOf K 166 0))
  d_mpi_mul3 : (dfltOf K 166 0).mapM (kD K 4) = some []
  c_mpi_div : compF K 26 173 = some Mine.c_mpi_div
  o_mpi_div : okFn K 173 [("s" : Str), ("t" : Str), ("prec" : Str)] = true
  b_mpi_div3 : ∀ (S : Setting) (v0 v1 v2 : Value), bindE K S 173 [v0, v1, v2] = some (([("s" : Str), ("t" : Str), ("prec" : Str)] : List Str).zip ([v0, v1, v2] ++ dfltOf K 173 0))
  d_mpi_div3 : (dfltOf K 173 0).mapM (kD K 4) = some []
  c_u_law_mixed : compF K 26 180 = some Mine.c_u_law_mixed
  o_u_law_mixed : okFn K 180 [("script" : Str), ("k" : Str)] = true
  b_u_law_mixed2 : ∀ (S : Setting) (v0 v1 : Value), bindE K S 180 [v0, v1] = some (([("script" : Str), ("k" : Str)] : List Str).zip ([v0, v1] ++ dfltOf K 180 0))
  d_u_law_mixed2 : (dfltOf K 180 0).mapM (kD K 4) = some []
  c_u_law_made : compF K 26 187 = some Mine.c_u_law_made
  o_u_law_made : okFn K 187 [("n" : Str), ("e" : Str)] = true
  b_u_law_made2 : ∀ (S : Setting) (v0 v1 : Value), bindE K S 187 [v0, v1] = some (([("n" : Str), ("e" : Str)] : List Str).zip ([v0, v1] ++ dfltOf K 187 0))
  d_u_law_made2 : (dfltOf K 187 0).mapM (kD K 4) = some []
  c_u_law_value : compF K 26 194 = some Mine.c_u_law_value
  o_u_law_value : okFn K 194 [("s" : Str)] = true
  b_u_law_value1 : ∀ (S : Setting) (v0 : Value), bindE K S 194 [v0] = some (([("s" : Str)] : List Str).zip ([v0] ++ dfltOf K 194 0))
  d_u_law_value1 : (dfltOf K 194 0).mapM (kD K 4) = some []
  c_u_law_less : compF K 26 201 = some Mine.c_u_law_less
  o_u_law_less : okFn K 201 [("x" : Str), ("y" : Str)] = true
  b_u_law_less2 : ∀ (S : Setting) (v0 v1 : Value), bindE K S 201 [v0, v1] = some (([("x" : Str), ("y" : Str)] : List Str).zip ([v0, v1] ++ dfltOf K 201 0))
  d_u_law_less2 : (dfltOf K 201 0).mapM (kD K 4) = some []
  c_u_law_grid : compF K 26 208 = some Mine.c_u_law_grid
  o_u_law_grid : okFn K 208 [("rich" : Str)] = true
  b_u_law_grid1 : ∀ (S : Setting) (v0 : Value), bindE K S 208 [v0] = some (([("rich" : Str)] : List Str).zip ([v0] ++ dfltOf K 208 0))
  d_u_law_grid1 : (dfltOf K 208 0).mapM (kD K 4) = some []
  c_u_law_apart : compF K 26 215 = some Mine.c_u_law_apart
  o_u_law_apart : okFn K 215 [("rich" : Str)] = true
  b_u_law_apart1 : ∀ (S : Setting) (v0 : Value), bindE K S 215 [v0] = some (([("rich" : Str)] : List Str).zip ([v0] ++ dfltOf K 215 0))
  d_u_law_apart1 : (dfltOf K 215 0).mapM (kD K 4) = some []
  c_u_law_span : compF K 26 222 = some Mine.c_u_law_span
  o_u_law_span : okFn K 222 [("grid" : Str)] = true
  b_u_law_span1 : ∀ (S : Setting) (v0 : Value), bindE K S 222 [v0] = some (([("grid" : Str)] : List Str).zip ([v0] ++ dfltOf K 222 0))
  d_u_law_span1 : (dfltOf K 222 0).mapM (kD K 4) = some []
  c_u_law_within : compF K 26 227 = some Mine.c_u_law_within
  o_u_law_within : okFn K 227 [("part" : Str), ("whole" : Str)] = true
  b_u_law_within2 : ∀ (S : Setting) (v0 v1 : Value), bindE K S 227 [v0, v1] = some (([("part" : Str), ("whole" : Str)] : List Str).zip ([v0, v1] ++ dfltOf K 227 0))
  d_u_law_within2 : (dfltOf K 227 0).mapM (kD K 4) = some []
  c_u_law_due_beside : compF K 26 234 = some Mine.c_u_law_due_beside
  o_u_law_due_beside : okFn K 234 [("s" : Str), ("above" : Str), ("q" : Str)] = true
  b_u_law_due_beside3 : ∀ (S : Setting) (v0 v1 v2 : Value), bindE K S 234 [v0, v1, v2] = some (([("s" : Str), ("above" : Str), ("q" : Str)] : List Str).zip ([v0, v1, v2] ++ dfltOf K 234 0))
  d_u_law_due_beside3 : (dfltOf K 234 0).mapM (kD K 4) = some []
abbrev Lit (K : Frag) (w : World) : Prop := ∀ es n, K.lookup 26 = some ⟨.type "dict", none, .dict es n, #[]⟩ → KeysLit w.params es.toList
theorem len1 {us : List Value} (h : us.length = 1) : ∃ v0, us = [v0] := by
  match us, h with
  | [v0], _ => exact ⟨v0, rfl⟩
theorem len2 {us : List Value} (h : us.length = 2) : ∃ v0 v1, us = [v0, v1] := by
  match us, h with
  | [v0, v1], _ => exact ⟨v0, v1, rfl⟩
theorem len3 {us : List Value} (h : us.length = 3) : ∃ v0 v1 v2, us = [v0, v1, v2] := by
  match us, h with
  | [v0, v1, v2], _ => exact ⟨v0, v1, v2, rfl⟩
theorem len4 {us : List Value} (h : us.length = 4) : ∃ v0 v1 v2 v3, us = [v0, v1, v2, v3] := by
  match us, h with
  | [v0, v1, v2, v3], _ => exact ⟨v0, v1, v2, v3, rfl⟩
theorem len5 {us : List Value} (h : us.length = 5) : ∃ v0 v1 v2 v3 v4, us = [v0, v1, v2, v3, v4] := by
  match us, h with
  | [v0, v1, v2, v3, v4], _ => exact ⟨v0, v1, v2, v3, v4, rfl⟩
theorem len6 {us : List Value} (h : us.length = 6) : ∃ v0 v1 v2 v3 v4 v5, us = [v0, v1, v2, v3, v4, v5] := by
  match us, h with
  | [v0, v1, v2, v3, v4, v5], _ => exact ⟨v0, v1, v2, v3, v4, v5, rfl⟩
theorem en_trailing1 {prog : Program} {w : World} {K : Frag} {N : Nat} (F : Facts K) (hl : Lit K w) (fuel : Nat) {a0 : PyData} {k : PyData → Prop} (h : vcS (Calls prog w K N) fuel [(0, a0)] Mine.c_trailing k (fun _ => False)) : Calls prog w K (N + 1) 21 [a0] k := by
  rw [calls_eq] at h ⊢
  exact enter (names := [("n" : Str)]) (dds := []) hl F.c_trailing F.o_trailing (fun S us e => by
    obtain ⟨v0, rfl⟩ := len1 e
    exact F.b_trailing1 S v0) F.d_trailing1 rfl (fuel := fuel) h
theorem en_u_normalize6 {prog : Program} {w : World} {K : Frag} {N : Nat} (F : Facts K) (hl : Lit K w) (fuel : Nat) {a0 a1 a2 a3 a4 a5 : PyData} {k : PyData → Prop} (h : vcS (Calls prog w K N) fuel [(5, a5), (4, a4), (3, a3), (2, a2), (1, a1), (0, a0)] Mine.c_u_normalize k (fun _ => False)) : Calls prog w K (N + 1) 37 [a0, a1, a2, a3, a4, a5] k := by
  rw [calls_eq] at h ⊢
  exact enter (names := [("sign" : Str), ("man" : Str), ("exp" : Str), ("bc" : Str), ("prec" : Str), ("rnd" : Str)]) (dds := []) hl F.c_u_normalize F.o_u_normalize (fun S us e => by
    obtain ⟨v0, v1, v2, v3, v4, v5, rfl⟩ := len6 e
    exact F.b_u_normalize6 S v0 v1 v2 v3 v4 v5) F.d_u_normalize6 rfl (fuel := fuel) h
theorem en_normalize6 {prog : Program} {w : World} {K : Frag} {N : Nat} (F : Facts K) (hl : Lit K w) (fuel : Nat) {a0 a1 a2 a3 a4 a5 : PyData} {k : PyData → Prop} (h : vcS (Calls prog w K N) fuel [(5, a5), (4, a4), (3, a3), (2, a2), (1, a1), (0, a0)] Mine.c_normalize k (fun _ => False)) : Calls prog w K (N + 1) 44 [a0, a1, a2, a3, a4, a5] k := by
  rw [calls_eq] at h ⊢
  exact enter (names := [("sign" : Str), ("man" : Str), ("exp" : Str), ("bc" : Str), ("prec" : Str), ("rnd" : Str)]) (dds := []) hl F.c_normalize F.o_normalize (fun S us e => by
    obtain ⟨v0, v1, v2, v3, v4, v5, rfl⟩ := len6 e
    exact F.b_normalize6 S v0 v1 v2 v3 v4 v5) F.d_normalize6 rfl (fuel := fuel) h
theorem en_mpf_cmp2 {prog : Program} {w : World} {K : Frag} {N : Nat} (F : Facts K) (hl : Lit K w) (fuel : Nat) {a0 a1 : PyData} {k : PyData → Prop} (h : vcS (Calls prog w K N) fuel [(1, a1), (0, a0)] Mine.c_mpf_cmp k (fun _ => False)) : Calls prog w K (N + 1) 51 [a0, a1] k := by
  rw [calls_eq] at h ⊢
  exact enter (names := [("s" : Str), ("t" : Str)]) (dds := []) hl F.c_mpf_cmp F.o_mpf_cmp (fun S us e => by
    obtain ⟨v0, v1, rfl⟩ := len2 e
    exact F.b_mpf_cmp2 S v0 v1) F.d_mpf_cmp2 rfl (fuel := fuel) h
theorem en_mpf_lt2 {prog : Program} {w : World} {K : Frag} {N : Nat} (F : Facts K) (hl : Lit K w) (fuel : Nat) {a0 a1 : PyData} {k : PyData → Prop} (h : vcS (Calls prog w K N) fuel [(1, a1), (0, a0)] Mine.c_mpf_lt k (fun _ => False)) : Calls prog w K (N + 1) 58 [a0, a1] k := by
  rw [calls_eq] at h ⊢
  exact enter (names := [("s" : Str), ("t" : Str)]) (dds := []) hl F.c_mpf_lt F.o_mpf_lt (fun S us e => by
    obtain ⟨v0, v1, rfl⟩ := len2 e
    exact F.b_mpf_lt2 S v0 v1) F.d_mpf_lt2 rfl (fuel := fuel) h
theorem en_mpf_gt2 {prog : Program} {w : World} {K : Frag} {N : Nat} (F : Facts K) (hl : Lit K w) (fuel : Nat) {a0 a1 : PyData} {k : PyData → Prop} (h : vcS (Calls prog w K N) fuel [(1, a1), (0, a0)] Mine.c_mpf_gt k (fun _ => False)) : Calls prog w K (N + 1) 65 [a0, a1] k := by
  rw [calls_eq] at h ⊢
  exact enter (names := [("s" : Str), ("t" : Str)]) (dds := []) hl F.c_mpf_gt F.o_mpf_gt (fun S us e => by
    obtain ⟨v0, v1, rfl⟩ := len2 e
    exact F.b_mpf_gt2 S v0 v1) F.d_mpf_gt2 rfl (fuel := fuel) h
theorem en_mpf_min_max1 {prog : Program} {w : World} {K : Frag} {N : Nat} (F : Facts K) (hl : Lit K w) (fuel : Nat) {a0 : PyData} {k : PyData → Prop} (h : vcS (Calls prog w K N) fuel [(0, a0)] Mine.c_mpf_min_max k (fun _ => False)) : Calls prog w K (N + 1) 72 [a0] k := by
  rw [calls_eq] at h ⊢
  exact enter (names := [("seq" : Str)]) (dds := []) hl F.c_mpf_min_max F.o_mpf_min_max (fun S us e => by
    obtain ⟨v0, rfl⟩ := len1 e
    exact F.b_mpf_min_max1 S v0) F.d_mpf_min_max1 rfl (fuel := fuel) h
theorem en_mpf_pos3 {prog : Program} {w : World} {K : Frag} {N : Nat} (F : Facts K) (hl : Lit K w) (fuel : Nat) {a0 a1 a2 : PyData} {k : PyData → Prop} (h : vcS (Calls prog w K N) fuel [(2, a2), (1, a1), (0, a0)] Mine.c_mpf_pos k (fun _ => False)) : Calls prog w K (N + 1) 80 [a0, a1, a2] k := by
  rw [calls_eq] at h ⊢
  exact enter (names := [("s" : Str), ("prec" : Str), ("rnd" : Str)]) (dds := []) hl F.c_mpf_pos F.o_mpf_pos (fun S us e => by
    obtain ⟨v0, v1, v2, rfl⟩ := len3 e
    exact F.b_mpf_pos3 S v0 v1 v2) F.d_mpf_pos3 rfl (fuel := fuel) h
theorem en_mpf_neg1 {prog : Program} {w : World} {K : Frag} {N : Nat} (F : Facts K) (hl : Lit K w) (fuel : Nat) {a0 : PyData} {k : PyData → Prop} (h : vcS (Calls prog w K N) fuel [(2, .str ⟨#[100]⟩), (1, .int 0), (0, a0)] Mine.c_mpf_neg k (fun _ => False)) : Calls prog w K (N + 1) 88 [a0] k := by
  rw [calls_eq] at h ⊢
  exact enter (names := [("s" : Str), ("prec" : Str), ("rnd" : Str)]) (dds := [.int 0, .str ⟨#[100]⟩]) hl F.c_mpf_neg F.o_mpf_neg (fun S us e => by
    obtain ⟨v0, rfl⟩ := len1 e
    exact F.b_mpf_neg1 S v0) F.d_mpf_neg1 rfl (fuel := fuel) h
theorem en_mpf_neg3 {prog : Program} {w : World} {K : Frag} {N : Nat} (F : Facts K) (hl : Lit K w) (fuel : Nat) {a0 a1 a2 : PyData} {k : PyData → Prop} (h : vcS (Calls prog w K N) fuel [(2, a2), (1, a1), (0, a0)] Mine.c_mpf_neg k (fun _ => False)) : Calls prog w K (N + 1) 88 [a0, a1, a2] k := by
  rw [calls_eq] at h ⊢
  exact enter (names := [("s" : Str), ("prec" : Str), ("rnd" : Str)]) (dds := []) hl F.c_mpf_neg F.o_mpf_neg (fun S us e => by
    obtain ⟨v0, v1, v2, rfl⟩ := len3 e
    exact F.b_mpf_neg3 S v0 v1 v2) F.d_mpf_neg3 rfl (fuel := fuel) h
theorem en_mpf_sign1 {prog : Program} {w : World} {K : Frag} {N : Nat} (F : Facts K) (hl : Lit K w) (fuel : Nat) {a0 : PyData} {k : PyData → Prop} (h : vcS (Calls prog w K N) fuel [(0, a0)] Mine.c_mpf_sign k (fun _ => False)) : Calls prog w K (N + 1) 95 [a0] k := by
  rw [calls_eq] at h ⊢
  exact enter (names := [("s" : Str)]) (dds := []) hl F.c_mpf_sign F.o_mpf_sign (fun S us e => by
    obtain ⟨v0, rfl⟩ := len1 e
    exact F.b_mpf_sign1 S v0) F.d_mpf_sign1 rfl (fuel := fuel) h
theorem en_mpf_add4 {prog : Program} {w : World} {K : Frag} {N : Nat} (F : Facts K) (hl : Lit K w) (fuel : Nat) {a0 a1 a2 a3 : PyData} {k : PyData → Prop} (h : vcS (Calls prog w K N) fuel [(4, .int 0), (3, a3), (2, a2), (1, a1), (0, a0)] Mine.c_mpf_add k (fun _ => False)) : Calls prog w K (N + 1) 103 [a0, a1, a2, a3] k := by
  rw [calls_eq] at h ⊢
  exact enter (names := [("s" : Str), ("t" : Str), ("prec" : Str), ("rnd" : Str), ("_sub" : Str)]) (dds := [.int 0]) hl F.c_mpf_add F.o_mpf_add (fun S us e => by
    obtain ⟨v0, v1, v2, v3, rfl⟩ := len4 e
    exact F.b_mpf_add4 S v0 v1 v2 v3) F.d_mpf_add4 rfl (fuel := fuel) h
theorem en_mpf_add5 {prog : Program} {w : World} {K : Frag} {N : Nat} (F : Facts K) (hl : Lit K w) (fuel : Nat) {a0 a1 a2 a3 a4 : PyData} {k : PyData → Prop} (h : vcS (Calls prog w K N) fuel [(4, a4), (3, a3), (2, a2), (1, a1), (0, a0)] Mine.c_mpf_add k (fun _ => False)) : Calls prog w K (N + 1) 103 [a0, a1, a2, a3, a4] k := by
  rw [calls_eq] at h ⊢
  exact enter (names := [("s" : Str), ("t" : Str), ("prec" : Str), ("rnd" : Str), ("_sub" : Str)]) (dds := []) hl F.c_mpf_add F.o_mpf_add (fun S us e => by
    obtain ⟨v0, v1, v2, v3, v4, rfl⟩ := len5 e
    exact F.b_mpf_add5 S v0 v1 v2 v3 v4) F.d_mpf_add5 rfl (fuel := fuel) h
theorem en_mpf_sub4 {prog : Program} {w : World} {K : Frag} {N : Nat} (F : Facts K) (hl : Lit K w) (fuel : Nat) {a0 a1 a2 a3 : PyData} {k : PyData → Prop} (h : vcS (Calls prog w K N) fuel [(3, a3), (2, a2), (1, a1), (0, a0)] Mine.c_mpf_sub k (fun _ => False)) : Calls prog w K (N + 1) 111 [a0, a1, a2, a3] k := by
  rw [calls_eq] at h ⊢
  exact enter (names := [("s" : Str), ("t" : Str), ("prec" : Str), ("rnd" : Str)]) (dds := []) hl F.c_mpf_sub F.o_mpf_sub (fun S us e => by
    obtain ⟨v0, v1, v2, v3, rfl⟩ := len4 e
    exact F.b_mpf_sub4 S v0 v1 v2 v3) F.d_mpf_sub4 rfl (fuel := fuel) h
theorem en_mpf_mul2 {prog : Program} {w : World} {K : Frag} {N : Nat} (F : Facts K) (hl : Lit K w) (fuel : Nat) {a0 a1 : PyData} {k : PyData → Prop} (h : vcS (Calls prog w K N) fuel [(3, .str ⟨#[100]⟩), (2, .int 0), (1, a1), (0, a0)] Mine.c_mpf_mul k (fun _ => False)) : Calls prog w K (N + 1) 119 [a0, a1] k := by
  rw [calls_eq] at h ⊢
  exact enter (names := [("s" : Str), ("t" : Str), ("prec" : Str), ("rnd" : Str)]) (dds := [.int 0, .str ⟨#[100]⟩]) hl F.c_mpf_mul F.o_mpf_mul (fun S us e => by
    obtain ⟨v0, v1, rfl⟩ := len2 e
    exact F.b_mpf_mul2 S v0 v1) F.d_mpf_mul2 rfl (fuel := fuel) h
theorem en_mpf_mul4 {prog : Program} {w : World} {K : Frag} {N : Nat} (F : Facts K) (hl : Lit K w) (fuel : Nat) {a0 a1 a2 a3 : PyData} {k : PyData → Prop} (h : vcS (Calls prog w K N) fuel [(3, a3), (2, a2), (1, a1), (0, a0)] Mine.c_mpf_mul k (fun _ => False)) : Calls prog w K (N + 1) 119 [a0, a1, a2, a3] k := by
  rw [calls_eq] at h ⊢
  exact enter (names := [("s" : Str), ("t" : Str), ("prec" : Str), ("rnd" : Str)]) (dds := []) hl F.c_mpf_mul F.o_mpf_mul (fun S us e => by
    obtain ⟨v0, v1, v2, v3, rfl⟩ := len4 e
    exact F.b_mpf_mul4 S v0 v1 v2 v3) F.d_mpf_mul4 rfl (fuel := fuel) h
theorem en_mpf_div4 {prog : Program} {w : World} {K : Frag} {N : Nat} (F : Facts K) (hl : Lit K w) (fuel : Nat) {a0 a1 a2 a3 : PyData} {k : PyData → Prop} (h : vcS (Calls prog w K N) fuel [(3, a3), (2, a2), (1, a1), (0, a0)] Mine.c_mpf_div k (fun _ => False)) : Calls prog w K (N + 1) 127 [a0, a1, a2, a3] k := by
  rw [calls_eq] at h ⊢
  exact enter (names := [("s" : Str), ("t" : Str), ("prec" : Str), ("rnd" : Str)]) (dds := []) hl F.c_mpf_div F.o_mpf_div (fun S us e => by
    obtain ⟨v0, v1, v2, v3, rfl⟩ := len4 e
    exact F.b_mpf_div4 S v0 v1 v2 v3) F.d_mpf_div4 rfl (fuel := fuel) h
theorem en_mpi_add2 {prog : Program} {w : World} {K : Frag} {N : Nat} (F : Facts K) (hl : Lit K w) (fuel : Nat) {a0 a1 : PyData} {k : PyData → Prop} (h : vcS (Calls prog w K N) fuel [(2, .int 0), (1, a1), (0, a0)] Mine.c_mpi_add k (fun _ => False)) : Calls prog w K (N + 1) 135 [a0, a1] k := by
  rw [calls_eq] at h ⊢
  exact enter (names := [("s" : Str), ("t" : Str), ("prec" : Str)]) (dds := [.int 0]) hl F.c_mpi_add F.o_mpi_add (fun S us e => by
    obtain ⟨v0, v1, rfl⟩ := len2 e
    exact F.b_mpi_add2 S v0 v1) F.d_mpi_add2 rfl (fuel := fuel) h
theorem en_mpi_add3 {prog : Program} {w : World} {K : Frag} {N : Nat} (F : Facts K) (hl : Lit K w) (fuel : Nat) {a0 a1 a2 : PyData} {k : PyData → Prop} (h : vcS (Calls prog w K N) fuel [(2, a2), (1, a1), (0, a0)] Mine.c_mpi_add k (fun _ => False)) : Calls prog w K (N + 1) 135 [a0, a1, a2] k := by
  rw [calls_eq] at h ⊢
  exact enter (names := [("s" : Str), ("t" : Str), ("prec" : Str)]) (dds := []) hl F.c_mpi_add F.o_mpi_add (fun S us e => by
    obtain ⟨v0, v1, v2, rfl⟩ := len3 e
    exact F.b_mpi_add3 S v0 v1 v2) F.d_mpi_add3 rfl (fuel := fuel) h
theorem en_mpi_pos2 {prog : Program} {w : World} {K : Frag} {N : Nat} (F : Facts K) (hl : Lit K w) (fuel : Nat) {a0 a1 : PyData} {k : PyData → Prop} (h : vcS (Calls prog w K N) fuel [(1, a1), (0, a0)] Mine.c_mpi_pos k (fun _ => False)) : Calls prog w K (N + 1) 142 [a0, a1] k := by
  rw [calls_eq] at h ⊢
  exact enter (names := [("s" : Str), ("prec" : Str)]) (dds := []) hl F.c_mpi_pos F.o_mpi_pos (fun S us e => by
    obtain ⟨v0, v1, rfl⟩ := len2 e
    exact F.b_mpi_pos2 S v0 v1) F.d_mpi_pos2 rfl (fuel := fuel) h
theorem en_mpi_neg1 {prog : Program} {w : World} {K : Frag} {N : Nat} (F : Facts K) (hl : Lit K w) (fuel : Nat) {a0 : PyData} {k : PyData → Prop} (h : vcS (Calls prog w K N) fuel [(1, .int 0), (0, a0)] Mine.c_mpi_neg k (fun _ => False)) : Calls prog w K (N + 1) 150 [a0] k := by
  rw [calls_eq] at h ⊢
  exact enter (names := [("s" : Str), ("prec" : Str)]) (dds := [.int 0]) hl F.c_mpi_neg F.o_mpi_neg (fun S us e => by
    obtain ⟨v0, rfl⟩ := len1 e
    exact F.b_mpi_neg1 S v0) F.d_mpi_neg1 rfl (fuel := fuel) h
theorem en_mpi_abs1 {prog : Program} {w : World} {K : Frag} {N : Nat} (F : Facts K) (hl : Lit K w) (fuel : Nat) {a0 : PyData} {k : PyData → Prop} (h : vcS (Calls prog w K N) fuel [(1, .int 0), (0, a0)] Mine.c_mpi_abs k (fun _ => False)) : Calls prog w K (N + 1) 158 [a0] k := by
  rw [calls_eq] at h ⊢
  exact enter (names := [("s" : Str), ("prec" : Str)]) (dds := [.int 0]) hl F.c_mpi_abs F.o_mpi_abs (fun S us e => by
    obtain ⟨v0, rfl⟩ := len1 e
    exact F.b_mpi_abs1 S v0) F.d_mpi_abs1 rfl (fuel := fuel) h
theorem en_mpi_mul3 {prog : Program} {w : World} {K : Frag} {N : Nat} (F : Facts K) (hl : Lit K w) (fuel : Nat) {a0 a1 a2 : PyData} {k : PyData → Prop} (h : vcS (Calls prog w K N) fuel [(2, a2), (1, a1), (0, a0)] Mine.c_mpi_mul k (fun _ => False)) : Calls prog w K (N + 1) 166 [a0, a1, a2] k := by
  rw [calls_eq] at h ⊢
  exact enter (names := [("s" : Str), ("t" : Str), ("prec" : Str)]) (dds := []) hl F.c_mpi_mul F.o_mpi_mul (fun S us e => by
    obtain ⟨v0, v1, v2, rfl⟩ := len3 e
    exact F.b_mpi_mul3 S v0 v1 v2) F.d_mpi_mul3 rfl (fuel := fuel) h
theorem en_mpi_div3 {prog : Program} {w : World} {K : Frag} {N : Nat} (F : Facts K) (hl : Lit K w) (fuel : Nat) {a0 a1 a2 : PyData} {k : PyData → Prop} (h : vcS (Calls prog w K N) fuel [(2, a2), (1, a1), (0, a0)] Mine.c_mpi_div k (fun _ => False)) : Calls prog w K (N + 1) 173 [a0, a1, a2] k := by
  rw [calls_eq] at h ⊢
  exact enter (names := [("s" : Str), ("t" : Str), ("prec" : Str)]) (dds := []) hl F.c_mpi_div F.o_mpi_div (fun S us e => by
    obtain ⟨v0, v1, v2, rfl⟩ := len3 e
    exact F.b_mpi_div3 S v0 v1 v2) F.d_mpi_div3 rfl (fuel := fuel) h
theorem en_u_law_mixed2 {prog : Program} {w : World} {K : Frag} {N : Nat} (F : Facts K) (hl : Lit K w) (fuel : Nat) {a0 a1 : PyData} {k : PyData → Prop} (h : vcS (Calls prog w K N) fuel [(1, a1), (0, a0)] Mine.c_u_law_mixed k (fun _ => False)) : Calls prog w K (N + 1) 180 [a0, a1] k := by
  rw [calls_eq] at h ⊢
  exact enter (names := [("script" : Str), ("k" : Str)]) (dds := []) hl F.c_u_law_mixed F.o_u_law_mixed (fun S us e => by
    obtain ⟨v0, v1, rfl⟩ := len2 e
    exact F.b_u_law_mixed2 S v0 v1) F.d_u_law_mixed2 rfl (fuel := fuel) h
theorem en_u_law_made2 {prog : Program} {w : World} {K : Frag} {N : Nat} (F : Facts K) (hl : Lit K w) (fuel : Nat) {a0 a1 : PyData} {k : PyData → Prop} (h : vcS (Calls prog w K N) fuel [(1, a1), (0, a0)] Mine.c_u_law_made k (fun _ => False)) : Calls prog w K (N + 1) 187 [a0, a1] k := by
  rw [calls_eq] at h ⊢
  exact enter (names := [("n" : Str), ("e" : Str)]) (dds := []) hl F.c_u_law_made F.o_u_law_made (fun S us e => by
    obtain ⟨v0, v1, rfl⟩ := len2 e
    exact F.b_u_law_made2 S v0 v1) F.d_u_law_made2 rfl (fuel := fuel) h
theorem en_u_law_value1 {prog : Program} {w : World} {K : Frag} {N : Nat} (F : Facts K) (hl : Lit K w) (fuel : Nat) {a0 : PyData} {k : PyData → Prop} (h : vcS (Calls prog w K N) fuel [(0, a0)] Mine.c_u_law_value k (fun _ => False)) : Calls prog w K (N + 1) 194 [a0] k := by
  rw [calls_eq] at h ⊢
  exact enter (names := [("s" : Str)]) (dds := []) hl F.c_u_law_value F.o_u_law_value (fun S us e => by
    obtain ⟨v0, rfl⟩ := len1 e
    exact F.b_u_law_value1 S v0) F.d_u_law_value1 rfl (fuel := fuel) h
theorem en_u_law_less2 {prog : Program} {w : World} {K : Frag} {N : Nat} (F : Facts K) (hl : Lit K w) (fuel : Nat) {a0 a1 : PyData} {k : PyData → Prop} (h : vcS (Calls prog w K N) fuel [(1, a1), (0, a0)] Mine.c_u_law_less k (fun _ => False)) : Calls prog w K (N + 1) 201 [a0, a1] k := by
  rw [calls_eq] at h ⊢
  exact enter (names := [("x" : Str), ("y" : Str)]) (dds := []) hl F.c_u_law_less F.o_u_law_less (fun S us e => by
    obtain ⟨v0, v1, rfl⟩ := len2 e
    exact F.b_u_law_less2 S v0 v1) F.d_u_law_less2 rfl (fuel := fuel) h
theorem en_u_law_grid1 {prog : Program} {w : World} {K : Frag} {N : Nat} (F : Facts K) (hl : Lit K w) (fuel : Nat) {a0 : PyData} {k : PyData → Prop} (h : vcS (Calls prog w K N) fuel [(0, a0)] Mine.c_u_law_grid k (fun _ => False)) : Calls prog w K (N + 1) 208 [a0] k := by
  rw [calls_eq] at h ⊢
  exact enter (names := [("rich" : Str)]) (dds := []) hl F.c_u_law_grid F.o_u_law_grid (fun S us e => by
    obtain ⟨v0, rfl⟩ := len1 e
    exact F.b_u_law_grid1 S v0) F.d_u_law_grid1 rfl (fuel := fuel) h
theorem en_u_law_apart1 {prog : Program} {w : World} {K : Frag} {N : Nat} (F : Facts K) (hl : Lit K w) (fuel : Nat) {a0 : PyData} {k : PyData → Prop} (h : vcS (Calls prog w K N) fuel [(0, a0)] Mine.c_u_law_apart k (fun _ => False)) : Calls prog w K (N + 1) 215 [a0] k := by
  rw [calls_eq] at h ⊢
  exact enter (names := [("rich" : Str)]) (dds := []) hl F.c_u_law_apart F.o_u_law_apart (fun S us e => by
    obtain ⟨v0, rfl⟩ := len1 e
    exact F.b_u_law_apart1 S v0) F.d_u_law_apart1 rfl (fuel := fuel) h
theorem en_u_law_span1 {prog : Program} {w : World} {K : Frag} {N : Nat} (F : Facts K) (hl : Lit K w) (fuel : Nat) {a0 : PyData} {k : PyData → Prop} (h : vcS (Calls prog w K N) fuel [(0, a0)] Mine.c_u_law_span k (fun _ => False)) : Calls prog w K (N + 1) 222 [a0] k := by
  rw [calls_eq] at h ⊢
  exact enter (names := [("grid" : Str)]) (dds := []) hl F.c_u_law_span F.o_u_law_span (fun S us e => by
    obtain ⟨v0, rfl⟩ := len1 e
    exact F.b_u_law_span1 S v0) F.d_u_law_span1 rfl (fuel := fuel) h
theorem en_u_law_within2 {prog : Program} {w : World} {K : Frag} {N : Nat} (F : Facts K) (hl : Lit K w) (fuel : Nat) {a0 a1 : PyData} {k : PyData → Prop} (h : vcS (Calls prog w K N) fuel [(1, a1), (0, a0)] Mine.c_u_law_within k (fun _ => False)) : Calls prog w K (N + 1) 227 [a0, a1] k := by
  rw [calls_eq] at h ⊢
  exact enter (names := [("part" : Str), ("whole" : Str)]) (dds := []) hl F.c_u_law_within F.o_u_law_within (fun S us e => by
    obtain ⟨v0, v1, rfl⟩ := len2 e
    exact F.b_u_law_within2 S v0 v1) F.d_u_law_within2 rfl (fuel := fuel) h
theorem en_u_law_due_beside3 {prog : Program} {w : World} {K : Frag} {N : Nat} (F : Facts K) (hl : Lit K w) (fuel : Nat) {a0 a1 a2 : PyData} {k : PyData → Prop} (h : vcS (Calls prog w K N) fuel [(2, a2), (1, a1), (0, a0)] Mine.c_u_law_due_beside k (fun _ => False)) : Calls prog w K (N + 1) 234 [a0, a1, a2] k := by
  rw [calls_eq] at h ⊢
  exact enter (names := [("s" : Str), ("above" : Str), ("q" : Str)]) (dds := []) hl F.c_u_law_due_beside F.o_u_law_due_beside (fun S us e => by
    obtain ⟨v0, v1, v2, rfl⟩ := len3 e
    exact F.b_u_law_due_beside3 S v0 v1 v2) F.d_u_law_due_beside3 rfl (fuel := fuel) h
end Mine
/-! part B2K -/
namespace Mine
open PySem PySem.W PyProof.Rows
set_option maxRecDepth 100000
set_option maxHeartbeats 8000000
theorem facts (P : Params) : Facts (hd.heap_39 P) := by
  constructor
  all_goals (first | kernel_rfl | (intros; kernel_rfl))
theorem lit_of {K : Frag} {w : World} {es₀ : Array DictEntry} {n₀ : Nat} (h : K.lookup 26 = some ⟨.type "dict", none, .dict es₀ n₀, #[]⟩) (h2 : KeysLit w.params es₀.toList) : Lit K w := by
  intro es n e
  rw [h] at e
  cases e
  exact h2
theorem lit (w : World) : Lit (hd.heap_39 w.params) w := by
  refine lit_of (es₀ := ?es) (n₀ := ?n) ?l ?k
  case l => with_unfolding_all rfl
  case k => k_keys
end Mine
/-! part B3 -/
namespace Mine
open PySem PySem.W PyProof.Rows
set_option maxRecDepth 100000
theorem glue {prog : Program} {w : World} {K : Frag} {p : Program} {loose : List Str} {mean : ExcName → Option Value} {mg mb : Str → Option Value} {s₁ : Shared} {h₁ : Heap} {l : Addr} {vs : List Value} {ns : List Int} {body : List Stmt} {env : Env} {A : Around} {tk N fuel : Nat}
    {m : Str → Option Value} {Q : Flow → Shared → Prop} {E : Value → Shared → Prop}
    (X : K.In s₁.heap) (T : Top p loose mean mg mb s₁.heap) (F : Fr s₁.heap env.locals h₁ m) (hl : s₁.heap.IsList l vs.toArray) (hi : IntsAre vs ns) (hlit : Lit K w)
    (hbody : body.mapM (compS K 26 env.scope.names (localsOf env.scope.names) 40) = some c_law) (C : Cx A env N) (hm : m ("script" : Str) = some (.ref l)) (hloc : allLocal env.scope.names (localsOf env.scope.names) = true) (hidx : (localsOf env.scope.names).head? = some ("script" : Str))
    (hv : vcS (CallOK prog w K N) fuel [(0, .list (ns.map .int))] c_law (fun d => d = .bool true) (fun _ => False))
    (hq : ∀ h' tk', Ext s₁.heap h' → Q (.ret (.bool true)) { s₁ with heap := h', toks := tk' }) : wpAny (model prog w) A (execs body env) Q E { s₁ with heap := h₁, toks := tk } := by
  have H := HK.of X T
  have hL : s₁.heap.get? env.locals = none := by
    cases e : s₁.heap.get? env.locals with
    | none => rfl
    | some o => exact absurd (Nat.lt_of_lt_of_le (Heap.lt_size e) F.above) (Nat.lt_irrefl _)
  have many : All2 (StS prog w K A env (localsOf env.scope.names) N s₁.heap) body c_law :=
    (mapM_some hbody).imp fun a b q => compS_sound hlit C H hL (fun x i hx => allLocal_of hloc x (List.mem_of_getElem? (idxOf_at hx))) 40 a b q
  have st := stv_of hL many
  have hE : Ext s₁.heap h₁ := F.keep
  have rl : Rep h₁ (.ref l) (.list (ns.map .int)) := by
    obtain ⟨o, ho, hc, n, hd⟩ := hl
    exact .lst (hE _ _ ho) hc hd (by simpa using RepAll.ints hi)
  have loc : Loc (localsOf env.scope.names) m [(0, .list (ns.map .int))] h₁ := by
    intro x i d hx hd
    rw [getV] at hd
    split at hd
    · rename_i q
      subst q
      cases hd
      have h0 := idxOf_at hx
      rw [List.head?_eq_getElem?, h0] at hidx
      cases hidx
      exact ⟨_, hm, rl⟩
    · simp [getV] at hd
  refine st fuel _ _ _ hv { s₁ with heap := h₁, toks := tk } _ Q E F.ns loc hE ⟨fun d v h' tk' hd e r => ?_, fun _ _ _ _ h => h.elim⟩
  subst hd
  cases r
  exact hq h' tk' (e.ext hE hL)
end Mine
/-! part M1 -/
namespace Mine
open PySem
/-! numbers of binary digits -/
abbrev bl (n : Int) : Nat := Builtin.Int.intBits n
theorem bl_def (n : Int) : bl n = if n = 0 then 0 else n.natAbs.log2 + 1 := by
  unfold bl Builtin.Int.intBits
  by_cases h : n = 0 <;> simp [h]
theorem bl_zero : bl 0 = 0 := rfl
theorem bl_lt (n : Int) : n.natAbs < 2 ^ bl n := by
  rw [bl_def]
  split
  · rename_i h; subst h; decide
  · exact Nat.lt_log2_self
theorem bl_pos {n : Int} (h : n ≠ 0) : 1 ≤ bl n := by rw [bl_def, if_neg h]; omega
theorem bl_ge {n : Int} (h : n ≠ 0) : 2 ^ (bl n - 1) ≤ n.natAbs := by
  rw [bl_def, if_neg h]
  exact Nat.log2_self_le (by omega)
theorem bl_le {n : Int} {k : Nat} (h : n.natAbs < 2 ^ k) : bl n ≤ k := by
  rw [bl_def]
  split
  · omega
  · have := (Nat.log2_lt (by omega)).mpr h
    omega
theorem bl_eq {n : Int} {k : Nat} (h1 : 2 ^ k ≤ n.natAbs) (h2 : n.natAbs < 2 ^ (k + 1)) : bl n = k + 1 := by
  have hn : n ≠ 0 := by
    rintro rfl
    have := Nat.two_pow_pos k
    simp at h1
  have a := bl_le h2
  have b := bl_lt n
  have c : k < bl n := (Nat.pow_lt_pow_iff_right (by decide : 1 < 2)).mp (Nat.lt_of_le_of_lt h1 b)
  omega
theorem bl_neg (n : Int) : bl (-n) = bl n := by rw [bl_def, bl_def]; simp
theorem bl_mul_pow {n : Int} (h : n ≠ 0) (k : Nat) : bl (n * 2 ^ k) = bl n + k := by
  have h1 := bl_ge h
  have h2 := bl_lt n
  have h3 := bl_pos h
  have e : (n * 2 ^ k).natAbs = n.natAbs * 2 ^ k := by rw [Int.natAbs_mul, Int.natAbs_pow]; rfl
  have := bl_eq (n := n * 2 ^ k) (k := bl n - 1 + k) (by rw [e, Nat.pow_add]; exact Nat.mul_le_mul_right _ h1) (by
    rw [e, show bl n - 1 + k + 1 = bl n + k by omega, Nat.pow_add]
    exact Nat.mul_lt_mul_of_pos_right h2 (Nat.two_pow_pos k))
  omega

/-! the odd part -/
theorem odd_part : ∀ (m : Nat), 0 < m → ∃ t q : Nat, m = q * 2 ^ t ∧ q % 2 = 1 := by
  intro m
  induction m using Nat.strongRecOn with
  | ind m ih =>
    intro h
    by_cases ho : m % 2 = 1
    · exact ⟨0, m, by simp, ho⟩
    · obtain ⟨t, q, e, hq⟩ := ih (m / 2) (by omega) (by omega)
      refine ⟨t + 1, q, ?_, hq⟩
      rw [Nat.pow_succ, ← Nat.mul_assoc, ← e]
      omega
theorem land_pred_double (m : Nat) (h : 0 < m) : (2 * m) &&& (2 * m - 1) = 2 * (m &&& (m - 1)) := by
  apply Nat.eq_of_testBit_eq
  intro i
  cases i with
  | zero => simp
  | succ i =>
    rw [Nat.testBit_and, Nat.testBit_succ, Nat.testBit_succ, Nat.testBit_succ]
    have e1 : 2 * m / 2 = m := by omega
    have e2 : (2 * m - 1) / 2 = m - 1 := by omega
    have e3 : 2 * (m &&& (m - 1)) / 2 = m &&& (m - 1) := by omega
    rw [e1, e2, e3, Nat.testBit_and]
theorem land_pred_odd (q : Nat) (h : q % 2 = 1) : q &&& (q - 1) = q - 1 := by
  apply Nat.eq_of_testBit_eq
  intro i
  cases i with
  | zero => simp [h]
  | succ i =>
    rw [Nat.testBit_and, Nat.testBit_succ, Nat.testBit_succ]
    have e : (q - 1) / 2 = q / 2 := by omega
    rw [e, Bool.and_self]
theorem land_pred (q : Nat) (h : q % 2 = 1) : ∀ t : Nat, (q * 2 ^ t) &&& (q * 2 ^ t - 1) = q * 2 ^ t - 2 ^ t := by
  intro t
  induction t with
  | zero => simpa using land_pred_odd q h
  | succ t ih =>
    have hp : 0 < q * 2 ^ t := Nat.mul_pos (by omega) (Nat.two_pow_pos t)
    have e : q * 2 ^ (t + 1) = 2 * (q * 2 ^ t) := by rw [Nat.pow_succ]; rw [Nat.mul_comm 2, Nat.mul_assoc]
    rw [e, land_pred_double _ hp, ih, Nat.pow_succ]
    omega
theorem bitAnd_neg {m : Int} {q t : Nat} (hm : m = ((q * 2 ^ t : Nat) : Int)) (h : q % 2 = 1) : Builtin.bitAnd m (-m) = ((2 ^ t : Nat) : Int) := by
  have hp : 0 < q * 2 ^ t := Nat.mul_pos (by omega) (Nat.two_pow_pos t)
  subst hm
  unfold Builtin.bitAnd
  have h1 : decide ((0 : Int) ≤ ((q * 2 ^ t : Nat) : Int)) = true := decide_eq_true (Int.natCast_nonneg _)
  have h2 : decide ((0 : Int) ≤ -((q * 2 ^ t : Nat) : Int)) = false := by rw [decide_eq_false_iff_not]; omega
  rw [h1, h2]
  dsimp only
  have e : (Builtin.bitNot (-((q * 2 ^ t : Nat) : Int))).toNat = q * 2 ^ t - 1 := by
    unfold Builtin.bitNot
    omega
  rw [e, Int.toNat_natCast, land_pred q h t]
  have : 2 ^ t ≤ q * 2 ^ t := Nat.le_mul_of_pos_left _ (by omega)
  omega
theorem bl_two_pow (t : Nat) : bl ((2 ^ t : Nat) : Int) = t + 1 := by
  apply bl_eq
  · simp
  · rw [Int.natAbs_natCast]; exact Nat.pow_lt_pow_right (by decide) (Nat.lt_succ_self t)
end Mine
/-! part M2 -/
namespace Mine
open PySem
/-! powers of two and dyadic values -/
def p2 (e : Int) : Rat := (2 : Rat) ^ e
theorem p2_pos (e : Int) : 0 < p2 e := Rat.zpow_pos (by decide)
theorem p2_add (a b : Int) : p2 (a + b) = p2 a * p2 b := Rat.zpow_add (by decide) a b
theorem p2_zero : p2 0 = 1 := Rat.zpow_zero 2
theorem p2_nat (k : Nat) : p2 (k : Int) = (((2 : Int) ^ k : Int) : Rat) := by
  unfold p2
  rw [Rat.zpow_natCast, Rat.intCast_pow]; rfl
theorem p2_one_le {k : Int} (h : 0 ≤ k) : 1 ≤ p2 k := by
  obtain ⟨n, rfl⟩ := Int.eq_ofNat_of_zero_le h
  rw [p2_nat]
  have : (1 : Int) ≤ 2 ^ n := by have := Int.pow_pos (m := n) (show (0 : Int) < 2 by decide); omega
  exact Rat.intCast_le_intCast.mpr this
theorem p2_mono {a b : Int} (h : a ≤ b) : p2 a ≤ p2 b := by
  have e : b = a + (b - a) := by omega
  rw [e, p2_add]
  have h1 := p2_one_le (k := b - a) (by omega)
  have h2 := p2_pos a
  have := Rat.mul_le_mul_of_nonneg_left h1 (Rat.le_of_lt h2)
  rwa [Rat.mul_one] at this
theorem p2_succ (a : Int) : p2 (a + 1) = 2 * p2 a := by
  rw [p2_add, Rat.mul_comm]
  congr 1
theorem p2_lt {a b : Int} (h : a < b) : p2 a < p2 b := by
  have h1 := p2_mono (a := a + 1) (b := b) (by omega)
  rw [p2_succ] at h1
  have := p2_pos a
  grind
theorem p2_inj_lt {a b : Int} (h : p2 a < p2 b) : a < b := by
  refine Int.not_le.mp fun q => ?_
  exact absurd h (Rat.not_lt.mpr (p2_mono q))
theorem p2_inj_le {a b : Int} (h : p2 a ≤ p2 b) : a ≤ b := by
  refine Int.not_lt.mp fun q => ?_
  exact absurd h (Rat.not_le.mpr (p2_lt q))

def val (n e : Int) : Rat := (n : Rat) * p2 e
theorem val_zero (e : Int) : val 0 e = 0 := by unfold val; simp
theorem val_neg (n e : Int) : val (-n) e = -val n e := by unfold val; rw [Rat.intCast_neg, Rat.neg_mul]
theorem val_shift (n e : Int) (k : Nat) : val (n * 2 ^ k) e = val n (e + k) := by
  unfold val
  rw [Rat.intCast_mul, p2_add, p2_nat, Rat.mul_assoc, Rat.mul_comm (p2 e)]
theorem val_le {n m e : Int} : val n e ≤ val m e ↔ n ≤ m := by
  unfold val
  constructor
  · intro h
    exact Rat.intCast_le_intCast.mp (Rat.le_of_mul_le_mul_right h (p2_pos e))
  · intro h
    exact Rat.mul_le_mul_of_nonneg_right (Rat.intCast_le_intCast.mpr h) (Rat.le_of_lt (p2_pos e))
theorem val_lt {n m e : Int} : val n e < val m e ↔ n < m := by
  rw [← Rat.not_le, ← Int.not_le, val_le]
theorem val_inj {n m e : Int} (h : val n e = val m e) : n = m := by
  have h1 := val_le.mp (show val n e ≤ val m e from by rw [h]; exact Rat.le_refl)
  have h2 := val_le.mp (show val m e ≤ val n e from by rw [h]; exact Rat.le_refl)
  omega
theorem val_add (n m e : Int) : val (n + m) e = val n e + val m e := by unfold val; rw [Rat.intCast_add, Rat.add_mul]
theorem val_sub (n m e : Int) : val (n - m) e = val n e - val m e := by unfold val; rw [Rat.intCast_sub]; grind
theorem val_mul (n m e f : Int) : val (n * m) (e + f) = val n e * val m f := by unfold val; rw [Rat.intCast_mul, p2_add]; grind
theorem val_pos {n e : Int} : 0 < val n e ↔ 0 < n := by rw [← val_zero e, val_lt]
theorem val_nonneg {n e : Int} : 0 ≤ val n e ↔ 0 ≤ n := by
  have := val_le (n := 0) (m := n) (e := e)
  rwa [val_zero] at this
theorem val_eq_zero {n e : Int} : val n e = 0 ↔ n = 0 := by
  constructor
  · intro h; rw [← val_zero e] at h; exact val_inj h
  · intro h; subst h; exact val_zero e
theorem val_one (e : Int) : val 1 e = p2 e := by unfold val; simp
/-- the same number over a lower exponent -/
theorem val_down (n e : Int) {f : Int} (h : f ≤ e) : val n e = val (n * 2 ^ (e - f).toNat) f := by
  rw [val_shift]
  congr 1
  omega

theorem odd_pow {n m : Int} {k : Nat} (h : n = m * 2 ^ k) (ho : n % 2 = 1) : k = 0 := by
  cases k with
  | zero => rfl
  | succ k =>
    exfalso
    rw [Int.pow_succ, ← Int.mul_assoc] at h
    omega
/-- odd numbers with a power of two are equal only if they are the same -/
theorem val_odd_unique {n e m f : Int} (hn : n % 2 = 1) (hm : m % 2 = 1) (h : val n e = val m f) : n = m ∧ e = f := by
  rcases Int.le_total e f with q | q
  · rw [val_down m f q] at h
    have h1 := val_inj h
    have := odd_pow h1 hn
    rw [this] at h1
    exact ⟨by simpa using h1, by omega⟩
  · rw [val_down n e q] at h
    have h1 := val_inj h
    have := odd_pow h1.symm hm
    rw [this] at h1
    exact ⟨by simpa using h1, by omega⟩

/-! numbers of at most p digits; rounding -/
def Rp (p : Nat) (x : Rat) : Prop := ∃ m e : Int, m.natAbs < 2 ^ p ∧ x = val m e
def Fl (p : Nat) (x r : Rat) : Prop := Rp p r ∧ r ≤ x ∧ ∀ y, Rp p y → y ≤ x → y ≤ r
/-- rounded down (true) or up (false) -/
def Rnd : Bool → Nat → Rat → Rat → Prop
  | true, p, x, r => Fl p x r
  | false, p, x, r => Fl p (-x) (-r)
theorem Rp.neg {p : Nat} {x : Rat} (h : Rp p x) : Rp p (-x) := by
  obtain ⟨m, e, h1, rfl⟩ := h
  exact ⟨-m, e, by simpa using h1, (val_neg m e).symm⟩
theorem Rp.zero (p : Nat) : Rp p 0 := ⟨0, 0, by simpa using Nat.two_pow_pos p, (val_zero 0).symm⟩
theorem Rp.pow {p : Nat} (hp : 1 ≤ p) (e : Int) : Rp p (p2 e) := ⟨1, e, by
  have := Nat.pow_le_pow_right (n := 2) (by decide) hp
  simp; omega, (val_one e).symm⟩
theorem Rp.of_bl {p : Nat} {n e : Int} (h : bl n ≤ p) : Rp p (val n e) := ⟨n, e, Nat.lt_of_lt_of_le (bl_lt n) (Nat.pow_le_pow_right (by decide) h), rfl⟩
theorem Rp.full {p : Nat} (hp : 1 ≤ p) {n e : Int} (h : n.natAbs ≤ 2 ^ p) : Rp p (val n e) := by
  by_cases h1 : n.natAbs < 2 ^ p
  · exact ⟨n, e, h1, rfl⟩
  · have h2 : n.natAbs = 2 ^ p := by omega
    have h3 : n = 2 ^ p ∨ n = -2 ^ p := by
      rcases Int.natAbs_eq n with q | q
      · left; rw [q, h2]; simp
      · right; rw [q, h2]; simp
    rcases h3 with rfl | rfl
    · have := Rp.pow hp (e + p)
      rw [show ((2 : Int) ^ p) = 1 * 2 ^ p by omega, val_shift, val_one]; exact this
    · have := (Rp.pow hp (e + p)).neg
      rw [show (-(2 : Int) ^ p) = -(1 * 2 ^ p) by omega, val_neg, val_shift, val_one]; exact this

theorem Fl.unique {p : Nat} {x r s : Rat} (h : Fl p x r) (g : Fl p x s) : r = s := Rat.le_antisymm (g.2.2 _ h.1 h.2.1) (h.2.2 _ g.1 g.2.1)
theorem Fl.mono {p : Nat} {x y r s : Rat} (h : Fl p x r) (g : Fl p y s) (hxy : x ≤ y) : r ≤ s := g.2.2 _ h.1 (Rat.le_trans h.2.1 hxy)
theorem Fl.exact {p : Nat} {x : Rat} (h : Rp p x) : Fl p x x := ⟨h, Rat.le_refl, fun _ _ h => h⟩
theorem Rnd.unique {d : Bool} {p : Nat} {x r s : Rat} (h : Rnd d p x r) (g : Rnd d p x s) : r = s := by
  cases d
  · exact Rat.neg_neg r ▸ Rat.neg_neg s ▸ congrArg (- ·) (Fl.unique h g)
  · exact Fl.unique h g
theorem Rnd.mono {d : Bool} {p : Nat} {x y r s : Rat} (h : Rnd d p x r) (g : Rnd d p y s) (hxy : x ≤ y) : r ≤ s := by
  cases d
  · exact Rat.neg_le_neg_iff.mp (Fl.mono g h (Rat.neg_le_neg hxy))
  · exact Fl.mono h g hxy
theorem Rnd.exact {d : Bool} {p : Nat} {x : Rat} (h : Rp p x) : Rnd d p x x := by
  cases d
  · exact Fl.exact h.neg
  · exact Fl.exact h
theorem Rnd.neg {d : Bool} {p : Nat} {x r : Rat} (h : Rnd d p x r) : Rnd (!d) p (-x) (-r) := by
  cases d
  · show Fl p (-x) (-r); exact h
  · show Fl p (-(-x)) (-(-r)); rw [Rat.neg_neg, Rat.neg_neg]; exact h
theorem Rnd.rp {d : Bool} {p : Nat} {x r : Rat} (h : Rnd d p x r) : Rp p r := by
  cases d
  · have := Rp.neg (Fl.exact (h.1)).1; rwa [Rat.neg_neg] at this
  · exact h.1
theorem Rnd.le {p : Nat} {x r : Rat} (h : Rnd true p x r) : r ≤ x := h.2.1
theorem Rnd.ge {p : Nat} {x r : Rat} (h : Rnd false p x r) : x ≤ r := Rat.neg_le_neg_iff.mp h.2.1
theorem Rnd.zero {d : Bool} {p : Nat} : Rnd d p 0 0 := Rnd.exact (Rp.zero p)
theorem Rnd.nonneg {d : Bool} {p : Nat} {x r : Rat} (h : Rnd d p x r) (hx : 0 ≤ x) : 0 ≤ r := Rnd.mono (Rnd.zero (d := d)) h hx
theorem Rnd.nonpos {d : Bool} {p : Nat} {x r : Rat} (h : Rnd d p x r) (hx : x ≤ 0) : r ≤ 0 := Rnd.mono h (Rnd.zero (d := d)) hx

/-- bounds of the size -/
def In (H : Int) (x : Rat) : Prop := x = 0 ∨ (p2 (-H) ≤ x ∧ x ≤ p2 H) ∨ (p2 (-H) ≤ -x ∧ -x ≤ p2 H)
theorem In.neg {H : Int} {x : Rat} (h : In H x) : In H (-x) := by
  rcases h with h | h | h
  · left; rw [h]; rfl
  · right; right; rwa [Rat.neg_neg]
  · right; left; exact h
theorem In.up {H G : Int} {x : Rat} (h : In H x) (hg : H ≤ G) : In G x := by
  have h1 := p2_mono (a := -G) (b := -H) (by omega)
  have h2 := p2_mono hg
  rcases h with h | h | h
  · exact .inl h
  · exact .inr (.inl ⟨Rat.le_trans h1 h.1, Rat.le_trans h.2 h2⟩)
  · exact .inr (.inr ⟨Rat.le_trans h1 h.1, Rat.le_trans h.2 h2⟩)
theorem In.rnd {H : Int} {x r : Rat} {d : Bool} {p : Nat} (hp : 1 ≤ p) (h : In H x) (g : Rnd d p x r) : In H r := by
  have a := Rnd.exact (d := d) (Rp.pow hp (-H))
  have b := Rnd.exact (d := d) (Rp.pow hp H)
  rcases h with h | h | h
  · left; subst h; exact Rnd.unique g Rnd.zero
  · exact .inr (.inl ⟨Rnd.mono a g h.1, Rnd.mono g b h.2⟩)
  · have a' := Rnd.exact (d := !d) (Rp.pow hp (-H))
    have b' := Rnd.exact (d := !d) (Rp.pow hp H)
    exact .inr (.inr ⟨Rnd.mono a' g.neg h.1, Rnd.mono g.neg b' h.2⟩)
theorem In.mul_pos {H G : Int} {x y : Rat} (h1 : p2 (-H) ≤ x) (h2 : x ≤ p2 H) (g1 : p2 (-G) ≤ y) (g2 : y ≤ p2 G) : p2 (-(H + G)) ≤ x * y ∧ x * y ≤ p2 (H + G) := by
  have a := p2_pos (-H)
  have b := p2_pos (-G)
  constructor
  · rw [show -(H + G) = -H + -G by omega, p2_add]
    exact Rat.le_trans (Rat.mul_le_mul_of_nonneg_right h1 (Rat.le_of_lt b)) (Rat.mul_le_mul_of_nonneg_left g1 (by grind))
  · rw [p2_add]
    exact Rat.le_trans (Rat.mul_le_mul_of_nonneg_right h2 (by grind)) (Rat.mul_le_mul_of_nonneg_left g2 (Rat.le_of_lt (p2_pos H)))
theorem In.mul {H G : Int} {x y : Rat} (h : In H x) (g : In G y) : In (H + G) (x * y) := by
  rcases h with h | h | h
  · left; rw [h]; exact Rat.zero_mul y
  · rcases g with g | g | g
    · left; rw [g]; exact Rat.mul_zero x
    · exact .inr (.inl (In.mul_pos h.1 h.2 g.1 g.2))
    · have := In.mul_pos h.1 h.2 g.1 g.2
      rw [Rat.mul_neg] at this
      exact .inr (.inr this)
  · rcases g with g | g | g
    · left; rw [g]; exact Rat.mul_zero x
    · have := In.mul_pos h.1 h.2 g.1 g.2
      rw [Rat.neg_mul] at this
      exact .inr (.inr this)
    · have := In.mul_pos h.1 h.2 g.1 g.2
      rw [Rat.neg_mul, Rat.mul_neg, Rat.neg_neg] at this
      exact .inr (.inl this)
theorem p2_inv (a : Int) : (p2 a)⁻¹ = p2 (-a) := by unfold p2; rw [Rat.zpow_neg]
theorem In.inv_pos {H : Int} {x : Rat} (h1 : p2 (-H) ≤ x) (h2 : x ≤ p2 H) : p2 (-H) ≤ x⁻¹ ∧ x⁻¹ ≤ p2 H := by
  have hx : 0 < x := by have := p2_pos (-H); grind
  have e1 : p2 (-H) * p2 H = 1 := by rw [← p2_add, show -H + H = 0 by omega, p2_zero]
  have e2 : x * x⁻¹ = 1 := Rat.mul_inv_cancel x (Rat.ne_of_gt hx)
  have hi : 0 < x⁻¹ := Rat.inv_pos.mpr hx
  have hp := p2_pos H
  have hm := p2_pos (-H)
  constructor
  · have := Rat.mul_le_mul_of_nonneg_right h2 (Rat.le_of_lt hi)
    rw [e2] at this
    have h3 := Rat.mul_le_mul_of_nonneg_left this (Rat.le_of_lt hm)
    rw [Rat.mul_one, ← Rat.mul_assoc, e1, Rat.one_mul] at h3
    exact h3
  · have := Rat.mul_le_mul_of_nonneg_right h1 (Rat.le_of_lt hi)
    rw [e2] at this
    have h3 := Rat.mul_le_mul_of_nonneg_left this (Rat.le_of_lt hp)
    rw [Rat.mul_one, ← Rat.mul_assoc, Rat.mul_comm (p2 H), e1, Rat.one_mul] at h3
    exact h3
theorem rat_neg_inv (x : Rat) : (-x)⁻¹ = -x⁻¹ := by
  by_cases h : x = 0
  · subst h; rw [Rat.neg_zero, Rat.inv_zero]; rfl
  · apply Rat.inv_eq_of_mul_eq_one
    rw [Rat.neg_mul, Rat.mul_neg, Rat.neg_neg]; exact Rat.mul_inv_cancel x h
theorem In.inv {H : Int} {x : Rat} (h : In H x) : In H x⁻¹ := by
  rcases h with h | h | h
  · left; rw [h]; exact Rat.inv_zero
  · exact .inr (.inl (In.inv_pos h.1 h.2))
  · have := In.inv_pos h.1 h.2
    rw [rat_neg_inv] at this
    exact .inr (.inr this)
theorem In.div {H G : Int} {x y : Rat} (h : In H x) (g : In G y) : In (H + G) (x / y) := by rw [Rat.div_def]; exact h.mul g.inv
theorem In.of_val {n e : Int} {B H : Int} (hb : (bl n : Int) ≤ B) (h1 : -H ≤ e) (h2 : e + B ≤ H) : In H (val n e) := by
  have pos : ∀ n : Int, 0 < n → (bl n : Int) ≤ B → p2 (-H) ≤ val n e ∧ val n e ≤ p2 H := by
    intro n hn hb
    have a : val 1 e ≤ val n e := val_le.mpr (by omega)
    rw [val_one] at a
    have b := bl_lt n
    have c : n ≤ 2 ^ bl n := by
      have : ((n.natAbs : Nat) : Int) < ((2 ^ bl n : Nat) : Int) := Int.ofNat_lt.mpr b
      rw [Int.natCast_pow] at this
      have e2 : ((n.natAbs : Nat) : Int) = n := by omega
      rw [e2] at this
      exact Int.le_of_lt this
    have d : val n e ≤ val (1 * 2 ^ bl n) e := val_le.mpr (by rw [Int.one_mul]; exact c)
    rw [val_shift, val_one] at d
    exact ⟨Rat.le_trans (p2_mono h1) a, Rat.le_trans d (p2_mono (by omega))⟩
  rcases Int.lt_trichotomy n 0 with h | h | h
  · have := pos (-n) (by omega) (by rw [bl_neg]; exact hb)
    rw [val_neg] at this
    exact .inr (.inr this)
  · left; subst h; exact val_zero e
  · exact .inr (.inl (pos n h hb))
/-- the exponent's bounds, from the number's -/
theorem In.exp {n e : Int} {B H : Int} (hn : n ≠ 0) (hb : (bl n : Int) ≤ B) (h : In H (val n e)) : -(H + B) ≤ e ∧ e ≤ H := by
  have pos : ∀ n : Int, 0 < n → (bl n : Int) ≤ B → p2 (-H) ≤ val n e → val n e ≤ p2 H → -(H + B) ≤ e ∧ e ≤ H := by
    intro n hn hb h1 h2
    have a : val 1 e ≤ val n e := val_le.mpr (by omega)
    rw [val_one] at a
    have b := bl_lt n
    have c : n < 2 ^ bl n := by
      have : ((n.natAbs : Nat) : Int) < ((2 ^ bl n : Nat) : Int) := Int.ofNat_lt.mpr b
      rw [Int.natCast_pow] at this
      have e2 : ((n.natAbs : Nat) : Int) = n := by omega
      rwa [e2] at this
    have d : val n e < val (1 * 2 ^ bl n) e := val_lt.mpr (by rw [Int.one_mul]; exact c)
    rw [val_shift, val_one] at d
    have h3 := p2_inj_lt (show p2 (-H) < p2 (e + (bl n : Int)) by grind)
    have h4 := p2_inj_le (Rat.le_trans a h2)
    omega
  rcases h with h | h | h
  · exact absurd (val_eq_zero.mp h) hn
  · refine pos n ?_ hb h.1 h.2
    have := p2_pos (-H)
    exact val_pos.mp (show 0 < val n e by grind)
  · rw [← val_neg] at h
    refine pos (-n) ?_ (by rw [bl_neg]; exact hb) h.1 h.2
    have := p2_pos (-H)
    exact val_pos.mp (show 0 < val (-n) e by grind)
end Mine
/-! part M3 -/
namespace Mine
open PySem
theorem two_pow_split {p : Nat} (hp : 1 ≤ p) : (2 : Int) ^ p = 2 * 2 ^ (p - 1) := by
  obtain ⟨k, rfl⟩ : ∃ k, p = k + 1 := ⟨p - 1, by omega⟩
  rw [Int.pow_succ]; simp; omega
/-- no number of p digits between q and q + 1 -/
theorem gap_up {p : Nat} (hp : 1 ≤ p) {q E : Int} (hq : 2 ^ (p - 1) ≤ q) {u : Rat} (hu : Rp p u) (h : val q E < u) : val (q + 1) E ≤ u := by
  obtain ⟨m, f, hm, rfl⟩ := hu
  have hq0 : 0 < q := by have := Int.pow_pos (m := p - 1) (show (0 : Int) < 2 by decide); omega
  rcases Int.le_total E f with c | c
  · rw [val_down m f c] at h ⊢
    rw [val_lt] at h
    exact val_le.mpr (by omega)
  · by_cases hfe : E = f
    · subst hfe
      rw [val_lt] at h
      exact val_le.mpr (by omega)
    · exfalso
      have hmp : m < 2 ^ p := by
        have : ((m.natAbs : Nat) : Int) < ((2 ^ p : Nat) : Int) := Int.ofNat_lt.mpr hm
        rw [Int.natCast_pow] at this
        have h2 : m ≤ ((m.natAbs : Nat) : Int) := by omega
        exact Int.lt_of_le_of_lt h2 this
      have a : val m f < val (1 * 2 ^ p) f := val_lt.mpr (by rw [Int.one_mul]; exact hmp)
      rw [val_shift, val_one] at a
      have b : val (1 * 2 ^ (p - 1)) E ≤ val q E := val_le.mpr (by rw [Int.one_mul]; exact hq)
      rw [val_shift, val_one] at b
      have c2 : p2 (f + p) ≤ p2 (E + ((p - 1 : Nat) : Int)) := p2_mono (by omega)
      grind
theorem gap_down {p : Nat} (hp : 1 ≤ p) {q E : Int} (hq : 2 ^ (p - 1) ≤ q) {u : Rat} (hu : Rp p u) (h : u < val (q + 1) E) : u ≤ val q E := by
  refine Rat.not_lt.mp fun c => ?_
  exact absurd h (Rat.not_lt.mpr (gap_up (E := E) hp hq hu c))
theorem rnd_down {p : Nat} (hp : 1 ≤ p) {q E : Int} (hq : 2 ^ (p - 1) ≤ q) (hq2 : q ≤ 2 ^ p) {x : Rat} (h1 : val q E ≤ x) (h2 : x < val (q + 1) E) : Rnd true p x (val q E) :=
  ⟨Rp.full hp (by
    have : ((q.natAbs : Nat) : Int) ≤ ((2 ^ p : Nat) : Int) := by
      rw [Int.natCast_pow]
      have h0 := Int.pow_pos (m := p - 1) (show (0 : Int) < 2 by decide)
      have e : ((q.natAbs : Nat) : Int) = q := by omega
      rw [e]; exact hq2
    exact Int.ofNat_le.mp this), h1, fun y hy hyx => gap_down (E := E) hp hq hy (by grind)⟩
theorem rnd_up {p : Nat} (hp : 1 ≤ p) {q E : Int} (hq : 2 ^ (p - 1) ≤ q) (hq2 : q + 1 ≤ 2 ^ p) {x : Rat} (h1 : val q E < x) (h2 : x ≤ val (q + 1) E) : Rnd false p x (val (q + 1) E) := by
  refine ⟨(Rp.full hp ?_).neg, Rat.neg_le_neg h2, fun y hy hyx => ?_⟩
  · have : (((q + 1).natAbs : Nat) : Int) ≤ ((2 ^ p : Nat) : Int) := by
      rw [Int.natCast_pow]
      have h0 := Int.pow_pos (m := p - 1) (show (0 : Int) < 2 by decide)
      have e : (((q + 1).natAbs : Nat) : Int) = q + 1 := by omega
      rw [e]; exact hq2
    exact Int.ofNat_le.mp this
  · have h3 : x ≤ -y := Rat.le_neg_iff.mp hyx
    have := gap_up (E := E) hp hq hy.neg (by grind)
    grind
theorem rnd_congr {d : Bool} {p : Nat} (hp : 1 ≤ p) {q E : Int} (hq : 2 ^ (p - 1) ≤ q) {y z r : Rat} (y1 : val q E < y) (y2 : y < val (q + 1) E) (z1 : val q E < z) (z2 : z < val (q + 1) E) (h : Rnd d p z r) : Rnd d p y r := by
  cases d with
  | true =>
    have a := gap_down (E := E) hp hq h.1 (by have := h.2.1; grind)
    exact ⟨h.1, by grind, fun u hu huy => h.2.2 u hu (by have := gap_down (E := E) hp hq hu (by grind); grind)⟩
  | false =>
    have hr : Rp p r := Rnd.rp (d := false) h
    have hz : z ≤ r := Rnd.ge h
    have a := gap_up (E := E) hp hq hr (by grind)
    refine ⟨h.1, by grind, fun u hu huy => h.2.2 u hu ?_⟩
    have := gap_up (E := E) hp hq hu.neg (by grind)
    grind

theorem ediv_pow {m : Int} {n : Nat} : (m / 2 ^ n) * 2 ^ n ≤ m ∧ m < (m / 2 ^ n + 1) * 2 ^ n := by
  have h := Int.pow_pos (m := n) (show (0 : Int) < 2 by decide)
  have h1 := Int.mul_ediv_add_emod m (2 ^ n)
  have h2 := Int.emod_nonneg m (b := 2 ^ n) (by omega)
  have h3 := Int.emod_lt_of_pos m h
  rw [Int.add_mul]
  rw [Int.mul_comm] at h1
  omega
/-- a number of p + n digits cut to p digits, down -/
theorem cut_down {p n : Nat} (hp : 1 ≤ p) {m e : Int} (hm : 0 < m) (hb : bl m = p + n) : Rnd true p (val m e) (val (m / 2 ^ n) (e + n)) ∧ 2 ^ (p - 1) ≤ m / 2 ^ n ∧ m / 2 ^ n < 2 ^ p := by
  have hn := Int.pow_pos (m := n) (show (0 : Int) < 2 by decide)
  obtain ⟨a, b⟩ := ediv_pow (m := m) (n := n)
  have hge := bl_ge (n := m) (by omega)
  have hlt := bl_lt m
  rw [hb] at hge hlt
  have g1 : (2 : Int) ^ (p + n - 1) ≤ m := by
    have : ((2 ^ (p + n - 1) : Nat) : Int) ≤ ((m.natAbs : Nat) : Int) := Int.ofNat_le.mpr hge
    rw [Int.natCast_pow] at this
    have e2 : ((m.natAbs : Nat) : Int) = m := by omega
    rw [e2] at this; exact this
  have g2 : m < (2 : Int) ^ (p + n) := by
    have : ((m.natAbs : Nat) : Int) < ((2 ^ (p + n) : Nat) : Int) := Int.ofNat_lt.mpr hlt
    rw [Int.natCast_pow] at this
    have e2 : ((m.natAbs : Nat) : Int) = m := by omega
    rw [e2] at this; exact this
  have k1 : 2 ^ (p - 1) ≤ m / 2 ^ n := by
    rw [Int.le_ediv_iff_mul_le hn, ← Int.pow_add, show p - 1 + n = p + n - 1 by omega]; exact g1
  have k2 : m / 2 ^ n < 2 ^ p := by
    rw [Int.ediv_lt_iff_lt_mul hn, ← Int.pow_add]; exact g2
  refine ⟨?_, k1, k2⟩
  refine rnd_down hp k1 (by omega) ?_ ?_
  · rw [← val_shift]; exact val_le.mpr a
  · rw [← val_shift]; exact val_lt.mpr b
theorem cut_up {p n : Nat} (hp : 1 ≤ p) {m e : Int} (hm : 0 < m) (hb : bl m = p + n) : Rnd false p (val m e) (val (-((-m) / 2 ^ n)) (e + n)) ∧ 2 ^ (p - 1) ≤ -((-m) / 2 ^ n) ∧ -((-m) / 2 ^ n) ≤ 2 ^ p := by
  have hn := Int.pow_pos (m := n) (show (0 : Int) < 2 by decide)
  obtain ⟨hd, k1, k2⟩ := cut_down (e := e) hp hm hb
  obtain ⟨a, b⟩ := ediv_pow (m := m) (n := n)
  by_cases h0 : m % 2 ^ n = 0
  · have e1 : m = (m / 2 ^ n) * 2 ^ n := by
      have := Int.mul_ediv_add_emod m (2 ^ n)
      rw [Int.mul_comm] at this; omega
    have e2 : -((-m) / 2 ^ n) = m / 2 ^ n := by
      have : (-m) / 2 ^ n = -(m / 2 ^ n) := by
        rw [Int.neg_ediv_of_dvd (Int.dvd_of_emod_eq_zero h0)]
      rw [this, Int.neg_neg]
    rw [e2]
    refine ⟨?_, k1, by omega⟩
    have e3 : val m e = val (m / 2 ^ n) (e + n) := by rw [← val_shift]; exact congrArg (val · e) e1
    rw [e3]
    exact Rnd.exact hd.1
  · have e2 : -((-m) / 2 ^ n) = m / 2 ^ n + 1 := by
      have : (-m) / 2 ^ n = -(m / 2 ^ n) - 1 := by
        rw [Int.neg_ediv]
        rw [if_neg (fun c => h0 (Int.emod_eq_zero_of_dvd c))]
        rw [Int.sign_eq_one_of_pos hn]
      rw [this]; omega
    rw [e2]
    refine ⟨rnd_up hp k1 (by omega) ?_ ?_, by omega, by omega⟩
    · rw [← val_shift]
      refine val_lt.mpr ?_
      have := Int.mul_ediv_add_emod m (2 ^ n)
      have h3 := Int.emod_nonneg m (b := 2 ^ n) (by omega)
      rw [Int.mul_comm] at this; omega
    · rw [← val_shift]; exact val_le.mpr (Int.le_of_lt b)
theorem fdiv_pow (m : Int) (n : Nat) : m.fdiv (2 ^ n) = m / 2 ^ n := by
  rw [Int.fdiv_eq_ediv_of_nonneg]
  exact Int.le_of_lt (Int.pow_pos (by decide))
end Mine
/-! part D1 -/
namespace Mine
open PySem PySem.W PyProof.Rows
set_option maxRecDepth 100000
theorem br {b : Bool} {X Y : Prop} (h1 : b = true → X) (h2 : b = false → Y) : brD b X Y := by
  cases b
  · rw [brD_f]; exact h2 rfl
  · rw [brD_t]; exact h1 rfl
theorem br1 {b : Bool} {X Y : Prop} (h : b = true) (h1 : X) : brD b X Y := by subst h; rw [brD_t]; exact h1
theorem br0 {b : Bool} {X Y : Prop} (h : b = false) (h1 : Y) : brD b X Y := by subst h; rw [brD_f]; exact h1
def tm (s m e b : Int) : PyData := .tuple [.int s, .int m, .int e, .int b]
def Cn (s m e : Int) : Prop := (s = 0 ∧ m = 0 ∧ e = 0) ∨ ((s = 0 ∨ s = 1) ∧ 0 < m ∧ m % 2 = 1)
def sg (s : Int) : Int := if s = 1 then -1 else 1
theorem sg_zero : sg 0 = 1 := rfl
theorem sg_one : sg 1 = -1 := rfl
def dS : Bool → Str
  | true => ⟨#[102]⟩
  | false => ⟨#[99]⟩
/-- a number in normal form: its data and its value -/
def Nb (B : Int) (d : PyData) (x : Rat) : Prop := ∃ s m e : Int, Cn s m e ∧ d = tm s m e (bl m) ∧ x = val (sg s * m) e ∧ (bl m : Int) ≤ B

-- one step of the evaluation: the goal's weak head
local macro_rules | `(tactic| walk_at "e") => `(tactic| conv => whnf)
-- a guard
local macro_rules | `(tactic| walk_at "g") => `(tactic| ((conv => whnf); refine And.intro ?_ ?_; focus (first | rfl | omega | assumption | (simp [asB, bl]; done) | (simp [asB]; omega) | (simp [SeqAt.shaped, PyData.canLay0, PyData.canLayAll0, PyData.depth, PyData.depthAll, PyData.strOk, tm, dS]; done) | decide)))
-- a branch that is decided by the facts
local macro_rules | `(tactic| walk_at "y") => `(tactic| ((conv => whnf); refine br1 ?_ ?_; focus (first | rfl | (simp [asB]; done) | (simp [asB]; omega) | (simp [asB, PyData.eqv, PyData.eqvAll, dS, tm]; done) | (simp [asB, PyData.eqv, PyData.eqvAll, dS, tm]; omega))))
local macro_rules | `(tactic| walk_at "n") => `(tactic| ((conv => whnf); refine br0 ?_ ?_; focus (first | rfl | (simp [asB]; done) | (simp [asB]; omega) | (simp [asB, PyData.eqv, PyData.eqvAll, dS, tm]; done) | (simp [asB, PyData.eqv, PyData.eqvAll, dS, tm]; omega))))

theorem bitAnd_one {m : Int} (h : 0 ≤ m) : Builtin.bitAnd m 1 = m % 2 := by
  unfold Builtin.bitAnd
  rw [decide_eq_true h, decide_eq_true (by decide : (0 : Int) ≤ 1)]
  dsimp only
  rw [show Int.toNat 1 = 1 from rfl, Nat.and_one_is_mod]
  omega
theorem strip_data {q : Int} (hq : 0 < q) : ∃ o t : Nat, q = ((o * 2 ^ t : Nat) : Int) ∧ o % 2 = 1 := by
  obtain ⟨t, o, h, ho⟩ := odd_part q.toNat (by omega)
  exact ⟨o, t, by omega, ho⟩
theorem strip_fdiv {q : Int} {o t : Nat} (h : q = ((o * 2 ^ t : Nat) : Int)) : q.fdiv (2 ^ (t : Int).toNat) = (o : Int) := by
  rw [Int.toNat_natCast, fdiv_pow, h, Int.natCast_mul, Int.natCast_pow]
  exact Int.mul_ediv_cancel _ (Int.ne_of_gt (Int.pow_pos (by decide)))
theorem strip_bl {q : Int} {o t : Nat} (h : q = ((o * 2 ^ t : Nat) : Int)) (ho : o % 2 = 1) : bl q = bl (o : Int) + t := by
  rw [h, Int.natCast_mul, Int.natCast_pow]
  exact bl_mul_pow (by omega) t
theorem strip_val {q E : Int} {o t : Nat} (h : q = ((o * 2 ^ t : Nat) : Int)) : val q E = val (o : Int) (E + t) := by
  rw [h, Int.natCast_mul, Int.natCast_pow]
  exact val_shift _ _ _
theorem sg_val (s m e : Int) : val (sg s * m) e = if s = 1 then -val m e else val m e := by
  unfold sg
  split
  · rw [← val_neg]; congr 1; omega
  · rw [Int.one_mul]
theorem bl_top {q : Int} (p : Nat) (h1 : 2 ^ (p - 1) ≤ q) (h2 : q ≤ 2 ^ p) (hp : 1 ≤ p) : bl q = p ∨ q = ((1 * 2 ^ p : Nat) : Int) := by
  by_cases h : q = 2 ^ p
  · right; rw [h, Nat.one_mul, Int.natCast_pow]; rfl
  · left
    have e0 := Int.pow_pos (m := p - 1) (show (0 : Int) < 2 by decide)
    have e : ((q.natAbs : Nat) : Int) = q := by omega
    have := bl_eq (n := q) (k := p - 1) (by
      apply Int.ofNat_le.mp
      rw [Int.natCast_pow, e]; exact h1) (by
      apply Int.ofNat_lt.mp
      rw [Int.natCast_pow, e, show p - 1 + 1 = p by omega]
      have : q < 2 ^ p := by omega
      exact this)
    omega
/-- what is left when the number is cut -/
theorem norm_fin {p b0 : Nat} (hp : 1 ≤ p) {s m e q E : Int} {d : Bool} (hs : s = 0 ∨ s = 1) (hr : Rnd (if s = 1 then !d else d) p (val m e) (val q E)) (hb0 : b0 ≤ p) (hb : bl q = b0 ∨ q = ((1 * 2 ^ b0 : Nat) : Int)) {o t : Nat} (h : q = ((o * 2 ^ t : Nat) : Int)) (ho : o % 2 = 1) {b E' : Int} (hE : E' = E + t) (hB : b = if o = 1 then 1 else (b0 : Int) - t) :
    ∃ r, Nb p (tm s o E' b) r ∧ Rnd d p (val (sg s * m) e) r := by
  have h3 : Rnd d p (val (sg s * m) e) (val (sg s * (o : Int)) (E + t)) := by
    rw [sg_val, sg_val, ← strip_val h]
    rcases hs with rfl | rfl
    · simpa using hr
    · simp only [if_true] at hr ⊢
      have := hr.neg
      rwa [Bool.not_not] at this
  have h1 := strip_bl h ho
  have hbo : b = (bl (o : Int) : Int) ∧ bl (o : Int) ≤ p := by
    by_cases hz : o = 1
    · subst hz
      rw [hB, if_pos rfl]
      exact ⟨rfl, hp⟩
    · rw [if_neg hz] at hB
      rcases hb with hb | hb
      · omega
      · exfalso
        rw [hb] at h
        have h5 : ((1 : Nat) : Int) * 2 ^ b0 = (o : Int) * 2 ^ t := by
          have : ((1 * 2 ^ b0 : Nat) : Int) = ((o * 2 ^ t : Nat) : Int) := h
          rw [Int.natCast_mul, Int.natCast_mul, Int.natCast_pow, Int.natCast_pow] at this; exact this
        have h6 : val ((1 : Nat) : Int) (0 + (b0 : Int)) = val (o : Int) (0 + (t : Int)) := by rw [← val_shift, ← val_shift, h5]
        have := (val_odd_unique (by decide) (by omega) h6).1
        omega
  rw [hE, hbo.1]
  exact ⟨_, ⟨s, o, E + t, .inr ⟨hs, by omega, by omega⟩, rfl, rfl, by omega⟩, h3⟩

section
variable {prog : Program} {w : World} {K : Frag} {N : Nat}
theorem trailing_ok (F : Facts K) (hl : Lit K w) {m : Int} {q t : Nat} {k : PyData → Prop} (hm : m = ((q * 2 ^ t : Nat) : Int)) (hq : q % 2 = 1) (h : k (.int (t : Int))) : Calls prog w K (N + 1) 21 [.int m] k := by
  have hp : 0 < q * 2 ^ t := Nat.mul_pos (by omega) (Nat.two_pow_pos t)
  refine en_trailing1 F hl 20 ?_
  walk_at "n"
  walk_at "e"
  have e : ((Builtin.Int.intBits (Builtin.bitAnd m (-m)) : Nat) : Int) - 1 = (t : Int) := by
    rw [bitAnd_neg hm hq]
    have := bl_two_pow t
    unfold bl at this
    rw [this]; omega
  rw [e]; exact h

theorem u_normalize_ok (F : Facts K) (hl : Lit K w) {p : Nat} (hp : 1 ≤ p) {s m e : Int} {d : Bool} {k : PyData → Prop} (hs : s = 0 ∨ s = 1) (hm : 0 < m)
    (h : ∀ D r, Nb p D r → Rnd d p (val (sg s * m) e) r → k D) : Calls prog w K (N + 2) 37 [.int s, .int m, .int e, .int (bl m), .int p, .str (dS d)] k := by
  refine en_u_normalize6 F hl 40 ?_
  walk_at "n"
  by_cases hc : 0 < (bl m : Int) - (p : Int)
  · walk_at "y"
    obtain ⟨n, hn⟩ : ∃ n : Nat, bl m = p + n := ⟨bl m - p, by omega⟩
    have hnn : (bl m : Int) - (p : Int) = (n : Int) := by omega
    obtain ⟨d1, d2, d3⟩ := cut_down (e := e) hp hm hn
    obtain ⟨c1, c2, c3⟩ := cut_up (e := e) hp hm hn
    have h0 := Int.pow_pos (m := p - 1) (show (0 : Int) < 2 by decide)
    have e1 : m.fdiv (2 ^ ((bl m : Int) - (p : Int)).toNat) = m / 2 ^ n := by rw [hnn, Int.toNat_natCast, fdiv_pow]
    have e2 : -(-m).fdiv (2 ^ ((bl m : Int) - (p : Int)).toNat) = -((-m) / 2 ^ n) := by rw [hnn, Int.toNat_natCast, fdiv_pow]
    obtain ⟨q, hq, hr, hb, hqe⟩ : ∃ q, 0 < q ∧ Rnd (if s = 1 then !d else d) p (val m e) (val q (e + n)) ∧ (bl q = p ∨ q = ((1 * 2 ^ p : Nat) : Int)) ∧ q = if (if s = 1 then !d else d) = true then m / 2 ^ n else -((-m) / 2 ^ n) := by
      cases (if s = 1 then !d else d)
      · exact ⟨_, by omega, c1, bl_top p c2 c3 hp, rfl⟩
      · exact ⟨_, by omega, d1, bl_top p d2 (Int.le_of_lt d3) hp, rfl⟩
    have fin : ∀ o t : Nat, q = ((o * 2 ^ t : Nat) : Int) → o % 2 = 1 → ∀ E b : Int, E = e + (n : Int) + t → (b = if o = 1 then 1 else (p : Int) - t) → k (tm s o E b) := by
      intro o t h1 h2 E b h3 h4
      obtain ⟨r, x, y⟩ := norm_fin hp hs hr (Nat.le_refl p) hb h1 h2 h3 h4
      exact h _ _ x y
    clear hr hb d1 d2 d3 c1 c2 c3 h
    rcases hs with rfl | rfl <;> cases d
    all_goals
      walk_at "g"
      walk_at "g"
      walk_at "n"
      walk_at "g"
      first
      | walk_at "y"
        walk_at "g"
        have e3 : m.fdiv (2 ^ ((bl m : Int) - (p : Int)).toNat) = q := by rw [e1, hqe]; rfl
        by_cases ho : q % 2 = 1
        · walk_at "e"
          refine br0 (by rw [e3]; simp [asB, bitAnd_one (Int.le_of_lt hq), ho]) ?_
          obtain ⟨o, t, h2, h3⟩ := strip_data hq
          have h4 : t = 0 := by
            cases t with
            | zero => rfl
            | succ t => exfalso; rw [Nat.pow_succ, ← Nat.mul_assoc] at h2; omega
          subst h4
          have h5 : q = (o : Int) := by rw [h2]; simp
          by_cases h1 : q = 1
          · walk_at "e"
            refine br1 (by rw [e3]; simp [asB, h1]) ?_
            walk_at "g"
            walk_at "e"
            rw [e3, h5]
            refine fin o 0 h2 h3 _ _ ?_ ?_
            · omega
            · rw [if_pos (by omega)]
          · walk_at "e"
            refine br0 (by rw [e3]; simp [asB, h1]) ?_
            walk_at "g"
            walk_at "e"
            rw [e3, h5]
            refine fin o 0 h2 h3 _ _ ?_ ?_
            · omega
            · rw [if_neg (by omega)]; omega
        · walk_at "e"
          refine br1 (by rw [e3]; simp [asB, bitAnd_one (Int.le_of_lt hq)]; omega) ?_
          obtain ⟨o, t, h2, h3⟩ := strip_data hq
          walk_at "e"
          refine trailing_ok F hl (e3.trans h2) h3 ?_
          walk_at "g"
          by_cases h1 : o = 1
          · walk_at "e"
            refine br1 (by rw [e3, strip_fdiv h2]; simp [asB, h1]) ?_
            walk_at "g"
            walk_at "e"
            rw [e3, strip_fdiv h2]
            refine fin o t h2 h3 _ _ ?_ ?_
            · omega
            · rw [if_pos h1]
          · walk_at "e"
            refine br0 (by rw [e3, strip_fdiv h2]; simp [asB]; omega) ?_
            walk_at "g"
            walk_at "e"
            rw [e3, strip_fdiv h2]
            refine fin o t h2 h3 _ _ ?_ ?_
            · omega
            · rw [if_neg h1]
      | walk_at "n"
        walk_at "g"
        have e3 : -(-m).fdiv (2 ^ ((bl m : Int) - (p : Int)).toNat) = q := by rw [e2, hqe]; rfl
        by_cases ho : q % 2 = 1
        · walk_at "e"
          refine br0 (by rw [e3]; simp [asB, bitAnd_one (Int.le_of_lt hq), ho]) ?_
          obtain ⟨o, t, h2, h3⟩ := strip_data hq
          have h4 : t = 0 := by
            cases t with
            | zero => rfl
            | succ t => exfalso; rw [Nat.pow_succ, ← Nat.mul_assoc] at h2; omega
          subst h4
          have h5 : q = (o : Int) := by rw [h2]; simp
          by_cases h1 : q = 1
          · walk_at "e"
            refine br1 (by rw [e3]; simp [asB, h1]) ?_
            walk_at "g"
            walk_at "e"
            rw [e3, h5]
            refine fin o 0 h2 h3 _ _ ?_ ?_
            · omega
            · rw [if_pos (by omega)]
          · walk_at "e"
            refine br0 (by rw [e3]; simp [asB, h1]) ?_
            walk_at "g"
            walk_at "e"
            rw [e3, h5]
            refine fin o 0 h2 h3 _ _ ?_ ?_
            · omega
            · rw [if_neg (by omega)]; omega
        · walk_at "e"
          refine br1 (by rw [e3]; simp [asB, bitAnd_one (Int.le_of_lt hq)]; omega) ?_
          obtain ⟨o, t, h2, h3⟩ := strip_data hq
          walk_at "e"
          refine trailing_ok F hl (e3.trans h2) h3 ?_
          walk_at "g"
          by_cases h1 : o = 1
          · walk_at "e"
            refine br1 (by rw [e3, strip_fdiv h2]; simp [asB, h1]) ?_
            walk_at "g"
            walk_at "e"
            rw [e3, strip_fdiv h2]
            refine fin o t h2 h3 _ _ ?_ ?_
            · omega
            · rw [if_pos h1]
          · walk_at "e"
            refine br0 (by rw [e3, strip_fdiv h2]; simp [asB]; omega) ?_
            walk_at "g"
            walk_at "e"
            rw [e3, strip_fdiv h2]
            refine fin o t h2 h3 _ _ ?_ ?_
            · omega
            · rw [if_neg h1]
  · walk_at "n"
    have fin : ∀ o t : Nat, m = ((o * 2 ^ t : Nat) : Int) → o % 2 = 1 → ∀ E b : Int, E = e + t → (b = if o = 1 then 1 else (bl m : Int) - t) → k (tm s o E b) := by
      intro o t h1 h2 E b h3 h4
      obtain ⟨r, x, y⟩ := norm_fin hp hs (Rnd.exact (Rp.of_bl (by omega))) (b0 := bl m) (by omega) (.inl rfl) h1 h2 h3 h4
      exact h _ _ x y
    obtain ⟨q, hq, e3⟩ : ∃ q, 0 < q ∧ m = q := ⟨m, hm, rfl⟩
    rw [e3] at fin
    subst e3
    have e3 : m = m := rfl
    by_cases ho : m % 2 = 1
    · walk_at "e"
      refine br0 (by simp [asB, bitAnd_one (Int.le_of_lt hm), ho]) ?_
      obtain ⟨o, t, h2, h3⟩ := strip_data hm
      have h4 : t = 0 := by
        cases t with
        | zero => rfl
        | succ t => exfalso; rw [Nat.pow_succ, ← Nat.mul_assoc] at h2; omega
      subst h4
      have h5 : m = (o : Int) := by rw [h2]; simp
      by_cases h1 : m = 1
      · walk_at "e"
        refine br1 (by simp [asB, h1]) ?_
        walk_at "g"
        walk_at "e"
        rw [h5]
        refine fin o 0 h2 h3 _ _ ?_ ?_
        · omega
        · rw [if_pos (by omega)]
      · walk_at "e"
        refine br0 (by simp [asB, h1]) ?_
        walk_at "g"
        walk_at "e"
        rw [h5]
        refine fin o 0 h2 h3 _ _ ?_ ?_
        · omega
        · rw [if_neg (by omega), h5]; omega
    · walk_at "e"
      refine br1 (by simp [asB, bitAnd_one (Int.le_of_lt hm)]; omega) ?_
      obtain ⟨o, t, h2, h3⟩ := strip_data hm
      walk_at "e"
      refine trailing_ok F hl (e3.trans h2) h3 ?_
      walk_at "g"
      by_cases h1 : o = 1
      · walk_at "e"
        refine br1 (by rw [strip_fdiv h2]; simp [asB, h1]) ?_
        walk_at "g"
        walk_at "e"
        rw [strip_fdiv h2]
        refine fin o t h2 h3 _ _ ?_ ?_
        · omega
        · rw [if_pos h1]
      · walk_at "e"
        refine br0 (by rw [strip_fdiv h2]; simp [asB]; omega) ?_
        walk_at "g"
        walk_at "e"
        rw [strip_fdiv h2]
        refine fin o t h2 h3 _ _ ?_ ?_
        · omega
        · rw [if_neg h1]
end
end Mine
/-! part D2 -/
namespace Mine
open PySem PySem.W PyProof.Rows
set_option maxRecDepth 100000
-- one step of the evaluation: the goal's weak head
local macro_rules | `(tactic| walk_at "e") => `(tactic| conv => whnf)
-- a guard
local macro_rules | `(tactic| walk_at "g") => `(tactic| ((conv => whnf); refine And.intro ?_ ?_; focus (first | rfl | omega | assumption | (simp [asB, bl]; done) | (simp [asB]; omega) | (simp [SeqAt.shaped, PyData.canLay0, PyData.canLayAll0, PyData.depth, PyData.depthAll, PyData.strOk, tm, dS]; done) | decide)))
-- a branch that is decided by the facts
local macro_rules | `(tactic| walk_at "y") => `(tactic| ((conv => whnf); refine br1 ?_ ?_; focus (first | rfl | (simp [asB]; done) | (simp [asB]; omega) | (simp [asB, PyData.eqv, PyData.eqvAll, dS, tm]; done) | (simp [asB, PyData.eqv, PyData.eqvAll, dS, tm]; omega))))
local macro_rules | `(tactic| walk_at "n") => `(tactic| ((conv => whnf); refine br0 ?_ ?_; focus (first | rfl | (simp [asB]; done) | (simp [asB]; omega) | (simp [asB, PyData.eqv, PyData.eqvAll, dS, tm]; done) | (simp [asB, PyData.eqv, PyData.eqvAll, dS, tm]; omega))))


def Nm (B H : Int) (d : PyData) (x : Rat) : Prop := Nb B d x ∧ In H x
/-- what a sign answers -/
def Sgn (X : Rat) (σ : Int) : Prop := (σ = 1 ∧ 0 < X) ∨ (σ = -1 ∧ X < 0) ∨ (σ = 0 ∧ X = 0)

theorem xor01 {s t : Int} (hs : s = 0 ∨ s = 1) (ht : t = 0 ∨ t = 1) : (Builtin.bitXor s t = 0 ∨ Builtin.bitXor s t = 1) ∧ sg (Builtin.bitXor s t) = sg s * sg t := by
  rcases hs with rfl | rfl <;> rcases ht with rfl | rfl <;> decide
theorem Nb.zero {B : Int} (h : 0 ≤ B) : Nb B (tm 0 0 0 0) 0 := ⟨0, 0, 0, .inl ⟨rfl, rfl, rfl⟩, rfl, by simp [val_zero], by rw [bl_zero]; exact h⟩
theorem In.zero (H : Int) : In H 0 := .inl rfl
theorem Nm.zero {B H : Int} (h : 0 ≤ B) : Nm B H (tm 0 0 0 0) 0 := ⟨Nb.zero h, In.zero H⟩
theorem sg_cases {s : Int} (h : s = 0 ∨ s = 1) : sg s = 1 ∨ sg s = -1 := by rcases h with rfl | rfl <;> decide

section
variable {prog : Program} {w : World} {K : Frag} {N : Nat}
theorem normalize_ok (F : Facts K) (hl : Lit K w) {p : Nat} {s m e b p' : Int} {d : Bool} {k : PyData → Prop} (hs : s = 0 ∨ s = 1) (hm : 0 ≤ m) (hb : b = (bl m : Int)) (hp : m ≠ 0 → 1 ≤ p ∧ p' = (p : Int))
    (h : ∀ D r, Nb p D r → Rnd d p (val (sg s * m) e) r → k D) : Calls prog w K (N + 3) 44 [.int s, .int m, .int e, .int b, .int p', .str (dS d)] k := by
  refine en_normalize6 F hl 40 ?_
  subst hb
  walk_at "g"
  walk_at "g"
  walk_at "e"
  by_cases hz : m = 0
  · subst hz
    refine en_u_normalize6 F hl 40 ?_
    walk_at "y"
    walk_at "e"
    refine h _ _ (Nb.zero (by omega)) ?_
    rw [Int.mul_zero, val_zero]; exact Rnd.zero
  · obtain ⟨h1, rfl⟩ := hp hz
    exact u_normalize_ok F hl h1 hs (by omega) h
theorem pos_ok (F : Facts K) (hl : Lit K w) {p : Nat} {B H : Int} {x : PyData} {X : Rat} {d : Bool} {k : PyData → Prop} (hp : 1 ≤ p) (hx : Nm B H x X)
    (h : ∀ D r, Nm p H D r → Rnd d p X r → k D) : Calls prog w K (N + 4) 80 [x, .int p, .str (dS d)] k := by
  obtain ⟨⟨s, m, e, hc, rfl, rfl, hB⟩, hI⟩ := hx
  refine en_mpf_pos3 F hl 40 ?_
  walk_at "y"
  walk_at "g"
  have key : Calls prog w K (N + 3) 44 [.int s, .int m, .int e, .int (bl m), .int p, .str (dS d)] k := by
    refine normalize_ok F hl (p := p) ?_ ?_ rfl (fun _ => ⟨hp, rfl⟩) fun D r h1 h2 => h D r ⟨h1, hI.rnd hp h2⟩ h2
    · rcases hc with hc | hc <;> omega
    · rcases hc with hc | hc <;> omega
  rcases hc with ⟨rfl, rfl, rfl⟩ | ⟨h1, h2, h3⟩
  · walk_at "y"
    walk_at "n"
    walk_at "e"
    exact key
  · walk_at "n"
    walk_at "n"
    walk_at "e"
    exact key
theorem pos0_ok (F : Facts K) (hl : Lit K w) {x : PyData} {rnd : PyData} {k : PyData → Prop} (h : k x) : Calls prog w K (N + 1) 80 [x, .int 0, rnd] k := by
  refine en_mpf_pos3 F hl 40 ?_
  walk_at "n"
  walk_at "e"
  exact h
theorem neg_data {s m e : Int} (hc : Cn s m e) : Cn (if m = 0 then 0 else 1 - s) m e ∧ val (sg (if m = 0 then 0 else 1 - s) * m) e = -val (sg s * m) e := by
  rcases hc with ⟨rfl, rfl, rfl⟩ | ⟨h1, h2, h3⟩
  · exact ⟨.inl ⟨rfl, rfl, rfl⟩, by simp [val_zero]⟩
  · rw [if_neg (by omega)]
    refine ⟨.inr ⟨by omega, h2, h3⟩, ?_⟩
    rw [← val_neg]
    rcases h1 with rfl | rfl <;> congr 1 <;> simp [sg]
theorem neg3_ok (F : Facts K) (hl : Lit K w) {B H : Int} {x rnd : PyData} {X : Rat} {k : PyData → Prop} (hx : Nm B H x X)
    (h : ∀ D, Nm B H D (-X) → k D) : Calls prog w K (N + 4) 88 [x, .int 0, rnd] k := by
  obtain ⟨⟨s, m, e, hc, rfl, rfl, hB⟩, hI⟩ := hx
  obtain ⟨c1, c2⟩ := neg_data hc
  refine en_mpf_neg3 F hl 40 ?_
  walk_at "g"
  have key : k (tm (if m = 0 then 0 else 1 - s) m e (bl m)) := h _ ⟨⟨_, m, e, c1, rfl, c2.symm, hB⟩, hI.neg⟩
  rcases hc with ⟨rfl, rfl, rfl⟩ | ⟨h1, h2, h3⟩
  · walk_at "y"
    walk_at "n"
    walk_at "e"
    exact key
  · walk_at "n"
    walk_at "y"
    walk_at "g"
    walk_at "e"
    rw [if_neg (by omega)] at key
    exact key
theorem neg1_ok (F : Facts K) (hl : Lit K w) {B H : Int} {x : PyData} {X : Rat} {k : PyData → Prop} (hx : Nm B H x X)
    (h : ∀ D, Nm B H D (-X) → k D) : Calls prog w K (N + 4) 88 [x] k := by
  obtain ⟨⟨s, m, e, hc, rfl, rfl, hB⟩, hI⟩ := hx
  obtain ⟨c1, c2⟩ := neg_data hc
  refine en_mpf_neg1 F hl 40 ?_
  walk_at "g"
  have key : k (tm (if m = 0 then 0 else 1 - s) m e (bl m)) := h _ ⟨⟨_, m, e, c1, rfl, c2.symm, hB⟩, hI.neg⟩
  rcases hc with ⟨rfl, rfl, rfl⟩ | ⟨h1, h2, h3⟩
  · walk_at "y"
    walk_at "n"
    walk_at "e"
    exact key
  · walk_at "n"
    walk_at "y"
    walk_at "g"
    walk_at "e"
    rw [if_neg (by omega)] at key
    exact key
theorem sign_ok (F : Facts K) (hl : Lit K w) {B : Int} {x : PyData} {X : Rat} {k : PyData → Prop} (hx : Nb B x X)
    (h : ∀ σ, Sgn X σ → k (.int σ)) : Calls prog w K (N + 1) 95 [x] k := by
  obtain ⟨s, m, e, hc, rfl, rfl, hB⟩ := hx
  refine en_mpf_sign1 F hl 40 ?_
  walk_at "g"
  rcases hc with ⟨rfl, rfl, rfl⟩ | ⟨h1, h2, h3⟩
  · walk_at "y"
    walk_at "g"
    walk_at "g"
    walk_at "n"
    walk_at "g"
    walk_at "g"
    walk_at "n"
    walk_at "e"
    exact h 0 (.inr (.inr ⟨rfl, by simp [val_zero]⟩))
  · walk_at "n"
    have hv : 0 < val m e := val_pos.mpr h2
    rcases h1 with rfl | rfl
    · walk_at "g"
      walk_at "g"
      walk_at "e"
      refine h _ (.inl ⟨by decide, ?_⟩)
      rw [sg_val]; simpa using hv
    · walk_at "g"
      walk_at "g"
      walk_at "e"
      refine h _ (.inr (.inl ⟨by decide, ?_⟩))
      rw [sg_val, if_pos rfl]; grind
end
end Mine
/-! part D3 -/
namespace Mine
open PySem PySem.W PyProof.Rows
set_option maxRecDepth 100000
-- one step of the evaluation: the goal's weak head
local macro_rules | `(tactic| walk_at "e") => `(tactic| conv => whnf)
-- a guard
local macro_rules | `(tactic| walk_at "g") => `(tactic| ((conv => whnf); refine And.intro ?_ ?_; focus (first | rfl | omega | assumption | (simp [asB, bl]; done) | (simp [asB]; omega) | (simp [SeqAt.shaped, PyData.canLay0, PyData.canLayAll0, PyData.depth, PyData.depthAll, PyData.strOk, tm, dS]; done) | decide)))
-- a branch that is decided by the facts
local macro_rules | `(tactic| walk_at "y") => `(tactic| ((conv => whnf); refine br1 ?_ ?_; focus (first | rfl | (simp [asB]; done) | (simp [asB]; omega) | (simp [asB, PyData.eqv, PyData.eqvAll, dS, tm]; done) | (simp [asB, PyData.eqv, PyData.eqvAll, dS, tm]; omega))))
local macro_rules | `(tactic| walk_at "n") => `(tactic| ((conv => whnf); refine br0 ?_ ?_; focus (first | rfl | (simp [asB]; done) | (simp [asB]; omega) | (simp [asB, PyData.eqv, PyData.eqvAll, dS, tm]; done) | (simp [asB, PyData.eqv, PyData.eqvAll, dS, tm]; omega))))


theorem mul_data {s m e t n f : Int} (h : sg (Builtin.bitXor s t) = sg s * sg t) : val (sg (Builtin.bitXor s t) * (m * n)) (e + f) = val (sg s * m) e * val (sg t * n) f := by
  rw [← val_mul, h]; congr 1; grind
theorem bl_mul (m n : Int) : bl (m * n) ≤ bl m + bl n := by
  apply bl_le
  rw [Int.natAbs_mul, Nat.pow_add]
  by_cases h : n = 0
  · subst h
    exact Nat.lt_of_lt_of_le (Nat.mul_pos (Nat.two_pow_pos (bl m)) (Nat.two_pow_pos (bl 0))) (Nat.le_refl _) |> fun h => by simpa using h
  · exact Nat.mul_lt_mul_of_lt_of_le (bl_lt m) (Nat.le_of_lt (bl_lt n)) (Nat.two_pow_pos _)
theorem odd_mul {m n : Int} (h : m % 2 = 1) (g : n % 2 = 1) : (m * n) % 2 = 1 := by
  rw [Int.mul_emod, h, g]; rfl

theorem rnd_sg {d : Bool} {p : Nat} {σ : Rat} (hσ : σ = 1 ∨ σ = -1) {y z r : Rat} (hh : ∀ d r, Rnd d p z r → Rnd d p y r) (h : Rnd d p (σ * z) r) : Rnd d p (σ * y) r := by
  rcases hσ with rfl | rfl
  · rw [Rat.one_mul] at h ⊢; exact hh _ _ h
  · rw [Rat.neg_mul, Rat.one_mul] at h ⊢
    have h1 := h.neg
    rw [Rat.neg_neg] at h1
    have h2 := (hh _ _ h1).neg
    rwa [Rat.neg_neg, Bool.not_not] at h2
theorem val_sg {s : Int} (h : s = 0 ∨ s = 1) (m e : Int) : val (sg s * m) e = (sg s : Rat) * val m e := by
  unfold val; rw [Rat.intCast_mul, Rat.mul_assoc]
theorem sgq {s : Int} (h : s = 0 ∨ s = 1) : (sg s : Rat) = 1 ∨ (sg s : Rat) = -1 := by
  rcases h with rfl | rfl
  · left; rfl
  · right; rfl
theorem div_sg {s t : Int} (hs : s = 0 ∨ s = 1) (ht : t = 0 ∨ t = 1) (a b : Rat) (hx : sg (Builtin.bitXor s t) = sg s * sg t) : ((sg s : Rat) * a) / ((sg t : Rat) * b) = (sg (Builtin.bitXor s t) : Rat) * (a / b) := by
  rw [hx, Rat.intCast_mul, Rat.div_def, Rat.div_def]
  rcases sgq ht with h | h <;> rw [h]
  · rw [Rat.one_mul, Rat.mul_one, Rat.mul_assoc]
  · rw [Rat.neg_mul, Rat.one_mul, rat_neg_inv]; grind
theorem div_one {m e f : Int} : val m e / val 1 f = val m (e - f) := by
  rw [val_one, Rat.div_def, p2_inv]
  unfold val
  rw [Rat.mul_assoc, ← p2_add]; congr 1
theorem div_between {m n e f q g : Int} {E : Nat} (hn : 0 < n) (hg : g = e - f - E) : (q * n ≤ m * 2 ^ E → val q g ≤ val m e / val n f) ∧ (m * 2 ^ E ≤ q * n → val m e / val n f ≤ val q g) ∧ (q * n < m * 2 ^ E → val q g < val m e / val n f) ∧ (m * 2 ^ E < q * n → val m e / val n f < val q g) := by
  have hv : 0 < val n f := val_pos.mpr hn
  have e1 : val q g * val n f = val (q * n) (e - E) := by rw [← val_mul, hg]; congr 1; omega
  have e2 : val m e / val n f * val n f = val (m * 2 ^ E) (e - E) := by
    rw [Rat.div_mul_cancel (Rat.ne_of_gt hv), val_shift]; congr 1; omega
  refine ⟨fun h => ?_, fun h => ?_, fun h => ?_, fun h => ?_⟩
  · refine Rat.le_of_mul_le_mul_right (c := val n f) ?_ hv
    rw [e1, e2]; exact val_le.mpr h
  · refine Rat.le_of_mul_le_mul_right (c := val n f) ?_ hv
    rw [e1, e2]; exact val_le.mpr h
  · refine Rat.not_le.mp fun c => ?_
    have := Rat.mul_le_mul_of_nonneg_right c (Rat.le_of_lt hv)
    rw [e1, e2, val_le] at this; omega
  · refine Rat.not_le.mp fun c => ?_
    have := Rat.mul_le_mul_of_nonneg_right c (Rat.le_of_lt hv)
    rw [e1, e2, val_le] at this; omega
theorem quot_big {m n : Int} {E p : Nat} (hm : 0 < m) (hn : 0 < n) (hE : p + bl n + 1 ≤ bl m + E) : 2 ^ p ≤ m * 2 ^ E / n := by
  rw [Int.le_ediv_iff_mul_le hn]
  have h1 := bl_ge (n := m) (by omega)
  have h2 := bl_lt n
  have h3 := bl_pos (n := m) (by omega)
  have g1 : (2 : Int) ^ (bl m - 1) ≤ m := by
    have : ((2 ^ (bl m - 1) : Nat) : Int) ≤ ((m.natAbs : Nat) : Int) := Int.ofNat_le.mpr h1
    rw [Int.natCast_pow] at this
    have e2 : ((m.natAbs : Nat) : Int) = m := by omega
    rw [e2] at this; exact this
  have g2 : n ≤ (2 : Int) ^ bl n := by
    have : ((n.natAbs : Nat) : Int) < ((2 ^ bl n : Nat) : Int) := Int.ofNat_lt.mpr h2
    rw [Int.natCast_pow] at this
    have e2 : ((n.natAbs : Nat) : Int) = n := by omega
    rw [e2] at this; exact Int.le_of_lt this
  have a1 : (2 : Int) ^ p * n ≤ 2 ^ p * 2 ^ bl n := Int.mul_le_mul_of_nonneg_left g2 (Int.le_of_lt (Int.pow_pos (by decide)))
  have a2 : (2 : Int) ^ p * 2 ^ bl n ≤ 2 ^ (bl m - 1) * 2 ^ E := by
    rw [← Int.pow_add, ← Int.pow_add]
    have h4 := Nat.pow_le_pow_right (n := 2) (by decide) (show p + bl n ≤ bl m - 1 + E by omega)
    have : ((2 ^ (p + bl n) : Nat) : Int) ≤ ((2 ^ (bl m - 1 + E) : Nat) : Int) := Int.ofNat_le.mpr h4
    rw [Int.natCast_pow, Int.natCast_pow] at this; exact this
  exact Int.le_trans a1 (Int.le_trans a2 (Int.mul_le_mul_of_nonneg_right g1 (Int.le_of_lt (Int.pow_pos (by decide)))))
section
variable {prog : Program} {w : World} {K : Frag} {N : Nat}
theorem mul2_ok (F : Facts K) (hl : Lit K w) {B C H G : Int} {x y : PyData} {X Y : Rat} {k : PyData → Prop} (hx : Nm B H x X) (hy : Nm C G y Y) (hB1 : B ≤ 1000) (hC1 : C ≤ 1000)
    (h : ∀ D, Nm (B + C) (H + G) D (X * Y) → k D) : Calls prog w K (N + 4) 119 [x, y] k := by
  obtain ⟨⟨s, m, e, hc, rfl, rfl, hB⟩, hI⟩ := hx
  obtain ⟨⟨t, n, f, hd, rfl, rfl, hC⟩, hJ⟩ := hy
  have hs : s = 0 ∨ s = 1 := by rcases hc with hc | hc <;> omega
  have ht : t = 0 ∨ t = 1 := by rcases hd with hc | hc <;> omega
  obtain ⟨x1, x2⟩ := xor01 hs ht
  have hv := mul_data (m := m) (n := n) (e := e) (f := f) x2
  have hIJ := hI.mul hJ
  have hmul : IntMulOk m n := IntMulOk.of_bits (by have : bl m ≤ 2 ^ 20 := by omega
                                                   exact this) (by have : bl n ≤ 2 ^ 20 := by omega
                                                                   exact this)
  have hbm := bl_mul m n
  refine en_mpf_mul2 F hl 40 ?_
  walk_at "g"
  walk_at "g"
  walk_at "g"
  by_cases hz : m * n = 0
  · have hz' : m = 0 ∨ n = 0 := Int.mul_eq_zero.mp hz
    have key : k (tm 0 0 0 0) := h _ (by
      have : val (sg s * m) e * val (sg t * n) f = 0 := by rw [← hv, hz, Int.mul_zero, val_zero]
      rw [this]; exact Nm.zero (by omega))
    have q1 : m = 0 → e = 0 := by rcases hc with hc | hc <;> omega
    have q2 : n = 0 → f = 0 := by rcases hd with hc | hc <;> omega
    by_cases hm : m = 0
    · have he := q1 hm
      subst hm he
      walk_at "n"
      walk_at "y"
      by_cases hn : n = 0
      · have hf := q2 hn
        subst hn hf
        walk_at "y"
        walk_at "y"
        walk_at "y"
        walk_at "e"
        exact key
      · walk_at "n"
        walk_at "y"
        walk_at "y"
        walk_at "e"
        exact key
    · have hn : n = 0 := by omega
      have hf := q2 hn
      subst hn hf
      walk_at "n"
      walk_at "n"
      walk_at "y"
      walk_at "y"
      walk_at "y"
      walk_at "e"
      exact key
  · have hm : m ≠ 0 := by rintro rfl; simp at hz
    have hn : n ≠ 0 := by rintro rfl; simp at hz
    walk_at "y"
    walk_at "n"
    walk_at "g"
    walk_at "e"
    refine h _ ⟨⟨_, m * n, e + f, .inr ⟨x1, ?_, ?_⟩, rfl, hv.symm, by omega⟩, hIJ⟩
    · have h1 : 0 < m := by rcases hc with hc | hc <;> omega
      have h2 : 0 < n := by rcases hd with hc | hc <;> omega
      exact Int.mul_pos h1 h2
    · exact odd_mul (by rcases hc with hc | hc <;> omega) (by rcases hd with hc | hc <;> omega)
theorem mul4_ok (F : Facts K) (hl : Lit K w) {B C H G : Int} {x y : PyData} {X Y : Rat} {p : Nat} {d : Bool} {k : PyData → Prop} (hp : 1 ≤ p) (hx : Nm B H x X) (hy : Nm C G y Y) (hB1 : B ≤ 1000) (hC1 : C ≤ 1000)
    (h : ∀ D r, Nm p (H + G) D r → Rnd d p (X * Y) r → k D) : Calls prog w K (N + 4) 119 [x, y, .int p, .str (dS d)] k := by
  obtain ⟨⟨s, m, e, hc, rfl, rfl, hB⟩, hI⟩ := hx
  obtain ⟨⟨t, n, f, hd, rfl, rfl, hC⟩, hJ⟩ := hy
  have hs : s = 0 ∨ s = 1 := by rcases hc with hc | hc <;> omega
  have ht : t = 0 ∨ t = 1 := by rcases hd with hc | hc <;> omega
  obtain ⟨x1, x2⟩ := xor01 hs ht
  have hv := mul_data (m := m) (n := n) (e := e) (f := f) x2
  have hIJ := hI.mul hJ
  have hmul : IntMulOk m n := IntMulOk.of_bits (by have : bl m ≤ 2 ^ 20 := by omega
                                                   exact this) (by have : bl n ≤ 2 ^ 20 := by omega
                                                                   exact this)
  have hbm := bl_mul m n
  refine en_mpf_mul4 F hl 40 ?_
  walk_at "g"
  walk_at "g"
  walk_at "g"
  by_cases hz : m * n = 0
  · have hz' : m = 0 ∨ n = 0 := Int.mul_eq_zero.mp hz
    have key : k (tm 0 0 0 0) := h _ 0 (Nm.zero (by omega)) (by
      have : val (sg s * m) e * val (sg t * n) f = 0 := by rw [← hv, hz, Int.mul_zero, val_zero]
      rw [this]; exact Rnd.zero)
    have q1 : m = 0 → e = 0 := by rcases hc with hc | hc <;> omega
    have q2 : n = 0 → f = 0 := by rcases hd with hc | hc <;> omega
    by_cases hm : m = 0
    · have he := q1 hm
      subst hm he
      walk_at "n"
      walk_at "y"
      by_cases hn : n = 0
      · have hf := q2 hn
        subst hn hf
        walk_at "y"
        walk_at "y"
        walk_at "y"
        walk_at "e"
        exact key
      · walk_at "n"
        walk_at "y"
        walk_at "y"
        walk_at "e"
        exact key
    · have hn : n = 0 := by omega
      have hf := q2 hn
      subst hn hf
      walk_at "n"
      walk_at "n"
      walk_at "y"
      walk_at "y"
      walk_at "y"
      walk_at "e"
      exact key
  · have hm : m ≠ 0 := by rintro rfl; simp at hz
    have hn : n ≠ 0 := by rintro rfl; simp at hz
    walk_at "y"
    walk_at "y"
    walk_at "e"
    have h1 : 0 < m := by rcases hc with hc | hc <;> omega
    have h2 : 0 < n := by rcases hd with hc | hc <;> omega
    refine normalize_ok F hl (p := p) x1 (Int.le_of_lt (Int.mul_pos h1 h2)) rfl (fun _ => ⟨hp, rfl⟩) fun D r g1 g2 => ?_
    rw [hv] at g2
    exact h D r ⟨g1, hIJ.rnd hp g2⟩ g2
end
end Mine
/-! part D4 -/
namespace Mine
open PySem PySem.W PyProof.Rows
set_option maxRecDepth 100000
-- one step of the evaluation: the goal's weak head
local macro_rules | `(tactic| walk_at "e") => `(tactic| conv => whnf)
-- a guard
local macro_rules | `(tactic| walk_at "g") => `(tactic| ((conv => whnf); refine And.intro ?_ ?_; focus (first | rfl | omega | assumption | (simp [asB, bl]; done) | (simp [asB]; omega) | (simp [SeqAt.shaped, PyData.canLay0, PyData.canLayAll0, PyData.depth, PyData.depthAll, PyData.strOk, tm, dS]; done) | decide)))
-- a branch that is decided by the facts
local macro_rules | `(tactic| walk_at "y") => `(tactic| ((conv => whnf); refine br1 ?_ ?_; focus (first | rfl | (simp [asB]; done) | (simp [asB]; omega) | (simp [asB, PyData.eqv, PyData.eqvAll, dS, tm]; done) | (simp [asB, PyData.eqv, PyData.eqvAll, dS, tm]; omega))))
local macro_rules | `(tactic| walk_at "n") => `(tactic| ((conv => whnf); refine br0 ?_ ?_; focus (first | rfl | (simp [asB]; done) | (simp [asB]; omega) | (simp [asB, PyData.eqv, PyData.eqvAll, dS, tm]; done) | (simp [asB, PyData.eqv, PyData.eqvAll, dS, tm]; omega))))


theorem bl_div {m n : Int} {E : Nat} (hm : 0 ≤ m) (hn : 0 < n) : bl (m * 2 ^ E / n) ≤ bl m + E := by
  apply bl_le
  have h2 := Int.pow_pos (m := E) (show (0 : Int) < 2 by decide)
  have h0 : 0 ≤ m * 2 ^ E := Int.mul_nonneg hm (Int.le_of_lt h2)
  have h1 : m * 2 ^ E / n ≤ m * 2 ^ E := Int.ediv_le_self _ h0
  have h3 : 0 ≤ m * 2 ^ E / n := Int.ediv_nonneg h0 (Int.le_of_lt hn)
  have h4 : (m * 2 ^ E / n).natAbs ≤ (m * 2 ^ E).natAbs := by omega
  refine Nat.lt_of_le_of_lt h4 ?_
  rw [Int.natAbs_mul, Int.natAbs_pow, Nat.pow_add]
  exact Nat.mul_lt_mul_of_pos_right (bl_lt m) (Nat.two_pow_pos E)
section
variable {prog : Program} {w : World} {K : Frag} {N : Nat}
theorem div_ok (F : Facts K) (hl : Lit K w) {B C H G : Int} {x y : PyData} {X Y : Rat} {p : Nat} {d : Bool} {k : PyData → Prop} (hp : 1 ≤ p) (hp1 : p ≤ 1000) (hx : Nm B H x X) (hy : Nm C G y Y) (hY : Y ≠ 0) (hB1 : B ≤ 1000) (hC1 : C ≤ 1000)
    (h : ∀ D r, Nm p (H + G) D r → Rnd d p (X / Y) r → k D) : Calls prog w K (N + 4) 127 [x, y, .int p, .str (dS d)] k := by
  obtain ⟨⟨s, m, e, hc, rfl, rfl, hB⟩, hI⟩ := hx
  obtain ⟨⟨t, n, f, hd, rfl, rfl, hC⟩, hJ⟩ := hy
  have hs : s = 0 ∨ s = 1 := by rcases hc with hc | hc <;> omega
  have ht : t = 0 ∨ t = 1 := by rcases hd with hc | hc <;> omega
  have hn : n ≠ 0 := by
    rintro rfl
    exact hY (by rw [Int.mul_zero, val_zero])
  have hn0 : 0 < n := by rcases hd with hc | hc <;> omega
  obtain ⟨x1, x2⟩ := xor01 hs ht
  have hIJ := hI.div hJ
  have hv : val (sg s * m) e / val (sg t * n) f = (sg (Builtin.bitXor s t) : Rat) * (val m e / val n f) := by rw [val_sg hs, val_sg ht, div_sg hs ht _ _ x2]
  have fin : ∀ D r, Nb p D r → Rnd d p (val (sg s * m) e / val (sg t * n) f) r → k D := fun D r h1 h2 => h D r ⟨h1, hIJ.rnd hp h2⟩ h2
  clear h
  refine en_mpf_div4 F hl 60 ?_
  walk_at "g"
  walk_at "g"
  by_cases hm : m = 0
  · have he : e = 0 := by rcases hc with hc | hc <;> omega
    have hs0 : s = 0 := by rcases hc with hc | hc <;> omega
    subst hm he hs0
    walk_at "y"
    walk_at "y"
    walk_at "g"
    walk_at "g"
    walk_at "y"
    walk_at "g"
    walk_at "g"
    walk_at "n"
    walk_at "g"
    walk_at "g"
    walk_at "n"
    walk_at "e"
    refine fin _ 0 (Nb.zero (by omega)) ?_
    rw [Int.mul_zero, val_zero, Rat.div_def, Rat.zero_mul]; exact Rnd.zero
  · have hm0 : 0 < m := by rcases hc with hc | hc <;> omega
    walk_at "n"
    walk_at "n"
    by_cases h1 : n = 1
    · subst h1
      walk_at "y"
      walk_at "e"
      refine normalize_ok F hl (p := p) x1 (Int.le_of_lt hm0) rfl (fun _ => ⟨hp, rfl⟩) fun D r g1 g2 => ?_
      refine fin D r g1 ?_
      rw [hv, div_one, ← val_sg x1]; exact g2
    · have hlog : n.natAbs.log2 < 9000 := by
        have := bl_def n
        rw [if_neg hn] at this
        omega
      have hlm : (Builtin.Int.intBits m : Int) ≤ 1000 := by
        have : (bl m : Int) ≤ 1000 := by omega
        exact this
      walk_at "n"
      walk_at "n"
      by_cases h5 : (p : Int) - (bl m : Int) + (bl n : Int) + 5 < 5
      · walk_at "y"
        obtain ⟨E, hE, hE2, hE3⟩ : ∃ E : Nat, (5 : Int) = (E : Int) ∧ p + bl n + 1 ≤ bl m + E ∧ E ≤ 2100 := ⟨5, rfl, by omega, by omega⟩
        have t1 : (m * 2 ^ ((5 : Int)).toNat).fdiv n = m * 2 ^ E / n := by rw [hE, Int.toNat_natCast, Int.fdiv_eq_ediv_of_nonneg _ (Int.le_of_lt hn0)]
        have t2 : (m * 2 ^ ((5 : Int)).toNat).fmod n = m * 2 ^ E % n := by rw [hE, Int.toNat_natCast, Int.fmod_eq_emod_of_nonneg _ (Int.le_of_lt hn0)]
        walk_at "g"
        walk_at "g"
        walk_at "g"
        walk_at "g"
        walk_at "g"
        obtain ⟨q, hq, r, hr, k1, k2, k3, k4⟩ : ∃ q, q = m * 2 ^ E / n ∧ ∃ r, r = m * 2 ^ E % n ∧ q * n + r = m * 2 ^ E ∧ 0 ≤ r ∧ r < n ∧ 2 ^ p ≤ q := ⟨_, rfl, _, rfl, Int.ediv_mul_add_emod _ _, Int.emod_nonneg _ (by omega), Int.emod_lt_of_pos _ hn0, quot_big hm0 hn0 (by omega)⟩
        rw [← hq] at t1
        rw [← hr] at t2
        have k5 : (2 : Int) ^ (p - 1) ≤ q := by
          have := two_pow_split hp
          have := Int.pow_pos (m := p - 1) (show (0 : Int) < 2 by decide)
          omega
        have k6 : 0 < q := by
          have := Int.pow_pos (m := p - 1) (show (0 : Int) < 2 by decide)
          omega
        by_cases hr0 : r = 0
        · walk_at "e"
          refine br0 (by rw [t2, hr0]; rfl) ?_
          walk_at "y"
          walk_at "e"
          refine normalize_ok F hl (p := p) x1 (by rw [t1]; omega) rfl (fun _ => ⟨hp, rfl⟩) fun D u g1 g2 => ?_
          rw [t1] at g2
          refine fin D u g1 ?_
          have hb := div_between (m := m) (n := n) (e := e) (f := f) (q := q) (E := E) hn0 rfl
          have he : val m e / val n f = val q (e - f - E) := Rat.le_antisymm (hb.2.1 (by omega)) (hb.1 (by omega))
          rw [hv, he, ← val_sg x1]
          rw [hE] at g2; exact g2
        · walk_at "e"
          refine br1 (by rw [t2]; simpa [asB] using hr0) ?_
          walk_at "g"
          walk_at "e"
          refine And.intro ?_ ?_
          · have k7 := bl_div (m := m) (E := E) (Int.le_of_lt hm0) hn0
            rw [← hq] at k7
            have k8 : (bl q : Int) + 1 ≤ 2 ^ 27 := Int.le_trans (show (bl q : Int) + 1 ≤ 4000 by omega) (by decide)
            rw [t1]; exact k8
          walk_at "y"
          walk_at "e"
          have t3 : (m * 2 ^ ((5 : Int)).toNat).fdiv n * 2 ^ (Int.toNat 1) + 1 = 2 * q + 1 := by rw [t1, show Int.toNat 1 = 1 from rfl]; omega
          refine normalize_ok F hl (p := p) x1 (Int.le_trans (by omega) (Int.le_of_eq t3.symm)) rfl (fun _ => ⟨hp, rfl⟩) fun D u g1 g2 => ?_
          have g3 : Rnd d p (val (sg (Builtin.bitXor s t) * (2 * q + 1)) (e - f - ((5 : Int) + 1))) u := by rw [← t3]; exact g2
          refine fin D u g1 ?_
          have hb := div_between (m := m) (n := n) (e := e) (f := f) (q := q) (E := E) hn0 rfl
          have hb2 := div_between (m := m) (n := n) (e := e) (f := f) (q := q + 1) (E := E) hn0 rfl
          have d1 := hb.2.2.1 (by omega)
          have d2 := hb2.2.2.2 (by rw [Int.add_mul]; omega)
          rw [hE, val_sg x1] at g3
          rw [hv]
          have v1 : val q (e - f - E) = val (q * 2 ^ 1) (e - f - (E + 1)) := by rw [val_shift]; congr 1; omega
          have v2 : val (q + 1) (e - f - E) = val ((q + 1) * 2 ^ 1) (e - f - (E + 1)) := by rw [val_shift]; congr 1; omega
          refine rnd_sg (sgq x1) (fun d' r' h' => ?_) g3
          refine rnd_congr hp k5 d1 d2 ?_ ?_ h'
          · rw [v1]; exact val_lt.mpr (by omega)
          · rw [v2]; exact val_lt.mpr (by omega)
      · walk_at "n"
        obtain ⟨E, hE, hE2, hE3⟩ : ∃ E : Nat, (p : Int) - (bl m : Int) + (bl n : Int) + 5 = (E : Int) ∧ p + bl n + 1 ≤ bl m + E ∧ E ≤ 2100 := ⟨p + bl n + 5 - bl m, by omega, by omega, by omega⟩
        have t1 : (m * 2 ^ (((p : Int) - (bl m : Int) + (bl n : Int) + 5)).toNat).fdiv n = m * 2 ^ E / n := by rw [hE, Int.toNat_natCast, Int.fdiv_eq_ediv_of_nonneg _ (Int.le_of_lt hn0)]
        have t2 : (m * 2 ^ (((p : Int) - (bl m : Int) + (bl n : Int) + 5)).toNat).fmod n = m * 2 ^ E % n := by rw [hE, Int.toNat_natCast, Int.fmod_eq_emod_of_nonneg _ (Int.le_of_lt hn0)]
        walk_at "g"
        walk_at "g"
        walk_at "g"
        walk_at "g"
        walk_at "g"
        obtain ⟨q, hq, r, hr, k1, k2, k3, k4⟩ : ∃ q, q = m * 2 ^ E / n ∧ ∃ r, r = m * 2 ^ E % n ∧ q * n + r = m * 2 ^ E ∧ 0 ≤ r ∧ r < n ∧ 2 ^ p ≤ q := ⟨_, rfl, _, rfl, Int.ediv_mul_add_emod _ _, Int.emod_nonneg _ (by omega), Int.emod_lt_of_pos _ hn0, quot_big hm0 hn0 (by omega)⟩
        rw [← hq] at t1
        rw [← hr] at t2
        have k5 : (2 : Int) ^ (p - 1) ≤ q := by
          have := two_pow_split hp
          have := Int.pow_pos (m := p - 1) (show (0 : Int) < 2 by decide)
          omega
        have k6 : 0 < q := by
          have := Int.pow_pos (m := p - 1) (show (0 : Int) < 2 by decide)
          omega
        by_cases hr0 : r = 0
        · walk_at "e"
          refine br0 (by rw [t2, hr0]; rfl) ?_
          walk_at "y"
          walk_at "e"
          refine normalize_ok F hl (p := p) x1 (by rw [t1]; omega) rfl (fun _ => ⟨hp, rfl⟩) fun D u g1 g2 => ?_
          rw [t1] at g2
          refine fin D u g1 ?_
          have hb := div_between (m := m) (n := n) (e := e) (f := f) (q := q) (E := E) hn0 rfl
          have he : val m e / val n f = val q (e - f - E) := Rat.le_antisymm (hb.2.1 (by omega)) (hb.1 (by omega))
          rw [hv, he, ← val_sg x1]
          rw [hE] at g2; exact g2
        · walk_at "e"
          refine br1 (by rw [t2]; simpa [asB] using hr0) ?_
          walk_at "g"
          walk_at "e"
          refine And.intro ?_ ?_
          · have k7 := bl_div (m := m) (E := E) (Int.le_of_lt hm0) hn0
            rw [← hq] at k7
            have k8 : (bl q : Int) + 1 ≤ 2 ^ 27 := Int.le_trans (show (bl q : Int) + 1 ≤ 4000 by omega) (by decide)
            rw [t1]; exact k8
          walk_at "y"
          walk_at "e"
          have t3 : (m * 2 ^ (((p : Int) - (bl m : Int) + (bl n : Int) + 5)).toNat).fdiv n * 2 ^ (Int.toNat 1) + 1 = 2 * q + 1 := by rw [t1, show Int.toNat 1 = 1 from rfl]; omega
          refine normalize_ok F hl (p := p) x1 (Int.le_trans (by omega) (Int.le_of_eq t3.symm)) rfl (fun _ => ⟨hp, rfl⟩) fun D u g1 g2 => ?_
          have g3 : Rnd d p (val (sg (Builtin.bitXor s t) * (2 * q + 1)) (e - f - (((p : Int) - (bl m : Int) + (bl n : Int) + 5) + 1))) u := by rw [← t3]; exact g2
          refine fin D u g1 ?_
          have hb := div_between (m := m) (n := n) (e := e) (f := f) (q := q) (E := E) hn0 rfl
          have hb2 := div_between (m := m) (n := n) (e := e) (f := f) (q := q + 1) (E := E) hn0 rfl
          have d1 := hb.2.2.1 (by omega)
          have d2 := hb2.2.2.2 (by rw [Int.add_mul]; omega)
          rw [hE, val_sg x1] at g3
          rw [hv]
          have v1 : val q (e - f - E) = val (q * 2 ^ 1) (e - f - (E + 1)) := by rw [val_shift]; congr 1; omega
          have v2 : val (q + 1) (e - f - E) = val ((q + 1) * 2 ^ 1) (e - f - (E + 1)) := by rw [val_shift]; congr 1; omega
          refine rnd_sg (sgq x1) (fun d' r' h' => ?_) g3
          refine rnd_congr hp k5 d1 d2 ?_ ?_ h'
          · rw [v1]; exact val_lt.mpr (by omega)
          · rw [v2]; exact val_lt.mpr (by omega)
end
end Mine
/-! part D5 -/
namespace Mine
open PySem PySem.W PyProof.Rows
set_option maxRecDepth 100000
-- one step of the evaluation: the goal's weak head
local macro_rules | `(tactic| walk_at "e") => `(tactic| conv => whnf)
-- a guard
local macro_rules | `(tactic| walk_at "g") => `(tactic| ((conv => whnf); refine And.intro ?_ ?_; focus (first | rfl | omega | assumption | (simp [asB, bl]; done) | (simp [asB]; omega) | (simp [SeqAt.shaped, PyData.canLay0, PyData.canLayAll0, PyData.depth, PyData.depthAll, PyData.strOk, tm, dS]; done) | decide)))
-- a branch that is decided by the facts
local macro_rules | `(tactic| walk_at "y") => `(tactic| ((conv => whnf); refine br1 ?_ ?_; focus (first | rfl | (simp [asB]; done) | (simp [asB]; omega) | (simp [asB, PyData.eqv, PyData.eqvAll, dS, tm]; done) | (simp [asB, PyData.eqv, PyData.eqvAll, dS, tm]; omega))))
local macro_rules | `(tactic| walk_at "n") => `(tactic| ((conv => whnf); refine br0 ?_ ?_; focus (first | rfl | (simp [asB]; done) | (simp [asB]; omega) | (simp [asB, PyData.eqv, PyData.eqvAll, dS, tm]; done) | (simp [asB, PyData.eqv, PyData.eqvAll, dS, tm]; omega))))


theorem fits27 {a : Int} (h : a ≤ 100000) : a ≤ 2 ^ 27 := Int.le_trans h (by decide)
theorem int_lt_bl {n : Int} (h : 0 ≤ n) : n < 2 ^ bl n := by
  have : ((n.natAbs : Nat) : Int) < ((2 ^ bl n : Nat) : Int) := Int.ofNat_lt.mpr (bl_lt n)
  rw [Int.natCast_pow] at this
  have e2 : ((n.natAbs : Nat) : Int) = n := by omega
  rw [e2] at this; exact this
theorem int_bl_le {n : Int} (h : 0 < n) : 2 ^ (bl n - 1) ≤ n := by
  have : ((2 ^ (bl n - 1) : Nat) : Int) ≤ ((n.natAbs : Nat) : Int) := Int.ofNat_le.mpr (bl_ge (by omega))
  rw [Int.natCast_pow] at this
  have e2 : ((n.natAbs : Nat) : Int) = n := by omega
  rw [e2] at this; exact this
theorem bl_le_of {n : Int} {k : Nat} (h0 : 0 ≤ n) (h : n < 2 ^ k) : bl n ≤ k := by
  apply bl_le
  apply Int.ofNat_lt.mp
  rw [Int.natCast_pow]
  have e2 : ((n.natAbs : Nat) : Int) = n := by omega
  rw [e2]; exact h
theorem pow_mono {a b : Nat} (h : a ≤ b) : (2 : Int) ^ a ≤ 2 ^ b := by
  have : ((2 ^ a : Nat) : Int) ≤ ((2 ^ b : Nat) : Int) := Int.ofNat_le.mpr (Nat.pow_le_pow_right (by decide) h)
  rwa [Int.natCast_pow, Int.natCast_pow] at this
theorem bl_add_le {M A B : Int} {k : Nat} (h0 : 0 ≤ M) (hA : 0 ≤ A) (hB : 0 ≤ B) (hM : M ≤ A + B) (h1 : bl A ≤ k) (h2 : bl B ≤ k) : bl M ≤ k + 1 := by
  refine bl_le_of h0 ?_
  have a := int_lt_bl hA
  have b := int_lt_bl hB
  have c : (2 : Int) ^ bl A ≤ 2 ^ k := pow_mono h1
  have d : (2 : Int) ^ bl B ≤ 2 ^ k := pow_mono h2
  rw [Int.pow_succ]
  omega
theorem val_lt_top {n e : Int} (h : 0 < n) : val n e < p2 (e + bl n) := by
  have : val n e < val (1 * 2 ^ bl n) e := val_lt.mpr (by rw [Int.one_mul]; exact int_lt_bl (Int.le_of_lt h))
  rwa [val_shift, val_one] at this
theorem pert_aux {p : Nat} (hp : 1 ≤ p) {m e : Int} (hm : 0 < m) (hb : bl m ≤ p) : ∃ q E : Int, val q E = val m e ∧ 2 ^ (p - 1) ≤ q ∧ E = e - p + bl m := by
  refine ⟨m * 2 ^ (p - bl m), e - p + bl m, ?_, ?_, rfl⟩
  · rw [val_shift]; congr 1; omega
  · have h1 := int_bl_le hm
    have h2 := bl_pos (n := m) (by omega)
    have h3 : (2 : Int) ^ (p - 1) = 2 ^ (bl m - 1) * 2 ^ (p - bl m) := by rw [← Int.pow_add]; congr 1; omega
    rw [h3]
    exact Int.mul_le_mul_of_nonneg_right h1 (Int.le_of_lt (Int.pow_pos (by decide)))
theorem pert_up {d : Bool} {p : Nat} (hp : 1 ≤ p) {m e n f : Int} {r : Rat} (hm : 0 < m) (hb : bl m ≤ p) (hn : 0 < n) (hd : (bl n : Int) + f + p + 5 ≤ bl m + e) (h : Rnd d p (val (m * 2 ^ (p + 4) + 1) (e - (p + 4))) r) : Rnd d p (val m e + val n f) r := by
  obtain ⟨q, E, h1, h2, h3⟩ := pert_aux (e := e) hp hm hb
  have a0 : val (m * 2 ^ (p + 4) + 1) (e - (p + 4)) = val m e + p2 (e - (p + 4)) := by
    rw [val_add, val_one, val_shift]; congr 2; omega
  have a1 := val_lt_top (e := f) hn
  have a2 : p2 (f + bl n) ≤ p2 E := p2_mono (by omega)
  have a3 : p2 (e - (p + 4)) < p2 E := p2_lt (by omega)
  have a4 : val (q + 1) E = val m e + p2 E := by rw [val_add, val_one, h1]
  have a5 := p2_pos (e - (p + 4))
  have a6 : 0 < val n f := val_pos.mpr hn
  rw [a0] at h
  refine rnd_congr (E := E) hp h2 ?_ ?_ ?_ ?_ h
  · rw [h1]; grind
  · rw [a4]; grind
  · rw [h1]; grind
  · rw [a4]; grind
theorem pert_down {d : Bool} {p : Nat} (hp : 1 ≤ p) {m e n f : Int} {r : Rat} (hm : 0 < m) (hb : bl m ≤ p) (hn : 0 < n) (hd : (bl n : Int) + f + p + 5 ≤ bl m + e) (h : Rnd d p (val (m * 2 ^ (p + 4) - 1) (e - (p + 4))) r) : Rnd d p (val m e - val n f) r := by
  obtain ⟨q, E, h1, h2, h3⟩ := pert_aux (e := e) hp hm hb
  have a0 : val (m * 2 ^ (p + 4) - 1) (e - (p + 4)) = val m e - p2 (e - (p + 4)) := by
    rw [val_sub, val_one, val_shift]; congr 2; omega
  have hb1 := bl_pos (n := m) (by omega)
  have a1 := val_lt_top (e := f) hn
  have a2 : p2 (f + bl n) ≤ p2 (E - 1) := p2_mono (by omega)
  have a3 : p2 (e - (p + 4)) < p2 (E - 1) := p2_lt (by omega)
  have a4 : val (q * 2 - 1 + 1) (E - 1) = val m e := by
    rw [← h1, show q * 2 - 1 + 1 = q * 2 ^ 1 by omega, val_shift]; congr 1; omega
  have a7 : val (q * 2 - 1) (E - 1) = val m e - p2 (E - 1) := by
    have := val_sub (q * 2 - 1 + 1) 1 (E - 1)
    rw [a4, val_one] at this
    rw [← this]; congr 1; omega
  have a5 := p2_pos (e - (p + 4))
  have a6 : 0 < val n f := val_pos.mpr hn
  have a8 := Int.pow_pos (m := p - 1) (show (0 : Int) < 2 by decide)
  rw [a0] at h
  refine rnd_congr (q := q * 2 - 1) (E := E - 1) hp (by omega) ?_ ?_ ?_ ?_ h
  · rw [a7]; grind
  · rw [a4]; grind
  · rw [a7]; grind
  · rw [a4]; grind
theorem val_sg_up {s m e g : Int} (hs : s = 0 ∨ s = 1) (h : g ≤ e) : val (sg s * m) e = val (sg s * (m * 2 ^ (e - g).toNat)) g := by
  rw [val_sg hs, val_sg hs, val_down m e h]

theorem add_val {s T s' A B M g : Int} (h : sg s' * M = sg s * A + sg T * B) : val (sg s' * M) g = val (sg s * A) g + val (sg T * B) g := by rw [h, val_add]
section
variable {prog : Program} {w : World} {K : Frag} {N : Nat}

theorem add0_raw (F : Facts K) (hl : Lit K w) {Bx : Nat} {s m e t n f u : Int} {d : Bool} {k : PyData → Prop} (hs : s = 0 ∨ s = 1) (hm : 0 < m) (hn : 0 < n) (hu : Builtin.bitXor t u = 0 ∨ Builtin.bitXor t u = 1) 
    (hB1 : (bl m : Int) + bl n + (e - f) + 1 ≤ Bx) (hB2 : (bl m : Int) + bl n + (f - e) + 1 ≤ Bx) (hB3 : Bx ≤ 90000)
    (h : ∀ D, Nb Bx D (val (sg s * m) e + val (sg (Builtin.bitXor t u) * n) f) → k D) : vcS (Calls prog w K (N + 3)) 60 [(4, .int u), (3, .str (dS d)), (2, .int 0), (1, tm t n f (bl n)), (0, tm s m e (bl m))] c_mpf_add k (fun _ => False) := by
  walk_at "g"
  walk_at "g"
  walk_at "y"
  walk_at "y"
  generalize hTT : Builtin.bitXor t u = T at h hu ⊢
  have hT := hu
  have hbm : (Builtin.Int.intBits m : Int) = bl m := rfl
  have hbn : (Builtin.Int.intBits n : Int) = bl n := rfl
  have hm1 := bl_pos (n := m) (by omega)
  have hn1 := bl_pos (n := n) (by omega)
  have fin : ∀ s' M g : Int, (s' = 0 ∨ s' = 1) → 0 ≤ M → val (sg s' * M) g = val (sg s * m) e + val (sg T * n) f → bl M ≤ Bx → Calls prog w K (N + 3) 44 [.int s', .int M, .int g, .int (bl M), .int (bl M), .str (dS d)] k := by
    intro s' M g h1 h2 h3 h4
    refine normalize_ok F hl (p := bl M) h1 h2 rfl (fun hz => ⟨bl_pos hz, rfl⟩) fun D r g1 g2 => h D ?_
    have e1 : Rnd d (bl M) (val (sg s' * M) g) (val (sg s' * M) g) := Rnd.exact (Rp.of_bl (by rcases h1 with rfl | rfl <;> simp [sg, bl_neg]))
    have e2 := Rnd.unique g2 e1
    rw [e2, h3] at g1
    obtain ⟨a, b, c, q1, q2, q3, q4⟩ := g1
    exact ⟨a, b, c, q1, q2, q3, by omega⟩
  rcases Int.lt_trichotomy e f with ho | ho | ho
  · walk_at "y"
    walk_at "n"
    walk_at "y"
    have hA : m * 2 ^ (f - e).toNat = m * 2 ^ (f - e).toNat := rfl
    obtain ⟨B, hBe⟩ : ∃ B, n * 2 ^ (-(e - f)).toNat = B := ⟨_, rfl⟩
    have hB0 : 0 < B := by rw [← hBe]; exact Int.mul_pos hn (Int.pow_pos (by decide))
    have hBb : bl B = bl n + (-(e - f)).toNat := by rw [← hBe]; exact bl_mul_pow (by omega) _
    have hV : val (sg s * m) e + val (sg T * n) f = val (sg s * m) e + val (sg T * B) e := by
      rw [← hBe, val_sg_up (m := n) hT (Int.le_of_lt ho), show -(e - f) = f - e by omega]
    have bl2 : ∀ M : Int, 0 ≤ M → M ≤ m + B → bl M ≤ Bx := fun M h1 h2 => by
      have := bl_add_le (k := Bx - 1) h1 (Int.le_of_lt hm) (Int.le_of_lt hB0) h2 (by omega) (by omega)
      omega
    by_cases hb : e - f < -100
    · walk_at "y"
      walk_at "n"
      rcases hs with rfl | rfl <;> rcases hT with rfl | rfl
      · walk_at "y"
        walk_at "g"
        walk_at "e"
        refine And.intro (fits27 (by omega)) ?_
        rw [hBe]
        walk_at "n"
        walk_at "e"
        refine fin 0 _ _ (.inl rfl) ?_ ?_ ?_
        · omega
        · rw [hV]; refine add_val ?_; simp [sg] <;> omega
        · refine bl2 _ ?_ ?_ <;> omega
      · walk_at "n"
        walk_at "y"
        walk_at "g"
        walk_at "e"
        refine And.intro (fits27 (by omega)) ?_
        rw [hBe]
        by_cases hpos : 0 ≤ m - B
        · walk_at "y"
          walk_at "n"
          walk_at "e"
          refine fin 0 _ _ (.inl rfl) ?_ ?_ ?_
          · omega
          · rw [hV]; refine add_val ?_; simp [sg] <;> omega
          · refine bl2 _ ?_ ?_ <;> omega
        · walk_at "n"
          walk_at "n"
          walk_at "e"
          refine fin 1 _ _ (.inr rfl) ?_ ?_ ?_
          · omega
          · rw [hV]; refine add_val ?_; simp [sg] <;> omega
          · refine bl2 _ ?_ ?_ <;> omega
      · walk_at "n"
        walk_at "n"
        walk_at "g"
        walk_at "e"
        refine And.intro (fits27 (by omega)) ?_
        rw [hBe]
        by_cases hpos : 0 ≤ B - m
        · walk_at "y"
          walk_at "n"
          walk_at "e"
          refine fin 0 _ _ (.inl rfl) ?_ ?_ ?_
          · omega
          · rw [hV]; refine add_val ?_; simp [sg] <;> omega
          · refine bl2 _ ?_ ?_ <;> omega
        · walk_at "n"
          walk_at "n"
          walk_at "e"
          refine fin 1 _ _ (.inr rfl) ?_ ?_ ?_
          · omega
          · rw [hV]; refine add_val ?_; simp [sg] <;> omega
          · refine bl2 _ ?_ ?_ <;> omega
      · walk_at "y"
        walk_at "g"
        walk_at "e"
        refine And.intro (fits27 (by omega)) ?_
        rw [hBe]
        walk_at "n"
        walk_at "e"
        refine fin 1 _ _ (.inr rfl) ?_ ?_ ?_
        · omega
        · rw [hV]; refine add_val ?_; simp [sg] <;> omega
        · refine bl2 _ ?_ ?_ <;> omega
    · walk_at "n"
      walk_at "n"
      rcases hs with rfl | rfl <;> rcases hT with rfl | rfl
      · walk_at "y"
        walk_at "g"
        walk_at "e"
        refine And.intro (fits27 (by omega)) ?_
        rw [hBe]
        walk_at "n"
        walk_at "e"
        refine fin 0 _ _ (.inl rfl) ?_ ?_ ?_
        · omega
        · rw [hV]; refine add_val ?_; simp [sg] <;> omega
        · refine bl2 _ ?_ ?_ <;> omega
      · walk_at "n"
        walk_at "y"
        walk_at "g"
        walk_at "e"
        refine And.intro (fits27 (by omega)) ?_
        rw [hBe]
        by_cases hpos : 0 ≤ m - B
        · walk_at "y"
          walk_at "n"
          walk_at "e"
          refine fin 0 _ _ (.inl rfl) ?_ ?_ ?_
          · omega
          · rw [hV]; refine add_val ?_; simp [sg] <;> omega
          · refine bl2 _ ?_ ?_ <;> omega
        · walk_at "n"
          walk_at "n"
          walk_at "e"
          refine fin 1 _ _ (.inr rfl) ?_ ?_ ?_
          · omega
          · rw [hV]; refine add_val ?_; simp [sg] <;> omega
          · refine bl2 _ ?_ ?_ <;> omega
      · walk_at "n"
        walk_at "n"
        walk_at "g"
        walk_at "e"
        refine And.intro (fits27 (by omega)) ?_
        rw [hBe]
        by_cases hpos : 0 ≤ B - m
        · walk_at "y"
          walk_at "n"
          walk_at "e"
          refine fin 0 _ _ (.inl rfl) ?_ ?_ ?_
          · omega
          · rw [hV]; refine add_val ?_; simp [sg] <;> omega
          · refine bl2 _ ?_ ?_ <;> omega
        · walk_at "n"
          walk_at "n"
          walk_at "e"
          refine fin 1 _ _ (.inr rfl) ?_ ?_ ?_
          · omega
          · rw [hV]; refine add_val ?_; simp [sg] <;> omega
          · refine bl2 _ ?_ ?_ <;> omega
      · walk_at "y"
        walk_at "g"
        walk_at "e"
        refine And.intro (fits27 (by omega)) ?_
        rw [hBe]
        walk_at "n"
        walk_at "e"
        refine fin 1 _ _ (.inr rfl) ?_ ?_ ?_
        · omega
        · rw [hV]; refine add_val ?_; simp [sg] <;> omega
        · refine bl2 _ ?_ ?_ <;> omega
  · walk_at "n"
    have hV : val (sg s * m) e + val (sg T * n) f = val (sg s * m) f + val (sg T * n) f := by rw [ho]
    have bl2 : ∀ M : Int, 0 ≤ M → M ≤ m + n → bl M ≤ Bx := fun M h1 h2 => by
      have := bl_add_le (k := Bx - 1) h1 (Int.le_of_lt hm) (Int.le_of_lt hn) h2 (by omega) (by omega)
      omega
    rcases hs with rfl | rfl <;> rcases hT with rfl | rfl
    · walk_at "y"
      walk_at "n"
      walk_at "e"
      refine fin 0 _ _ (.inl rfl) ?_ ?_ ?_
      · omega
      · rw [hV]; refine add_val ?_; simp [sg] <;> omega
      · refine bl2 _ ?_ ?_ <;> omega
    · walk_at "n"
      walk_at "n"
      by_cases hpos : 0 ≤ m - n
      · walk_at "y"
        walk_at "n"
        walk_at "e"
        refine fin 0 _ _ (.inl rfl) ?_ ?_ ?_
        · omega
        · rw [hV]; refine add_val ?_; simp [sg] <;> omega
        · refine bl2 _ ?_ ?_ <;> omega
      · walk_at "n"
        walk_at "n"
        walk_at "e"
        refine fin 1 _ _ (.inr rfl) ?_ ?_ ?_
        · omega
        · rw [hV]; refine add_val ?_; simp [sg] <;> omega
        · refine bl2 _ ?_ ?_ <;> omega
    · walk_at "n"
      walk_at "y"
      by_cases hpos : 0 ≤ n - m
      · walk_at "y"
        walk_at "n"
        walk_at "e"
        refine fin 0 _ _ (.inl rfl) ?_ ?_ ?_
        · omega
        · rw [hV]; refine add_val ?_; simp [sg] <;> omega
        · refine bl2 _ ?_ ?_ <;> omega
      · walk_at "n"
        walk_at "n"
        walk_at "e"
        refine fin 1 _ _ (.inr rfl) ?_ ?_ ?_
        · omega
        · rw [hV]; refine add_val ?_; simp [sg] <;> omega
        · refine bl2 _ ?_ ?_ <;> omega
    · walk_at "y"
      walk_at "n"
      walk_at "e"
      refine fin 1 _ _ (.inr rfl) ?_ ?_ ?_
      · omega
      · rw [hV]; refine add_val ?_; simp [sg] <;> omega
      · refine bl2 _ ?_ ?_ <;> omega
  · walk_at "y"
    walk_at "y"
    obtain ⟨A, hAe⟩ : ∃ A, m * 2 ^ (e - f).toNat = A := ⟨_, rfl⟩
    have hA0 : 0 < A := by rw [← hAe]; exact Int.mul_pos hm (Int.pow_pos (by decide))
    have hAb : bl A = bl m + (e - f).toNat := by rw [← hAe]; exact bl_mul_pow (by omega) _
    have hV : val (sg s * m) e + val (sg T * n) f = val (sg s * A) f + val (sg T * n) f := by
      rw [← hAe, val_sg_up (m := m) hs (Int.le_of_lt ho)]
    have bl2 : ∀ M : Int, 0 ≤ M → M ≤ A + n → bl M ≤ Bx := fun M h1 h2 => by
      have := bl_add_le (k := Bx - 1) h1 (Int.le_of_lt hA0) (Int.le_of_lt hn) h2 (by omega) (by omega)
      omega
    by_cases hb : 100 < e - f
    · walk_at "y"
      walk_at "n"
      rcases hs with rfl | rfl <;> rcases hT with rfl | rfl
      · walk_at "y"
        walk_at "g"
        walk_at "e"
        refine And.intro (fits27 (by omega)) ?_
        rw [hAe]
        walk_at "n"
        walk_at "e"
        refine fin 0 _ _ (.inl rfl) ?_ ?_ ?_
        · omega
        · rw [hV]; refine add_val ?_; simp [sg] <;> omega
        · refine bl2 _ ?_ ?_ <;> omega
      · walk_at "n"
        walk_at "n"
        walk_at "g"
        walk_at "e"
        refine And.intro (fits27 (by omega)) ?_
        rw [hAe]
        by_cases hpos : 0 ≤ A - n
        · walk_at "y"
          walk_at "n"
          walk_at "e"
          refine fin 0 _ _ (.inl rfl) ?_ ?_ ?_
          · omega
          · rw [hV]; refine add_val ?_; simp [sg] <;> omega
          · refine bl2 _ ?_ ?_ <;> omega
        · walk_at "n"
          walk_at "n"
          walk_at "e"
          refine fin 1 _ _ (.inr rfl) ?_ ?_ ?_
          · omega
          · rw [hV]; refine add_val ?_; simp [sg] <;> omega
          · refine bl2 _ ?_ ?_ <;> omega
      · walk_at "n"
        walk_at "y"
        walk_at "g"
        walk_at "e"
        refine And.intro (fits27 (by omega)) ?_
        rw [hAe]
        by_cases hpos : 0 ≤ n - A
        · walk_at "y"
          walk_at "n"
          walk_at "e"
          refine fin 0 _ _ (.inl rfl) ?_ ?_ ?_
          · omega
          · rw [hV]; refine add_val ?_; simp [sg] <;> omega
          · refine bl2 _ ?_ ?_ <;> omega
        · walk_at "n"
          walk_at "n"
          walk_at "e"
          refine fin 1 _ _ (.inr rfl) ?_ ?_ ?_
          · omega
          · rw [hV]; refine add_val ?_; simp [sg] <;> omega
          · refine bl2 _ ?_ ?_ <;> omega
      · walk_at "y"
        walk_at "g"
        walk_at "e"
        refine And.intro (fits27 (by omega)) ?_
        rw [hAe]
        walk_at "n"
        walk_at "e"
        refine fin 1 _ _ (.inr rfl) ?_ ?_ ?_
        · omega
        · rw [hV]; refine add_val ?_; simp [sg] <;> omega
        · refine bl2 _ ?_ ?_ <;> omega
    · walk_at "n"
      walk_at "n"
      rcases hs with rfl | rfl <;> rcases hT with rfl | rfl
      · walk_at "y"
        walk_at "g"
        walk_at "e"
        refine And.intro (fits27 (by omega)) ?_
        rw [hAe]
        walk_at "n"
        walk_at "e"
        refine fin 0 _ _ (.inl rfl) ?_ ?_ ?_
        · omega
        · rw [hV]; refine add_val ?_; simp [sg] <;> omega
        · refine bl2 _ ?_ ?_ <;> omega
      · walk_at "n"
        walk_at "n"
        walk_at "g"
        walk_at "e"
        refine And.intro (fits27 (by omega)) ?_
        rw [hAe]
        by_cases hpos : 0 ≤ A - n
        · walk_at "y"
          walk_at "n"
          walk_at "e"
          refine fin 0 _ _ (.inl rfl) ?_ ?_ ?_
          · omega
          · rw [hV]; refine add_val ?_; simp [sg] <;> omega
          · refine bl2 _ ?_ ?_ <;> omega
        · walk_at "n"
          walk_at "n"
          walk_at "e"
          refine fin 1 _ _ (.inr rfl) ?_ ?_ ?_
          · omega
          · rw [hV]; refine add_val ?_; simp [sg] <;> omega
          · refine bl2 _ ?_ ?_ <;> omega
      · walk_at "n"
        walk_at "y"
        walk_at "g"
        walk_at "e"
        refine And.intro (fits27 (by omega)) ?_
        rw [hAe]
        by_cases hpos : 0 ≤ n - A
        · walk_at "y"
          walk_at "n"
          walk_at "e"
          refine fin 0 _ _ (.inl rfl) ?_ ?_ ?_
          · omega
          · rw [hV]; refine add_val ?_; simp [sg] <;> omega
          · refine bl2 _ ?_ ?_ <;> omega
        · walk_at "n"
          walk_at "n"
          walk_at "e"
          refine fin 1 _ _ (.inr rfl) ?_ ?_ ?_
          · omega
          · rw [hV]; refine add_val ?_; simp [sg] <;> omega
          · refine bl2 _ ?_ ?_ <;> omega
      · walk_at "y"
        walk_at "g"
        walk_at "e"
        refine And.intro (fits27 (by omega)) ?_
        rw [hAe]
        walk_at "n"
        walk_at "e"
        refine fin 1 _ _ (.inr rfl) ?_ ?_ ?_
        · omega
        · rw [hV]; refine add_val ?_; simp [sg] <;> omega
        · refine bl2 _ ?_ ?_ <;> omega
end
end Mine
/-! part D5b -/
namespace Mine
open PySem PySem.W PyProof.Rows
set_option maxRecDepth 100000
-- one step of the evaluation: the goal's weak head
local macro_rules | `(tactic| walk_at "e") => `(tactic| conv => whnf)
-- a guard
local macro_rules | `(tactic| walk_at "g") => `(tactic| ((conv => whnf); refine And.intro ?_ ?_; focus (first | rfl | omega | assumption | (simp [asB, bl]; done) | (simp [asB]; omega) | (simp [SeqAt.shaped, PyData.canLay0, PyData.canLayAll0, PyData.depth, PyData.depthAll, PyData.strOk, tm, dS]; done) | decide)))
-- a branch that is decided by the facts
local macro_rules | `(tactic| walk_at "y") => `(tactic| ((conv => whnf); refine br1 ?_ ?_; focus (first | rfl | (simp [asB]; done) | (simp [asB]; omega) | (simp [asB, PyData.eqv, PyData.eqvAll, dS, tm]; done) | (simp [asB, PyData.eqv, PyData.eqvAll, dS, tm]; omega))))
local macro_rules | `(tactic| walk_at "n") => `(tactic| ((conv => whnf); refine br0 ?_ ?_; focus (first | rfl | (simp [asB]; done) | (simp [asB]; omega) | (simp [asB, PyData.eqv, PyData.eqvAll, dS, tm]; done) | (simp [asB, PyData.eqv, PyData.eqvAll, dS, tm]; omega))))

section
variable {prog : Program} {w : World} {K : Frag} {N : Nat}

theorem addp_raw (F : Facts K) (hl : Lit K w) {p Bx : Nat} {s m e t n f u : Int} {d : Bool} {k : PyData → Prop} (hs : s = 0 ∨ s = 1) (hm : 0 < m) (hn : 0 < n) (hu : Builtin.bitXor t u = 0 ∨ Builtin.bitXor t u = 1) (hp : 1 ≤ p) (hp1 : p ≤ 1000) (hq : (bl m ≤ p ∧ bl n ≤ p) ∨ (bl m : Int) + e = bl n + f)
    (hB1 : (bl m : Int) + bl n + (e - f) + 1 ≤ Bx) (hB2 : (bl m : Int) + bl n + (f - e) + 1 ≤ Bx) (hB3 : Bx ≤ 90000)
    (h : ∀ D r, Nb p D r ∧ Rnd d p (val (sg s * m) e + val (sg (Builtin.bitXor t u) * n) f) r → k D) : vcS (Calls prog w K (N + 3)) 60 [(4, .int u), (3, .str (dS d)), (2, .int p), (1, tm t n f (bl n)), (0, tm s m e (bl m))] c_mpf_add k (fun _ => False) := by
  walk_at "g"
  walk_at "g"
  walk_at "y"
  walk_at "y"
  generalize hTT : Builtin.bitXor t u = T at h hu ⊢
  have hT := hu
  have hbm : (Builtin.Int.intBits m : Int) = bl m := rfl
  have hbn : (Builtin.Int.intBits n : Int) = bl n := rfl
  have hm1 := bl_pos (n := m) (by omega)
  have hn1 := bl_pos (n := n) (by omega)
  have fin : ∀ s' M g : Int, (s' = 0 ∨ s' = 1) → 0 ≤ M → val (sg s' * M) g = val (sg s * m) e + val (sg T * n) f → bl M ≤ Bx → Calls prog w K (N + 3) 44 [.int s', .int M, .int g, .int (bl M), .int p, .str (dS d)] k := by
    intro s' M g h1 h2 h3 h4
    refine normalize_ok F hl (p := p) h1 h2 rfl (fun _ => ⟨hp, rfl⟩) fun D r g1 g2 => h D r ⟨g1, ?_⟩
    rw [← h3]; exact g2
  rcases Int.lt_trichotomy e f with ho | ho | ho
  · walk_at "y"
    walk_at "n"
    walk_at "y"
    have hA : m * 2 ^ (f - e).toNat = m * 2 ^ (f - e).toNat := rfl
    obtain ⟨B, hBe⟩ : ∃ B, n * 2 ^ (-(e - f)).toNat = B := ⟨_, rfl⟩
    have hB0 : 0 < B := by rw [← hBe]; exact Int.mul_pos hn (Int.pow_pos (by decide))
    have hBb : bl B = bl n + (-(e - f)).toNat := by rw [← hBe]; exact bl_mul_pow (by omega) _
    have hV : val (sg s * m) e + val (sg T * n) f = val (sg s * m) e + val (sg T * B) e := by
      rw [← hBe, val_sg_up (m := n) hT (Int.le_of_lt ho), show -(e - f) = f - e by omega]
    have bl2 : ∀ M : Int, 0 ≤ M → M ≤ m + B → bl M ≤ Bx := fun M h1 h2 => by
      have := bl_add_le (k := Bx - 1) h1 (Int.le_of_lt hm) (Int.le_of_lt hB0) h2 (by omega) (by omega)
      omega
    by_cases hb : e - f < -100
    · walk_at "y"
      walk_at "y"
      by_cases hd : (p : Int) + 4 < (bl n : Int) + f - bl m - e
      · walk_at "y"
        obtain ⟨q1, q2⟩ : bl m ≤ p ∧ bl n ≤ p := by omega
        walk_at "g"
        walk_at "e"
        refine And.intro (fits27 (by omega)) ?_
        have e4 : ((p : Int) + 4).toNat = p + 4 := by omega
        have hpw := Int.pow_pos (m := p + 4) (show (0 : Int) < 2 by decide)
        have hmp := Int.mul_pos hn hpw
        rw [e4]
        by_cases hst : s = T
        · walk_at "e"
          refine br1 (by simp [asB, hst]) ?_
          walk_at "e"
          refine normalize_ok F hl (p := p) hT (by omega) rfl (fun _ => ⟨hp, rfl⟩) fun D r g1 g2 => h D r ?_
          refine ⟨g1, ?_⟩
          rw [val_sg hT] at g2
          rw [val_sg hs, val_sg hT, Rat.add_comm]
          have e5 : (sg T : Rat) * val n f + (sg s : Rat) * val m e = (sg T : Rat) * (val n f + val m e) := by rw [hst, Rat.mul_add]
          rw [e5]
          exact rnd_sg (sgq hT) (fun d' r' h' => pert_up hp hn (by omega) hm (by omega) h') g2
        · walk_at "e"
          refine br0 (by simp [asB, hst]) ?_
          walk_at "e"
          refine normalize_ok F hl (p := p) hT (by omega) rfl (fun _ => ⟨hp, rfl⟩) fun D r g1 g2 => h D r ?_
          refine ⟨g1, ?_⟩
          rw [val_sg hT] at g2
          rw [val_sg hs, val_sg hT, Rat.add_comm]
          have e5 : (sg T : Rat) * val n f + (sg s : Rat) * val m e = (sg T : Rat) * (val n f - val m e) := by
            have : sg s = -sg T := by rcases hs with rfl | rfl <;> rcases hT with rfl | rfl <;> first | rfl | (exfalso; exact hst rfl)
            rw [this, Rat.intCast_neg, Rat.neg_mul]; grind
          rw [e5]
          exact rnd_sg (sgq hT) (fun d' r' h' => pert_down hp hn (by omega) hm (by omega) h') g2
      · walk_at "n"
        rcases hs with rfl | rfl <;> rcases hT with rfl | rfl
        · walk_at "y"
          walk_at "g"
          walk_at "e"
          refine And.intro (fits27 (by omega)) ?_
          rw [hBe]
          walk_at "y"
          walk_at "e"
          refine fin 0 _ _ (.inl rfl) ?_ ?_ ?_
          · omega
          · rw [hV]; refine add_val ?_; simp [sg] <;> omega
          · refine bl2 _ ?_ ?_ <;> omega
        · walk_at "n"
          walk_at "y"
          walk_at "g"
          walk_at "e"
          refine And.intro (fits27 (by omega)) ?_
          rw [hBe]
          by_cases hpos : 0 ≤ m - B
          · walk_at "y"
            walk_at "y"
            walk_at "e"
            refine fin 0 _ _ (.inl rfl) ?_ ?_ ?_
            · omega
            · rw [hV]; refine add_val ?_; simp [sg] <;> omega
            · refine bl2 _ ?_ ?_ <;> omega
          · walk_at "n"
            walk_at "y"
            walk_at "e"
            refine fin 1 _ _ (.inr rfl) ?_ ?_ ?_
            · omega
            · rw [hV]; refine add_val ?_; simp [sg] <;> omega
            · refine bl2 _ ?_ ?_ <;> omega
        · walk_at "n"
          walk_at "n"
          walk_at "g"
          walk_at "e"
          refine And.intro (fits27 (by omega)) ?_
          rw [hBe]
          by_cases hpos : 0 ≤ B - m
          · walk_at "y"
            walk_at "y"
            walk_at "e"
            refine fin 0 _ _ (.inl rfl) ?_ ?_ ?_
            · omega
            · rw [hV]; refine add_val ?_; simp [sg] <;> omega
            · refine bl2 _ ?_ ?_ <;> omega
          · walk_at "n"
            walk_at "y"
            walk_at "e"
            refine fin 1 _ _ (.inr rfl) ?_ ?_ ?_
            · omega
            · rw [hV]; refine add_val ?_; simp [sg] <;> omega
            · refine bl2 _ ?_ ?_ <;> omega
        · walk_at "y"
          walk_at "g"
          walk_at "e"
          refine And.intro (fits27 (by omega)) ?_
          rw [hBe]
          walk_at "y"
          walk_at "e"
          refine fin 1 _ _ (.inr rfl) ?_ ?_ ?_
          · omega
          · rw [hV]; refine add_val ?_; simp [sg] <;> omega
          · refine bl2 _ ?_ ?_ <;> omega
    · walk_at "n"
      walk_at "n"
      rcases hs with rfl | rfl <;> rcases hT with rfl | rfl
      · walk_at "y"
        walk_at "g"
        walk_at "e"
        refine And.intro (fits27 (by omega)) ?_
        rw [hBe]
        walk_at "y"
        walk_at "e"
        refine fin 0 _ _ (.inl rfl) ?_ ?_ ?_
        · omega
        · rw [hV]; refine add_val ?_; simp [sg] <;> omega
        · refine bl2 _ ?_ ?_ <;> omega
      · walk_at "n"
        walk_at "y"
        walk_at "g"
        walk_at "e"
        refine And.intro (fits27 (by omega)) ?_
        rw [hBe]
        by_cases hpos : 0 ≤ m - B
        · walk_at "y"
          walk_at "y"
          walk_at "e"
          refine fin 0 _ _ (.inl rfl) ?_ ?_ ?_
          · omega
          · rw [hV]; refine add_val ?_; simp [sg] <;> omega
          · refine bl2 _ ?_ ?_ <;> omega
        · walk_at "n"
          walk_at "y"
          walk_at "e"
          refine fin 1 _ _ (.inr rfl) ?_ ?_ ?_
          · omega
          · rw [hV]; refine add_val ?_; simp [sg] <;> omega
          · refine bl2 _ ?_ ?_ <;> omega
      · walk_at "n"
        walk_at "n"
        walk_at "g"
        walk_at "e"
        refine And.intro (fits27 (by omega)) ?_
        rw [hBe]
        by_cases hpos : 0 ≤ B - m
        · walk_at "y"
          walk_at "y"
          walk_at "e"
          refine fin 0 _ _ (.inl rfl) ?_ ?_ ?_
          · omega
          · rw [hV]; refine add_val ?_; simp [sg] <;> omega
          · refine bl2 _ ?_ ?_ <;> omega
        · walk_at "n"
          walk_at "y"
          walk_at "e"
          refine fin 1 _ _ (.inr rfl) ?_ ?_ ?_
          · omega
          · rw [hV]; refine add_val ?_; simp [sg] <;> omega
          · refine bl2 _ ?_ ?_ <;> omega
      · walk_at "y"
        walk_at "g"
        walk_at "e"
        refine And.intro (fits27 (by omega)) ?_
        rw [hBe]
        walk_at "y"
        walk_at "e"
        refine fin 1 _ _ (.inr rfl) ?_ ?_ ?_
        · omega
        · rw [hV]; refine add_val ?_; simp [sg] <;> omega
        · refine bl2 _ ?_ ?_ <;> omega
  · walk_at "n"
    have hV : val (sg s * m) e + val (sg T * n) f = val (sg s * m) f + val (sg T * n) f := by rw [ho]
    have bl2 : ∀ M : Int, 0 ≤ M → M ≤ m + n → bl M ≤ Bx := fun M h1 h2 => by
      have := bl_add_le (k := Bx - 1) h1 (Int.le_of_lt hm) (Int.le_of_lt hn) h2 (by omega) (by omega)
      omega
    rcases hs with rfl | rfl <;> rcases hT with rfl | rfl
    · walk_at "y"
      walk_at "y"
      walk_at "e"
      refine fin 0 _ _ (.inl rfl) ?_ ?_ ?_
      · omega
      · rw [hV]; refine add_val ?_; simp [sg] <;> omega
      · refine bl2 _ ?_ ?_ <;> omega
    · walk_at "n"
      walk_at "n"
      by_cases hpos : 0 ≤ m - n
      · walk_at "y"
        walk_at "y"
        walk_at "e"
        refine fin 0 _ _ (.inl rfl) ?_ ?_ ?_
        · omega
        · rw [hV]; refine add_val ?_; simp [sg] <;> omega
        · refine bl2 _ ?_ ?_ <;> omega
      · walk_at "n"
        walk_at "y"
        walk_at "e"
        refine fin 1 _ _ (.inr rfl) ?_ ?_ ?_
        · omega
        · rw [hV]; refine add_val ?_; simp [sg] <;> omega
        · refine bl2 _ ?_ ?_ <;> omega
    · walk_at "n"
      walk_at "y"
      by_cases hpos : 0 ≤ n - m
      · walk_at "y"
        walk_at "y"
        walk_at "e"
        refine fin 0 _ _ (.inl rfl) ?_ ?_ ?_
        · omega
        · rw [hV]; refine add_val ?_; simp [sg] <;> omega
        · refine bl2 _ ?_ ?_ <;> omega
      · walk_at "n"
        walk_at "y"
        walk_at "e"
        refine fin 1 _ _ (.inr rfl) ?_ ?_ ?_
        · omega
        · rw [hV]; refine add_val ?_; simp [sg] <;> omega
        · refine bl2 _ ?_ ?_ <;> omega
    · walk_at "y"
      walk_at "y"
      walk_at "e"
      refine fin 1 _ _ (.inr rfl) ?_ ?_ ?_
      · omega
      · rw [hV]; refine add_val ?_; simp [sg] <;> omega
      · refine bl2 _ ?_ ?_ <;> omega
  · walk_at "y"
    walk_at "y"
    obtain ⟨A, hAe⟩ : ∃ A, m * 2 ^ (e - f).toNat = A := ⟨_, rfl⟩
    have hA0 : 0 < A := by rw [← hAe]; exact Int.mul_pos hm (Int.pow_pos (by decide))
    have hAb : bl A = bl m + (e - f).toNat := by rw [← hAe]; exact bl_mul_pow (by omega) _
    have hV : val (sg s * m) e + val (sg T * n) f = val (sg s * A) f + val (sg T * n) f := by
      rw [← hAe, val_sg_up (m := m) hs (Int.le_of_lt ho)]
    have bl2 : ∀ M : Int, 0 ≤ M → M ≤ A + n → bl M ≤ Bx := fun M h1 h2 => by
      have := bl_add_le (k := Bx - 1) h1 (Int.le_of_lt hA0) (Int.le_of_lt hn) h2 (by omega) (by omega)
      omega
    by_cases hb : 100 < e - f
    · walk_at "y"
      walk_at "y"
      by_cases hd : (p : Int) + 4 < (bl m : Int) + e - bl n - f
      · walk_at "y"
        obtain ⟨q1, q2⟩ : bl m ≤ p ∧ bl n ≤ p := by omega
        walk_at "g"
        walk_at "e"
        refine And.intro (fits27 (by omega)) ?_
        have e4 : ((p : Int) + 4).toNat = p + 4 := by omega
        have hpw := Int.pow_pos (m := p + 4) (show (0 : Int) < 2 by decide)
        have hmp := Int.mul_pos hm hpw
        rw [e4]
        by_cases hst : T = s
        · walk_at "e"
          refine br1 (by simp [asB, hst]) ?_
          walk_at "e"
          refine normalize_ok F hl (p := p) hs (by omega) rfl (fun _ => ⟨hp, rfl⟩) fun D r g1 g2 => h D r ?_
          refine ⟨g1, ?_⟩
          rw [val_sg hs] at g2
          rw [val_sg hs, val_sg hT]
          have e5 : (sg s : Rat) * val m e + (sg T : Rat) * val n f = (sg s : Rat) * (val m e + val n f) := by rw [hst, Rat.mul_add]
          rw [e5]
          exact rnd_sg (sgq hs) (fun d' r' h' => pert_up hp hm (by omega) hn (by omega) h') g2
        · walk_at "e"
          refine br0 (by simp [asB, hst]) ?_
          walk_at "e"
          refine normalize_ok F hl (p := p) hs (by omega) rfl (fun _ => ⟨hp, rfl⟩) fun D r g1 g2 => h D r ?_
          refine ⟨g1, ?_⟩
          rw [val_sg hs] at g2
          rw [val_sg hs, val_sg hT]
          have e5 : (sg s : Rat) * val m e + (sg T : Rat) * val n f = (sg s : Rat) * (val m e - val n f) := by
            have : sg T = -sg s := by rcases hs with rfl | rfl <;> rcases hT with rfl | rfl <;> first | rfl | (exfalso; exact hst rfl)
            rw [this, Rat.intCast_neg, Rat.neg_mul]; grind
          rw [e5]
          exact rnd_sg (sgq hs) (fun d' r' h' => pert_down hp hm (by omega) hn (by omega) h') g2
      · walk_at "n"
        rcases hs with rfl | rfl <;> rcases hT with rfl | rfl
        · walk_at "y"
          walk_at "g"
          walk_at "e"
          refine And.intro (fits27 (by omega)) ?_
          rw [hAe]
          walk_at "y"
          walk_at "e"
          refine fin 0 _ _ (.inl rfl) ?_ ?_ ?_
          · omega
          · rw [hV]; refine add_val ?_; simp [sg] <;> omega
          · refine bl2 _ ?_ ?_ <;> omega
        · walk_at "n"
          walk_at "n"
          walk_at "g"
          walk_at "e"
          refine And.intro (fits27 (by omega)) ?_
          rw [hAe]
          by_cases hpos : 0 ≤ A - n
          · walk_at "y"
            walk_at "y"
            walk_at "e"
            refine fin 0 _ _ (.inl rfl) ?_ ?_ ?_
            · omega
            · rw [hV]; refine add_val ?_; simp [sg] <;> omega
            · refine bl2 _ ?_ ?_ <;> omega
          · walk_at "n"
            walk_at "y"
            walk_at "e"
            refine fin 1 _ _ (.inr rfl) ?_ ?_ ?_
            · omega
            · rw [hV]; refine add_val ?_; simp [sg] <;> omega
            · refine bl2 _ ?_ ?_ <;> omega
        · walk_at "n"
          walk_at "y"
          walk_at "g"
          walk_at "e"
          refine And.intro (fits27 (by omega)) ?_
          rw [hAe]
          by_cases hpos : 0 ≤ n - A
          · walk_at "y"
            walk_at "y"
            walk_at "e"
            refine fin 0 _ _ (.inl rfl) ?_ ?_ ?_
            · omega
            · rw [hV]; refine add_val ?_; simp [sg] <;> omega
            · refine bl2 _ ?_ ?_ <;> omega
          · walk_at "n"
            walk_at "y"
            walk_at "e"
            refine fin 1 _ _ (.inr rfl) ?_ ?_ ?_
            · omega
            · rw [hV]; refine add_val ?_; simp [sg] <;> omega
            · refine bl2 _ ?_ ?_ <;> omega
        · walk_at "y"
          walk_at "g"
          walk_at "e"
          refine And.intro (fits27 (by omega)) ?_
          rw [hAe]
          walk_at "y"
          walk_at "e"
          refine fin 1 _ _ (.inr rfl) ?_ ?_ ?_
          · omega
          · rw [hV]; refine add_val ?_; simp [sg] <;> omega
          · refine bl2 _ ?_ ?_ <;> omega
    · walk_at "n"
      walk_at "n"
      rcases hs with rfl | rfl <;> rcases hT with rfl | rfl
      · walk_at "y"
        walk_at "g"
        walk_at "e"
        refine And.intro (fits27 (by omega)) ?_
        rw [hAe]
        walk_at "y"
        walk_at "e"
        refine fin 0 _ _ (.inl rfl) ?_ ?_ ?_
        · omega
        · rw [hV]; refine add_val ?_; simp [sg] <;> omega
        · refine bl2 _ ?_ ?_ <;> omega
      · walk_at "n"
        walk_at "n"
        walk_at "g"
        walk_at "e"
        refine And.intro (fits27 (by omega)) ?_
        rw [hAe]
        by_cases hpos : 0 ≤ A - n
        · walk_at "y"
          walk_at "y"
          walk_at "e"
          refine fin 0 _ _ (.inl rfl) ?_ ?_ ?_
          · omega
          · rw [hV]; refine add_val ?_; simp [sg] <;> omega
          · refine bl2 _ ?_ ?_ <;> omega
        · walk_at "n"
          walk_at "y"
          walk_at "e"
          refine fin 1 _ _ (.inr rfl) ?_ ?_ ?_
          · omega
          · rw [hV]; refine add_val ?_; simp [sg] <;> omega
          · refine bl2 _ ?_ ?_ <;> omega
      · walk_at "n"
        walk_at "y"
        walk_at "g"
        walk_at "e"
        refine And.intro (fits27 (by omega)) ?_
        rw [hAe]
        by_cases hpos : 0 ≤ n - A
        · walk_at "y"
          walk_at "y"
          walk_at "e"
          refine fin 0 _ _ (.inl rfl) ?_ ?_ ?_
          · omega
          · rw [hV]; refine add_val ?_; simp [sg] <;> omega
          · refine bl2 _ ?_ ?_ <;> omega
        · walk_at "n"
          walk_at "y"
          walk_at "e"
          refine fin 1 _ _ (.inr rfl) ?_ ?_ ?_
          · omega
          · rw [hV]; refine add_val ?_; simp [sg] <;> omega
          · refine bl2 _ ?_ ?_ <;> omega
      · walk_at "y"
        walk_at "g"
        walk_at "e"
        refine And.intro (fits27 (by omega)) ?_
        rw [hAe]
        walk_at "y"
        walk_at "e"
        refine fin 1 _ _ (.inr rfl) ?_ ?_ ?_
        · omega
        · rw [hV]; refine add_val ?_; simp [sg] <;> omega
        · refine bl2 _ ?_ ?_ <;> omega
end
end Mine
/-! part D6 -/
namespace Mine
open PySem PySem.W PyProof.Rows
set_option maxRecDepth 100000
-- one step of the evaluation: the goal's weak head
local macro_rules | `(tactic| walk_at "e") => `(tactic| conv => whnf)
-- a guard
local macro_rules | `(tactic| walk_at "g") => `(tactic| ((conv => whnf); refine And.intro ?_ ?_; focus (first | rfl | omega | assumption | (simp [asB, bl]; done) | (simp [asB]; omega) | (simp [SeqAt.shaped, PyData.canLay0, PyData.canLayAll0, PyData.depth, PyData.depthAll, PyData.strOk, tm, dS]; done) | decide)))
-- a branch that is decided by the facts
local macro_rules | `(tactic| walk_at "y") => `(tactic| ((conv => whnf); refine br1 ?_ ?_; focus (first | rfl | (simp [asB]; done) | (simp [asB]; omega) | (simp [asB, PyData.eqv, PyData.eqvAll, dS, tm]; done) | (simp [asB, PyData.eqv, PyData.eqvAll, dS, tm]; omega))))
local macro_rules | `(tactic| walk_at "n") => `(tactic| ((conv => whnf); refine br0 ?_ ?_; focus (first | rfl | (simp [asB]; done) | (simp [asB]; omega) | (simp [asB, PyData.eqv, PyData.eqvAll, dS, tm]; done) | (simp [asB, PyData.eqv, PyData.eqvAll, dS, tm]; omega))))


theorem Nm.up {B H B' H' : Int} {d : PyData} {x : Rat} (h : Nm B H d x) (h1 : B ≤ B') (h2 : H ≤ H') : Nm B' H' d x := by
  obtain ⟨⟨s, m, e, a, b, c, q⟩, i⟩ := h
  exact ⟨⟨s, m, e, a, b, c, by omega⟩, i.up h2⟩
theorem In.le {H : Int} {x : Rat} (h : In H x) : x ≤ p2 H ∧ -p2 H ≤ x := by
  have a := p2_pos H
  have b := p2_pos (-H)
  rcases h with h | h | h <;> constructor <;> grind
theorem bl_sg {s m : Int} (h : s = 0 ∨ s = 1) : bl (sg s * m) = bl m := by
  rcases h with rfl | rfl <;> simp [sg, bl_neg]
theorem cn01 {s m e : Int} (h : Cn s m e) : s = 0 ∨ s = 1 := by rcases h with h | h <;> omega
theorem cnpos {s m e : Int} (h : Cn s m e) (hm : m ≠ 0) : 0 < m ∧ m % 2 = 1 := by rcases h with h | h <;> omega
theorem cnz {s m e : Int} (h : Cn s m e) (hm : m = 0) : s = 0 ∧ e = 0 := by rcases h with h | h <;> omega
theorem exp_of {B H s m e : Int} (hc : Cn s m e) (hb : (bl m : Int) ≤ B) (hI : In H (val (sg s * m) e)) (hm : m ≠ 0) : -(H + B) ≤ e ∧ e ≤ H := by
  refine In.exp (n := sg s * m) ?_ (by rw [bl_sg (cn01 hc)]; exact hb) hI
  rcases cn01 hc with rfl | rfl <;> simpa [sg] using hm
theorem sum_in {B H : Int} {x y : PyData} {X Y : Rat} (hx : Nm B H x X) (hy : Nm B H y Y) (hB : 0 ≤ B) : In (H + B + 1) (X + Y) := by
  obtain ⟨⟨s, m, e, hc, rfl, rfl, hB1⟩, hI⟩ := hx
  obtain ⟨⟨t, n, f, hd, rfl, rfl, hC1⟩, hJ⟩ := hy
  by_cases hm : m = 0
  · rw [hm, Int.mul_zero, val_zero, Rat.zero_add]; exact hJ.up (by omega)
  by_cases hn : n = 0
  · rw [hn, Int.mul_zero, val_zero, Rat.add_zero]; exact hI.up (by omega)
  have h1 := exp_of hc hB1 hI hm
  have h2 := exp_of hd hC1 hJ hn
  have h3 := hI.le
  have h4 := hJ.le
  have h5 : p2 (H + 1) = 2 * p2 H := p2_succ H
  have h6 : p2 (H + 1) ≤ p2 (H + B + 1) := p2_mono (by omega)
  obtain ⟨g, hg1, hg2, hg3⟩ : ∃ g : Int, g ≤ e ∧ g ≤ f ∧ -(H + B) ≤ g := ⟨min e f, by omega, by omega, by omega⟩
  rw [val_down (sg s * m) e hg1, val_down (sg t * n) f hg2, ← val_add] at *
  have h7 : p2 (-(H + B + 1)) ≤ p2 g := p2_mono (by omega)
  have h8 := val_add (sg s * m * 2 ^ (e - g).toNat) (sg t * n * 2 ^ (f - g).toNat) g
  rcases Int.lt_trichotomy (sg s * m * 2 ^ (e - g).toNat + sg t * n * 2 ^ (f - g).toNat) 0 with q | q | q
  · right; right
    have : val 1 g ≤ val (-(sg s * m * 2 ^ (e - g).toNat + sg t * n * 2 ^ (f - g).toNat)) g := val_le.mpr (by omega)
    rw [val_one, val_neg] at this
    constructor <;> grind
  · left; rw [q, val_zero]
  · right; left
    have : val 1 g ≤ val (sg s * m * 2 ^ (e - g).toNat + sg t * n * 2 ^ (f - g).toNat) g := val_le.mpr (by omega)
    rw [val_one] at this
    constructor <;> grind
def fnan : PyData := tm 0 0 (-123) (-1)
def finf : PyData := tm 0 0 (-456) (-2)
def fninf : PyData := tm 1 0 (-789) (-3)
theorem eqv_tm (a b c d a' b' c' d' : Int) : PyData.eqv (tm a b c d) (tm a' b' c' d') = (a == a' && (b == b' && (c == c' && d == d'))) := by
  simp [tm, PyData.eqv, PyData.eqvAll]
theorem nan_ne {B : Int} {x : PyData} {X : Rat} (h : Nb B x X) : PyData.eqv x fnan = false ∧ PyData.eqv x finf = false ∧ PyData.eqv x fninf = false := by
  obtain ⟨s, m, e, hc, rfl, rfl, hB⟩ := h
  simp only [fnan, finf, fninf, eqv_tm]
  by_cases hm : m = 0
  · obtain ⟨rfl, rfl⟩ := cnz hc hm
    subst hm
    decide
  · simp [hm]
theorem shaped_tm (a b c d : Int) : SeqAt.shaped (tm a b c d) = true := by
  simp [SeqAt.shaped, PyData.canLay0, PyData.canLayAll0, PyData.depth, PyData.depthAll, tm]
theorem Nb.shaped {B : Int} {x : PyData} {X : Rat} (h : Nb B x X) : SeqAt.shaped x = true := by
  obtain ⟨s, m, e, hc, rfl, rfl, hB⟩ := h
  exact shaped_tm ..
theorem xor0 {t : Int} (ht : t = 0 ∨ t = 1) : Builtin.bitXor t 0 = t := by rcases ht with rfl | rfl <;> decide
theorem xor1 {t : Int} (ht : t = 0 ∨ t = 1) : (Builtin.bitXor t 1 = 0 ∨ Builtin.bitXor t 1 = 1) ∧ sg (Builtin.bitXor t 1) = -sg t := by rcases ht with rfl | rfl <;> decide

section
variable {prog : Program} {w : World} {K : Frag} {N : Nat}

theorem add0_vc (F : Facts K) (hl : Lit K w) {B H : Int} {x y : PyData} {X Y : Rat} {d : Bool} {k : PyData → Prop} (hx : Nm B H x X) (hy : Nm B H y Y) (hB : 0 ≤ B) (hB1 : B ≤ 1000) (hH : 0 ≤ H) (hH1 : H ≤ 1000) (h : ∀ D, Nm (3 * B + 2 * H + 1) (H + B + 1) D (X + Y) → k D) :
    vcS (Calls prog w K (N + 3)) 60 [(4, .int 0), (3, .str (dS d)), (2, .int 0), (1, y), (0, x)] c_mpf_add k (fun _ => False) := by
  have hS := sum_in hx hy (by omega)
  obtain ⟨⟨s, m, e, hc, rfl, rfl, hB⟩, hI⟩ := hx
  obtain ⟨⟨t, n, f, hd, rfl, rfl, hC⟩, hJ⟩ := hy
  have fin : ∀ D, Nb (3 * B + 2 * H + 1) D (val (sg s * m) e + val (sg t * n) f) → k D := fun D g => h D ⟨g, hS⟩
  have nrm : ∀ s m e : Int, Cn s m e → m ≠ 0 → (bl m : Int) ≤ B → (∀ D, Nb (3 * B + 2 * H + 1) D (val (sg s * m) e) → k D) → Calls prog w K (N + 3) 44 [.int s, .int m, .int e, .int (bl m), .int (bl m), .str (dS d)] k := by
    intro s m e hc hm hb h
    refine normalize_ok F hl (p := bl m) (cn01 hc) (Int.le_of_lt (cnpos hc hm).1) rfl (fun hz => ⟨bl_pos hz, rfl⟩) fun D r g1 g2 => h D ?_
    have e1 : Rnd d (bl m) (val (sg s * m) e) (val (sg s * m) e) := Rnd.exact (Rp.of_bl (by rw [bl_sg (cn01 hc)]; exact Nat.le_refl _))
    rw [Rnd.unique g2 e1] at g1
    obtain ⟨a, b, c, q1, q2, q3, q4⟩ := g1
    exact ⟨a, b, c, q1, q2, q3, by omega⟩
  clear h
  have ht := cn01 hd
  have hx0 := xor0 ht
  by_cases hm : m = 0
  · obtain ⟨rfl, rfl⟩ := cnz hc hm
    subst hm
    rw [Int.mul_zero, val_zero, Rat.zero_add] at fin
    walk_at "g"
    walk_at "g"
    walk_at "n"
    walk_at "n"
    walk_at "n"
    walk_at "y"
    walk_at "n"
    by_cases hn : n = 0
    · obtain ⟨rfl, rfl⟩ := cnz hd hn
      subst hn
      walk_at "n"
      walk_at "e"
      rw [Int.mul_zero, val_zero] at fin
      exact fin _ (Nb.zero (by omega))
    · walk_at "y"
      walk_at "n"
      walk_at "e"
      rw [hx0]
      exact nrm t n f hd hn (by omega) fin
  · by_cases hn : n = 0
    · obtain ⟨rfl, rfl⟩ := cnz hd hn
      subst hn
      rw [Int.mul_zero, val_zero, Rat.add_zero] at fin
      walk_at "g"
      walk_at "g"
      walk_at "y"
      walk_at "n"
      walk_at "n"
      walk_at "n"
      walk_at "n"
      walk_at "y"
      walk_at "n"
      walk_at "e"
      exact nrm s m e hc hm (by omega) fin
    · have h1 := exp_of hc hB hI hm
      have h2 := exp_of hd hC hJ hn
      refine add0_raw F hl (Bx := (3 * B + 2 * H + 1).toNat) (cn01 hc) (cnpos hc hm).1 (cnpos hd hn).1 (by rw [hx0]; exact ht) (by omega) (by omega) (by omega) ?_
      rw [hx0, Int.toNat_of_nonneg (by omega)]
      exact fin
theorem add0_ok (F : Facts K) (hl : Lit K w) {B H : Int} {x y : PyData} {X Y : Rat} {d : Bool} {k : PyData → Prop} (hx : Nm B H x X) (hy : Nm B H y Y) (hB : 0 ≤ B) (hB1 : B ≤ 1000) (hH : 0 ≤ H) (hH1 : H ≤ 1000) (h : ∀ D, Nm (3 * B + 2 * H + 1) (H + B + 1) D (X + Y) → k D) :
    Calls prog w K (N + 4) 103 [x, y, .int 0, .str (dS d)] k := by
  refine en_mpf_add4 F hl 60 ?_
  exact add0_vc F hl hx hy hB hB1 hH hH1 h

theorem addp_vc (F : Facts K) (hl : Lit K w) {p : Nat} {H : Int} {x y : PyData} {X Y : Rat} {d : Bool} {k : PyData → Prop} (hp : 1 ≤ p) (hB1 : p ≤ 1000) (hx : Nm p H x X) (hy : Nm p H y Y) (hH : 0 ≤ H) (hH1 : H ≤ 1000) (h : ∀ D r, Nm p (H + p + 1) D r → Rnd d p (X + Y) r → k D) :
    vcS (Calls prog w K (N + 3)) 60 [(4, .int 0), (3, .str (dS d)), (2, .int p), (1, y), (0, x)] c_mpf_add k (fun _ => False) := by
  have hS := sum_in hx hy (by omega)
  obtain ⟨⟨s, m, e, hc, rfl, rfl, hB⟩, hI⟩ := hx
  obtain ⟨⟨t, n, f, hd, rfl, rfl, hC⟩, hJ⟩ := hy
  have fin : ∀ D r, Nb p D r → Rnd d p (val (sg s * m) e + val (sg t * n) f) r → k D := fun D r g1 g2 => h D r ⟨g1, hS.rnd hp g2⟩ g2
  have nrm : ∀ s m e : Int, Cn s m e → m ≠ 0 → (bl m : Int) ≤ p → (∀ D r, Nb p D r → Rnd d p (val (sg s * m) e) r → k D) → Calls prog w K (N + 3) 44 [.int s, .int m, .int e, .int (bl m), .int p, .str (dS d)] k := by
    intro s m e hc hm hb h
    exact normalize_ok F hl (p := p) (cn01 hc) (Int.le_of_lt (cnpos hc hm).1) rfl (fun hz => ⟨hp, rfl⟩) h
  clear h
  have ht := cn01 hd
  have hx0 := xor0 ht
  by_cases hm : m = 0
  · obtain ⟨rfl, rfl⟩ := cnz hc hm
    subst hm
    rw [Int.mul_zero, val_zero, Rat.zero_add] at fin
    walk_at "g"
    walk_at "g"
    walk_at "n"
    walk_at "n"
    walk_at "n"
    walk_at "y"
    walk_at "n"
    by_cases hn : n = 0
    · obtain ⟨rfl, rfl⟩ := cnz hd hn
      subst hn
      walk_at "n"
      walk_at "e"
      rw [Int.mul_zero, val_zero] at fin
      exact fin _ 0 (Nb.zero (by omega)) Rnd.zero
    · walk_at "y"
      walk_at "y"
      walk_at "e"
      rw [hx0]
      exact nrm t n f hd hn (by omega) fin
  · by_cases hn : n = 0
    · obtain ⟨rfl, rfl⟩ := cnz hd hn
      subst hn
      rw [Int.mul_zero, val_zero, Rat.add_zero] at fin
      walk_at "g"
      walk_at "g"
      walk_at "y"
      walk_at "n"
      walk_at "n"
      walk_at "n"
      walk_at "n"
      walk_at "y"
      walk_at "y"
      walk_at "e"
      exact nrm s m e hc hm (by omega) fin
    · have h1 := exp_of hc hB hI hm
      have h2 := exp_of hd hC hJ hn
      refine addp_raw F hl (Bx := (3 * p + 2 * H + 1).toNat) (cn01 hc) (cnpos hc hm).1 (cnpos hd hn).1 (by rw [hx0]; exact ht) hp hB1 (.inl (by omega)) (by omega) (by omega) (by omega) ?_
      rw [hx0]
      exact fun D r g => fin D r g.1 g.2
theorem addp_ok (F : Facts K) (hl : Lit K w) {p : Nat} {H : Int} {x y : PyData} {X Y : Rat} {d : Bool} {k : PyData → Prop} (hp : 1 ≤ p) (hB1 : p ≤ 1000) (hx : Nm p H x X) (hy : Nm p H y Y) (hH : 0 ≤ H) (hH1 : H ≤ 1000) (h : ∀ D r, Nm p (H + p + 1) D r → Rnd d p (X + Y) r → k D) :
    Calls prog w K (N + 4) 103 [x, y, .int p, .str (dS d)] k := by
  refine en_mpf_add4 F hl 60 ?_
  exact addp_vc F hl hp hB1 hx hy hH hH1 h
end
end Mine
/-! part D7 -/
namespace Mine
open PySem PySem.W PyProof.Rows
set_option maxRecDepth 100000
-- one step of the evaluation: the goal's weak head
local macro_rules | `(tactic| walk_at "e") => `(tactic| conv => whnf)
-- a guard
local macro_rules | `(tactic| walk_at "g") => `(tactic| ((conv => whnf); refine And.intro ?_ ?_; focus (first | rfl | omega | assumption | (simp [asB, bl]; done) | (simp [asB]; omega) | (simp [SeqAt.shaped, PyData.canLay0, PyData.canLayAll0, PyData.depth, PyData.depthAll, PyData.strOk, tm, dS]; done) | decide)))
-- a branch that is decided by the facts
local macro_rules | `(tactic| walk_at "y") => `(tactic| ((conv => whnf); refine br1 ?_ ?_; focus (first | rfl | (simp [asB]; done) | (simp [asB]; omega) | (simp [asB, PyData.eqv, PyData.eqvAll, dS, tm]; done) | (simp [asB, PyData.eqv, PyData.eqvAll, dS, tm]; omega))))
local macro_rules | `(tactic| walk_at "n") => `(tactic| ((conv => whnf); refine br0 ?_ ?_; focus (first | rfl | (simp [asB]; done) | (simp [asB]; omega) | (simp [asB, PyData.eqv, PyData.eqvAll, dS, tm]; done) | (simp [asB, PyData.eqv, PyData.eqvAll, dS, tm]; omega))))


/-- what a comparison answers -/
def Cmp (X Y : Rat) (c : Int) : Prop := (c = 1 ∧ Y < X) ∨ (c = -1 ∧ X < Y) ∨ (c = 0 ∧ X = Y)
theorem val_top {n e : Int} (h : 0 < n) : p2 (e + bl n - 1) ≤ val n e := by
  have h1 := int_bl_le h
  have h2 : val (1 * 2 ^ (bl n - 1)) e ≤ val n e := val_le.mpr (by rw [Int.one_mul]; exact h1)
  rw [val_shift, val_one] at h2
  have h3 := bl_pos (n := n) (by omega)
  have h4 : e + ((bl n - 1 : Nat) : Int) = e + bl n - 1 := by omega
  rwa [h4] at h2
theorem top_lt {m e n f : Int} (hm : 0 < m) (hn : 0 < n) (h : (bl m : Int) + e < bl n + f) : val m e < val n f := by
  have h1 := val_lt_top (e := e) hm
  have h2 := val_top (e := f) hn
  have h3 : p2 (e + bl m) ≤ p2 (f + bl n - 1) := p2_mono (by omega)
  grind
theorem sg_odd {s m : Int} (h : s = 0 ∨ s = 1) (hm : m % 2 = 1) : (sg s * m) % 2 = 1 := by
  rcases h with rfl | rfl <;> simp [sg] <;> omega
theorem nb_sign {B s m e b : Int} {r : Rat} (h : Nb B (tm s m e b) r) : (s = 1 ∧ r < 0) ∨ (s = 0 ∧ 0 ≤ r) := by
  obtain ⟨s', m', e', hc, h1, rfl, hB⟩ := h
  simp only [tm, PyData.tuple.injEq, List.cons.injEq, PyData.int.injEq] at h1
  obtain ⟨rfl, rfl, rfl, rfl, _⟩ := h1
  rcases hc with ⟨rfl, rfl, rfl⟩ | ⟨rfl | rfl, h2, h3⟩
  · right; exact ⟨rfl, by rw [Int.mul_zero, val_zero]; exact Rat.le_refl⟩
  · right; refine ⟨rfl, ?_⟩
    rw [sg_val, if_neg (by decide)]; exact Rat.le_of_lt (val_pos.mpr h2)
  · left; refine ⟨rfl, ?_⟩
    have := val_pos (e := e) |>.mpr h2
    rw [sg_val, if_pos rfl]; grind

section
variable {prog : Program} {w : World} {K : Frag} {N : Nat}
theorem cmp_ok (F : Facts K) (hl : Lit K w) {B : Int} {x y : PyData} {X Y : Rat} {k : PyData → Prop} (hx : Nb B x X) (hy : Nb B y Y) (hB1 : B ≤ 10000) (h : ∀ c, Cmp X Y c → k (.int c)) :
    Calls prog w K (N + 6) 51 [x, y] k := by
  have hx' := hx
  have hy' := hy
  obtain ⟨s, m, e, hc, rfl, rfl, hB⟩ := hx
  obtain ⟨t, n, f, hd, rfl, rfl, hC⟩ := hy
  refine en_mpf_cmp2 F hl 60 ?_
  walk_at "g"
  walk_at "g"
  by_cases hm : m = 0
  · obtain ⟨rfl, rfl⟩ := cnz hc hm
    subst hm
    walk_at "y"
    walk_at "y"
    walk_at "g"
    walk_at "g"
    walk_at "y"
    walk_at "e"
    refine sign_ok F hl hy' fun σ hσ => ?_
    walk_at "e"
    refine h _ ?_
    rw [Int.mul_zero, val_zero]
    rcases hσ with ⟨rfl, q⟩ | ⟨rfl, q⟩ | ⟨rfl, q⟩
    · exact .inr (.inl ⟨rfl, q⟩)
    · exact .inl ⟨rfl, q⟩
    · exact .inr (.inr ⟨rfl, q.symm⟩)
  · by_cases hn : n = 0
    · obtain ⟨rfl, rfl⟩ := cnz hd hn
      subst hn
      walk_at "n"
      walk_at "y"
      walk_at "g"
      walk_at "g"
      walk_at "n"
      walk_at "g"
      walk_at "g"
      walk_at "y"
      walk_at "e"
      refine sign_ok F hl hx' fun σ hσ => ?_
      refine h _ ?_
      rw [Int.mul_zero, val_zero]
      rcases hσ with ⟨rfl, q⟩ | ⟨rfl, q⟩ | ⟨rfl, q⟩
      · exact .inl ⟨rfl, q⟩
      · exact .inr (.inl ⟨rfl, q⟩)
      · exact .inr (.inr ⟨rfl, q⟩)
    · walk_at "n"
      walk_at "n"
      have hm0 := (cnpos hc hm).1
      have hn0 := (cnpos hd hn).1
      have vm : 0 < val m e := val_pos.mpr hm0
      have vn : 0 < val n f := val_pos.mpr hn0
      have hs := cn01 hc
      have ht := cn01 hd
      by_cases hst : s = t
      · subst hst
        walk_at "n"
        by_cases hef : e = f
        · subst hef
          walk_at "y"
          by_cases hmn : m = n
          · subst hmn
            walk_at "y"
            walk_at "e"
            exact h _ (.inr (.inr ⟨rfl, rfl⟩))
          · walk_at "n"
            by_cases hgt : n < m
            · walk_at "y"
              have := val_lt (e := e) |>.mpr hgt
              rcases hs with rfl | rfl
              · walk_at "n"
                walk_at "e"
                refine h _ (.inl ⟨rfl, ?_⟩)
                rw [sg_val, sg_val, if_neg (by decide), if_neg (by decide)]; exact this
              · walk_at "y"
                walk_at "e"
                refine h _ (.inr (.inl ⟨rfl, ?_⟩))
                rw [sg_val, sg_val, if_pos rfl, if_pos rfl]; grind
            · walk_at "n"
              have := val_lt (e := e) |>.mpr (show m < n by omega)
              rcases hs with rfl | rfl
              · walk_at "n"
                walk_at "e"
                refine h _ (.inr (.inl ⟨rfl, ?_⟩))
                rw [sg_val, sg_val, if_neg (by decide), if_neg (by decide)]; exact this
              · walk_at "y"
                walk_at "e"
                refine h _ (.inl ⟨rfl, ?_⟩)
                rw [sg_val, sg_val, if_pos rfl, if_pos rfl]; grind
        · walk_at "n"
          rcases Int.lt_trichotomy ((bl m : Int) + e) (bl n + f) with q | q | q
          · have := top_lt hm0 hn0 q
            rcases hs with rfl | rfl
            · walk_at "n"
              walk_at "y"
              walk_at "e"
              refine h _ (.inr (.inl ⟨rfl, ?_⟩))
              rw [sg_val, sg_val, if_neg (by decide), if_neg (by decide)]; exact this
            · walk_at "y"
              walk_at "y"
              walk_at "e"
              refine h _ (.inl ⟨rfl, ?_⟩)
              rw [sg_val, sg_val, if_pos rfl, if_pos rfl]; grind
          · rcases hs with rfl | rfl
            · walk_at "n"
              walk_at "n"
              walk_at "n"
              walk_at "e"
              refine en_mpf_sub4 F hl 40 ?_
              walk_at "e"
              refine en_mpf_add5 F hl 60 ?_
              refine addp_raw (d := true) F hl (p := 5) (Bx := (2 * B + 1).toNat) (cn01 hc) hm0 hn0 (xor1 (t := 0) (.inl rfl)).1 (by decide) (by decide) (.inr (by omega)) (by omega) (by omega) (by omega) ?_
              rintro D r ⟨⟨s', m', e', hc', rfl, hr', hb'⟩, g2⟩
              rw [val_sg (xor1 (t := 0) (.inl rfl)).1, (xor1 (t := 0) (.inl rfl)).2] at g2
              have e5 : val (sg 0 * m) e + ((-sg 0 : Int) : Rat) * val n f = val (sg 0 * m) e - val (sg 0 * n) f := by
                rw [Rat.intCast_neg, val_sg (s := 0) (.inl rfl) n f, Rat.neg_mul, Rat.sub_eq_add_neg]
              rw [e5] at g2
              have hne : val (sg 0 * m) e ≠ val (sg 0 * n) f := by
                intro q
                refine hef (val_odd_unique ?_ ?_ q).2
                · exact sg_odd (cn01 hc) (cnpos hc hm).2
                · exact sg_odd (cn01 hd) (cnpos hd hn).2
              have g4 := nb_sign ⟨s', m', e', hc', rfl, hr', hb'⟩
              rcases g4 with ⟨rfl, q⟩ | ⟨rfl, q⟩
              · walk_at "g"
                walk_at "y"
                walk_at "e"
                refine h _ (.inr (.inl ⟨by decide, ?_⟩))
                refine Rat.not_le.mp fun c => ?_
                have := Rnd.nonneg g2 (by grind)
                grind
              · walk_at "g"
                walk_at "n"
                walk_at "e"
                refine h _ (.inl ⟨by decide, ?_⟩)
                have := Rnd.le g2
                grind
            · walk_at "y"
              walk_at "n"
              walk_at "n"
              walk_at "e"
              refine en_mpf_sub4 F hl 40 ?_
              walk_at "e"
              refine en_mpf_add5 F hl 60 ?_
              refine addp_raw (d := true) F hl (p := 5) (Bx := (2 * B + 1).toNat) (cn01 hc) hm0 hn0 (xor1 (t := 1) (.inr rfl)).1 (by decide) (by decide) (.inr (by omega)) (by omega) (by omega) (by omega) ?_
              rintro D r ⟨⟨s', m', e', hc', rfl, hr', hb'⟩, g2⟩
              rw [val_sg (xor1 (t := 1) (.inr rfl)).1, (xor1 (t := 1) (.inr rfl)).2] at g2
              have e5 : val (sg 1 * m) e + ((-sg 1 : Int) : Rat) * val n f = val (sg 1 * m) e - val (sg 1 * n) f := by
                rw [Rat.intCast_neg, val_sg (s := 1) (.inr rfl) n f, Rat.neg_mul, Rat.sub_eq_add_neg]
              rw [e5] at g2
              have hne : val (sg 1 * m) e ≠ val (sg 1 * n) f := by
                intro q
                refine hef (val_odd_unique ?_ ?_ q).2
                · exact sg_odd (cn01 hc) (cnpos hc hm).2
                · exact sg_odd (cn01 hd) (cnpos hd hn).2
              have g4 := nb_sign ⟨s', m', e', hc', rfl, hr', hb'⟩
              rcases g4 with ⟨rfl, q⟩ | ⟨rfl, q⟩
              · walk_at "g"
                walk_at "y"
                walk_at "e"
                refine h _ (.inr (.inl ⟨by decide, ?_⟩))
                refine Rat.not_le.mp fun c => ?_
                have := Rnd.nonneg g2 (by grind)
                grind
              · walk_at "g"
                walk_at "n"
                walk_at "e"
                refine h _ (.inl ⟨by decide, ?_⟩)
                have := Rnd.le g2
                grind
          · have := top_lt hn0 hm0 q
            rcases hs with rfl | rfl
            · walk_at "n"
              walk_at "n"
              walk_at "y"
              walk_at "e"
              refine h _ (.inl ⟨rfl, ?_⟩)
              rw [sg_val, sg_val, if_neg (by decide), if_neg (by decide)]; exact this
            · walk_at "y"
              walk_at "n"
              walk_at "y"
              walk_at "e"
              refine h _ (.inr (.inl ⟨rfl, ?_⟩))
              rw [sg_val, sg_val, if_pos rfl, if_pos rfl]; grind
      · walk_at "y"
        rcases hs with rfl | rfl
        · walk_at "y"
          walk_at "e"
          obtain rfl : t = 1 := by omega
          refine h _ (.inl ⟨rfl, ?_⟩)
          rw [sg_val, sg_val, if_pos rfl, if_neg (by decide)]; grind
        · walk_at "n"
          walk_at "e"
          obtain rfl : t = 0 := by omega
          refine h _ (.inr (.inl ⟨rfl, ?_⟩))
          rw [sg_val, sg_val, if_pos rfl, if_neg (by decide)]; grind
theorem lt_ok (F : Facts K) (hl : Lit K w) {B : Int} {x y : PyData} {X Y : Rat} {k : PyData → Prop} (hx : Nb B x X) (hy : Nb B y Y) (hB1 : B ≤ 10000) (h : ∀ b : Bool, (b = true ↔ X < Y) → k (.bool b)) :
    Calls prog w K (N + 7) 58 [x, y] k := by
  refine en_mpf_lt2 F hl 60 ?_
  have h1 := (nan_ne hx).1
  have h2 := (nan_ne hy).1
  have h3 := hx.shaped
  have h4 := hy.shaped
  cases x with
  | tuple xs =>
    cases y with
    | tuple ys =>
      walk_at "g"
      walk_at "g"
      walk_at "e"
      refine br0 h1 ?_
      walk_at "g"
      walk_at "g"
      walk_at "e"
      refine br0 h2 ?_
      walk_at "e"
      refine cmp_ok F hl hx hy hB1 fun c hc => ?_
      walk_at "e"
      refine h _ ?_
      rw [decide_eq_true_eq]
      rcases hc with ⟨rfl, q⟩ | ⟨rfl, q⟩ | ⟨rfl, q⟩
      · exact ⟨fun z => by omega, fun z => by grind⟩
      · exact ⟨fun z => q, fun z => by omega⟩
      · exact ⟨fun z => by omega, fun z => by grind⟩
    | _ => obtain ⟨_, _, _, _, q, _⟩ := hy; cases q
  | _ => obtain ⟨_, _, _, _, q, _⟩ := hx; cases q
theorem gt_ok (F : Facts K) (hl : Lit K w) {B : Int} {x y : PyData} {X Y : Rat} {k : PyData → Prop} (hx : Nb B x X) (hy : Nb B y Y) (hB1 : B ≤ 10000) (h : ∀ b : Bool, (b = true ↔ Y < X) → k (.bool b)) :
    Calls prog w K (N + 7) 65 [x, y] k := by
  refine en_mpf_gt2 F hl 60 ?_
  have h1 := (nan_ne hx).1
  have h2 := (nan_ne hy).1
  have h3 := hx.shaped
  have h4 := hy.shaped
  cases x with
  | tuple xs =>
    cases y with
    | tuple ys =>
      walk_at "g"
      walk_at "g"
      walk_at "e"
      refine br0 h1 ?_
      walk_at "g"
      walk_at "g"
      walk_at "e"
      refine br0 h2 ?_
      walk_at "e"
      refine cmp_ok F hl hx hy hB1 fun c hc => ?_
      walk_at "e"
      refine h _ ?_
      rw [decide_eq_true_eq]
      rcases hc with ⟨rfl, q⟩ | ⟨rfl, q⟩ | ⟨rfl, q⟩
      · exact ⟨fun z => q, fun z => by omega⟩
      · exact ⟨fun z => by omega, fun z => by grind⟩
      · exact ⟨fun z => by omega, fun z => by grind⟩
    | _ => obtain ⟨_, _, _, _, q, _⟩ := hy; cases q
  | _ => obtain ⟨_, _, _, _, q, _⟩ := hx; cases q
end
end Mine
/-! part D8 -/
namespace Mine
open PySem PySem.W PyProof.Rows
set_option maxRecDepth 100000
-- one step of the evaluation: the goal's weak head
local macro_rules | `(tactic| walk_at "e") => `(tactic| conv => whnf)
-- a guard
local macro_rules | `(tactic| walk_at "g") => `(tactic| ((conv => whnf); refine And.intro ?_ ?_; focus (first | rfl | omega | assumption | (simp [asB, bl]; done) | (simp [asB]; omega) | (simp [SeqAt.shaped, PyData.canLay0, PyData.canLayAll0, PyData.depth, PyData.depthAll, PyData.strOk, tm, dS]; done) | decide)))
-- a branch that is decided by the facts
local macro_rules | `(tactic| walk_at "y") => `(tactic| ((conv => whnf); refine br1 ?_ ?_; focus (first | rfl | (simp [asB]; done) | (simp [asB]; omega) | (simp [asB, PyData.eqv, PyData.eqvAll, dS, tm]; done) | (simp [asB, PyData.eqv, PyData.eqvAll, dS, tm]; omega))))
local macro_rules | `(tactic| walk_at "n") => `(tactic| ((conv => whnf); refine br0 ?_ ?_; focus (first | rfl | (simp [asB]; done) | (simp [asB]; omega) | (simp [asB, PyData.eqv, PyData.eqvAll, dS, tm]; done) | (simp [asB, PyData.eqv, PyData.eqvAll, dS, tm]; omega))))


abbrev iv (a b : PyData) : PyData := .tuple [a, b]
theorem Nb.tuple {B : Int} {d : PyData} {x : Rat} (h : Nb B d x) : ∃ xs, d = .tuple xs := by
  obtain ⟨_, _, _, _, rfl, _⟩ := h
  exact ⟨_, rfl⟩
def absLo (A B : Rat) : Rat := if 0 ≤ A then A else if 0 ≤ B then 0 else -B
def absHi (A B : Rat) : Rat := if 0 ≤ A then B else if 0 ≤ B then (if -A < B then B else -A) else -A
theorem Sgn.nonneg {X : Rat} {σ : Int} (h : Sgn X σ) : 0 ≤ σ ↔ 0 ≤ X := by
  rcases h with ⟨rfl, q⟩ | ⟨rfl, q⟩ | ⟨rfl, q⟩
  · exact ⟨fun _ => by grind, fun _ => by decide⟩
  · exact ⟨fun z => by omega, fun z => by grind⟩
  · exact ⟨fun _ => by grind, fun _ => by decide⟩
theorem Sgn.nonpos {X : Rat} {σ : Int} (h : Sgn X σ) : σ ≤ 0 ↔ X ≤ 0 := by
  rcases h with ⟨rfl, q⟩ | ⟨rfl, q⟩ | ⟨rfl, q⟩
  · exact ⟨fun z => by omega, fun z => by grind⟩
  · exact ⟨fun _ => by grind, fun _ => by decide⟩
  · exact ⟨fun _ => by grind, fun _ => by decide⟩
theorem Sgn.zero {X : Rat} {σ : Int} (h : Sgn X σ) : σ = 0 ↔ X = 0 := by
  have := h.nonneg
  have := h.nonpos
  constructor
  · intro q; grind
  · intro q; subst q; have h1 := h.nonneg.mpr Rat.le_refl; have h2 := h.nonpos.mpr Rat.le_refl; omega

section
variable {prog : Program} {w : World} {K : Frag} {N : Nat}
def mmBody : List CS := [(.ite (.call 58 [(.var 3), (.var 1)]) [(.asg 1 (.var 3))] []), (.ite (.call 65 [(.var 3), (.var 2)]) [(.asg 2 (.var 3))] [])]
theorem mm_loop (F : Facts K) (hl : Lit K w) {B H : Int} (hB1 : B ≤ 10000) {r : PyData → Prop} {kk : Rho → Prop} : ∀ (ds : List (PyData × Rat)) (ρ : Rho) (m M : PyData) (A C : Rat), (∀ x ∈ ds, Nm B H x.1 x.2) → getV ρ 1 = some m → getV ρ 2 = some M → Nm B H m A → Nm B H M C →
    (∀ ρ' m' M' A' C', getV ρ' 1 = some m' → getV ρ' 2 = some M' → Nm B H m' A' → Nm B H M' C' → A' ≤ A → C ≤ C' → (∀ x ∈ ds, A' ≤ x.2 ∧ x.2 ≤ C') → kk ρ') →
    loopD (fun ρ' k' => vcS (Calls prog w K (N + 7)) 38 ρ' mmBody r k') 3 (ds.map (·.1)) ρ kk
  | [], ρ, m, M, A, C, _, h1, h2, h3, h4, h => h ρ m M A C h1 h2 h3 h4 Rat.le_refl Rat.le_refl (fun _ z => by cases z)
  | (d, X) :: ds, ρ, m, M, A, C, hd, h1, h2, h3, h4, h => by
    have hX : Nm B H d X := hd _ (List.mem_cons_self ..)
    have hds : ∀ x ∈ ds, Nm B H x.1 x.2 := fun x z => hd x (List.mem_cons_of_mem _ z)
    have fin : ∀ ρ' m' M' A' C', getV ρ' 1 = some m' → getV ρ' 2 = some M' → Nm B H m' A' → Nm B H M' C' → A' ≤ A → C ≤ C' → A' ≤ X → X ≤ C' → loopD (fun ρ' k' => vcS (Calls prog w K (N + 7)) 38 ρ' mmBody r k') 3 (ds.map (·.1)) ρ' kk := by
      intro ρ' m' M' A' C' g1 g2 g3 g4 g5 g6 g7 g8
      refine mm_loop F hl hB1 ds ρ' m' M' A' C' hds g1 g2 g3 g4 fun ρ'' m'' M'' A'' C'' f1 f2 f3 f4 f5 f6 f7 => ?_
      refine h ρ'' m'' M'' A'' C'' f1 f2 f3 f4 (Rat.le_trans f5 g5) (Rat.le_trans g6 f6) fun x hx => ?_
      rcases List.mem_cons.mp hx with rfl | hx
      · exact ⟨Rat.le_trans f5 g7, Rat.le_trans g8 f6⟩
      · exact f7 x hx
    show loopD _ 3 (d :: ds.map (·.1)) ρ kk
    walk_at "e"
    rw [show getV ((3, d) :: ρ) 1 = some m from h1]
    walk_at "e"
    refine lt_ok F hl hX.1 h3.1 hB1 fun b hb => ?_
    walk_at "e"
    refine br (fun q => ?_) (fun q => ?_)
    · have q1 : X < A := hb.mp q
      walk_at "e"
      rw [show getV ((1, d) :: (3, d) :: ρ) 2 = some M from h2]
      walk_at "e"
      refine gt_ok F hl hX.1 h4.1 hB1 fun c hc => ?_
      walk_at "e"
      refine br (fun z => ?_) (fun z => ?_)
      · have z1 : C < X := hc.mp z
        exact fin _ d d X X rfl rfl hX hX (Rat.le_of_lt q1) (Rat.le_of_lt z1) Rat.le_refl Rat.le_refl
      · have z1 : X ≤ C := Rat.not_lt.mp fun y => by rw [show c = true from hc.mpr y] at z; cases z
        exact fin _ d M X C rfl h2 hX h4 (Rat.le_of_lt q1) Rat.le_refl Rat.le_refl z1
    · have q1 : A ≤ X := Rat.not_lt.mp fun y => by rw [show b = true from hb.mpr y] at q; cases q
      walk_at "e"
      rw [show getV ((3, d) :: ρ) 2 = some M from h2]
      walk_at "e"
      refine gt_ok F hl hX.1 h4.1 hB1 fun c hc => ?_
      walk_at "e"
      refine br (fun z => ?_) (fun z => ?_)
      · have z1 : C < X := hc.mp z
        exact fin _ m d A X h1 rfl h3 hX Rat.le_refl (Rat.le_of_lt z1) q1 Rat.le_refl
      · have z1 : X ≤ C := Rat.not_lt.mp fun y => by rw [show c = true from hc.mpr y] at z; cases z
        exact fin _ m M A C h1 h2 h3 h4 Rat.le_refl Rat.le_refl q1 z1
theorem minmax_ok (F : Facts K) (hl : Lit K w) {B H : Int} {x1 x2 x3 x4 : PyData} {X1 X2 X3 X4 : Rat} {k : PyData → Prop} (h1 : Nm B H x1 X1) (h2 : Nm B H x2 X2) (h3 : Nm B H x3 X3) (h4 : Nm B H x4 X4) (hB1 : B ≤ 10000)
    (h : ∀ a b A C, Nm B H a A → Nm B H b C → A ≤ X1 → A ≤ X2 → A ≤ X3 → A ≤ X4 → X1 ≤ C → X2 ≤ C → X3 ≤ C → X4 ≤ C → k (.tuple [a, b])) :
    Calls prog w K (N + 8) 72 [.list [x1, x2, x3, x4]] k := by
  refine en_mpf_min_max1 F hl 40 ?_
  walk_at "g"
  walk_at "g"
  walk_at "e"
  refine And.intro (by simp) ?_
  refine mm_loop F hl hB1 [(x2, X2), (x3, X3), (x4, X4)] _ x1 x1 X1 X1 ?_ rfl rfl h1 h1 ?_
  · intro x hx
    simp only [List.mem_cons, List.not_mem_nil, or_false] at hx
    rcases hx with rfl | rfl | rfl
    · exact h2
    · exact h3
    · exact h4
  · intro ρ' m M A C g1 g2 g3 g4 g5 g6 g7
    have a2 := g7 (x2, X2) (by simp)
    have a3 := g7 (x3, X3) (by simp)
    have a4 := g7 (x4, X4) (by simp)
    walk_at "g"
    walk_at "e"
    rw [g1]
    walk_at "e"
    rw [g2]
    walk_at "e"
    exact h m M A C g3 g4 g5 a2.1 a3.1 a4.1 g6 a2.2 a3.2 a4.2

theorem mpi_pos_ok (F : Facts K) (hl : Lit K w) {p : Nat} {B H : Int} {a b : PyData} {A C : Rat} {k : PyData → Prop} (hp : 1 ≤ p) (ha : Nm B H a A) (hb : Nm B H b C)
    (h : ∀ a' b' A' C', Nm p H a' A' → Nm p H b' C' → Rnd true p A A' → Rnd false p C C' → k (iv a' b')) : Calls prog w K (N + 5) 142 [iv a b, .int p] k := by
  refine en_mpi_pos2 F hl 40 ?_
  walk_at "g"
  walk_at "e"
  refine pos_ok (d := true) F hl hp ha fun a' A' g1 g2 => ?_
  walk_at "e"
  refine pos_ok (d := false) F hl hp hb fun b' C' g3 g4 => ?_
  walk_at "g"
  walk_at "e"
  exact h _ _ _ _ g1 g3 g2 g4
theorem mpi_neg_ok (F : Facts K) (hl : Lit K w) {B H : Int} {a b : PyData} {A C : Rat} {k : PyData → Prop} (ha : Nm B H a A) (hb : Nm B H b C)
    (h : ∀ a' b', Nm B H a' (-C) → Nm B H b' (-A) → k (iv a' b')) : Calls prog w K (N + 5) 150 [iv a b] k := by
  refine en_mpi_neg1 F hl 40 ?_
  walk_at "g"
  walk_at "e"
  refine neg3_ok F hl hb fun a' g1 => ?_
  walk_at "e"
  refine neg3_ok F hl ha fun b' g2 => ?_
  walk_at "g"
  walk_at "e"
  exact h _ _ g1 g2
theorem mpi_add2_ok (F : Facts K) (hl : Lit K w) {B H : Int} {a b c d : PyData} {A C A' C' : Rat} {k : PyData → Prop} (ha : Nm B H a A) (hb : Nm B H b C) (hc : Nm B H c A') (hd : Nm B H d C') (hB : 0 ≤ B) (hB1 : B ≤ 1000) (hH : 0 ≤ H) (hH1 : H ≤ 1000)
    (h : ∀ a' b', Nm (3 * B + 2 * H + 1) (H + B + 1) a' (A + A') → Nm (3 * B + 2 * H + 1) (H + B + 1) b' (C + C') → k (iv a' b')) : Calls prog w K (N + 5) 135 [iv a b, iv c d] k := by
  refine en_mpi_add2 F hl 40 ?_
  walk_at "g"
  walk_at "g"
  walk_at "e"
  refine add0_ok (d := true) F hl ha hc hB hB1 hH hH1 fun a' g1 => ?_
  walk_at "e"
  refine add0_ok (d := false) F hl hb hd hB hB1 hH hH1 fun b' g2 => ?_
  obtain ⟨xs, rfl⟩ := g1.1.tuple
  obtain ⟨ys, rfl⟩ := g2.1.tuple
  have s1 := g1.1.shaped
  have s2 := g2.1.shaped
  walk_at "g"
  walk_at "g"
  walk_at "e"
  refine br0 (nan_ne g1.1).1 ?_
  walk_at "g"
  walk_at "g"
  walk_at "e"
  refine br0 (nan_ne g2.1).1 ?_
  walk_at "g"
  walk_at "e"
  exact h _ _ g1 g2
theorem mpi_add3_ok (F : Facts K) (hl : Lit K w) {p : Nat} {H : Int} {a b c d : PyData} {A C A' C' : Rat} {k : PyData → Prop} (hp : 1 ≤ p) (hB1 : p ≤ 1000) (ha : Nm p H a A) (hb : Nm p H b C) (hc : Nm p H c A') (hd : Nm p H d C') (hH : 0 ≤ H) (hH1 : H ≤ 1000)
    (h : ∀ a' b' R S, Nm p (H + p + 1) a' R → Nm p (H + p + 1) b' S → Rnd true p (A + A') R → Rnd false p (C + C') S → k (iv a' b')) : Calls prog w K (N + 5) 135 [iv a b, iv c d, .int p] k := by
  refine en_mpi_add3 F hl 40 ?_
  walk_at "g"
  walk_at "g"
  walk_at "e"
  refine addp_ok (d := true) F hl hp hB1 ha hc hH hH1 fun a' R g1 r1 => ?_
  walk_at "e"
  refine addp_ok (d := false) F hl hp hB1 hb hd hH hH1 fun b' S g2 r2 => ?_
  obtain ⟨xs, rfl⟩ := g1.1.tuple
  obtain ⟨ys, rfl⟩ := g2.1.tuple
  have s1 := g1.1.shaped
  have s2 := g2.1.shaped
  walk_at "g"
  walk_at "g"
  walk_at "e"
  refine br0 (nan_ne g1.1).1 ?_
  walk_at "g"
  walk_at "g"
  walk_at "e"
  refine br0 (nan_ne g2.1).1 ?_
  walk_at "g"
  walk_at "e"
  exact h _ _ _ _ g1 g2 r1 r2
theorem mpi_abs_ok (F : Facts K) (hl : Lit K w) {B H : Int} {a b : PyData} {A C : Rat} {k : PyData → Prop} (ha : Nm B H a A) (hb : Nm B H b C) (hB0 : 0 ≤ B) (hB1 : B ≤ 10000)
    (h : ∀ a' b', Nm B H a' (absLo A C) → Nm B H b' (absHi A C) → k (iv a' b')) : Calls prog w K (N + 8) 158 [iv a b] k := by
  refine en_mpi_abs1 F hl 40 ?_
  walk_at "g"
  walk_at "e"
  refine sign_ok F hl ha.1 fun σ h1 => ?_
  walk_at "e"
  refine sign_ok F hl hb.1 fun τ h2 => ?_
  have i1 := h1.nonneg
  have i2 := h2.nonneg
  unfold absLo absHi at h
  by_cases c1 : 0 ≤ σ
  · rw [if_pos (i1.mp c1), if_pos (i1.mp c1)] at h
    walk_at "y"
    walk_at "e"
    refine pos0_ok F hl ?_
    walk_at "e"
    refine pos0_ok F hl ?_
    walk_at "g"
    walk_at "e"
    exact h _ _ ha hb
  · have d1 : ¬ 0 ≤ A := fun q => c1 (i1.mpr q)
    rw [if_neg d1, if_neg d1] at h
    walk_at "n"
    by_cases c2 : 0 ≤ τ
    · rw [if_pos (i2.mp c2), if_pos (i2.mp c2)] at h
      walk_at "y"
      walk_at "e"
      refine neg1_ok F hl ha fun n g1 => ?_
      walk_at "e"
      refine lt_ok F hl g1.1 hb.1 hB1 fun b hb2 => ?_
      walk_at "e"
      refine br (fun q => ?_) (fun q => ?_)
      · simp only [asB] at q
        rw [if_pos (hb2.mp q)] at h
        walk_at "e"
        refine pos0_ok F hl ?_
        walk_at "g"
        walk_at "e"
        exact h _ _ (Nm.zero hB0) hb
      · simp only [asB] at q
        rw [if_neg (fun z => by rw [hb2.mpr z] at q; cases q)] at h
        walk_at "e"
        refine pos0_ok F hl ?_
        walk_at "g"
        walk_at "e"
        exact h _ _ (Nm.zero hB0) g1
    · have d2 : ¬ 0 ≤ C := fun q => c2 (i2.mpr q)
      rw [if_neg d2, if_neg d2] at h
      walk_at "n"
      walk_at "e"
      refine neg3_ok F hl hb fun a' g1 => ?_
      walk_at "e"
      refine neg3_ok F hl ha fun b' g2 => ?_
      walk_at "g"
      walk_at "e"
      exact h _ _ g1 g2
end
end Mine
/-! part D9 -/
namespace Mine
open PySem PySem.W PyProof.Rows
set_option maxRecDepth 100000
-- one step of the evaluation: the goal's weak head
local macro_rules | `(tactic| walk_at "e") => `(tactic| conv => whnf)
-- a guard
local macro_rules | `(tactic| walk_at "g") => `(tactic| ((conv => whnf); refine And.intro ?_ ?_; focus (first | rfl | omega | assumption | (simp [asB, bl]; done) | (simp [asB]; omega) | (simp [SeqAt.shaped, PyData.canLay0, PyData.canLayAll0, PyData.depth, PyData.depthAll, PyData.strOk, tm, dS]; done) | decide)))
-- a branch that is decided by the facts
local macro_rules | `(tactic| walk_at "y") => `(tactic| ((conv => whnf); refine br1 ?_ ?_; focus (first | rfl | (simp [asB]; done) | (simp [asB]; omega) | (simp [asB, PyData.eqv, PyData.eqvAll, dS, tm]; done) | (simp [asB, PyData.eqv, PyData.eqvAll, dS, tm]; omega))))
local macro_rules | `(tactic| walk_at "n") => `(tactic| ((conv => whnf); refine br0 ?_ ?_; focus (first | rfl | (simp [asB]; done) | (simp [asB]; omega) | (simp [asB, PyData.eqv, PyData.eqvAll, dS, tm]; done) | (simp [asB, PyData.eqv, PyData.eqvAll, dS, tm]; omega))))


theorem mul_r {x y z : Rat} (hz : 0 ≤ z) (h : x ≤ y) : x * z ≤ y * z := Rat.mul_le_mul_of_nonneg_right h hz
theorem mul_l {x y z : Rat} (hz : 0 ≤ z) (h : x ≤ y) : z * x ≤ z * y := Rat.mul_le_mul_of_nonneg_left h hz
theorem mul_rn {x y z : Rat} (hz : z ≤ 0) (h : x ≤ y) : y * z ≤ x * z := by
  have := mul_r (z := -z) (by grind) h
  rw [Rat.mul_neg, Rat.mul_neg] at this; grind
theorem mul_ln {x y z : Rat} (hz : z ≤ 0) (h : x ≤ y) : z * y ≤ z * x := by
  have := mul_l (z := -z) (by grind) h
  rw [Rat.neg_mul, Rat.neg_mul] at this; grind
theorem corner {A B C D L U : Rat} (h1 : L ≤ A * C) (h2 : L ≤ A * D) (h3 : L ≤ B * C) (h4 : L ≤ B * D) (g1 : A * C ≤ U) (g2 : A * D ≤ U) (g3 : B * C ≤ U) (g4 : B * D ≤ U) (x y : Rat) (hx1 : A ≤ x) (hx2 : x ≤ B) (hy1 : C ≤ y) (hy2 : y ≤ D) : L ≤ x * y ∧ x * y ≤ U := by
  have row : ∀ a : Rat, L ≤ a * C → L ≤ a * D → a * C ≤ U → a * D ≤ U → L ≤ a * y ∧ a * y ≤ U := by
    intro a e1 e2 e3 e4
    rcases Rat.le_total (a := 0) (b := a) with q | q
    · have := mul_l q hy1
      have := mul_l q hy2
      constructor <;> grind
    · have := mul_ln q hy1
      have := mul_ln q hy2
      constructor <;> grind
  have ra := row A h1 h2 g1 g2
  have rb := row B h3 h4 g3 g4
  rcases Rat.le_total (a := 0) (b := y) with q | q
  · have := mul_r q hx1
    have := mul_r q hx2
    constructor <;> grind
  · have := mul_rn q hx1
    have := mul_rn q hx2
    constructor <;> grind

theorem chain0 {a b c : Int} (h : ¬ (a = b ∧ b = c)) {X X' Y : Prop} (hY : Y) : brD (asB (.bool (a == b))) (brD (asB (.bool (b == c))) X Y) (brD (asB (.bool (a == b))) X' Y) := by
  by_cases q : a = b
  · refine br1 (by simp [asB, q]) (br0 ?_ hY)
    simp [asB]; exact fun z => h ⟨q, z⟩
  · exact br0 (by simp [asB, q]) (br0 (by simp [asB, q]) hY)

theorem shaped4 {B : Int} {a b c d : PyData} {A C D E : Rat} (h1 : Nb B a A) (h2 : Nb B b C) (h3 : Nb B c D) (h4 : Nb B d E) : SeqAt.shaped (.list [a, b, c, d]) = true := by
  obtain ⟨_, _, _, _, rfl, _⟩ := h1
  obtain ⟨_, _, _, _, rfl, _⟩ := h2
  obtain ⟨_, _, _, _, rfl, _⟩ := h3
  obtain ⟨_, _, _, _, rfl, _⟩ := h4
  simp [SeqAt.shaped, PyData.canLay0, PyData.canLayAll0, PyData.depth, PyData.depthAll, tm]

section
variable {prog : Program} {w : World} {K : Frag} {N : Nat}

theorem mpi_mul_ok (F : Facts K) (hl : Lit K w) {p : Nat} {B H G : Int} {a e c d : PyData} {A E C D : Rat} {k : PyData → Prop} (hp : 1 ≤ p) (ha : Nm B H a A) (he : Nm B H e E) (hc : Nm B G c C) (hd : Nm B G d D) (hAE : A ≤ E) (hCD : C ≤ D) (hB0 : 0 ≤ B) (hB1 : B ≤ 500)
    (h : ∀ l u L' U' L U, Nm p (H + G) l L' → Nm p (H + G) u U' → Rnd true p L L' → Rnd false p U U' → (∀ x y, A ≤ x → x ≤ E → C ≤ y → y ≤ D → L ≤ x * y ∧ x * y ≤ U) → k (iv l u)) : Calls prog w K (N + 9) 166 [iv a e, iv c d, .int p] k := by
  refine en_mpi_mul3 F hl 60 ?_
  have f1 : 0 ≤ A → A * C ≤ A * D := fun q => mul_l q hCD
  have f2 : A ≤ 0 → A * D ≤ A * C := fun q => mul_ln q hCD
  have f3 : 0 ≤ E → E * C ≤ E * D := fun q => mul_l q hCD
  have f4 : E ≤ 0 → E * D ≤ E * C := fun q => mul_ln q hCD
  have f5 : 0 ≤ C → A * C ≤ E * C := fun q => mul_r q hAE
  have f6 : C ≤ 0 → E * C ≤ A * C := fun q => mul_rn q hAE
  have f7 : 0 ≤ D → A * D ≤ E * D := fun q => mul_r q hAE
  have f8 : D ≤ 0 → E * D ≤ A * D := fun q => mul_rn q hAE
  obtain ⟨as, rfl⟩ := ha.1.tuple
  obtain ⟨es, rfl⟩ := he.1.tuple
  obtain ⟨cs, rfl⟩ := hc.1.tuple
  obtain ⟨ds, rfl⟩ := hd.1.tuple
  have w1 := ha.1.shaped
  have w2 := he.1.shaped
  have w3 := hc.1.shaped
  have w4 := hd.1.shaped
  walk_at "g"
  walk_at "g"
  walk_at "e"
  refine sign_ok F hl ha.1 fun s1 σ1 => ?_
  walk_at "e"
  refine sign_ok F hl he.1 fun s2 σ2 => ?_
  walk_at "e"
  refine sign_ok F hl hc.1 fun s3 σ3 => ?_
  walk_at "e"
  refine sign_ok F hl hd.1 fun s4 σ4 => ?_
  have p1 := σ1.nonneg
  have p2' := σ2.nonneg
  have p3 := σ3.nonneg
  have p4 := σ4.nonneg
  have n1 := σ1.nonpos
  have n2 := σ2.nonpos
  have n3 := σ3.nonpos
  have n4 := σ4.nonpos
  have zer : ∀ x y : Rat, (x = 0 ∨ y = 0) → (0 : Rat) ≤ x * y ∧ x * y ≤ 0 := by
    intro x y q
    rcases q with rfl | rfl
    · rw [Rat.zero_mul]; exact ⟨Rat.le_refl, Rat.le_refl⟩
    · rw [Rat.mul_zero]; exact ⟨Rat.le_refl, Rat.le_refl⟩
  have kz : (∀ x y, A ≤ x → x ≤ E → C ≤ y → y ≤ D → (x = 0 ∨ y = 0)) → k (iv (tm 0 0 0 0) (tm 0 0 0 0)) := fun q => h _ _ 0 0 0 0 (Nm.zero (by omega)) (Nm.zero (by omega)) Rnd.zero Rnd.zero fun x y q1 q2 q3 q4 => zer x y (q x y q1 q2 q3 q4)
  by_cases z1 : s1 = s2 ∧ s2 = 0
  · have a0 : A = 0 := σ1.zero.mp (by omega)
    have e0 : E = 0 := σ2.zero.mp (by omega)
    have kk := kz fun x y q1 q2 _ _ => .inl (by grind)
    walk_at "y"
    walk_at "y"
    walk_at "g"
    walk_at "g"
    walk_at "e"
    refine br0 (nan_ne hc.1).2.2 ?_
    walk_at "g"
    walk_at "g"
    walk_at "e"
    refine br0 (nan_ne hd.1).2.1 ?_
    walk_at "g"
    walk_at "e"
    exact kk
  · walk_at "e"
    refine chain0 z1 ?_
    by_cases z2 : s3 = s4 ∧ s4 = 0
    · have c0 : C = 0 := σ3.zero.mp (by omega)
      have d0 : D = 0 := σ4.zero.mp (by omega)
      have kk := kz fun x y _ _ q1 q2 => .inr (by grind)
      walk_at "y"
      walk_at "y"
      walk_at "g"
      walk_at "g"
      walk_at "e"
      refine br0 (nan_ne ha.1).2.2 ?_
      walk_at "g"
      walk_at "g"
      walk_at "e"
      refine br0 (nan_ne he.1).2.1 ?_
      walk_at "g"
      walk_at "e"
      exact kk
    · walk_at "e"
      refine chain0 z2 ?_
      clear kz zer
      by_cases b1 : 0 ≤ s1
      · have B1 := p1.mp b1
        walk_at "y"
        by_cases b3 : 0 ≤ s3
        · have B3 := p3.mp b3
          walk_at "y"
          walk_at "e"
          refine mul4_ok (d := true) F hl hp ha hc (by omega) (by omega) fun l L' g1 r1 => ?_
          walk_at "e"
          refine mul4_ok (d := false) F hl hp he hd (by omega) (by omega) fun u U' g2 r2 => ?_
          obtain ⟨xs, rfl⟩ := g1.1.tuple
          obtain ⟨ys, rfl⟩ := g2.1.tuple
          have t1 := g1.1.shaped
          have t2 := g2.1.shaped
          walk_at "g"
          walk_at "g"
          walk_at "e"
          refine br0 (nan_ne g1.1).1 ?_
          walk_at "g"
          walk_at "g"
          walk_at "e"
          refine br0 (nan_ne g2.1).1 ?_
          walk_at "g"
          walk_at "e"

          exact h _ _ _ _ _ _ g1 g2 r1 r2 (corner (by grind) (by grind) (by grind) (by grind) (by grind) (by grind) (by grind) (by grind))
        · have B3 : ¬ 0 ≤ C := fun q => b3 (p3.mpr q)
          walk_at "n"
          by_cases b4 : s4 ≤ 0
          · have B4 := n4.mp b4
            walk_at "y"
            walk_at "e"
            refine mul4_ok (d := true) F hl hp he hc (by omega) (by omega) fun l L' g1 r1 => ?_
            walk_at "e"
            refine mul4_ok (d := false) F hl hp ha hd (by omega) (by omega) fun u U' g2 r2 => ?_
            obtain ⟨xs, rfl⟩ := g1.1.tuple
            obtain ⟨ys, rfl⟩ := g2.1.tuple
            have t1 := g1.1.shaped
            have t2 := g2.1.shaped
            walk_at "g"
            walk_at "g"
            walk_at "e"
            refine br0 (nan_ne g1.1).1 ?_
            walk_at "g"
            walk_at "g"
            walk_at "e"
            refine br0 (nan_ne g2.1).1 ?_
            walk_at "g"
            walk_at "e"

            exact h _ _ _ _ _ _ g1 g2 r1 r2 (corner (by grind) (by grind) (by grind) (by grind) (by grind) (by grind) (by grind) (by grind))
          · have B4 : ¬ D ≤ 0 := fun q => b4 (n4.mpr q)
            walk_at "n"
            walk_at "e"
            refine mul4_ok (d := true) F hl hp he hc (by omega) (by omega) fun l L' g1 r1 => ?_
            walk_at "e"
            refine mul4_ok (d := false) F hl hp he hd (by omega) (by omega) fun u U' g2 r2 => ?_
            obtain ⟨xs, rfl⟩ := g1.1.tuple
            obtain ⟨ys, rfl⟩ := g2.1.tuple
            have t1 := g1.1.shaped
            have t2 := g2.1.shaped
            walk_at "g"
            walk_at "g"
            walk_at "e"
            refine br0 (nan_ne g1.1).1 ?_
            walk_at "g"
            walk_at "g"
            walk_at "e"
            refine br0 (nan_ne g2.1).1 ?_
            walk_at "g"
            walk_at "e"

            exact h _ _ _ _ _ _ g1 g2 r1 r2 (corner (by grind) (by grind) (by grind) (by grind) (by grind) (by grind) (by grind) (by grind))
      · have B1 : ¬ 0 ≤ A := fun q => b1 (p1.mpr q)
        walk_at "n"
        by_cases b2 : s2 ≤ 0
        · have B2 := n2.mp b2
          walk_at "y"
          by_cases b3 : 0 ≤ s3
          · have B3 := p3.mp b3
            walk_at "y"
            walk_at "e"
            refine mul4_ok (d := true) F hl hp ha hd (by omega) (by omega) fun l L' g1 r1 => ?_
            walk_at "e"
            refine mul4_ok (d := false) F hl hp he hc (by omega) (by omega) fun u U' g2 r2 => ?_
            obtain ⟨xs, rfl⟩ := g1.1.tuple
            obtain ⟨ys, rfl⟩ := g2.1.tuple
            have t1 := g1.1.shaped
            have t2 := g2.1.shaped
            walk_at "g"
            walk_at "g"
            walk_at "e"
            refine br0 (nan_ne g1.1).1 ?_
            walk_at "g"
            walk_at "g"
            walk_at "e"
            refine br0 (nan_ne g2.1).1 ?_
            walk_at "g"
            walk_at "e"

            exact h _ _ _ _ _ _ g1 g2 r1 r2 (corner (by grind) (by grind) (by grind) (by grind) (by grind) (by grind) (by grind) (by grind))
          · have B3 : ¬ 0 ≤ C := fun q => b3 (p3.mpr q)
            walk_at "n"
            by_cases b4 : s4 ≤ 0
            · have B4 := n4.mp b4
              walk_at "y"
              walk_at "e"
              refine mul4_ok (d := true) F hl hp he hd (by omega) (by omega) fun l L' g1 r1 => ?_
              walk_at "e"
              refine mul4_ok (d := false) F hl hp ha hc (by omega) (by omega) fun u U' g2 r2 => ?_
              obtain ⟨xs, rfl⟩ := g1.1.tuple
              obtain ⟨ys, rfl⟩ := g2.1.tuple
              have t1 := g1.1.shaped
              have t2 := g2.1.shaped
              walk_at "g"
              walk_at "g"
              walk_at "e"
              refine br0 (nan_ne g1.1).1 ?_
              walk_at "g"
              walk_at "g"
              walk_at "e"
              refine br0 (nan_ne g2.1).1 ?_
              walk_at "g"
              walk_at "e"

              exact h _ _ _ _ _ _ g1 g2 r1 r2 (corner (by grind) (by grind) (by grind) (by grind) (by grind) (by grind) (by grind) (by grind))
            · have B4 : ¬ D ≤ 0 := fun q => b4 (n4.mpr q)
              walk_at "n"
              walk_at "e"
              refine mul4_ok (d := true) F hl hp ha hd (by omega) (by omega) fun l L' g1 r1 => ?_
              walk_at "e"
              refine mul4_ok (d := false) F hl hp ha hc (by omega) (by omega) fun u U' g2 r2 => ?_
              obtain ⟨xs, rfl⟩ := g1.1.tuple
              obtain ⟨ys, rfl⟩ := g2.1.tuple
              have t1 := g1.1.shaped
              have t2 := g2.1.shaped
              walk_at "g"
              walk_at "g"
              walk_at "e"
              refine br0 (nan_ne g1.1).1 ?_
              walk_at "g"
              walk_at "g"
              walk_at "e"
              refine br0 (nan_ne g2.1).1 ?_
              walk_at "g"
              walk_at "e"

              exact h _ _ _ _ _ _ g1 g2 r1 r2 (corner (by grind) (by grind) (by grind) (by grind) (by grind) (by grind) (by grind) (by grind))
        · have B2 : ¬ E ≤ 0 := fun q => b2 (n2.mpr q)
          walk_at "n"
          walk_at "g"
          walk_at "e"
          refine mul2_ok F hl ha hc (by omega) (by omega) fun m1 q1 => ?_
          walk_at "e"
          refine mul2_ok F hl ha hd (by omega) (by omega) fun m2 q2 => ?_
          walk_at "e"
          refine mul2_ok F hl he hc (by omega) (by omega) fun m3 q3 => ?_
          walk_at "e"
          refine mul2_ok F hl he hd (by omega) (by omega) fun m4 q4 => ?_
          have u1 := (nan_ne q1.1).1
          have u2 := (nan_ne q2.1).1
          have u3 := (nan_ne q3.1).1
          have u4 := (nan_ne q4.1).1
          walk_at "g"
          walk_at "e"
          refine And.intro (shaped4 q1.1 q2.1 q3.1 q4.1) ?_
          walk_at "e"
          refine br0 (by simp only [asB, List.any_cons, List.any_nil]; unfold fnan tm at u1 u2 u3 u4; simp only [u1, u2, u3, u4]; rfl) ?_
          walk_at "e"
          refine minmax_ok F hl q1 q2 q3 q4 (by omega) fun l u L U g1 g2 l1 l2 l3 l4 v1 v2 v3 v4 => ?_
          walk_at "g"
          walk_at "e"
          refine pos_ok (d := true) F hl hp g1 fun l' L' g3 r3 => ?_
          walk_at "e"
          refine pos_ok (d := false) F hl hp g2 fun u' U' g4 r4 => ?_
          walk_at "g"
          walk_at "e"
          exact h _ _ _ _ _ _ g3 g4 r3 r4 (corner l1 l2 l3 l4 v1 v2 v3 v4)
end
end Mine
/-! part D10 -/
namespace Mine
open PySem PySem.W PyProof.Rows
set_option maxRecDepth 100000
-- one step of the evaluation: the goal's weak head
local macro_rules | `(tactic| walk_at "e") => `(tactic| conv => whnf)
-- a guard
local macro_rules | `(tactic| walk_at "g") => `(tactic| ((conv => whnf); refine And.intro ?_ ?_; focus (first | rfl | omega | assumption | (simp [asB, bl]; done) | (simp [asB]; omega) | (simp [SeqAt.shaped, PyData.canLay0, PyData.canLayAll0, PyData.depth, PyData.depthAll, PyData.strOk, tm, dS]; done) | decide)))
-- a branch that is decided by the facts
local macro_rules | `(tactic| walk_at "y") => `(tactic| ((conv => whnf); refine br1 ?_ ?_; focus (first | rfl | (simp [asB]; done) | (simp [asB]; omega) | (simp [asB, PyData.eqv, PyData.eqvAll, dS, tm]; done) | (simp [asB, PyData.eqv, PyData.eqvAll, dS, tm]; omega))))
local macro_rules | `(tactic| walk_at "n") => `(tactic| ((conv => whnf); refine br0 ?_ ?_; focus (first | rfl | (simp [asB]; done) | (simp [asB]; omega) | (simp [asB, PyData.eqv, PyData.eqvAll, dS, tm]; done) | (simp [asB, PyData.eqv, PyData.eqvAll, dS, tm]; omega))))


theorem inv_le {a b : Rat} (ha : 0 < a) (h : a ≤ b) : b⁻¹ ≤ a⁻¹ := by
  have hb : 0 < b := by grind
  have h1 := Rat.inv_pos.mpr ha
  have h2 := Rat.inv_pos.mpr hb
  have h3 := mul_r (Rat.le_of_lt h2) (mul_l (Rat.le_of_lt h1) h)
  rw [Rat.inv_mul_cancel a (Rat.ne_of_gt ha), Rat.one_mul, Rat.mul_assoc, Rat.mul_inv_cancel b (Rat.ne_of_gt hb), Rat.mul_one] at h3
  exact h3
/-- the bounds of the quotients -/
def DivB (A E C D L U : Rat) : Prop := (∀ x y, A ≤ x → x ≤ E → C ≤ y → y ≤ D → L ≤ x / y ∧ x / y ≤ U) ∧ (∃ x y, (x = A ∨ x = E) ∧ (y = C ∨ y = D) ∧ L = x / y) ∧ (∃ x y, (x = A ∨ x = E) ∧ (y = C ∨ y = D) ∧ U = x / y)
theorem neg_div_neg (x y : Rat) : (-x) / (-y) = x / y := by rw [Rat.div_def, Rat.div_def, rat_neg_inv]; grind
theorem DivB.negs {A E C D L U : Rat} (h : DivB (-E) (-A) (-D) (-C) L U) : DivB A E C D L U := by
  obtain ⟨h1, ⟨x, y, hx, hy, h2⟩, ⟨z, v, hz, hv, h3⟩⟩ := h
  refine ⟨fun x y a1 a2 a3 a4 => ?_, ⟨-x, -y, ?_, ?_, ?_⟩, ⟨-z, -v, ?_, ?_, ?_⟩⟩
  · have := h1 (-x) (-y) (by grind) (by grind) (by grind) (by grind)
    rwa [neg_div_neg] at this
  · grind
  · grind
  · rw [neg_div_neg]; exact h2
  · grind
  · grind
  · rw [neg_div_neg]; exact h3
theorem divb_of {A E C D L U : Rat} (hC : 0 < C) (hAE : A ≤ E) (hCD : C ≤ D) (hL : (0 ≤ A ∧ L = A / D) ∨ (A ≤ 0 ∧ L = A / C)) (hU : (0 ≤ E ∧ U = E / C) ∨ (E ≤ 0 ∧ U = E / D)) : DivB A E C D L U := by
  have hI := inv_le hC hCD
  have hD : 0 < D := by grind
  have i1 := Rat.inv_pos.mpr hC
  have i2 := Rat.inv_pos.mpr hD
  refine ⟨fun x y a1 a2 a3 a4 => ?_, ?_, ?_⟩
  · have j1 := inv_le hC a3
    have j2 := inv_le (show 0 < y by grind) a4
    have f1 : 0 ≤ A → A * D⁻¹ ≤ A * C⁻¹ := fun q => mul_l q hI
    have f2 : A ≤ 0 → A * C⁻¹ ≤ A * D⁻¹ := fun q => mul_ln q hI
    have f3 : 0 ≤ E → E * D⁻¹ ≤ E * C⁻¹ := fun q => mul_l q hI
    have f4 : E ≤ 0 → E * C⁻¹ ≤ E * D⁻¹ := fun q => mul_ln q hI
    have f5 : A * C⁻¹ ≤ E * C⁻¹ := mul_r (Rat.le_of_lt i1) hAE
    have f7 : A * D⁻¹ ≤ E * D⁻¹ := mul_r (Rat.le_of_lt i2) hAE
    rw [Rat.div_def x y]
    rw [Rat.div_def, Rat.div_def] at hL hU
    refine corner (A := A) (B := E) (C := D⁻¹) (D := C⁻¹) ?_ ?_ ?_ ?_ ?_ ?_ ?_ ?_ x y⁻¹ a1 a2 j2 j1 <;> grind
  · rcases hL with ⟨_, h⟩ | ⟨_, h⟩
    · exact ⟨A, D, .inl rfl, .inr rfl, h⟩
    · exact ⟨A, C, .inl rfl, .inl rfl, h⟩
  · rcases hU with ⟨_, h⟩ | ⟨_, h⟩
    · exact ⟨E, C, .inr rfl, .inl rfl, h⟩
    · exact ⟨E, D, .inr rfl, .inr rfl, h⟩
theorem Sgn.of_pos {X : Rat} {σ : Int} (h : Sgn X σ) (hx : 0 < X) : σ = 1 := by
  rcases h with ⟨rfl, q⟩ | ⟨rfl, q⟩ | ⟨rfl, q⟩
  · rfl
  · exfalso; grind
  · exfalso; grind
theorem Sgn.of_neg {X : Rat} {σ : Int} (h : Sgn X σ) (hx : X < 0) : σ = -1 := by
  rcases h with ⟨rfl, q⟩ | ⟨rfl, q⟩ | ⟨rfl, q⟩
  · exfalso; grind
  · rfl
  · exfalso; grind
theorem zero_div' (x : Rat) : 0 / x = 0 := by rw [Rat.div_def, Rat.zero_mul]

section
variable {prog : Program} {w : World} {K : Frag} {N : Nat}

theorem div_pos_ok (F : Facts K) (hl : Lit K w) {p : Nat} {B H B' G : Int} {a e c d : PyData} {A E C D : Rat} {k : PyData → Prop} (hp : 1 ≤ p) (hp1 : p ≤ 1000) (ha : Nm B H a A) (he : Nm B H e E) (hc : Nm B' G c C) (hd : Nm B' G d D) (hAE : A ≤ E) (hB1 : B ≤ 1000) (hG1 : B' ≤ 1000) (hCD : C ≤ D) (hC : 0 < C) (h : ∀ l u L' U' L U, Nm p (H + G) l L' → Nm p (H + G) u U' → Rnd true p L L' → Rnd false p U U' → DivB A E C D L U → k (iv l u)) : Calls prog w K (N + 5) 173 [iv a e, iv c d, .int p] k := by
  have hD : 0 < D := by grind
  have hC0 : C ≠ 0 := Rat.ne_of_gt hC
  have hD0 : D ≠ 0 := Rat.ne_of_gt hD
  refine en_mpi_div3 F hl 60 ?_
  walk_at "g"
  walk_at "g"
  walk_at "e"
  refine sign_ok F hl ha.1 fun s1 σ1 => ?_
  walk_at "e"
  refine sign_ok F hl he.1 fun s2 σ2 => ?_
  walk_at "e"
  refine sign_ok F hl hc.1 fun s3 σ3 => ?_
  walk_at "e"
  refine sign_ok F hl hd.1 fun s4 σ4 => ?_
  have p1 := σ1.nonneg
  have p2' := σ2.nonneg
  have n1 := σ1.nonpos
  have n2 := σ2.nonpos
  obtain rfl := σ3.of_pos hC
  obtain rfl := σ4.of_pos hD
  by_cases z1 : s1 = s2 ∧ s2 = 0
  · have a0 : A = 0 := σ1.zero.mp (by omega)
    have e0 : E = 0 := σ2.zero.mp (by omega)
    have kk : k (iv (tm 0 0 0 0) (tm 0 0 0 0)) := h _ _ 0 0 0 0 (Nm.zero (by omega)) (Nm.zero (by omega)) Rnd.zero Rnd.zero (divb_of hC hAE hCD (.inl ⟨by grind, by rw [a0, zero_div']⟩) (.inl ⟨by grind, by rw [e0, zero_div']⟩))
    walk_at "y"
    walk_at "y"
    walk_at "n"
    walk_at "n"
    walk_at "n"
    walk_at "n"
    walk_at "g"
    walk_at "e"
    exact kk
  · walk_at "e"
    refine chain0 z1 ?_
    walk_at "n"
    walk_at "n"
    walk_at "n"
    walk_at "n"
    by_cases b1 : 0 ≤ s1
    · have B1 := p1.mp b1
      walk_at "y"
      walk_at "e"
      refine div_ok (d := true) F hl hp hp1 ha hd hD0 hB1 hG1 fun l L' g1 r1 => ?_
      walk_at "e"
      refine div_ok (d := false) F hl hp hp1 he hc hC0 hB1 hG1 fun u U' g2 r2 => ?_
      obtain ⟨xs, rfl⟩ := g1.1.tuple
      obtain ⟨ys, rfl⟩ := g2.1.tuple
      have t1 := g1.1.shaped
      have t2 := g2.1.shaped
      walk_at "g"
      walk_at "g"
      walk_at "e"
      refine br0 (nan_ne g1.1).1 ?_
      walk_at "g"
      walk_at "g"
      walk_at "e"
      refine br0 (nan_ne g2.1).1 ?_
      walk_at "g"
      walk_at "e"
      exact h _ _ _ _ _ _ g1 g2 r1 r2 (divb_of hC hAE hCD (.inl ⟨by grind, rfl⟩) (.inl ⟨by grind, rfl⟩))
    · have B1 : ¬ 0 ≤ A := fun q => b1 (p1.mpr q)
      walk_at "n"
      by_cases b2 : s2 ≤ 0
      · have B2 := n2.mp b2
        walk_at "y"
        walk_at "e"
        refine div_ok (d := true) F hl hp hp1 ha hc hC0 hB1 hG1 fun l L' g1 r1 => ?_
        walk_at "e"
        refine div_ok (d := false) F hl hp hp1 he hd hD0 hB1 hG1 fun u U' g2 r2 => ?_
        obtain ⟨xs, rfl⟩ := g1.1.tuple
        obtain ⟨ys, rfl⟩ := g2.1.tuple
        have t1 := g1.1.shaped
        have t2 := g2.1.shaped
        walk_at "g"
        walk_at "g"
        walk_at "e"
        refine br0 (nan_ne g1.1).1 ?_
        walk_at "g"
        walk_at "g"
        walk_at "e"
        refine br0 (nan_ne g2.1).1 ?_
        walk_at "g"
        walk_at "e"
        exact h _ _ _ _ _ _ g1 g2 r1 r2 (divb_of hC hAE hCD (.inr ⟨by grind, rfl⟩) (.inr ⟨by grind, rfl⟩))
      · have B2 : ¬ E ≤ 0 := fun q => b2 (n2.mpr q)
        walk_at "n"
        walk_at "e"
        refine div_ok (d := true) F hl hp hp1 ha hc hC0 hB1 hG1 fun l L' g1 r1 => ?_
        walk_at "e"
        refine div_ok (d := false) F hl hp hp1 he hc hC0 hB1 hG1 fun u U' g2 r2 => ?_
        obtain ⟨xs, rfl⟩ := g1.1.tuple
        obtain ⟨ys, rfl⟩ := g2.1.tuple
        have t1 := g1.1.shaped
        have t2 := g2.1.shaped
        walk_at "g"
        walk_at "g"
        walk_at "e"
        refine br0 (nan_ne g1.1).1 ?_
        walk_at "g"
        walk_at "g"
        walk_at "e"
        refine br0 (nan_ne g2.1).1 ?_
        walk_at "g"
        walk_at "e"
        exact h _ _ _ _ _ _ g1 g2 r1 r2 (divb_of hC hAE hCD (.inr ⟨by grind, rfl⟩) (.inl ⟨by grind, rfl⟩))
theorem div_neg_ok (F : Facts K) (hl : Lit K w) {p : Nat} {B H B' G : Int} {a e c d : PyData} {A E C D : Rat} {k : PyData → Prop} (hp : 1 ≤ p) (hp1 : p ≤ 1000) (ha : Nm B H a A) (he : Nm B H e E) (hc : Nm B' G c C) (hd : Nm B' G d D) (hAE : A ≤ E) (hB1 : B ≤ 1000) (hG1 : B' ≤ 1000) (hCD : C ≤ D) (hD : D < 0) (h : ∀ l u L' U' L U, Nm p (H + G) l L' → Nm p (H + G) u U' → Rnd true p L L' → Rnd false p U U' → DivB A E C D L U → k (iv l u)) : Calls prog w K (N + 6) 173 [iv a e, iv c d, .int p] k := by
  have hC : C < 0 := by grind
  refine en_mpi_div3 F hl 60 ?_
  walk_at "g"
  walk_at "g"
  walk_at "e"
  refine sign_ok F hl ha.1 fun s1 σ1 => ?_
  walk_at "e"
  refine sign_ok F hl he.1 fun s2 σ2 => ?_
  walk_at "e"
  refine sign_ok F hl hc.1 fun s3 σ3 => ?_
  walk_at "e"
  refine sign_ok F hl hd.1 fun s4 σ4 => ?_
  have p1 := σ1.nonneg
  have p2' := σ2.nonneg
  have n1 := σ1.nonpos
  have n2 := σ2.nonpos
  obtain rfl := σ3.of_neg hC
  obtain rfl := σ4.of_neg hD
  by_cases z1 : s1 = s2 ∧ s2 = 0
  · have a0 : A = 0 := σ1.zero.mp (by omega)
    have e0 : E = 0 := σ2.zero.mp (by omega)
    have kk : k (iv (tm 0 0 0 0) (tm 0 0 0 0)) := h _ _ 0 0 0 0 (Nm.zero (by omega)) (Nm.zero (by omega)) Rnd.zero Rnd.zero (by
      refine DivB.negs (divb_of (by grind) (by grind) (by grind) (.inl ⟨by grind, ?_⟩) (.inl ⟨by grind, ?_⟩))
      · rw [e0, Rat.neg_zero, zero_div']
      · rw [a0, Rat.neg_zero, zero_div'])
    walk_at "y"
    walk_at "y"
    walk_at "y"
    walk_at "n"
    walk_at "n"
    walk_at "n"
    walk_at "g"
    walk_at "e"
    exact kk
  · walk_at "e"
    refine chain0 z1 ?_
    walk_at "y"
    walk_at "n"
    walk_at "y"
    walk_at "e"
    refine mpi_neg_ok F hl ha he fun a' e' g1 g2 => ?_
    walk_at "e"
    refine mpi_neg_ok F hl hc hd fun c' d' g3 g4 => ?_
    walk_at "e"
    exact div_pos_ok F hl hp hp1 g1 g2 g3 g4 (by grind) hB1 hG1 (by grind) (by grind) fun l u L' U' L U q1 q2 q3 q4 q5 => h l u L' U' L U q1 q2 q3 q4 q5.negs
theorem beside_pos_ok (F : Facts K) (hl : Lit K w) {p : Nat} {B H B' G : Int} {a e c d : PyData} {A E C D : Rat} {k : PyData → Prop} (hp : 1 ≤ p) (hp1 : p ≤ 1000) (ha : Nm B H a A) (he : Nm B H e E) (hc : Nm B' G c C) (hd : Nm B' G d D) (hAE : A ≤ E) (hB1 : B ≤ 1000) (hG1 : B' ≤ 1000) (hC : C = 0) (hD : 0 < D)
    (h1 : (A < 0 ∧ 0 < E) ∨ (A = 0 ∧ E = 0) → k (iv fninf finf)) (h2 : 0 ≤ A → 0 < E → ∀ l L', Nm p (H + G) l L' → Rnd true p (A / D) L' → k (iv l finf)) (h3 : A < 0 → E ≤ 0 → ∀ u U', Nm p (H + G) u U' → Rnd false p (E / D) U' → k (iv fninf u)) : Calls prog w K (N + 5) 173 [iv a e, iv c d, .int p] k := by
  have hD0 : D ≠ 0 := Rat.ne_of_gt hD
  refine en_mpi_div3 F hl 60 ?_
  walk_at "g"
  walk_at "g"
  walk_at "e"
  refine sign_ok F hl ha.1 fun s1 σ1 => ?_
  walk_at "e"
  refine sign_ok F hl he.1 fun s2 σ2 => ?_
  walk_at "e"
  refine sign_ok F hl hc.1 fun s3 σ3 => ?_
  walk_at "e"
  refine sign_ok F hl hd.1 fun s4 σ4 => ?_
  have p1 := σ1.nonneg
  have p2' := σ2.nonneg
  have n1 := σ1.nonpos
  have n2 := σ2.nonpos
  obtain rfl := σ3.zero.mpr hC
  obtain rfl := σ4.of_pos hD
  by_cases z1 : s1 = s2 ∧ s2 = 0
  · have a0 : A = 0 := σ1.zero.mp (by omega)
    have e0 : E = 0 := σ2.zero.mp (by omega)
    have kk := h1 (.inr ⟨a0, e0⟩)
    walk_at "y"
    walk_at "y"
    walk_at "n"
    walk_at "n"
    walk_at "y"
    walk_at "y"
    walk_at "g"
    walk_at "e"
    exact kk
  · walk_at "e"
    refine chain0 z1 ?_
    walk_at "n"
    walk_at "n"
    walk_at "n"
    walk_at "y"
    by_cases b1 : 0 ≤ s1
    · have B1 := p1.mp b1
      have B2 : 0 < E := by
        refine Rat.not_le.mp fun q => z1 ?_
        have e1 := n2.mpr q
        have e2 := n1.mpr (Rat.le_trans hAE q)
        have e3 := p2'.mpr (Rat.le_trans B1 hAE)
        omega
      have b2 : ¬ s2 ≤ 0 := fun q => by have := n2.mp q; grind
      walk_at "n"
      walk_at "n"
      walk_at "n"
      walk_at "y"
      walk_at "e"
      refine div_ok (d := true) F hl hp hp1 ha hd hD0 hB1 hG1 fun l L' g1 r1 => ?_
      walk_at "n"
      walk_at "g"
      walk_at "e"
      exact h2 B1 B2 l L' g1 r1
    · have B1 : A < 0 := Rat.not_le.mp fun q => b1 (p1.mpr q)
      by_cases b2 : s2 ≤ 0
      · have B2 := n2.mp b2
        walk_at "y"
        walk_at "n"
        walk_at "n"
        walk_at "n"
        walk_at "y"
        walk_at "e"
        refine div_ok (d := false) F hl hp hp1 he hd hD0 hB1 hG1 fun l L' g1 r1 => ?_
        walk_at "g"
        walk_at "e"
        exact h3 B1 B2 l L' g1 r1
      · have B2 : ¬ E ≤ 0 := fun q => b2 (n2.mpr q)
        have kk := h1 (.inl ⟨B1, Rat.not_le.mp B2⟩)
        walk_at "y"
        walk_at "y"
        walk_at "g"
        walk_at "e"
        exact kk
theorem beside_neg_ok (F : Facts K) (hl : Lit K w) {p : Nat} {B H B' G : Int} {a e c d : PyData} {A E C D : Rat} {k : PyData → Prop} (hp : 1 ≤ p) (hp1 : p ≤ 1000) (ha : Nm B H a A) (he : Nm B H e E) (hc : Nm B' G c C) (hd : Nm B' G d D) (hAE : A ≤ E) (hB1 : B ≤ 1000) (hG1 : B' ≤ 1000) (hC : C < 0) (hD : D = 0)
    (h1 : (A < 0 ∧ 0 < E) ∨ (A = 0 ∧ E = 0) → k (iv fninf finf)) (h2 : A < 0 → E ≤ 0 → ∀ l L', Nm p (H + G) l L' → Rnd true p (E / C) L' → k (iv l finf)) (h3 : 0 ≤ A → 0 < E → ∀ u U', Nm p (H + G) u U' → Rnd false p (A / C) U' → k (iv fninf u)) : Calls prog w K (N + 6) 173 [iv a e, iv c d, .int p] k := by
  refine en_mpi_div3 F hl 60 ?_
  walk_at "g"
  walk_at "g"
  walk_at "e"
  refine sign_ok F hl ha.1 fun s1 σ1 => ?_
  walk_at "e"
  refine sign_ok F hl he.1 fun s2 σ2 => ?_
  walk_at "e"
  refine sign_ok F hl hc.1 fun s3 σ3 => ?_
  walk_at "e"
  refine sign_ok F hl hd.1 fun s4 σ4 => ?_
  have p1 := σ1.nonneg
  have p2' := σ2.nonneg
  have n1 := σ1.nonpos
  have n2 := σ2.nonpos
  obtain rfl := σ3.of_neg hC
  obtain rfl := σ4.zero.mpr hD
  by_cases z1 : s1 = s2 ∧ s2 = 0
  · have a0 : A = 0 := σ1.zero.mp (by omega)
    have e0 : E = 0 := σ2.zero.mp (by omega)
    have kk := h1 (.inr ⟨a0, e0⟩)
    walk_at "y"
    walk_at "y"
    walk_at "y"
    walk_at "n"
    walk_at "n"
    walk_at "y"
    walk_at "g"
    walk_at "e"
    exact kk
  · walk_at "e"
    refine chain0 z1 ?_
    walk_at "y"
    walk_at "n"
    walk_at "y"
    walk_at "e"
    refine mpi_neg_ok F hl ha he fun a' e' g1 g2 => ?_
    walk_at "e"
    refine mpi_neg_ok F hl hc hd fun c' d' g3 g4 => ?_
    walk_at "e"
    refine beside_pos_ok F hl hp hp1 g1 g2 g3 g4 (by grind) hB1 hG1 (by grind) (by grind) (fun q => h1 ?_) (fun q1 q2 l L' q3 q4 => h2 (by grind) (by grind) l L' q3 ?_) (fun q1 q2 l L' q3 q4 => h3 (by grind) (by grind) l L' q3 ?_)
    · grind
    · rwa [neg_div_neg] at q4
    · rwa [neg_div_neg] at q4
theorem across_ok (F : Facts K) (hl : Lit K w) {p : Nat} {B H B' G : Int} {a e c d : PyData} {A E C D : Rat} {k : PyData → Prop} (ha : Nm B H a A) (he : Nm B H e E) (hc : Nm B' G c C) (hd : Nm B' G d D) (hC : C < 0) (hD : 0 < D) (h : k (iv fninf finf)) : Calls prog w K (N + 5) 173 [iv a e, iv c d, .int p] k := by
  refine en_mpi_div3 F hl 60 ?_
  walk_at "g"
  walk_at "g"
  walk_at "e"
  refine sign_ok F hl ha.1 fun s1 σ1 => ?_
  walk_at "e"
  refine sign_ok F hl he.1 fun s2 σ2 => ?_
  walk_at "e"
  refine sign_ok F hl hc.1 fun s3 σ3 => ?_
  walk_at "e"
  refine sign_ok F hl hd.1 fun s4 σ4 => ?_
  have p1 := σ1.nonneg
  have p2' := σ2.nonneg
  have n1 := σ1.nonpos
  have n2 := σ2.nonpos
  obtain rfl := σ3.of_neg hC
  obtain rfl := σ4.of_pos hD
  by_cases z1 : s1 = s2 ∧ s2 = 0
  · walk_at "y"
    walk_at "y"
    walk_at "y"
    walk_at "y"
    walk_at "y"
    walk_at "g"
    walk_at "e"
    exact h
  · walk_at "e"
    refine chain0 z1 ?_
    walk_at "y"
    walk_at "y"
    walk_at "g"
    walk_at "e"
    exact h
theorem by_zero_ok (F : Facts K) (hl : Lit K w) {p : Nat} {B H B' G : Int} {a e c d : PyData} {A E C D : Rat} {k : PyData → Prop} (ha : Nm B H a A) (he : Nm B H e E) (hc : Nm B' G c C) (hd : Nm B' G d D) (hC : C = 0) (hD : D = 0) (h : k (iv fninf finf)) : Calls prog w K (N + 5) 173 [iv a e, iv c d, .int p] k := by
  refine en_mpi_div3 F hl 60 ?_
  walk_at "g"
  walk_at "g"
  walk_at "e"
  refine sign_ok F hl ha.1 fun s1 σ1 => ?_
  walk_at "e"
  refine sign_ok F hl he.1 fun s2 σ2 => ?_
  walk_at "e"
  refine sign_ok F hl hc.1 fun s3 σ3 => ?_
  walk_at "e"
  refine sign_ok F hl hd.1 fun s4 σ4 => ?_
  have p1 := σ1.nonneg
  have p2' := σ2.nonneg
  have n1 := σ1.nonpos
  have n2 := σ2.nonpos
  obtain rfl := σ3.zero.mpr hC
  obtain rfl := σ4.zero.mpr hD
  by_cases z1 : s1 = s2 ∧ s2 = 0
  · walk_at "y"
    walk_at "y"
    walk_at "n"
    walk_at "n"
    walk_at "y"
    walk_at "y"
    walk_at "g"
    walk_at "e"
    exact h
  · walk_at "e"
    refine chain0 z1 ?_
    walk_at "n"
    walk_at "n"
    walk_at "n"
    walk_at "y"
    walk_at "e"
    refine br (fun q1 => ?_) (fun q1 => ?_)
    · walk_at "e"
      refine br (fun q2 => ?_) (fun q2 => ?_)
      · walk_at "g"
        walk_at "e"
        exact h
      · walk_at "y"
        walk_at "g"
        walk_at "e"
        exact h
    · walk_at "n"
      walk_at "y"
      walk_at "g"
      walk_at "e"
      exact h
end
end Mine
/-! part D11 -/
namespace Mine
open PySem PySem.W PyProof.Rows
set_option maxRecDepth 100000
-- one step of the evaluation: the goal's weak head
local macro_rules | `(tactic| walk_at "e") => `(tactic| conv => whnf)
-- a guard
local macro_rules | `(tactic| walk_at "g") => `(tactic| ((conv => whnf); refine And.intro ?_ ?_; focus (first | rfl | omega | assumption | (simp [asB, bl]; done) | (simp [asB]; omega) | (simp [SeqAt.shaped, PyData.canLay0, PyData.canLayAll0, PyData.depth, PyData.depthAll, PyData.strOk, tm, dS]; done) | decide)))
-- a branch that is decided by the facts
local macro_rules | `(tactic| walk_at "y") => `(tactic| ((conv => whnf); refine br1 ?_ ?_; focus (first | rfl | (simp [asB]; done) | (simp [asB]; omega) | (simp [asB, PyData.eqv, PyData.eqvAll, dS, tm]; done) | (simp [asB, PyData.eqv, PyData.eqvAll, dS, tm]; omega))))
local macro_rules | `(tactic| walk_at "n") => `(tactic| ((conv => whnf); refine br0 ?_ ?_; focus (first | rfl | (simp [asB]; done) | (simp [asB]; omega) | (simp [asB, PyData.eqv, PyData.eqvAll, dS, tm]; done) | (simp [asB, PyData.eqv, PyData.eqvAll, dS, tm]; omega))))


def Vl (B H : Int) (d : PyData) (x : Rat) : Prop := ∃ n e : Int, d = .tuple [.int n, .int e] ∧ x = val n e ∧ (bl n : Int) ≤ B ∧ -(H + B) ≤ e ∧ e ≤ H
theorem bl_add_pos {a b : Int} {k : Nat} (h1 : bl a ≤ k) (h2 : bl b ≤ k) : bl (a + b) ≤ k + 1 := by
  apply bl_le
  have h3 := bl_lt a
  have h4 := bl_lt b
  have h5 := Nat.pow_le_pow_right (n := 2) (by decide) h1
  have h6 := Nat.pow_le_pow_right (n := 2) (by decide) h2
  have h7 := Int.natAbs_add_le a b
  rw [Nat.pow_succ]
  omega
theorem fmod_pos (a : Int) {b : Int} (h : 0 < b) : 0 ≤ a.fmod b ∧ a.fmod b < b := ⟨Int.fmod_nonneg_of_pos a h, Int.fmod_lt_of_pos a h⟩
theorem pow_bits {n : Int} (h0 : 0 ≤ n) (h : n ≤ 24) : 0 < (2 : Int) ^ n.toNat ∧ (2 : Int) ^ n.toNat ≤ 2 ^ 24 := ⟨Int.pow_pos (by decide), pow_mono (by omega)⟩

section
variable {prog : Program} {w : World} {K : Frag} {N : Nat}

theorem mixed_ok (F : Facts K) (hl : Lit K w) {ns : List Int} {j : Int} {k : PyData → Prop} (h1 : ns.length ≤ 63) (h2 : ∀ n ∈ ns, Builtin.Int.intBits n ≤ 1048576) (hj : 0 ≤ j) (hj3 : j ≤ 3) (h : ∀ r : Int, k (.int r)) : Calls prog w K (N + 1) 180 [.list (ns.map .int), .int j] k := by
  refine en_u_law_mixed2 F hl 60 ?_
  have rest : ∀ n : Int, bl n ≤ 1048576 → vcS (Calls prog w K N) 59 [(2, .int n), (1, .int j), (0, .list (ns.map .int))] (c_u_law_mixed.drop 1) k (fun _ => False) := by
    intro n hn
    walk_at "g"
    walk_at "e"
    refine And.intro (by decide) ?_
    walk_at "e"
    refine br (fun q => ?_) (fun q => ?_)
    · walk_at "e"
      exact h _
    · walk_at "e"
      refine And.intro (IntMulOk.of_right (by decide)) ?_
      walk_at "e"
      refine And.intro (IntMulOk.of_right (by decide)) ?_
      walk_at "e"
      refine And.intro (by decide) ?_
      walk_at "e"
      refine And.intro ?_ ?_
      · have g1 : bl (n * 6364136223846793005) ≤ 1048640 := by
          have := bl_mul n 6364136223846793005
          have : bl 6364136223846793005 ≤ 64 := by decide
          omega
        have g2 : bl ((j + 1) * 1442695040888963407) ≤ 1048640 := by
          have := bl_mul (j + 1) 1442695040888963407
          have : bl 1442695040888963407 ≤ 64 := by decide
          have : bl (j + 1) ≤ 3 := bl_le (by omega)
          omega
        have g3 := bl_add_pos g1 g2
        have g4 : (bl (n * 6364136223846793005 + (j + 1) * 1442695040888963407) : Int) * 3 ≤ 2 ^ 27 := Int.le_trans (show _ ≤ (4000000 : Int) by omega) (by decide)
        exact g4
      walk_at "e"
      refine And.intro (by decide) ?_
      walk_at "e"
      refine And.intro (by decide) ?_
      walk_at "e"
      refine And.intro (by decide) ?_
      walk_at "e"
      refine And.intro (by decide) ?_
      walk_at "e"
      refine And.intro (by decide) ?_
      walk_at "e"
      refine And.intro (by decide) ?_
      walk_at "e"
      refine And.intro (by decide) ?_
      exact h _
  walk_at "e"
  refine And.intro (by rw [List.length_map]; omega) ?_
  walk_at "e"
  refine br (fun q => ?_) (fun q => ?_)
  · simp only [asB, List.length_map, decide_eq_true_eq] at q
    walk_at "e"
    refine And.intro (by omega) ?_
    have e1 : (ns.map PyData.int)[j.toNat]? = some (.int (ns[j.toNat]'(by omega))) := by
      rw [List.getElem?_map, List.getElem?_eq_getElem (by omega)]; rfl
    rw [e1]
    exact rest _ (h2 _ (List.getElem_mem _))
  · walk_at "e"
    exact rest 0 (by decide)
theorem made_ok (F : Facts K) (hl : Lit K w) {n e B : Int} {k : PyData → Prop} (hB : (bl n : Int) ≤ B) (hB1 : B ≤ 1000) (h : ∀ D, Nb B D (val n e) → k D) : Calls prog w K (N + 1) 187 [.int n, .int e] k := by
  refine en_u_law_made2 F hl 60 ?_
  have rest : ∀ s m : Int, (s = 0 ∨ s = 1) → 0 ≤ m → n = sg s * m → vcS (Calls prog w K N) 59 [(3, .int m), (2, .int s), (1, .int e), (0, .int n)] (c_u_law_made.drop 1) k (fun _ => False) := by
    intro s m hs hm hn
    have hbm : bl n = bl m := by rw [hn, bl_sg hs]
    by_cases hz : m = 0
    · subst hz
      walk_at "y"
      walk_at "g"
      walk_at "e"
      refine h _ ?_
      rw [hn, Int.mul_zero, val_zero]; exact Nb.zero (by omega)
    · walk_at "n"
      obtain ⟨o, t, h2, h3⟩ := strip_data (q := m) (by omega)
      have h4 := strip_bl h2 h3
      have e1 : ((Builtin.Int.intBits (Builtin.bitAnd m (-m)) : Nat) : Int) - 1 = (t : Int) := by
        rw [bitAnd_neg h2 h3]
        have := bl_two_pow t
        unfold bl at this
        rw [this]; omega
      have hp : (0 : Int) < 2 ^ t := Int.pow_pos (by decide)
      walk_at "e"
      rw [e1]
      refine And.intro (by omega) ?_
      walk_at "e"
      refine And.intro (by rw [show Builtin.Int.intBits 2 = 2 from rfl]; exact fits27 (by omega)) ?_
      walk_at "e"
      refine And.intro (by rw [Int.toNat_natCast]; omega) ?_
      walk_at "e"
      refine And.intro (by
        rw [Int.toNat_natCast, Int.natAbs_pow, show Int.natAbs 2 = 2 from rfl, Nat.log2_two_pow]; omega) ?_
      walk_at "g"
      walk_at "e"
      rw [strip_fdiv h2]
      have e2 : val n e = val (sg s * (o : Int)) (e + t) := by rw [hn, val_sg hs, val_sg hs, strip_val h2]
      exact h _ ⟨s, o, e + t, .inr ⟨hs, by omega, by omega⟩, rfl, e2, by omega⟩
  walk_at "e"
  refine br (fun q => ?_) (fun q => ?_)
  · simp only [asB, decide_eq_true_eq] at q
    walk_at "g"
    walk_at "g"
    exact rest 1 (-n) (.inr rfl) (by omega) (by rw [sg_one]; omega)
  · simp only [asB, decide_eq_false_iff_not] at q
    walk_at "g"
    walk_at "g"
    exact rest 0 n (.inl rfl) (by omega) (by rw [sg_zero]; omega)
theorem value_ok (F : Facts K) (hl : Lit K w) {B H : Int} {d : PyData} {X : Rat} {k : PyData → Prop} (hd : Nm B H d X) (hH : 0 ≤ H) (h : ∀ D, Vl B H D X → k D) : Calls prog w K (N + 1) 194 [d] k := by
  obtain ⟨⟨s, m, e, hc, rfl, rfl, hB⟩, hI⟩ := hd
  have he : -(H + B) ≤ e ∧ e ≤ H := by
    by_cases hm : m = 0
    · have := (cnz hc hm).2
      omega
    · exact exp_of hc hB hI hm
  refine en_u_law_value1 F hl 60 ?_
  walk_at "g"
  walk_at "e"
  refine And.intro (by decide) ?_
  walk_at "e"
  refine br (fun q => ?_) (fun q => ?_)
  · simp only [asB, beq_iff_eq] at q
    subst q
    walk_at "e"
    refine And.intro (by decide) ?_
    walk_at "e"
    refine And.intro (by decide) ?_
    walk_at "e"
    exact h _ ⟨-m, e, rfl, by rw [sg_val, if_pos rfl, val_neg], by rw [bl_neg]; exact hB, he⟩
  · simp only [asB, beq_eq_false_iff_ne] at q
    walk_at "e"
    refine And.intro (by decide) ?_
    walk_at "e"
    refine And.intro (by decide) ?_
    walk_at "e"
    exact h _ ⟨m, e, rfl, by rw [sg_val, if_neg q], hB, he⟩
theorem less_ok (F : Facts K) (hl : Lit K w) {B H : Int} {x y : PyData} {X Y : Rat} {k : PyData → Prop} (hx : Vl B H x X) (hy : Vl B H y Y) (hB1 : B ≤ 1000) (hH1 : H ≤ 1000) (h : ∀ b : Bool, (b = true ↔ X < Y) → k (.bool b)) : Calls prog w K (N + 1) 201 [x, y] k := by
  obtain ⟨n, e, rfl, rfl, hn, he1, he2⟩ := hx
  obtain ⟨m, f, rfl, rfl, hm, hf1, hf2⟩ := hy
  refine en_u_law_less2 F hl 60 ?_
  obtain ⟨L, hL, hLe, hLf, hL2⟩ : ∃ L, L = (if f < e then f else e) ∧ L ≤ e ∧ L ≤ f ∧ -(H + B) ≤ L := ⟨_, rfl, by split <;> omega, by split <;> omega, by split <;> omega⟩
  have b2 : Builtin.Int.intBits 2 = 2 := rfl
  have bp : ∀ t : Nat, bl (2 ^ t : Int) = t + 1 := fun t => by have := bl_two_pow t; rwa [Int.natCast_pow] at this
  walk_at "e"
  refine And.intro (by decide) ?_
  walk_at "e"
  refine And.intro (by decide) ?_
  walk_at "e"
  rw [← hL]
  refine And.intro (by decide) ?_
  walk_at "e"
  refine And.intro (by decide) ?_
  walk_at "e"
  refine And.intro (by omega) ?_
  walk_at "e"
  refine And.intro (by rw [b2]; exact fits27 (by omega)) ?_
  walk_at "e"
  refine And.intro (IntMulOk.of_bits (show bl n ≤ 2 ^ 20 by omega) (Nat.le_trans (Nat.le_of_eq (bp _)) (by omega))) ?_
  walk_at "e"
  refine And.intro (by decide) ?_
  walk_at "e"
  refine And.intro (by decide) ?_
  walk_at "e"
  refine And.intro (by omega) ?_
  walk_at "e"
  refine And.intro (by rw [b2]; exact fits27 (by omega)) ?_
  walk_at "e"
  refine And.intro (IntMulOk.of_bits (show bl m ≤ 2 ^ 20 by omega) (Nat.le_trans (Nat.le_of_eq (bp _)) (by omega))) ?_
  walk_at "e"
  refine h _ ?_
  rw [decide_eq_true_eq, val_down n e hLe, val_down m f hLf, val_lt]
theorem within_ok (F : Facts K) (hl : Lit K w) {B H : Int} {a e c d : PyData} {A E C D : Rat} {k : PyData → Prop} (ha : Nm B H a A) (he : Nm B H e E) (hc : Nm B H c C) (hd : Nm B H d D) (hB1 : B ≤ 1000) (hH0 : 0 ≤ H) (hH1 : H ≤ 1000) (h1 : C ≤ A) (h2 : E ≤ D) (h3 : A ≤ E) (h : k (.bool true)) : Calls prog w K (N + 2) 227 [iv a e, iv c d] k := by
  refine en_u_law_within2 F hl 60 ?_
  walk_at "e"
  refine And.intro (by simp) ?_
  walk_at "e"
  refine And.intro (by simp) ?_
  walk_at "e"
  refine And.intro (by simp) ?_
  walk_at "e"
  refine And.intro (by simp) ?_
  walk_at "e"
  refine value_ok F hl ha hH0 fun a' va => ?_
  refine And.intro (by obtain ⟨_, _, rfl, _⟩ := va; rfl) ?_
  walk_at "e"
  refine value_ok F hl he hH0 fun e' ve => ?_
  refine And.intro (by obtain ⟨_, _, rfl, _⟩ := ve; rfl) ?_
  walk_at "e"
  refine value_ok F hl hc hH0 fun c' vc => ?_
  refine And.intro (by obtain ⟨_, _, rfl, _⟩ := vc; rfl) ?_
  walk_at "e"
  refine value_ok F hl hd hH0 fun d' vd => ?_
  refine And.intro (by obtain ⟨_, _, rfl, _⟩ := vd; rfl) ?_
  walk_at "g"
  walk_at "e"
  refine less_ok F hl va vc hB1 hH1 fun b1 q1 => ?_
  obtain rfl : b1 = false := by
    cases b1
    · rfl
    · exact absurd (q1.mp rfl) (Rat.not_lt.mpr h1)
  walk_at "y"
  walk_at "e"
  refine less_ok F hl vd ve hB1 hH1 fun b1 q1 => ?_
  obtain rfl : b1 = false := by
    cases b1
    · rfl
    · exact absurd (q1.mp rfl) (Rat.not_lt.mpr h2)
  walk_at "y"
  walk_at "e"
  refine less_ok F hl ve va hB1 hH1 fun b1 q1 => ?_
  obtain rfl : b1 = false := by
    cases b1
    · rfl
    · exact absurd (q1.mp rfl) (Rat.not_lt.mpr h3)
  walk_at "e"
  exact h
end
end Mine
/-! part D12 -/
namespace Mine
open PySem PySem.W PyProof.Rows
set_option maxRecDepth 100000
-- one step of the evaluation: the goal's weak head
local macro_rules | `(tactic| walk_at "e") => `(tactic| conv => whnf)
-- a guard
local macro_rules | `(tactic| walk_at "g") => `(tactic| ((conv => whnf); refine And.intro ?_ ?_; focus (first | rfl | omega | assumption | (simp [asB, bl]; done) | (simp [asB]; omega) | (simp [SeqAt.shaped, PyData.canLay0, PyData.canLayAll0, PyData.depth, PyData.depthAll, PyData.strOk, tm, dS]; done) | decide)))
-- a branch that is decided by the facts
local macro_rules | `(tactic| walk_at "y") => `(tactic| ((conv => whnf); refine br1 ?_ ?_; focus (first | rfl | (simp [asB]; done) | (simp [asB]; omega) | (simp [asB, PyData.eqv, PyData.eqvAll, dS, tm]; done) | (simp [asB, PyData.eqv, PyData.eqvAll, dS, tm]; omega))))
local macro_rules | `(tactic| walk_at "n") => `(tactic| ((conv => whnf); refine br0 ?_ ?_; focus (first | rfl | (simp [asB]; done) | (simp [asB]; omega) | (simp [asB, PyData.eqv, PyData.eqvAll, dS, tm]; done) | (simp [asB, PyData.eqv, PyData.eqvAll, dS, tm]; omega))))


theorem abs_if (n : Int) : (if n < 0 then -n else n) = (n.natAbs : Int) := by split <;> omega

section
variable {prog : Program} {w : World} {K : Frag} {N : Nat}

theorem grid_ok (F : Facts K) (hl : Lit K w) {r : Int} {k : PyData → Prop} (h : ∀ low high e : Int, low ≤ high → high - low ≤ 2 ^ 24 → -2 ^ 24 ≤ low → low ≤ 2 ^ 24 → -12 ≤ e → e ≤ 12 → k (.tuple [.int low, .int high, .int e])) : Calls prog w K (N + 1) 208 [.int r] k := by
  refine en_u_law_grid1 F hl 60 ?_
  obtain ⟨bits, hb, hb1, hb2⟩ : ∃ bits, bits = 1 + (r.fdiv 150).fmod 24 ∧ 1 ≤ bits ∧ bits ≤ 24 := ⟨_, rfl, by have := fmod_pos (r.fdiv 150) (b := 24) (by decide); omega, by have := fmod_pos (r.fdiv 150) (b := 24) (by decide); omega⟩
  obtain ⟨wb, hw, hw1, hw2⟩ : ∃ wb, wb = 1 + (r.fdiv (2 ^ (66 : Int).toNat)).fmod 24 ∧ 1 ≤ wb ∧ wb ≤ 24 := ⟨_, rfl, by have := fmod_pos (r.fdiv (2 ^ (66 : Int).toNat)) (b := 24) (by decide); omega, by have := fmod_pos (r.fdiv (2 ^ (66 : Int).toNat)) (b := 24) (by decide); omega⟩
  have i1 : (Builtin.Int.intBits 2 : Int) = 2 := rfl
  have pb := pow_bits (n := bits) (by omega) hb2
  have pb1 := pow_bits (n := bits - 1) (by omega) (by omega)
  have pw := pow_bits (n := wb) (by omega) hw2
  have hp2 : (2 : Int) ^ bits.toNat = 2 * 2 ^ (bits - 1).toNat := by rw [show bits.toNat = (bits - 1).toNat + 1 by omega, Int.pow_succ]; omega
  obtain ⟨low, hlow, low1, low2⟩ : ∃ low, low = (r.fdiv (2 ^ (13 : Int).toNat)).fmod (2 ^ bits.toNat) - 2 ^ (bits - 1).toNat ∧ -2 ^ 24 ≤ low ∧ low ≤ 2 ^ 24 := by
    have := fmod_pos (r.fdiv (2 ^ (13 : Int).toNat)) pb.1
    exact ⟨_, rfl, by omega, by omega⟩
  obtain ⟨wide, hwide, wide1, wide2⟩ : ∃ wide, wide = (r.fdiv (2 ^ (40 : Int).toNat)).fmod (2 ^ wb.toNat) ∧ 0 ≤ wide ∧ wide ≤ 2 ^ 24 := by
    have := fmod_pos (r.fdiv (2 ^ (40 : Int).toNat)) pw.1
    exact ⟨_, rfl, by omega, by omega⟩
  have fe := fmod_pos (r.fdiv 6) (b := 25) (by decide)
  walk_at "g"
  walk_at "g"
  walk_at "e"
  refine And.intro (by first | decide | simp) ?_
  walk_at "e"
  refine And.intro (by first | decide | simp) ?_
  walk_at "e"
  refine And.intro (by first | decide | simp) ?_
  walk_at "e"
  refine And.intro (by first | decide | simp) ?_
  walk_at "e"
  refine And.intro (by first | decide | simp) ?_
  walk_at "e"
  refine And.intro (by first | decide | simp) ?_
  walk_at "e"
  rw [← hb]
  refine And.intro (by first | decide | simp) ?_
  walk_at "e"
  refine And.intro (by first | decide | simp) ?_
  walk_at "e"
  refine And.intro (by first | decide | simp) ?_
  walk_at "e"
  refine And.intro (by first | decide | simp) ?_
  walk_at "e"
  refine And.intro (by first | decide | simp) ?_
  walk_at "e"
  refine And.intro (by first | decide | simp) ?_
  walk_at "e"
  refine And.intro (by omega) ?_
  walk_at "e"
  refine And.intro (by rw [i1]; exact fits27 (by omega)) ?_
  walk_at "e"
  refine And.intro (by omega) ?_
  walk_at "e"
  refine And.intro (by omega) ?_
  walk_at "e"
  refine And.intro (by rw [i1]; exact fits27 (by omega)) ?_
  walk_at "e"
  rw [← hlow]
  refine And.intro (by first | decide | simp) ?_
  walk_at "e"
  refine And.intro (by first | decide | simp) ?_
  walk_at "e"
  refine And.intro (by first | decide | simp) ?_
  walk_at "e"
  refine And.intro (by first | decide | simp) ?_
  walk_at "e"
  refine And.intro (by first | decide | simp) ?_
  walk_at "e"
  refine And.intro (by first | decide | simp) ?_
  walk_at "e"
  refine And.intro (by first | decide | simp) ?_
  walk_at "e"
  refine And.intro (by first | decide | simp) ?_
  walk_at "e"
  refine And.intro (by first | decide | simp) ?_
  walk_at "e"
  rw [← hw]
  refine And.intro (by omega) ?_
  walk_at "e"
  refine And.intro (by rw [i1]; exact fits27 (by omega)) ?_
  walk_at "e"
  refine And.intro (by omega) ?_
  walk_at "e"
  rw [← hwide]
  refine And.intro (by first | decide | simp) ?_
  walk_at "e"
  refine br (fun q1 => ?_) (fun q1 => ?_)
  · walk_at "g"
    walk_at "e"
    exact h _ _ _ (by omega) (by omega) (by omega) (by omega) (by omega) (by omega)
  · walk_at "e"
    refine br (fun q2 => ?_) (fun q2 => ?_)
    · walk_at "g"
      walk_at "e"
      exact h _ _ _ (by omega) (by omega) (by omega) (by omega) (by omega) (by omega)
    · walk_at "e"
      refine br (fun q3 => ?_) (fun q3 => ?_)
      · walk_at "g"
        walk_at "e"
        exact h _ _ _ (by omega) (by omega) (by omega) (by omega) (by omega) (by omega)
      · walk_at "g"
        walk_at "e"
        exact h _ _ _ (by omega) (by omega) (by omega) (by omega) (by omega) (by omega)
theorem apart_ok (F : Facts K) (hl : Lit K w) {r : Int} {k : PyData → Prop} (h : ∀ low high e : Int, low ≤ high → (0 < low ∨ high < 0) → -2 ^ 26 < low → high < 2 ^ 26 → -12 ≤ e → e ≤ 12 → k (.tuple [.int low, .int high, .int e])) : Calls prog w K (N + 2) 215 [.int r] k := by
  refine en_u_law_apart1 F hl 60 ?_
  walk_at "e"
  refine grid_ok F hl fun low high e g1 g2 g3 g4 g5 g6 => ?_
  walk_at "g"
  walk_at "e"
  refine And.intro (by first | decide | simp) ?_
  walk_at "e"
  rw [abs_if]
  refine And.intro (by first | decide | simp) ?_
  walk_at "e"
  refine And.intro (by first | decide | simp) ?_
  walk_at "e"
  refine And.intro (by first | decide | simp) ?_
  walk_at "e"
  refine And.intro (by first | decide | simp) ?_
  walk_at "e"
  refine And.intro (by first | decide | simp) ?_
  walk_at "e"
  refine And.intro (by first | decide | simp) ?_
  walk_at "e"
  refine br (fun q1 => ?_) (fun q1 => ?_)
  · walk_at "g"
    walk_at "e"
    exact h _ _ _ (by omega) (.inl (by omega)) (by omega) (by omega) (by omega) (by omega)
  · walk_at "g"
    walk_at "e"
    exact h _ _ _ (by omega) (.inr (by omega)) (by omega) (by omega) (by omega) (by omega)
theorem span_ok (F : Facts K) (hl : Lit K w) {low high e : Int} {k : PyData → Prop} (h1 : -2 ^ 26 < low) (h2 : low < 2 ^ 26) (h3 : -2 ^ 26 < high) (h4 : high < 2 ^ 26) (h5 : -12 ≤ e) (h6 : e ≤ 12) (h : ∀ a b, Nm 26 38 a (val low e) → Nm 26 38 b (val high e) → k (iv a b)) : Calls prog w K (N + 2) 222 [.tuple [.int low, .int high, .int e]] k := by
  have b1 : (bl low : Int) ≤ 26 := by have := bl_le (n := low) (k := 26) (by omega); omega
  have b2 : (bl high : Int) ≤ 26 := by have := bl_le (n := high) (k := 26) (by omega); omega
  refine en_u_law_span1 F hl 60 ?_
  walk_at "g"
  walk_at "e"
  refine And.intro (by first | decide | simp) ?_
  walk_at "e"
  refine And.intro (by first | decide | simp) ?_
  walk_at "e"
  refine made_ok F hl b1 (by decide) fun a g1 => ?_
  walk_at "e"
  refine And.intro (by first | decide | simp) ?_
  walk_at "e"
  refine And.intro (by first | decide | simp) ?_
  walk_at "e"
  refine made_ok F hl b2 (by decide) fun b g2 => ?_
  walk_at "e"
  exact h a b ⟨g1, In.of_val b1 (by omega) (by omega)⟩ ⟨g2, In.of_val b2 (by omega) (by omega)⟩
theorem due_ok (F : Facts K) (hl : Lit K w) {B H : Int} {a e q0 q1 : PyData} {A E : Rat} {ab : Bool} {k : PyData → Prop} (ha : Nm B H a A) (he : Nm B H e E) (hH : 0 ≤ H) (h : ∀ d, d = (if (A < 0 ∧ 0 < E) ∨ (A = 0 ∧ E = 0) then iv fninf finf else if decide (0 ≤ A) = ab then iv q0 finf else iv fninf q1) → k d) : Calls prog w K (N + 2) 234 [iv a e, .bool ab, iv q0 q1] k := by
  refine en_u_law_due_beside3 F hl 60 ?_
  walk_at "g"
  walk_at "e"
  refine And.intro (by first | decide | simp) ?_
  walk_at "e"
  refine value_ok F hl ha hH fun va hva => ?_
  obtain ⟨n, f, rfl, rfl, hv1⟩ := hva
  walk_at "e"
  refine And.intro (by first | decide | simp) ?_
  walk_at "e"
  refine And.intro (by first | decide | simp) ?_
  walk_at "e"
  refine value_ok F hl he hH fun ve hve => ?_
  obtain ⟨m, g, rfl, rfl, hv2⟩ := hve
  walk_at "e"
  refine And.intro (by first | decide | simp) ?_
  walk_at "g"
  have e1 : val n f < 0 ↔ n < 0 := by rw [← val_zero f, val_lt]
  have e2 : 0 < val m g ↔ 0 < m := val_pos
  have e3 : val n f = 0 ↔ n = 0 := val_eq_zero
  have e4 : val m g = 0 ↔ m = 0 := val_eq_zero
  have e5 : 0 ≤ val n f ↔ 0 ≤ n := val_nonneg
  simp only [e1, e2, e3, e4, e5] at h
  have no : ¬ ((n < 0 ∧ 0 < m) ∨ (n = 0 ∧ m = 0)) → vcS (Calls prog w K (N + 1)) 58 [(4, .int m), (3, .int n), (2, iv q0 q1), (1, .bool ab), (0, iv a e)] (c_u_law_due_beside.drop 2) k (fun _ => False) := by
    intro z
    rw [if_neg z] at h
    walk_at "e"
    refine And.intro (by simp [SeqAt.shaped, PyData.canLay0, PyData.depth]) ?_
    walk_at "e"
    refine And.intro (by simp [SeqAt.shaped, PyData.canLay0, PyData.depth]) ?_
    walk_at "e"
    refine br (fun q1 => ?_) (fun q1 => ?_)
    · simp only [asB, PyData.eqv, beq_iff_eq] at q1
      rw [if_pos q1] at h
      walk_at "g"
      walk_at "e"
      refine And.intro (by first | decide | simp) ?_
      walk_at "e"
      exact h _ rfl
    · simp only [asB, PyData.eqv, beq_eq_false_iff_ne] at q1
      rw [if_neg q1] at h
      walk_at "g"
      walk_at "e"
      refine And.intro (by first | decide | simp) ?_
      walk_at "e"
      exact h _ rfl
  by_cases n0 : n < 0
  · walk_at "y"
    by_cases m0 : 0 < m
    · rw [if_pos (.inl ⟨n0, m0⟩)] at h
      walk_at "y"
      walk_at "y"
      walk_at "g"
      walk_at "e"
      exact h _ rfl
    · walk_at "n"
      walk_at "n"
      walk_at "n"
      exact no (by omega)
  · walk_at "n"
    walk_at "n"
    by_cases n1 : n = 0
    · walk_at "y"
      by_cases m1 : m = 0
      · rw [if_pos (.inr ⟨n1, m1⟩)] at h
        walk_at "y"
        walk_at "g"
        walk_at "e"
        exact h _ rfl
      · walk_at "n"
        exact no (by omega)
    · walk_at "n"
      walk_at "n"
      exact no (by omega)
end
end Mine
/-! part D13 -/
namespace Mine
open PySem PySem.W PyProof.Rows
set_option maxRecDepth 100000
theorem Nb.uniq {B B' : Int} {d d' : PyData} {x : Rat} (h : Nb B d x) (g : Nb B' d' x) : d = d' := by
  obtain ⟨s, m, e, hc, rfl, rfl, hB⟩ := h
  obtain ⟨t, n, f, hd, rfl, hv, hC⟩ := g
  have z1 : val (sg s * m) e = 0 ↔ m = 0 := by
    rw [val_eq_zero, Int.mul_eq_zero]
    rcases sg_cases (cn01 hc) with q | q <;> rw [q] <;> simp
  have z2 : val (sg t * n) f = 0 ↔ n = 0 := by
    rw [val_eq_zero, Int.mul_eq_zero]
    rcases sg_cases (cn01 hd) with q | q <;> rw [q] <;> simp
  by_cases hm : m = 0
  · have hn : n = 0 := z2.mp (by rw [← hv]; exact z1.mpr hm)
    obtain ⟨rfl, rfl⟩ := cnz hc hm
    obtain ⟨rfl, rfl⟩ := cnz hd hn
    rw [hm, hn]
  · have hn : n ≠ 0 := fun q => hm (z1.mp (by rw [hv]; exact z2.mpr q))
    obtain ⟨a1, a2⟩ := cnpos hc hm
    obtain ⟨b1, b2⟩ := cnpos hd hn
    obtain ⟨c1, c2⟩ := val_odd_unique (sg_odd (cn01 hc) a2) (sg_odd (cn01 hd) b2) hv
    subst c2
    have c3 : s = t ∧ m = n := by
      rcases cn01 hc with rfl | rfl <;> rcases cn01 hd with rfl | rfl <;> simp [sg] at c1 <;> omega
    obtain ⟨rfl, rfl⟩ := c3
    rfl
def Tm (d : PyData) : Prop := ∃ a b c e, d = tm a b c e
theorem Nb.tm {B : Int} {d : PyData} {x : Rat} (h : Nb B d x) : Tm d := by
  obtain ⟨_, _, _, _, rfl, _⟩ := h
  exact ⟨_, _, _, _, rfl⟩
theorem tm_inf : Tm finf := ⟨_, _, _, _, rfl⟩
theorem tm_ninf : Tm fninf := ⟨_, _, _, _, rfl⟩
theorem shaped_iv {a b : PyData} (ha : Tm a) (hb : Tm b) : SeqAt.shaped (iv a b) = true := by
  obtain ⟨_, _, _, _, rfl⟩ := ha
  obtain ⟨_, _, _, _, rfl⟩ := hb
  simp [SeqAt.shaped, PyData.canLay0, PyData.canLayAll0, PyData.depth, PyData.depthAll, Mine.tm]
theorem eqv_iv {a b : PyData} (ha : Tm a) (hb : Tm b) : PyData.eqv (iv a b) (iv a b) = true := by
  obtain ⟨_, _, _, _, rfl⟩ := ha
  obtain ⟨_, _, _, _, rfl⟩ := hb
  simp [PyData.eqv, PyData.eqvAll, Mine.tm]

theorem rnd_pos {H : Int} {d : Bool} {p : Nat} {x r : Rat} (hp : 1 ≤ p) (hI : In H x) (hx : 0 < x) (h : Rnd d p x r) : 0 < r := by
  have q := p2_pos (-H)
  rcases hI with e | e | e
  · exfalso; grind
  · have := Rnd.mono (Rnd.exact (d := d) (Rp.pow hp (-H))) h e.1
    grind
  · exfalso; grind
theorem rnd_neg {H : Int} {d : Bool} {p : Nat} {x r : Rat} (hp : 1 ≤ p) (hI : In H x) (hx : x < 0) (h : Rnd d p x r) : r < 0 := by
  have := rnd_pos hp hI.neg (by grind) h.neg
  grind
theorem DivB.unique {A E C D L U L' U' : Rat} (hAE : A ≤ E) (hCD : C ≤ D) (h : DivB A E C D L U) (g : DivB A E C D L' U') : L = L' ∧ U = U' := by
  have lo : ∀ {L U L' U' : Rat}, DivB A E C D L U → DivB A E C D L' U' → L ≤ L' := by
    intro L U L' U' h g
    obtain ⟨x, y, hx, hy, e⟩ := g.2.1
    rw [e]
    exact (h.1 x y (by grind) (by grind) (by grind) (by grind)).1
  have hi : ∀ {L U L' U' : Rat}, DivB A E C D L U → DivB A E C D L' U' → U' ≤ U := by
    intro L U L' U' h g
    obtain ⟨x, y, hx, hy, e⟩ := g.2.2
    rw [e]
    exact (h.1 x y (by grind) (by grind) (by grind) (by grind)).2
  exact ⟨Rat.le_antisymm (lo h g) (lo g h), Rat.le_antisymm (hi g h) (hi h g)⟩
theorem neg_div' (x y : Rat) : (-x) / y = -(x / y) := by rw [Rat.div_def, Rat.div_def, Rat.neg_mul]
theorem div_neg' (x y : Rat) : x / (-y) = -(x / y) := by rw [Rat.div_def, Rat.div_def, rat_neg_inv, Rat.mul_neg]
theorem DivB.negnum {A E C D L U : Rat} (h : DivB (-E) (-A) C D L U) : DivB A E C D (-U) (-L) := by
  obtain ⟨h1, ⟨x, y, hx, hy, h2⟩, ⟨z, v, hz, hv, h3⟩⟩ := h
  refine ⟨fun x y a1 a2 a3 a4 => ?_, ⟨-z, v, ?_, hv, ?_⟩, ⟨-x, y, ?_, hy, ?_⟩⟩
  · have := h1 (-x) y (by grind) (by grind) a3 a4
    rw [neg_div'] at this
    constructor <;> grind
  · grind
  · rw [neg_div', h3]
  · grind
  · rw [neg_div', h2]
theorem DivB.negden {A E C D L U : Rat} (h : DivB A E (-D) (-C) L U) : DivB A E C D (-U) (-L) := by
  obtain ⟨h1, ⟨x, y, hx, hy, h2⟩, ⟨z, v, hz, hv, h3⟩⟩ := h
  refine ⟨fun x y a1 a2 a3 a4 => ?_, ⟨z, -v, hz, ?_, ?_⟩, ⟨x, -y, hx, ?_, ?_⟩⟩
  · have := h1 x (-y) a1 a2 (by grind) (by grind)
    rw [div_neg'] at this
    constructor <;> grind
  · grind
  · rw [div_neg', h3]
  · grind
  · rw [div_neg', h2]
theorem DivB.inn {H G : Int} {A E C D L U : Rat} (h : DivB A E C D L U) (a : In H A) (e : In H E) (c : In G C) (d : In G D) : In (H + G) L ∧ In (H + G) U := by
  obtain ⟨_, ⟨x, y, hx, hy, rfl⟩, ⟨z, v, hz, hv, rfl⟩⟩ := h
  constructor
  · rcases hx with rfl | rfl <;> rcases hy with rfl | rfl <;> apply In.div <;> assumption
  · rcases hz with rfl | rfl <;> rcases hv with rfl | rfl <;> apply In.div <;> assumption
theorem DivB.le {A E C D L U : Rat} (h : DivB A E C D L U) (hAE : A ≤ E) (hCD : C ≤ D) : L ≤ U := by
  have := h.1 A C Rat.le_refl hAE Rat.le_refl hCD
  grind
theorem absLo_neg (A E : Rat) (h : A ≤ E) : absLo (-E) (-A) = absLo A E := by
  unfold absLo
  grind
theorem absHi_neg (A E : Rat) (h : A ≤ E) : absHi (-E) (-A) = absHi A E := by
  unfold absHi
  grind
theorem div_nonneg' {x y : Rat} (hx : 0 ≤ x) (hy : 0 < y) : 0 ≤ x / y := by
  rw [Rat.div_def]; exact Rat.mul_nonneg hx (Rat.le_of_lt (Rat.inv_pos.mpr hy))
theorem div_pos' {x y : Rat} (hx : 0 < x) (hy : 0 < y) : 0 < x / y := by
  rw [Rat.div_def]; exact Rat.mul_pos hx (Rat.inv_pos.mpr hy)
theorem div_mono' {x z y : Rat} (h : x < z) (hy : 0 < y) : x / y < z / y := by
  have := div_pos' (x := z - x) (by grind) hy
  rw [Rat.div_def] at *
  rw [Rat.div_def]
  grind
theorem divb_abs_pos {A E C D L U : Rat} (hAE : A ≤ E) (hCD : C ≤ D) (hC : 0 < C) (h : DivB A E C D L U) : DivB (absLo A E) (absHi A E) C D (absLo L U) (absHi L U) := by
  have hD : 0 < D := by grind
  by_cases a : 0 ≤ A
  · obtain ⟨rfl, rfl⟩ := DivB.unique hAE hCD h (divb_of hC hAE hCD (.inl ⟨a, rfl⟩) (.inl ⟨by grind, rfl⟩))
    have := div_nonneg' a hD
    unfold absLo absHi
    rw [if_pos a, if_pos a, if_pos this, if_pos this]
    exact h
  · by_cases e : 0 ≤ E
    · obtain ⟨rfl, rfl⟩ := DivB.unique hAE hCD h (divb_of hC hAE hCD (.inr ⟨by grind, rfl⟩) (.inl ⟨e, rfl⟩))
      have h1 := div_nonneg' e hC
      have h2 : A / C < 0 := by have := div_mono' (x := A) (z := 0) (by grind) hC; rwa [zero_div'] at this
      have h3 : ¬ 0 ≤ A / C := by grind
      unfold absLo absHi
      rw [if_neg a, if_neg a, if_neg h3, if_neg h3, if_pos e, if_pos e, if_pos h1, if_pos h1]
      by_cases m : -A < E
      · have := div_mono' m hC
        rw [neg_div'] at this
        rw [if_pos m, if_pos this]
        exact divb_of hC e hCD (.inl ⟨Rat.le_refl, by rw [zero_div']⟩) (.inl ⟨e, rfl⟩)
      · have : ¬ -(A / C) < E / C := by
          intro q
          rw [← neg_div'] at q
          by_cases q2 : E = -A
          · rw [q2] at q; grind
          · have := div_mono' (x := E) (z := -A) (by grind) hC
            grind
        rw [if_neg m, if_neg this]
        exact divb_of hC (by grind) hCD (.inl ⟨Rat.le_refl, by rw [zero_div']⟩) (.inl ⟨by grind, by rw [neg_div']⟩)
    · obtain ⟨rfl, rfl⟩ := DivB.unique hAE hCD h (divb_of hC hAE hCD (.inr ⟨by grind, rfl⟩) (.inr ⟨by grind, rfl⟩))
      have h1 : E / D < 0 := by have := div_mono' (x := E) (z := 0) (by grind) hD; rwa [zero_div'] at this
      have h2 : A / C < 0 := by have := div_mono' (x := A) (z := 0) (by grind) hC; rwa [zero_div'] at this
      have h3 : ¬ 0 ≤ A / C := by grind
      have h4 : ¬ 0 ≤ E / D := by grind
      unfold absLo absHi
      rw [if_neg a, if_neg a, if_neg h3, if_neg h3, if_neg e, if_neg e, if_neg h4, if_neg h4]
      exact divb_of hC (by grind) hCD (.inl ⟨by grind, by rw [neg_div']⟩) (.inl ⟨by grind, by rw [neg_div']⟩)
theorem divb_abs {A E C D L U : Rat} (hAE : A ≤ E) (hCD : C ≤ D) (hC : 0 < C ∨ D < 0) (h : DivB A E C D L U) : DivB (absLo A E) (absHi A E) (absLo C D) (absHi C D) (absLo L U) (absHi L U) := by
  rcases hC with hC | hD
  · have : absLo C D = C ∧ absHi C D = D := by unfold absLo absHi; rw [if_pos (Rat.le_of_lt hC), if_pos (Rat.le_of_lt hC)]; exact ⟨rfl, rfl⟩
    rw [this.1, this.2]
    exact divb_abs_pos hAE hCD hC h
  · have h' : DivB (-E) (-A) (-D) (-C) L U := DivB.negs (by rw [Rat.neg_neg, Rat.neg_neg, Rat.neg_neg, Rat.neg_neg]; exact h)
    have g := divb_abs_pos (by grind) (by grind) (by grind) h'
    rw [absLo_neg A E hAE, absHi_neg A E hAE] at g
    have : absLo C D = -D ∧ absHi C D = -C := by unfold absLo absHi; rw [if_neg (by grind), if_neg (by grind), if_neg (by grind), if_neg (by grind)]; exact ⟨rfl, rfl⟩
    rw [this.1, this.2]
    exact g
theorem rnd_abs {H : Int} {p : Nat} (hp : 1 ≤ p) {L U a b : Rat} (hLU : L ≤ U) (hI : In H U) (h1 : Rnd true p L a) (h2 : Rnd false p U b) : Rnd true p (absLo L U) (absLo a b) ∧ Rnd false p (absHi L U) (absHi a b) := by
  unfold absLo absHi
  by_cases l : 0 ≤ L
  · have := h1.nonneg l
    rw [if_pos l, if_pos l, if_pos this, if_pos this]
    exact ⟨h1, h2⟩
  · have := h1.le
    have l2 : ¬ 0 ≤ a := by grind
    rw [if_neg l, if_neg l, if_neg l2, if_neg l2]
    by_cases u : 0 ≤ U
    · have u2 := h2.nonneg u
      rw [if_pos u, if_pos u, if_pos u2, if_pos u2]
      refine ⟨Rnd.zero, ?_⟩
      have h3 : Rnd false p (-L) (-a) := h1.neg
      by_cases m : -L < U
      · rw [if_pos m]
        have := Rnd.mono h3 h2 (Rat.le_of_lt m)
        by_cases m2 : -a < b
        · rw [if_pos m2]; exact h2
        · rw [if_neg m2, show -a = b by grind]; exact h2
      · rw [if_neg m]
        have := Rnd.mono h2 h3 (Rat.not_lt.mp m)
        rw [if_neg (by grind)]
        exact h3
    · have u2 := rnd_neg hp hI (by grind) h2
      have u3 : ¬ 0 ≤ b := by grind
      rw [if_neg u, if_neg u, if_neg u3, if_neg u3]
      exact ⟨h2.neg, h1.neg⟩
end Mine
/-! part D14 -/
namespace Mine
open PySem PySem.W PyProof.Rows
set_option maxRecDepth 100000
-- one step of the evaluation: the goal's weak head
local macro_rules | `(tactic| walk_at "e") => `(tactic| conv => whnf)
-- a guard
local macro_rules | `(tactic| walk_at "g") => `(tactic| ((conv => whnf); refine And.intro ?_ ?_; focus (first | rfl | omega | assumption | (simp [asB, bl]; done) | (simp [asB]; omega) | (simp [SeqAt.shaped, PyData.canLay0, PyData.canLayAll0, PyData.depth, PyData.depthAll, PyData.strOk, tm, dS]; done) | decide)))
-- a branch that is decided by the facts
local macro_rules | `(tactic| walk_at "y") => `(tactic| ((conv => whnf); refine br1 ?_ ?_; focus (first | rfl | (simp [asB]; done) | (simp [asB]; omega) | (simp [asB, PyData.eqv, PyData.eqvAll, dS, tm]; done) | (simp [asB, PyData.eqv, PyData.eqvAll, dS, tm]; omega))))
local macro_rules | `(tactic| walk_at "n") => `(tactic| ((conv => whnf); refine br0 ?_ ?_; focus (first | rfl | (simp [asB]; done) | (simp [asB]; omega) | (simp [asB, PyData.eqv, PyData.eqvAll, dS, tm]; done) | (simp [asB, PyData.eqv, PyData.eqvAll, dS, tm]; omega))))


theorem neq_iv {a b : PyData} (ha : Tm a) (hb : Tm b) : asB (.bool (!PyData.eqv (iv a b) (iv a b))) = false := by
  rw [eqv_iv ha hb]; rfl
theorem abs_le' {A E : Rat} (h : A ≤ E) : absLo A E ≤ absHi A E := by
  unfold absLo absHi
  grind
theorem abs_pos' {C D : Rat} (hl : C ≤ D) (h : 0 < C ∨ D < 0) : 0 < absLo C D := by
  unfold absLo
  grind
theorem mul_div' (x : Rat) {y : Rat} (h : y ≠ 0) : x * y / y = x := by rw [Rat.div_def, Rat.mul_assoc, Rat.mul_inv_cancel y h, Rat.mul_one]
theorem mul_one_div' (x y : Rat) : x * (1 / y) = x / y := by rw [Rat.div_def, Rat.div_def, Rat.one_mul]
theorem one_div_one_div' (x : Rat) : 1 / (1 / x) = x := by rw [Rat.div_def, Rat.div_def, Rat.one_mul, Rat.one_mul, Rat.inv_inv]
theorem add_div' (x z y : Rat) : (x + z) / y = x / y + z / y := by rw [Rat.div_def, Rat.div_def, Rat.div_def, Rat.add_mul]
section
variable {prog : Program} {w : World} {K : Frag} {N : Nat}
theorem mpi_div_ok (F : Facts K) (hl : Lit K w) {p : Nat} {B H B' G : Int} {a e c d : PyData} {A E C D : Rat} {k : PyData → Prop} (hp : 1 ≤ p) (hp1 : p ≤ 1000) (ha : Nm B H a A) (he : Nm B H e E) (hc : Nm B' G c C) (hd : Nm B' G d D) (hAE : A ≤ E) (hB1 : B ≤ 1000) (hG1 : B' ≤ 1000) (hCD : C ≤ D) (hS : 0 < C ∨ D < 0) (h : ∀ l u L' U' L U, Nm p (H + G) l L' → Nm p (H + G) u U' → Rnd true p L L' → Rnd false p U U' → DivB A E C D L U → k (iv l u)) : Calls prog w K (N + 6) 173 [iv a e, iv c d, .int p] k := by
  rcases hS with q | q
  · exact div_pos_ok F hl hp hp1 ha he hc hd hAE hB1 hG1 hCD q h
  · exact div_neg_ok F hl hp hp1 ha he hc hd hAE hB1 hG1 hCD q h
theorem law_ok (F : Facts K) (hl : Lit K w) {ns : List Int} (h1 : ns.length ≤ 63) (h2 : ∀ n ∈ ns, Builtin.Int.intBits n ≤ 1048576) : vcS (Calls prog w K (N + 40)) 60 [(0, .list (ns.map .int))] c_law (fun d => d = .bool true) (fun _ => False) := by
  walk_at "e"
  refine mixed_ok F hl h1 h2 (by decide) (by decide) fun r0 => ?_
  walk_at "e"
  refine And.intro (by decide) ?_
  obtain ⟨p, hpe, hp, hp60⟩ : ∃ p : Nat, 1 + r0.fmod 60 = (p : Int) ∧ 1 ≤ p ∧ p ≤ 60 := by
    have := fmod_pos r0 (b := 60) (by decide)
    exact ⟨(1 + r0.fmod 60).toNat, by omega, by omega, by omega⟩
  walk_at "e"
  rw [hpe]
  refine And.intro (by first | decide | simp) ?_
  walk_at "e"
  refine mixed_ok F hl h1 h2 (by decide) (by decide) fun r1 => ?_
  walk_at "e"
  refine grid_ok F hl fun n1 m1 f1 a1 a2 a3 a4 a5 a6 => ?_
  walk_at "e"
  refine span_ok F hl (by omega) (by omega) (by omega) (by omega) a5 a6 fun sa sb hsa hsb => ?_
  have hS : val n1 f1 ≤ val m1 f1 := val_le.mpr a1
  clear a1 a2 a3 a4 a5 a6
  generalize val n1 f1 = A at hsa hS
  generalize val m1 f1 = E at hsb hS
  walk_at "e"
  refine mixed_ok F hl h1 h2 (by decide) (by decide) fun r2 => ?_
  walk_at "e"
  refine grid_ok F hl fun n2 m2 f2 a1 a2 a3 a4 a5 a6 => ?_
  walk_at "e"
  refine span_ok F hl (by omega) (by omega) (by omega) (by omega) a5 a6 fun ua ub hua hub => ?_
  have hU : val n2 f2 ≤ val m2 f2 := val_le.mpr a1
  clear a1 a2 a3 a4 a5 a6
  generalize val n2 f2 = A2 at hua hU
  generalize val m2 f2 = E2 at hub hU
  walk_at "e"
  refine And.intro (by first | decide | simp) ?_
  walk_at "e"
  refine mixed_ok F hl h1 h2 (by decide) (by decide) fun r3 => ?_
  walk_at "e"
  refine apart_ok F hl fun low high f a1 a2 a3 a4 a5 a6 => ?_
  walk_at "g"
  walk_at "e"
  refine And.intro (by first | decide | simp) ?_
  walk_at "g"
  walk_at "e"
  refine span_ok F hl (by omega) (by omega) (by omega) (by omega) a5 a6 fun ta tb hta htb => ?_
  have hCD : val low f ≤ val high f := val_le.mpr a1
  have hC0 : 0 < low ↔ 0 < val low f := val_pos.symm
  have hD0 : high < 0 ↔ val high f < 0 := by rw [← val_zero f, val_lt]
  obtain ⟨C, hCe⟩ : ∃ C, val low f = C := ⟨_, rfl⟩
  obtain ⟨D, hDe⟩ : ∃ D, val high f = D := ⟨_, rfl⟩
  rw [hCe] at hta hCD hC0
  rw [hDe] at htb hCD hD0
  have hsgn : 0 < C ∨ D < 0 := by
    rcases a2 with q | q
    · exact .inl (hC0.mp q)
    · exact .inr (hD0.mp q)
  walk_at "e"
  refine made_ok (n := 1) (e := 0) (B := 26) F hl (by decide) (by decide) fun one hone' => ?_
  have hone : Nm 26 38 one 1 := by
    have e1 : val 1 0 = 1 := by rw [val_one, p2_zero]
    rw [e1] at hone'
    refine ⟨hone', ?_⟩
    rw [← e1]
    exact In.of_val (B := 26) (by decide) (by decide) (by decide)
  clear hone'
  walk_at "e"
  refine made_ok (n := 0) (e := 0) (B := 26) F hl (by decide) (by decide) fun zero hzero' => ?_
  have hzero : Nm 26 38 zero 0 := by
    rw [val_zero] at hzero'
    exact ⟨hzero', In.zero _⟩
  clear hzero'
  walk_at "e"
  refine And.intro (by first | decide | simp) ?_
  walk_at "g"
  walk_at "e"
  -- the quotient, and the first interval at the precision
  refine mpi_div_ok F hl hp (by omega) hsa hsb hta htb hS (by decide) (by decide) hCD hsgn fun qa qb QA QE L U hqa hqb rqa rqb hq => ?_
  have hLU := hq.le hS hCD
  have qL := rqa.le
  have qU := rqb.ge
  have hQ : QA ≤ QE := Rat.le_trans qL (Rat.le_trans hLU qU)
  have hCz : C ≠ 0 := by grind
  have hDz : D ≠ 0 := by grind
  walk_at "e"
  refine mpi_pos_ok F hl hp hsa hsb fun pa pb PA PE hpa hpb rpa rpb => ?_
  have hP : PA ≤ PE := Rat.le_trans rpa.le (Rat.le_trans hS rpb.ge)
  have hqa1 : Nm 100 76 qa QA := hqa.up (by omega) (by decide)
  have hqb1 : Nm 100 76 qb QE := hqb.up (by omega) (by decide)
  have hta1 : Nm 100 38 ta C := hta.up (by decide) (by decide)
  have htb1 : Nm 100 38 tb D := htb.up (by decide) (by decide)
  have hsa1 : Nm 100 38 sa A := hsa.up (by decide) (by decide)
  have hsb1 : Nm 100 38 sb E := hsb.up (by decide) (by decide)
  have up : ∀ {H : Int} {d : PyData} {x : Rat}, H ≤ 1000 → Nm p H d x → Nm 100 1000 d x := fun h g => g.up (by omega) h
  -- quotient times divisor
  walk_at "g"
  walk_at "e"
  refine mpi_mul_ok F hl hp hqa1 hqb1 hta1 htb1 hQ hCD (by decide) (by decide) fun ml mu ML MU LM UM hml hmu rml rmu hm => ?_
  walk_at "e"
  have k1 : ML ≤ PA ∧ PE ≤ MU := by
    have a1 := hq.1 A C Rat.le_refl hS Rat.le_refl hCD
    have a2 := hq.1 E C hS Rat.le_refl Rat.le_refl hCD
    have b1 := hm (A / C) C (Rat.le_trans qL a1.1) (Rat.le_trans a1.2 qU) Rat.le_refl hCD
    have b2 := hm (E / C) C (Rat.le_trans qL a2.1) (Rat.le_trans a2.2 qU) Rat.le_refl hCD
    rw [Rat.div_mul_cancel hCz] at b1 b2
    exact ⟨Rnd.mono rml rpa b1.1, Rnd.mono rpb rmu b2.2⟩
  refine within_ok F hl (up (by decide) hpa) (up (by decide) hpb) (up (by decide) hml) (up (by decide) hmu) (by decide) (by decide) (by decide) k1.1 k1.2 hP ?_
  clear k1 hm rml rmu hml hmu
  walk_at "n"
  -- the product over the divisor
  walk_at "e"
  refine mpi_mul_ok F hl hp hsa1 hsb1 hta1 htb1 hS hCD (by decide) (by decide) fun ml mu ML MU LM UM hml hmu rml rmu hm => ?_
  walk_at "e"
  have m1 := hm A C Rat.le_refl hS Rat.le_refl hCD
  have m2 := hm E C hS Rat.le_refl Rat.le_refl hCD
  have m3 := rml.le
  have m4 := rmu.ge
  have hM : ML ≤ MU := by grind
  refine mpi_div_ok F hl hp (by omega) (hml.up (B' := 100) (by omega) (Int.le_refl _)) (hmu.up (B' := 100) (by omega) (Int.le_refl _)) hta htb hM (by decide) (by decide) hCD hsgn fun da db DA DE L2 U2 hda hdb rda rdb hd => ?_
  walk_at "e"
  have k1 : DA ≤ PA ∧ PE ≤ DE := by
    have b1 := hd.1 (A * C) C (by grind) (by grind) Rat.le_refl hCD
    have b2 := hd.1 (E * C) C (by grind) (by grind) Rat.le_refl hCD
    rw [mul_div' _ hCz] at b1 b2
    exact ⟨Rnd.mono rda rpa b1.1, Rnd.mono rpb rdb b2.2⟩
  refine within_ok F hl (up (by decide) hpa) (up (by decide) hpb) (up (by decide) hda) (up (by decide) hdb) (by decide) (by decide) (by decide) k1.1 k1.2 hP ?_
  clear k1 hd rda rdb hda hdb hm rml rmu hml hmu m1 m2 m3 m4 hM
  walk_at "n"
  -- one over the divisor
  walk_at "g"
  walk_at "e"
  refine mpi_div_ok F hl hp (by omega) hone hone hta htb Rat.le_refl (by decide) (by decide) hCD hsgn fun oa ob OA OE OL OU hoa hob roa rob ho => ?_
  have o1 := roa.le
  have o2 := rob.ge
  have ho2 := ho.le Rat.le_refl hCD
  have hO : OA ≤ OE := by grind
  have hoin := ho.inn hone.2 hone.2 hta.2 htb.2
  have hosgn : 0 < OA ∨ OE < 0 := by
    rcases hsgn with q | q
    · left
      refine rnd_pos hp hoin.1 ?_ roa
      obtain ⟨x, y, hx, hy, e⟩ := ho.2.1
      rw [e]
      refine div_pos' ?_ ?_
      · rcases hx with rfl | rfl <;> decide
      · rcases hy with rfl | rfl <;> grind
    · right
      refine rnd_neg hp hoin.2 ?_ rob
      obtain ⟨x, y, hx, hy, e⟩ := ho.2.2
      rw [e]
      have : 0 < x / (-y) := div_pos' (by rcases hx with rfl | rfl <;> decide) (by rcases hy with rfl | rfl <;> grind)
      rw [div_neg'] at this
      grind
  have hoa1 : Nm 100 76 oa OA := hoa.up (by omega) (by decide)
  have hob1 : Nm 100 76 ob OE := hob.up (by omega) (by decide)
  walk_at "e"
  refine mpi_mul_ok F hl hp hsa1 hsb1 hoa1 hob1 hS hO (by decide) (by decide) fun ml mu ML MU LM UM hml hmu rml rmu hm => ?_
  walk_at "e"
  have inO : ∀ y, C ≤ y → y ≤ D → OA ≤ 1 / y ∧ 1 / y ≤ OE := fun y q1 q2 => by
    have := ho.1 1 y Rat.le_refl Rat.le_refl q1 q2
    constructor <;> grind
  have k1 : ML ≤ QA ∧ QE ≤ MU := by
    obtain ⟨x, y, hx, hy, e⟩ := hq.2.1
    obtain ⟨x', y', hx', hy', e'⟩ := hq.2.2
    have i1 := inO y (by grind) (by grind)
    have i2 := inO y' (by grind) (by grind)
    have b1 := hm x (1 / y) (by grind) (by grind) i1.1 i1.2
    have b2 := hm x' (1 / y') (by grind) (by grind) i2.1 i2.2
    rw [mul_one_div', ← e] at b1
    rw [mul_one_div', ← e'] at b2
    exact ⟨Rnd.mono rml rqa b1.1, Rnd.mono rqb rmu b2.2⟩
  refine within_ok F hl (up (by decide) hqa) (up (by decide) hqb) (up (by decide) hml) (up (by decide) hmu) (by decide) (by decide) (by decide) k1.1 k1.2 hQ ?_
  clear k1 hm rml rmu hml hmu
  walk_at "n"
  -- one over one over the divisor
  walk_at "e"
  refine mpi_pos_ok F hl hp hta htb fun va vb VA VE hva hvb rva rvb => ?_
  walk_at "g"
  walk_at "e"
  refine mpi_div_ok F hl hp (by omega) hone hone hoa1 hob1 Rat.le_refl (by decide) (by decide) hO hosgn fun da db DA DE L2 U2 hda hdb rda rdb hd => ?_
  walk_at "e"
  have k1 : DA ≤ VA ∧ VE ≤ DE := by
    have i1 := inO C Rat.le_refl hCD
    have i2 := inO D hCD Rat.le_refl
    have b1 := hd.1 1 (1 / C) Rat.le_refl Rat.le_refl i1.1 i1.2
    have b2 := hd.1 1 (1 / D) Rat.le_refl Rat.le_refl i2.1 i2.2
    rw [one_div_one_div'] at b1 b2
    exact ⟨Rnd.mono rda rva b1.1, Rnd.mono rvb rdb b2.2⟩
  refine within_ok F hl (up (by decide) hva) (up (by decide) hvb) (up (by decide) hda) (up (by decide) hdb) (by decide) (by decide) (by decide) k1.1 k1.2 (Rat.le_trans rva.le (Rat.le_trans hCD rvb.ge)) ?_
  clear k1 hd rda rdb hda hdb rva rvb hva hvb inO hosgn hoa1 hob1 hoin hO ho2 o1 o2
  walk_at "n"
  -- the quotient of the sum
  walk_at "e"
  refine mpi_add2_ok F hl hsa hsb hua hub (by decide) (by decide) (by decide) (by decide) fun xa xb hxa hxb => ?_
  walk_at "e"
  refine mpi_div_ok F hl hp (by omega) hxa hxb hta htb (by grind) (by decide) (by decide) hCD hsgn fun da db DA DE L2 U2 hda hdb rda rdb hd => ?_
  walk_at "e"
  refine mpi_div_ok F hl hp (by omega) hua hub hta htb hU (by decide) (by decide) hCD hsgn fun ya yb YA YE L3 U3 hya hyb rya ryb hy => ?_
  walk_at "e"
  refine mpi_add3_ok F hl hp (by omega) hqa hqb hya hyb (by decide) (by decide) fun wa wb WA WE hwa hwb rwa rwb => ?_
  walk_at "e"
  have k1 : WA ≤ DA ∧ DE ≤ WE := by
    have y1 := rya.le
    have y2 := ryb.ge
    obtain ⟨x, y, hx, hyy, e⟩ := hd.2.1
    obtain ⟨x', y', hx', hyy', e'⟩ := hd.2.2
    refine ⟨Rnd.mono rwa rda ?_, Rnd.mono rdb rwb ?_⟩
    · rcases hx with rfl | rfl
      · rw [e, add_div']
        have b1 := hq.1 A y Rat.le_refl hS (by grind) (by grind)
        have b2 := hy.1 A2 y Rat.le_refl hU (by grind) (by grind)
        grind
      · rw [e, add_div']
        have b1 := hq.1 E y hS Rat.le_refl (by grind) (by grind)
        have b2 := hy.1 E2 y hU Rat.le_refl (by grind) (by grind)
        grind
    · rcases hx' with rfl | rfl
      · rw [e', add_div']
        have b1 := hq.1 A y' Rat.le_refl hS (by grind) (by grind)
        have b2 := hy.1 A2 y' Rat.le_refl hU (by grind) (by grind)
        grind
      · rw [e', add_div']
        have b1 := hq.1 E y' hS Rat.le_refl (by grind) (by grind)
        have b2 := hy.1 E2 y' hU Rat.le_refl (by grind) (by grind)
        grind
  refine within_ok F hl (up (by decide) hda) (up (by decide) hdb) (up (by omega) hwa) (up (by omega) hwb) (by decide) (by decide) (by decide) k1.1 k1.2 (Rat.le_trans rda.le (Rat.le_trans (hd.le (by grind) hCD) rdb.ge)) ?_
  clear k1 hd rda rdb hda hdb rya ryb hya hyb rwa rwb hwa hwb hy
  walk_at "n"
  -- opposites
  walk_at "e"
  refine mpi_neg_ok F hl hqa hqb fun na nb hna hnb => ?_
  have rna : Rnd true p (-U) (-QE) := rqb.neg
  have rnb : Rnd false p (-L) (-QA) := rqa.neg
  walk_at "e"
  refine mpi_neg_ok F hl hsa hsb fun xa xb hxa hxb => ?_
  walk_at "e"
  refine mpi_div_ok F hl hp (by omega) hxa hxb hta htb (by grind) (by decide) (by decide) hCD hsgn fun da db DA DE L2 U2 hda hdb rda rdb hd => ?_
  obtain ⟨e1, e2⟩ := DivB.unique hS hCD hq hd.negnum
  obtain rfl : da = na := by
    rw [show L2 = -U by grind] at rda
    have := Rnd.unique rda rna
    rw [this] at hda
    exact Nb.uniq hda.1 hna.1
  obtain rfl : db = nb := by
    rw [show U2 = -L by grind] at rdb
    have := Rnd.unique rdb rnb
    rw [this] at hdb
    exact Nb.uniq hdb.1 hnb.1
  clear hd e1 e2 rda rdb hda hdb hxa hxb
  walk_at "e"
  refine And.intro (shaped_iv hna.1.tm hnb.1.tm) ?_
  walk_at "e"
  refine And.intro (shaped_iv hna.1.tm hnb.1.tm) ?_
  walk_at "e"
  refine br0 (neq_iv hna.1.tm hnb.1.tm) ?_
  walk_at "e"
  refine mpi_neg_ok F hl hta htb fun xa xb hxa hxb => ?_
  walk_at "e"
  refine mpi_div_ok F hl hp (by omega) hsa hsb hxa hxb hS (by decide) (by decide) (by grind) (by grind) fun da' db' DA DE L2 U2 hda hdb rda rdb hd => ?_
  obtain ⟨e1, e2⟩ := DivB.unique hS hCD hq hd.negden
  obtain rfl : da' = da := by
    rw [show L2 = -U by grind] at rda
    have := Rnd.unique rda rna
    rw [this] at hda
    exact Nb.uniq hda.1 hna.1
  obtain rfl : db' = db := by
    rw [show U2 = -L by grind] at rdb
    have := Rnd.unique rdb rnb
    rw [this] at hdb
    exact Nb.uniq hdb.1 hnb.1
  clear hd e1 e2 rda rdb hda hdb hxa hxb
  walk_at "e"
  refine And.intro (shaped_iv hna.1.tm hnb.1.tm) ?_
  walk_at "e"
  refine And.intro (shaped_iv hna.1.tm hnb.1.tm) ?_
  walk_at "e"
  refine br0 (neq_iv hna.1.tm hnb.1.tm) ?_
  walk_at "e"
  refine mpi_neg_ok F hl hsa hsb fun xa xb hxa hxb => ?_
  walk_at "e"
  refine mpi_neg_ok F hl hta htb fun za zb hza hzb => ?_
  walk_at "e"
  refine mpi_div_ok F hl hp (by omega) hxa hxb hza hzb (by grind) (by decide) (by decide) (by grind) (by grind) fun ca cb DA DE L2 U2 hda hdb rda rdb hd => ?_
  obtain ⟨rfl, rfl⟩ := DivB.unique hS hCD hq hd.negs
  obtain rfl : qa = ca := by
    have := Rnd.unique rda rqa
    rw [this] at hda
    exact Nb.uniq hqa.1 hda.1
  obtain rfl : qb = cb := by
    have := Rnd.unique rdb rqb
    rw [this] at hdb
    exact Nb.uniq hqb.1 hdb.1
  clear hd rda rdb hda hdb hxa hxb hza hzb
  walk_at "e"
  refine And.intro (shaped_iv hqa.1.tm hqb.1.tm) ?_
  walk_at "e"
  refine And.intro (shaped_iv hqa.1.tm hqb.1.tm) ?_
  walk_at "e"
  refine br0 (neq_iv hqa.1.tm hqb.1.tm) ?_
  clear hna hnb rna rnb
  -- sizes
  walk_at "e"
  refine mpi_abs_ok F hl hqa hqb (by omega) (by omega) fun na nb hna hnb => ?_
  walk_at "e"
  refine mpi_abs_ok F hl hsa hsb (by decide) (by decide) fun xa xb hxa hxb => ?_
  walk_at "e"
  refine mpi_abs_ok F hl hta htb (by decide) (by decide) fun za zb hza hzb => ?_
  walk_at "e"
  refine mpi_div_ok F hl hp (by omega) hxa hxb hza hzb (abs_le' hS) (by decide) (by decide) (abs_le' hCD) (.inl (abs_pos' hCD hsgn)) fun da db DA DE L2 U2 hda hdb rda rdb hd => ?_
  obtain ⟨rfl, rfl⟩ := DivB.unique (abs_le' hS) (abs_le' hCD) (divb_abs hS hCD hsgn hq) hd
  have hab := rnd_abs hp hLU (hq.inn hsa.2 hsb.2 hta.2 htb.2).2 rqa rqb
  obtain rfl : da = na := by
    have := Rnd.unique rda hab.1
    rw [this] at hda
    exact Nb.uniq hda.1 hna.1
  obtain rfl : db = nb := by
    have := Rnd.unique rdb hab.2
    rw [this] at hdb
    exact Nb.uniq hdb.1 hnb.1
  clear hd rda rdb hda hdb hxa hxb hza hzb hab
  walk_at "e"
  refine And.intro (shaped_iv hna.1.tm hnb.1.tm) ?_
  walk_at "e"
  refine And.intro (shaped_iv hna.1.tm hnb.1.tm) ?_
  walk_at "e"
  refine br0 (neq_iv hna.1.tm hnb.1.tm) ?_
  clear hna hnb
  -- beside and across
  walk_at "e"
  refine And.intro (by first | decide | simp) ?_
  walk_at "g"
  walk_at "e"
  refine span_ok F hl (by split <;> omega) (by split <;> omega) (by split <;> omega) (by split <;> omega) a5 a6 fun ba bb hba hbb => ?_
  walk_at "e"
  refine And.intro (by first | decide | simp) ?_
  walk_at "e"
  refine span_ok F hl (by split <;> omega) (by split <;> omega) (by split <;> omega) (by split <;> omega) a5 a6 fun xa xb hxa hxb => ?_
  obtain ⟨da, db, hdd, tda, tdb⟩ : ∃ da db, (if (A < 0 ∧ 0 < E) ∨ (A = 0 ∧ E = 0) then iv fninf finf else if decide (0 ≤ A) = decide (0 < low) then iv qa finf else iv fninf qb) = iv da db ∧ Tm da ∧ Tm db := by
    split
    · exact ⟨_, _, rfl, tm_ninf, tm_inf⟩
    · split
      · exact ⟨_, _, rfl, hqa.1.tm, tm_inf⟩
      · exact ⟨_, _, rfl, tm_ninf, hqb.1.tm⟩
  have hb : Calls prog w K (N + 40) 173 [iv sa sb, iv ba bb, .int p] (fun d => d = iv da db) := by
    rw [← hdd]
    rcases a2 with q | q
    · rw [if_pos q, val_zero] at hba
      rw [if_neg (by omega), hDe] at hbb
      have hC : 0 < C := hC0.mp q
      have hD : 0 < D := by grind
      rw [decide_eq_true q]
      refine beside_pos_ok F hl hp (by omega) hsa hsb hba hbb hS (by decide) (by decide) rfl hD (fun z => ?_) (fun z1 z2 l L' g r => ?_) (fun z1 z2 u U' g r => ?_)
      · rw [if_pos z]
      · rw [if_neg (by grind), if_pos (decide_eq_true z1)]
        obtain ⟨rfl, rfl⟩ := DivB.unique hS hCD hq (divb_of hC hS hCD (.inl ⟨z1, rfl⟩) (.inl ⟨by grind, rfl⟩))
        have := Rnd.unique r rqa
        rw [this] at g
        rw [Nb.uniq g.1 hqa.1]
      · rw [if_neg (by grind), if_neg (by rw [decide_eq_true_eq]; grind)]
        obtain ⟨rfl, rfl⟩ := DivB.unique hS hCD hq (divb_of hC hS hCD (.inr ⟨by grind, rfl⟩) (.inr ⟨z2, rfl⟩))
        have := Rnd.unique r rqb
        rw [this] at g
        rw [Nb.uniq g.1 hqb.1]
    · rw [if_neg (by omega), hCe] at hba
      rw [if_pos (by omega), val_zero] at hbb
      have hD : D < 0 := hD0.mp q
      have hC : C < 0 := by grind
      rw [decide_eq_false (by omega : ¬ 0 < low)]
      refine beside_neg_ok F hl hp (by omega) hsa hsb hba hbb hS (by decide) (by decide) hC rfl (fun z => ?_) (fun z1 z2 l L' g r => ?_) (fun z1 z2 u U' g r => ?_)
      · rw [if_pos z]
      · rw [if_neg (by grind), if_pos (decide_eq_false (by grind))]
        obtain ⟨e1, e2⟩ := DivB.unique hS hCD hq (DivB.negs (divb_of (A := -E) (E := -A) (C := -D) (D := -C) (by grind) (by grind) (by grind) (.inl ⟨by grind, rfl⟩) (.inl ⟨by grind, rfl⟩)))
        rw [neg_div_neg] at e1
        rw [← e1] at r
        have := Rnd.unique r rqa
        rw [this] at g
        rw [Nb.uniq g.1 hqa.1]
      · rw [if_neg (by grind), if_neg (by rw [decide_eq_true z1]; decide)]
        obtain ⟨e1, e2⟩ := DivB.unique hS hCD hq (DivB.negs (divb_of (A := -E) (E := -A) (C := -D) (D := -C) (by grind) (by grind) (by grind) (.inr ⟨by grind, rfl⟩) (.inr ⟨by grind, rfl⟩)))
        rw [neg_div_neg] at e2
        rw [← e2] at r
        have := Rnd.unique r rqb
        rw [this] at g
        rw [Nb.uniq g.1 hqb.1]
  walk_at "g"
  walk_at "e"
  refine Calls.mono hb fun d hd => ?_
  subst hd
  walk_at "e"
  refine due_ok F hl hsa hsb (by decide) fun d hd => ?_
  rw [hdd] at hd
  subst hd
  walk_at "e"
  refine And.intro (shaped_iv tda tdb) ?_
  walk_at "e"
  refine And.intro (shaped_iv tda tdb) ?_
  walk_at "e"
  refine br0 (neq_iv tda tdb) ?_
  walk_at "e"
  refine across_ok F hl hsa hsb hxa hxb (by rw [← val_zero f, val_lt]; split <;> omega) (by rw [← val_zero f, val_lt]; split <;> omega) ?_
  walk_at "g"
  walk_at "e"
  refine And.intro (shaped_iv tm_ninf tm_inf) ?_
  walk_at "e"
  refine And.intro (shaped_iv tm_ninf tm_inf) ?_
  walk_at "e"
  refine br1 (eqv_iv tm_ninf tm_inf) ?_
  walk_at "g"
  walk_at "e"
  refine by_zero_ok F hl hsa hsb hzero hzero rfl rfl ?_
  walk_at "g"
  walk_at "e"
  refine And.intro (shaped_iv tm_ninf tm_inf) ?_
  walk_at "e"
  refine And.intro (shaped_iv tm_ninf tm_inf) ?_
  exact congrArg PyData.bool (eqv_iv tm_ninf tm_inf)
end
end Mine
/-! the join -/
namespace Mine
open PySem PySem.W PyProof.Rows
theorem law_vc (w : World) (K : Frag) (F : Mine.Facts K) (hl : Mine.Lit K w) (ns : List Int) (h1 : ns.length ≤ 63) (h2 : ∀ n ∈ ns, Builtin.Int.intBits n ≤ 1048576) : Mine.vcS (Mine.CallOK PySem.Challenge.rw_aj5012_01.row.prog w K 60) 60 [(0, .list (ns.map .int))] Mine.c_law (fun d => d = .bool true) (fun _ => False) := by
  rw [← calls_eq]
  exact law_ok (N := 20) F hl h1 h2
end Mine
open PySem PySem.W PyProof.Rows
set_option maxRecDepth 100000 in
set_option maxHeartbeats 8000000 in
theorem PySem.Challenge.cw_aj5012_01_holds : PySem.Challenge.rw_aj5012_01.Holds := by
  refine hd ?_
  k_go0
  refine Mine.glue (N := 60) (fuel := 60) ‹Frag.In _ _› ‹Top _ _ _ _ _ _› ‹Fr _ _ _ _› ‹Heap.IsList _ _ _› ‹IntsAre _ _› (Mine.lit _) ?body ?C ?m ?loc ?idx ?v ?q
  case body => kernel_rfl
  case C => exact ⟨rfl, Nat.le_of_ble_eq_true rfl, Nat.le_of_ble_eq_true rfl, rfl, rfl, rfl, rfl⟩
  case m => rfl
  case loc => kernel_rfl
  case idx => kernel_rfl
  case v =>
    refine Mine.law_vc _ _ (Mine.facts _) (Mine.lit _) _ (by omega) (fun n hn => ?_)
    exact PyData.bits_item_of_ints ‹PyData.layable0 (.list _) = true› hn
  case q =>
    intro h' tk' e
    refine ⟨.inl ⟨_, .bool true, [], rfl, fun _ => rfl, .bool true, ?_, unshared_nil⟩, e, rfl, by assumption⟩
    exact postW_of rfl (w_eq_bool (w_res rfl) w_lit) rfl
