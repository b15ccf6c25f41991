import PyProof.Rows.All
import Wide.All
import OpenK.AllK
import Wide.FinOn
import PySem.Challenge.RW_aj5004_01
set_option Elab.async false

/-! # part AJTop -/
section
open PySem PySem.W PyProof.Rows
set_option maxRecDepth 100000
namespace Mine
set_option maxHeartbeats 8000000 in
open_top hd for PySem.Challenge.rw_aj5004_01
end Mine

end

/-! # part AJ1 -/
section
open PySem PySem.W PyProof.Rows PySem.Calls PySem.Spec
set_option maxRecDepth 100000
namespace Mine
open Classical

/-! ## Values, code, the pure interpreter -/
inductive CE where
  | fail
  | lit (d : Dat)
  | loc (i : Nat)
  | bin (op : Operator) (a b : CE)
  | neg (a : CE)
  | nt (a : CE)
  | and (a b : CE)
  | or (a b : CE)
  | cmp (op : CmpOp) (a b : CE)
  | cmp2 (o1 o2 : CmpOp) (a b c : CE)
  | ite (c a b : CE)
  | call (f : Nat) (args : CE)
  | nil
  | cons (a r : CE)
  | tup (args : CE)
  | lst (args : CE)
  | sub (a i : CE)
  | blen (a : CE)
  | cabs (a : CE)
  | cmin (a b : CE)
  | clen (a : CE)
  | shd (a : CE)

def nth : List (Option Dat) → Nat → Option Dat
  | [], _ => none
  | a :: _, 0 => a
  | _ :: r, i + 1 => nth r i
def put : List (Option Dat) → Nat → Dat → List (Option Dat)
  | [], _, _ => []
  | _ :: r, 0, v => some v :: r
  | a :: r, i + 1, v => a :: put r i v

abbrev bits (a : Int) : Nat := Builtin.Int.intBits a

def evBin : Operator → Dat → Dat → Option Dat
  | .Add, .int a, .int b => some (.int (a + b))
  | .Add, .tuple a, .tuple b => if a.length + b.length ≤ 1000 then some (.tuple (a ++ b)) else none
  | .Sub, .int a, .int b => some (.int (a - b))
  | .Mult, .int a, .int b => if bits a + bits b ≤ 2 ^ 26 then some (.int (a * b)) else none
  | .Pow, .int a, .int n => if 0 ≤ n ∧ (bits a : Int) * n ≤ 2 ^ 27 then some (.int (a ^ n.toNat)) else none
  | .LShift, .int a, .int n => if 0 ≤ n ∧ (bits a : Int) + n ≤ 2 ^ 27 then some (.int (a * 2 ^ n.toNat)) else none
  | .RShift, .int a, .int n => if 0 ≤ n then some (.int (a.fdiv (2 ^ n.toNat))) else none
  | .FloorDiv, .int a, .int b => if 0 < b ∧ bits b ≤ 8000 then some (.int (a.fdiv b)) else none
  | .Mod, .int a, .int b => if 0 < b then some (.int (a.fmod b)) else none
  | .BitAnd, .int a, .int b => some (.int (Builtin.bitAnd a b))
  | .BitXor, .int a, .int b => some (.int (Builtin.bitXor a b))
  | _, _, _ => none

def truD : Dat → Option Bool
  | .int a => some (a != 0)
  | .bool b => some b
  | _ => none

noncomputable def evCmp : CmpOp → Dat → Dat → Option Dat
  | .Eq, x, y => if kqdOk 8 x = true ∧ kqdOk 8 y = true then some (.bool (decide (x = y))) else none
  | .NotEq, x, y => if kqdOk 8 x = true ∧ kqdOk 8 y = true then some (.bool (!decide (x = y))) else none
  | .Lt, .int a, .int b => some (.bool (decide (a < b)))
  | .Gt, .int a, .int b => some (.bool (decide (b < a)))
  | .LtE, .int a, .int b => some (.bool (decide (a ≤ b)))
  | .GtE, .int a, .int b => some (.bool (decide (b ≤ a)))
  | .In, x, .list l => if (∀ d ∈ l, kqdOk 8 d = true) ∧ kqdOk 8 x = true then some (.bool (decide (x ∈ l))) else none
  | _, _, _ => none

def evSub : Dat → Dat → Option Dat
  | .tuple l, .int k => if 0 ≤ k ∧ k < l.length ∧ k < 2 ^ 63 then l[k.toNat]? else none
  | .list l, .int k => if 0 ≤ k ∧ k < l.length ∧ k < 2 ^ 63 then l[k.toNat]? else none
  | _, _ => none

def shTab : List (Str × Dat) :=
  [(Str.ofString "f", .tuple [.int 1, .int 0]), (Str.ofString "c", .tuple [.int 0, .int 1]), (Str.ofString "d", .tuple [.int 1, .int 1]), (Str.ofString "u", .tuple [.int 0, .int 0])]

mutual
noncomputable def ev (F : Nat → List Dat → Option Dat) (ρ : List (Option Dat)) : CE → Option Dat
  | .fail => none
  | .lit d => some d
  | .loc i => nth ρ i
  | .bin op a b => (ev F ρ a).bind fun x => (ev F ρ b).bind fun y => evBin op x y
  | .neg a => (ev F ρ a).bind fun x => match x with | .int i => some (.int (-i)) | _ => none
  | .nt a => (ev F ρ a).bind fun x => (truD x).map fun t => .bool (!t)
  | .and a b => (ev F ρ a).bind fun x => (truD x).bind fun t => if t then ev F ρ b else some x
  | .or a b => (ev F ρ a).bind fun x => (truD x).bind fun t => if t then some x else ev F ρ b
  | .cmp op a b => (ev F ρ a).bind fun x => (ev F ρ b).bind fun y => evCmp op x y
  | .cmp2 o1 o2 a b c => (ev F ρ a).bind fun x => (ev F ρ b).bind fun y => (evCmp o1 x y).bind fun r => (truD r).bind fun t =>
      if t then (ev F ρ c).bind fun z => evCmp o2 y z else some r
  | .ite c a b => (ev F ρ c).bind fun x => (truD x).bind fun t => if t then ev F ρ a else ev F ρ b
  | .call f as => (evs F ρ as).bind fun vs => F f vs
  | .nil => none
  | .cons _ _ => none
  | .tup as => (evs F ρ as).map .tuple
  | .lst as => (evs F ρ as).map .list
  | .sub a i => (ev F ρ a).bind fun x => (ev F ρ i).bind fun y => evSub x y
  | .blen a => (ev F ρ a).bind fun x => match x with | .int i => some (.int (bits i : Nat)) | _ => none
  | .cabs a => (ev F ρ a).bind fun x => match x with | .int i => some (.int (if i < 0 then -i else i)) | _ => none
  | .cmin a b => (ev F ρ a).bind fun x => (ev F ρ b).bind fun y => match x, y with | .int i, .int j => some (.int (if j < i then j else i)) | _, _ => none
  | .clen a => (ev F ρ a).bind fun x => match x with | .list l => if (l.length : Int) < 2 ^ 63 then some (.int l.length) else none | _ => none
  | .shd a => (ev F ρ a).bind fun x => match x with | .str k => shTab.lookup k | _ => none
noncomputable def evs (F : Nat → List Dat → Option Dat) (ρ : List (Option Dat)) : CE → Option (List Dat)
  | .nil => some []
  | .cons a r => (ev F ρ a).bind fun x => (evs F ρ r).bind fun xs => some (x :: xs)
  | _ => none
end

inductive CS where
  | skip
  | fail
  | seq (a b : CS)
  | set (i : Nat) (e : CE)
  | set2 (i j : Nat) (e : CE)
  | unp (is : List Nat) (rev : Bool) (e : CE)
  | aug (i : Nat) (op : Operator) (e : CE)
  | ite (c : CE) (a b : CS)
  | ret (e : CE)
  | forS (i : Nat) (e : CE) (b : CS)
  | asrt (e : CE)
  | unpC (is : List Nat) (it el : CE)

inductive Out where
  | nxt (ρ : List (Option Dat))
  | ret (d : Dat)

def evAug : Operator → Dat → Dat → Option Dat
  | .Add, .int a, .int b => some (.int (a + b))
  | .Sub, .int a, .int b => some (.int (a - b))
  | .LShift, .int a, .int n => if 0 ≤ n ∧ (bits a : Int) + n ≤ 2 ^ 27 then some (.int (a * 2 ^ n.toNat)) else none
  | .RShift, .int a, .int n => if 0 ≤ n then some (.int (a.fdiv (2 ^ n.toNat))) else none
  | .BitXor, .int a, .int b => some (.int (Builtin.bitXor a b))
  | _, _, _ => none

def puts : List (Option Dat) → List Nat → List Dat → Option (List (Option Dat))
  | ρ, [], [] => some ρ
  | ρ, i :: is, d :: ds => puts (put ρ i d) is ds
  | _, _, _ => none

/-- a comprehension's elements -/
def elMap (el : Dat → Option Dat) : List Dat → Option (List Dat)
  | [] => some []
  | d :: r => (el d).bind fun e => (elMap el r).bind fun es => some (e :: es)
/-- the turns of a loop -/
def turns (body : List (Option Dat) → Option Out) (i : Nat) : List Dat → List (Option Dat) → Option Out
  | [], ρ => some (.nxt ρ)
  | d :: r, ρ => (body (put ρ i d)).bind fun o => match o with
    | .nxt ρ' => turns body i r ρ'
    | .ret v => some (.ret v)

noncomputable def ex (F : Nat → List Dat → Option Dat) : CS → List (Option Dat) → Option Out
  | .skip, ρ => some (.nxt ρ)
  | .fail, _ => none
  | .seq a b, ρ => (ex F a ρ).bind fun o => match o with | .nxt ρ' => ex F b ρ' | .ret v => some (.ret v)
  | .set i e, ρ => (ev F ρ e).bind fun d => some (.nxt (put ρ i d))
  | .set2 i j e, ρ => (ev F ρ e).bind fun d => some (.nxt (put (put ρ i d) j d))
  | .unp is rev e, ρ => (ev F ρ e).bind fun d => match d with
      | .tuple ds => (if rev then puts ρ is.reverse ds.reverse else puts ρ is ds).map .nxt
      | _ => none
  | .aug i op e, ρ => (nth ρ i).bind fun x => (ev F ρ e).bind fun y => (evAug op x y).bind fun d => some (.nxt (put ρ i d))
  | .ite c a b, ρ => (ev F ρ c).bind fun x => (truD x).bind fun t => if t then ex F a ρ else ex F b ρ
  | .ret e, ρ => (ev F ρ e).map .ret
  | .forS i e b, ρ => (ev F ρ e).bind fun d => match d with | .list (_ :: l) => if l.length ≤ 1000 then turns (ex F b) i l ρ else none | _ => none
  | .asrt e, ρ => (ev F ρ e).bind fun x => (truD x).bind fun t => if t then some (.nxt ρ) else none
  | .unpC is it el, ρ => (ev F ρ it).bind fun d => match d with
      | .tuple l => if l.length ≤ 1000 then (elMap (fun d => ev F [some d] el) l).bind fun es => (puts ρ is es).map .nxt else none
      | .list l => if l.length ≤ 1000 then (elMap (fun d => ev F [some d] el) l).bind fun es => (puts ρ is es).map .nxt else none
      | _ => none

/-! ## The compiler -/
inductive GV where
  | fn (a : Nat)
  | cst (d : Dat)
  | shd

def ix : List Str → Str → Option Nat
  | [], _ => none
  | y :: r, x => if y == x then some 0 else (ix r x).map (· + 1)

def compN (nm : List (Str × NameKind)) (ns : List Str) (G : List (Str × GV)) (x : Str) : CE :=
  if x == Str.ofString "__debug__" then .fail else
  match nm.lookup x with
  | some .local | some .cell => (match ix ns x with | some i => .loc i | none => .fail)
  | some .globalImplicit => (match G.lookup x with | some (.cst d) => .lit d | _ => .fail)
  | _ => .fail
def isG (nm : List (Str × NameKind)) (x : Str) : Bool := !(x == Str.ofString "__debug__") && nm.lookup x == some .globalImplicit
def argsC : List CE → CE
  | [] => .nil
  | e :: r => .cons e (argsC r)
def andC : List CE → CE
  | [] => .fail
  | [e] => e
  | e :: r => .and e (andC r)
def orC : List CE → CE
  | [] => .fail
  | [e] => e
  | e :: r => .or e (orC r)
def compCall (nm : List (Str × NameKind)) (G : List (Str × GV)) (f : Str) (as : List CE) : CE :=
  if isG nm f then
    match G.lookup f with
    | some (.fn a) => if as.length ≤ 30 && !as.isEmpty then .call a (argsC as) else .fail
    | some _ => .fail
    | none => match as with
      | [a] => if f == Str.ofString "abs" then .cabs a else if f == Str.ofString "len" then .clen a else .fail
      | [a, b] => if f == Str.ofString "min" then .cmin a b else .fail
      | _ => .fail
  else .fail
def compE (nm : List (Str × NameKind)) (ns : List Str) (G : List (Str × GV)) : Nat → Expr → CE
  | 0, _ => .fail
  | n + 1, e => match e with
    | .Constant (.int i) _ _ => .lit (.int i)
    | .Constant (.str x) _ _ => .lit (.str x)
    | .Constant (.bool b) _ _ => .lit (.bool b)
    | .Constant .none _ _ => .lit .none
    | .Name x _ => compN nm ns G x
    | .BinOp l op r _ => .bin op (compE nm ns G n l) (compE nm ns G n r)
    | .UnaryOp .USub x _ => .neg (compE nm ns G n x)
    | .UnaryOp .Not x _ => .nt (compE nm ns G n x)
    | .BoolOp .And es _ => andC (es.map (compE nm ns G n))
    | .BoolOp .Or es _ => orC (es.map (compE nm ns G n))
    | .Compare l ops rs _ => (match ops, rs with
      | [op], [r] => if behindInMarks op r then .fail else .cmp op (compE nm ns G n l) (compE nm ns G n r)
      | [o1, o2], [r1, r2] => if lastMarks [o1, o2] [r1, r2] then .fail else .cmp2 o1 o2 (compE nm ns G n l) (compE nm ns G n r1) (compE nm ns G n r2)
      | _, _ => .fail)
    | .IfExp c a b _ => .ite (compE nm ns G n c) (compE nm ns G n a) (compE nm ns G n b)
    | .Call f args [] pos => (match f with
      | .Name x _ => compCall nm G x (args.map (compE nm ns G n))
      | .Attribute o at' apos => if at' == Str.ofString "bit_length" && args.isEmpty && apos.endLine == pos.line then (match o with
        | .Name .. | .BinOp .. => .blen (compE nm ns G n o)
        | _ => .fail) else .fail
      | _ => .fail)
    | .Tuple es _ _ => if es.length ≤ 30 then .tup (argsC (es.map (compE nm ns G n))) else .fail
    | .List es _ => if es.length ≤ 30 then .lst (argsC (es.map (compE nm ns G n))) else .fail
    | .Subscript a i _ => (match i with
      | .Slice .. => .fail
      | _ => (match a with
        | .Name x _ => if isG nm x then (match G.lookup x with | some .shd => .shd (compE nm ns G n i) | _ => .sub (compE nm ns G n a) (compE nm ns G n i)) else .sub (compE nm ns G n a) (compE nm ns G n i)
        | _ => .sub (compE nm ns G n a) (compE nm ns G n i)))
    | _ => .fail

def isComp : Expr → Bool
  | .ListComp .. | .SetComp .. | .DictComp .. => true
  | _ => false
def nameOf? : Expr → Option (Str × Pos)
  | .Name x p => some (x, p)
  | _ => none
def loci (nm : List (Str × NameKind)) (ns : List Str) (x : Str) : Option Nat := if nm.lookup x == some .local then ix ns x else none
def locis (nm : List (Str × NameKind)) (ns : List Str) : List Expr → Option (List Nat)
  | [] => some []
  | .Name x _ :: r => (loci nm ns x).bind fun i => (locis nm ns r).map (i :: ·)
  | _ => none
def namesOf : List Expr → List Str
  | [] => []
  | .Name x _ :: r => x :: namesOf r
  | _ :: r => namesOf r
/-- does the store of a display go backwards (all names local, of one line): what the compiler asks -/
def swapAsk (ts vs : List Expr) : Option Bool :=
  if !(ts.length == 2 || ts.length == 3) || vs.length != ts.length then some false
  else if vs.any (fun | .Starred .. => true | _ => false) then none
  else
    let line := (ts.head?.map (·.pos.line)).getD 0
    if ts.all (fun t => t.pos.line == line) && (namesOf ts).eraseDups.length == ts.length && (namesOf ts).length == ts.length && !(vs.all (foldedForSure 8)) && !(vs.all (constantsAlone 8)) then some true
    else none
def isPlainIter : Expr → Bool
  | .Name .. | .BinOp .. => true
  | _ => false
def blockOk (scope : Scope) (x : Str) : Bool :=
  scope.kind == .function && scope.names.all (fun y => y.2 != .cell && y.2 != .free && (y.2 != .local || scope.names.lookup y.1 == some .local)) && scope.names.lookup x == some .local
def compC (nm : List (Str × NameKind)) (ns : List Str) (G : List (Str × GV)) (n : Nat) (is : List Nat) (elt : Expr) (gens : List Comprehension) (scope : Scope) : CS :=
  match gens with
  | [⟨.Name x _, iter, [], 0⟩] => if isPlainIter iter && blockOk scope x then .unpC is (compE nm ns G n iter) (compE scope.names [x] G n elt) else .fail
  | _ => .fail
def compS (nm : List (Str × NameKind)) (ns : List Str) (G : List (Str × GV)) : Nat → Stmt → CS
  | 0, _ => .fail
  | n + 1, st => match st with
    | .Return (some e) _ => .ret (compE nm ns G n e)
    | .If c a b _ => .ite (compE nm ns G n c) (a.foldr (fun s r => .seq (compS nm ns G n s) r) .skip) (b.foldr (fun s r => .seq (compS nm ns G n s) r) .skip)
    | .Assign [t] e _ => (match t with
      | .Name x _ => if isComp e then .fail else (match loci nm ns x with | some i => .set i (compE nm ns G n e) | none => .fail)
      | .Tuple ts _ _ => (match locis nm ns ts with
        | some is => (match e with
          | .ListComp elt gens scope _ => compC nm ns G n is elt gens scope
          | .Tuple vs _ _ => (match swapAsk ts vs with | some rv => .unp is rv (compE nm ns G n e) | none => .fail)
          | _ => if isComp e then .fail else .unp is false (compE nm ns G n e))
        | none => .fail)
      | _ => .fail)
    | .Assign [.Name x _, .Name y _] e _ => (match loci nm ns x, loci nm ns y with | some i, some j => .set2 i j (compE nm ns G n e) | _, _ => .fail)
    | .AugAssign (.Name x _) op e _ => (match loci nm ns x with | some i => .aug i op (compE nm ns G n e) | none => .fail)
    | .Assert e none _ => .asrt (compE nm ns G n e)
    | .For (.Name x _) (.Subscript (.Name y yp) (.Slice (some (.Constant (.int 1) _ _)) none none _) _) b [] _ => (match loci nm ns x with
      | some i => .forS i (compE nm ns G n (.Name y yp)) (b.foldr (fun s r => .seq (compS nm ns G n s) r) .skip)
      | none => .fail)
    | _ => .fail
def compB (nm : List (Str × NameKind)) (ns : List Str) (G : List (Str × GV)) (b : List Stmt) : CS := b.foldr (fun s r => .seq (compS nm ns G 30 s) r) .skip
end Mine

end

/-! # part AJ2 -/
section
open PySem PySem.W PyProof.Rows PySem.Calls PySem.Spec
set_option maxRecDepth 100000
namespace Mine
open Classical
abbrev Led := List (Addr × Obj)

/-! ## What a value means -/
def Kn (B : Heap) (news : Led) (a : Addr) (o : Obj) : Prop := (a, o) ∈ news ∨ B.get? a = some o
mutual
inductive In (B : Heap) (news : Led) : Value → Dat → Prop
  | none : In B news Value.none Dat.none
  | bool (b : Bool) : In B news (Value.bool b) (Dat.bool b)
  | int (i : Int) (t : Tok) : In B news (Value.int i t) (Dat.int i)
  | str (x : Str) (t : Tok) : In B news (Value.str x t) (Dat.str x)
  | tuple {a : Addr} {o : Obj} {vs : List Value} {k : Nat} {ds : List Dat} (hk : Kn B news a o) (hc : o.cls = .type "tuple") (hd : o.data = .seq vs.toArray k) (h : Ins B news vs ds) : In B news (Value.ref a) (Dat.tuple ds)
  | list {a : Addr} {o : Obj} {vs : List Value} {k : Nat} {ds : List Dat} (hk : Kn B news a o) (hc : o.cls = .type "list") (hd : o.data = .seq vs.toArray k) (h : Ins B news vs ds) : In B news (Value.ref a) (Dat.list ds)
inductive Ins (B : Heap) (news : Led) : List Value → List Dat → Prop
  | nil : Ins B news [] []
  | cons {v : Value} {d : Dat} {vs : List Value} {ds : List Dat} (h : In B news v d) (r : Ins B news vs ds) : Ins B news (v :: vs) (d :: ds)
end
section
variable {B : Heap} {news news' : Led}
theorem Kn.mono {a : Addr} {o : Obj} (h : Kn B news a o) (s : ∀ p ∈ news, p ∈ news') : Kn B news' a o := h.imp (s _) id
mutual
theorem In.mono (s : ∀ p ∈ news, p ∈ news') : ∀ {v : Value} {d : Dat}, In B news v d → In B news' v d
  | _, _, .none => .none
  | _, _, .bool b => .bool b
  | _, _, .int i t => .int i t
  | _, _, .str x t => .str x t
  | _, _, .tuple hk hc hd h => .tuple (hk.mono s) hc hd (Ins.mono s h)
  | _, _, .list hk hc hd h => .list (hk.mono s) hc hd (Ins.mono s h)
theorem Ins.mono (s : ∀ p ∈ news, p ∈ news') : ∀ {vs : List Value} {ds : List Dat}, Ins B news vs ds → Ins B news' vs ds
  | _, _, .nil => .nil
  | _, _, .cons h r => .cons (In.mono s h) (Ins.mono s r)
end
theorem Ins.length : ∀ {vs : List Value} {ds : List Dat}, Ins B news vs ds → vs.length = ds.length
  | _, _, .nil => rfl
  | _, _, .cons _ r => congrArg Nat.succ (Ins.length r)
theorem Ins.append : ∀ {vs : List Value} {ds : List Dat} {ws : List Value} {es : List Dat}, Ins B news vs ds → Ins B news ws es → Ins B news (vs ++ ws) (ds ++ es)
  | _, _, _, _, .nil, q => q
  | _, _, _, _, .cons h r, q => .cons h (Ins.append r q)
theorem Ins.get : ∀ {vs : List Value} {ds : List Dat} {i : Nat} {d : Dat}, Ins B news vs ds → ds[i]? = some d → ∃ v, vs[i]? = some v ∧ In B news v d
  | _, _, i, _, .nil, q => by simp at q
  | _, _, 0, _, .cons h _, q => by simp at q; subst q; exact ⟨_, rfl, h⟩
  | _, _, i + 1, _, .cons _ r, q => by simp at q; obtain ⟨v, e, h⟩ := Ins.get r q; exact ⟨v, by simpa using e, h⟩
theorem Ins.reverse {vs : List Value} {ds : List Dat} (h : Ins B news vs ds) : Ins B news vs.reverse ds.reverse := by
  induction h using Ins.rec (motive_1 := fun _ _ _ => True) with
  | nil => exact .nil
  | cons h r ih1 ih2 => rw [List.reverse_cons, List.reverse_cons]; exact Ins.append ih2 (.cons h .nil)
  | _ => trivial
theorem Kn.get {h₀ h : Heap} {L a : Addr} {o : Obj} (N : News h₀ L h news) (b : B.StaysIn h) (k : Kn B news a o) : h.get? a = some o := k.elim (fun e => (N _ e).1) (b _ _)
end
section
variable {B h₀ h : Heap} {L : Addr} {news : Led}
mutual
theorem In.reads (N : News h₀ L h news) (b : B.StaysIn h) : ∀ {v : Value} {d : Dat} (n : Nat), In B news v d → kqdOk n d = true → ∃ as, Reads h v (kqdP d) as
  | _, _, _, .none, _ => ⟨_, Reads.none⟩
  | _, _, _, .bool b, _ => ⟨_, Reads.bool b⟩
  | _, _, _, .int i t, _ => ⟨_, Reads.int i t⟩
  | _, _, _, .str x t, _ => ⟨_, Reads.str x t⟩
  | _, _, 0, .tuple .., hk => by simp [kqdOk] at hk
  | _, _, 0, .list .., hk => by simp [kqdOk] at hk
  | _, _, n + 1, .tuple hm hc hd r, hk => by
    obtain ⟨as, q⟩ := Ins.reads N b n r (by simpa [kqdOk] using hk)
    rw [kqdP]
    exact ⟨as, reads_tuple_at (hm.get N b) hc hd (by simpa using q)⟩
  | _, _, n + 1, .list hm hc hd r, hk => by
    obtain ⟨as, q⟩ := Ins.reads N b n r (by simpa [kqdOk] using hk)
    rw [kqdP]
    exact ⟨_, reads_list_at (hm.get N b) hc hd (by simpa using q)⟩
theorem Ins.reads (N : News h₀ L h news) (b : B.StaysIn h) : ∀ {vs : List Value} {ds : List Dat} (n : Nat), Ins B news vs ds → (∀ d ∈ ds, kqdOk n d = true) → ∃ as, ReadsAll h vs (kqdPs ds) as
  | _, _, _, .nil, _ => ⟨_, ReadsAll.nil⟩
  | _, _, n, .cons hd r, hk => by
    obtain ⟨as, q⟩ := In.reads N b n hd (hk _ (.head _))
    obtain ⟨bs, p⟩ := Ins.reads N b n r fun d hm => hk d (.tail _ hm)
    rw [kqdPs]
    exact ⟨_, ReadsAll.cons q p⟩
end
end

/-! ## The ledger grows (fr: a part of it that no value speaks of) -/
def Ext (fr n n' : Led) : Prop := ∃ tl, n' = n ++ tl ∧ ∀ q ∈ fr ++ n, ∀ p ∈ tl, q.1 < p.1
section
variable {fr n n' n'' : Led}
theorem Ext.refl : Ext fr n n := ⟨[], (List.append_nil _).symm, fun _ _ _ h => nomatch h⟩
theorem Ext.sub (h : Ext fr n n') : ∀ p ∈ n, p ∈ n' := by
  obtain ⟨tl, rfl, _⟩ := h; exact fun _ h => List.mem_append_left _ h
theorem Ext.trans (h : Ext fr n n') (k : Ext fr n' n'') : Ext fr n n'' := by
  obtain ⟨tl, rfl, o⟩ := h; obtain ⟨tl', rfl, o'⟩ := k
  refine ⟨tl ++ tl', List.append_assoc .., fun q hq p hp => ?_⟩
  rcases List.mem_append.mp hp with hp | hp
  · exact o q hq p hp
  · exact o' q (by rw [← List.append_assoc]; exact List.mem_append_left _ hq) p hp
theorem Ext.snoc' {h₀ h' : Heap} {L a : Addr} {o : Obj} (hlt : ∀ p ∈ fr ++ n, p.1 < a) (N' : News h₀ L h' ((a, o) :: (fr ++ n))) : Ext fr n (n ++ [(a, o)]) ∧ News h₀ L h' (fr ++ (n ++ [(a, o)])) := by
  refine ⟨⟨_, rfl, fun q hq p hp => ?_⟩, fun p hp => N' p ?_⟩
  · rw [List.mem_singleton.mp hp]; exact hlt q hq
  · rw [← List.append_assoc] at hp
    rcases List.mem_append.mp hp with hp | hp
    · exact List.mem_cons_of_mem _ hp
    · rw [List.mem_singleton.mp hp]; exact List.mem_cons_self
theorem Ext.snoc {h₀ h h' : Heap} {L a : Addr} {o : Obj} (N : News h₀ L h (fr ++ n)) (ha : a = h.objs.size) (N' : News h₀ L h' ((a, o) :: (fr ++ n))) : Ext fr n (n ++ [(a, o)]) ∧ News h₀ L h' (fr ++ (n ++ [(a, o)])) := by
  subst ha
  exact Ext.snoc' (fun p hp => Heap.lt_size (N p hp).1) N'
theorem kn_snoc {B : Heap} {a : Addr} {o : Obj} : Kn B (n ++ [(a, o)]) a o := .inl (List.mem_append_right _ (List.mem_singleton.mpr rfl))
theorem news_r {h₀ h : Heap} {L : Addr} (N : News h₀ L h (fr ++ n)) : News h₀ L h n := fun p hp => N p (List.mem_append_right _ hp)
end

/-! ## The context of a walk, and what it gives back -/
structure Sx (K : Frag) (p : Program) (loose : List Str) (mean : ExcName → Option Value) (mg mb : Str → Option Value) (A₀ : Around) (base h₀ B : Heap) (outer : List Env) (L : Addr) (m : Str → Option Value) (fr news : Led) (cs : Scope) (h : Heap) : Prop where
  below : Below A₀ base outer h₀
  frm : Fr h₀ L h m
  kin : K.In B
  bst : B.StaysIn h₀
  nws : News h₀ L h (fr ++ news)
  top : Top p loose mean mg mb h₀
  fn : cs.kind = .function
abbrev Post (B h₀ : Heap) (L : Addr) (m : Str → Option Value) (fr news : Led) (s : Shared) (r : Dat) (Q : Value → Shared → Prop) : Prop :=
  ∀ v news' h' tk', Ext fr news news' → Fr h₀ L h' m → News h₀ L h' (fr ++ news') → In B news' v r → Q v { s with heap := h', toks := tk' }
section
variable {K : Frag} {p : Program} {loose : List Str} {mean : ExcName → Option Value} {mg mb : Str → Option Value} {A₀ : Around} {base h₀ B h h' : Heap} {outer : List Env} {L : Addr} {m m' : Str → Option Value} {fr fr' news news' : Led} {cs : Scope}
theorem Sx.stB (S : Sx K p loose mean mg mb A₀ base h₀ B outer L m fr news cs h) : B.StaysIn h := fun b o e => S.frm.keep b o (S.bst b o e)
theorem Sx.kin₀ (S : Sx K p loose mean mg mb A₀ base h₀ B outer L m fr news cs h) : K.In h₀ := fun a o e => S.bst _ _ (S.kin a o e)
theorem Sx.kinh (S : Sx K p loose mean mg mb A₀ base h₀ B outer L m fr news cs h) : K.In h := fun a o e => S.stB _ _ (S.kin a o e)
theorem Sx.go (S : Sx K p loose mean mg mb A₀ base h₀ B outer L m fr news cs h) (F : Fr h₀ L h' m') (N : News h₀ L h' (fr' ++ news')) : Sx K p loose mean mg mb A₀ base h₀ B outer L m' fr' news' cs h' :=
  ⟨S.below, F, S.kin, S.bst, N, S.top, S.fn⟩
end

def FnOk (prog : Program) (w : World) (K : Frag) (p : Program) (loose : List Str) (mean : ExcName → Option Value) (mg mb : Str → Option Value) (k : Nat) (f : Addr) (args : List Dat) (r : Dat) : Prop :=
  ∀ (dp un : Nat) (gd : Option (List Code)) (cn : Str) (cs : Scope) (a : Addr) (ccd : Value) (cl : List (Str × Addr)) (outer : List Env) (A₀ : Around) (base h₀ B : Heap) (L : Addr) (m : Str → Option Value) (fr news : Led) (s : Shared) (vs : List Value) (Q E : Value → Shared → Prop),
    Sx K p loose mean mg mb A₀ base h₀ B outer L m fr news cs s.heap → Ins B news vs args → dp + k < recursionLimit → un + 8 * k + 100 < cLine → Post B h₀ L m fr news s r Q →
    wpAny (model prog w) (ktrTop dp un gd cn cs L a ccd cl outer) (call (.ref f) vs) Q E s

/-- names of an environment: what a load gives -/
structure Nm (prog : Program) (w : World) (K : Frag) (A : Around) (en : Env) (nm : List (Str × NameKind)) (ns : List Str) (ρ : List (Option Dat)) (h₀ B : Heap) (L : Addr) (m : Str → Option Value) (fr news : Led) : Prop where
  loc : ∀ x i d, nm.lookup x = some .local ∨ nm.lookup x = some .cell → ix ns x = some i → nth ρ i = some d → (x == ("__debug__" : Str)) = false → ∀ news' (s : Shared) (Q E : Value → Shared → Prop) pos, Ext fr news news' → Fr h₀ L s.heap m → News h₀ L s.heap (fr ++ news') →
    (∀ v, In B news' v d → Q v s) → wpAny (model prog w) A (eval (.Name x pos) en) Q E s
  glo : ∀ x v, nm.lookup x = some .globalImplicit → nsIn K mainGlobals x = some (some v) → (x == ("__debug__" : Str)) = false → ∀ (s : Shared) (Q E : Value → Shared → Prop) pos, Fr h₀ L s.heap m → Q v s → wpAny (model prog w) A (eval (.Name x pos) en) Q E s
  blt : ∀ x v, nm.lookup x = some .globalImplicit → nsIn K mainGlobals x = some none → bootBuiltins x = some v → x ≠ "__name__" → (x == ("__debug__" : Str)) = false → ∀ (s : Shared) (Q E : Value → Shared → Prop) pos, Fr h₀ L s.heap m → Q v s → wpAny (model prog w) A (eval (.Name x pos) en) Q E s
theorem Nm.go {prog : Program} {w : World} {K : Frag} {A : Around} {en : Env} {nm : List (Str × NameKind)} {ns : List Str} {ρ : List (Option Dat)} {h₀ B : Heap} {L : Addr} {m : Str → Option Value} {fr news news' : Led}
    (M : Nm prog w K A en nm ns ρ h₀ B L m fr news) (e : Ext fr news news') : Nm prog w K A en nm ns ρ h₀ B L m fr news' :=
  ⟨fun x i d a b c dd news'' s Q E pos e' => M.loc x i d a b c dd news'' s Q E pos (e.trans e'), M.glo, M.blt⟩

structure GOk (w : World) (K : Frag) (G : List (Str × GV)) : Prop where
  fn : ∀ x a, G.lookup x = some (.fn a) → nsIn K mainGlobals x = some (some (.ref a)) ∧ keepIn K (.ref a) = true
  cst : ∀ x d, G.lookup x = some (.cst d) → ∃ v, nsIn K mainGlobals x = some (some v) ∧ ∀ B : Heap, K.In B → In B [] v d
  shd : ∀ x, G.lookup x = some .shd → ∃ D, nsIn K mainGlobals x = some (some (.ref D)) ∧ ∀ (prog : Program) (k : Str) (d : Dat), shTab.lookup k = some d → ∀ (A : Around) (value slice : Expr) (B h₀ : Heap) (L : Addr) (m : Str → Option Value) (s : Shared) (t : Tok) (Q E : Value → Shared → Prop), K.In B → B.StaysIn h₀ → Fr h₀ L s.heap m →
    (∀ v, In B [] v d → Q v { s with toks := s.toks + 1 }) → subscripted slice false (.ref D) (.str k t) = operate [.ref D, .str k t] (getItem (.ref D) (.str k t)) → wpAny (model prog w) A (subscriptTail value slice (.ref D) (.str k t)) Q E s
  blt : ∀ x, x = ("abs" : Str) ∨ x = ("len" : Str) ∨ x = ("min" : Str) → nsIn K mainGlobals x = some none

/-! ## Operators -/
section
variable {prog : Program} {w : World} {A : Around} {E : Value → Shared → Prop} {s : Shared} {h₀ B : Heap} {L : Addr} {m : Str → Option Value} {fr news : Led}
theorem noPylong {a b : Int} (h : bits b ≤ 8000) : Builtin.divisionGoesByPylong a b = false := by
  unfold Builtin.divisionGoesByPylong
  have : ¬ ((if (b == 0) = true then 0 else b.natAbs.log2 / 30 + 1) > 300) := by
    unfold bits Builtin.Int.intBits at h
    split <;> rename_i q
    · omega
    · rw [if_neg q] at h; omega
  simp only [decide_eq_false this, Bool.false_and]
theorem mulOk {a b : Int} (h : bits a + bits b ≤ 2 ^ 26) : IntMulOk a b := by
  unfold IntMulOk Builtin.Int.intTooBig bitsLine
  have : ¬ ((Builtin.Int.intBits a : Int) + (Builtin.Int.intBits b : Int) > ((2 ^ 27 : Nat) : Int)) := by
    unfold bits at h; omega
  rw [decide_eq_false this]
  simp only [Bool.and_false, Bool.false_eq_true, not_false_eq_true]
theorem bin_ok {op : Operator} {x y : Value} {dx dy r : Dat} {Q : Value → Shared → Prop} (hx : In B news x dx) (hy : In B news y dy) (F : Fr h₀ L s.heap m) (N : News h₀ L s.heap (fr ++ news)) (b : B.StaysIn h₀)
    (he : evBin op dx dy = some r) (h : Post B h₀ L m fr news s r Q) : wpAny (model prog w) A (binaryOp op x y) Q E s := by
  have i1 : ∀ (i : Int) t, r = .int i → Q (.int i t) { s with toks := s.toks + 1 } := fun i t e => by
    subst e; exact h _ news s.heap _ .refl F N (.int i t)
  cases hx with
  | int a t =>
    cases hy with
    | int c u =>
      cases op <;> simp only [evBin] at he
      · cases he; exact add_int (i1 _ _ rfl)
      · cases he; exact sub_int (i1 _ _ rfl)
      · split at he
        · rename_i q; cases he; exact PyProof.Rows.mul_int (i1 _ _ rfl) (mulOk q)
        · cases he
      · cases he
      · cases he
      · split at he
        · rename_i q; cases he; exact mod_int' (by omega) (i1 _ _ rfl)
        · cases he
      · split at he
        · rename_i q; cases he; exact pow_int q.1 q.2 (i1 _ _ rfl)
        · cases he
      · split at he
        · rename_i q; cases he; exact lshift_int q.1 q.2 (i1 _ _ rfl)
        · cases he
      · split at he
        · rename_i q; cases he; exact rshift_int q (i1 _ _ rfl)
        · cases he
      · cases he
      · cases he; exact xor_int (i1 _ _ rfl)
      · cases he; exact and_int (i1 _ _ rfl)
      · split at he
        · rename_i q; cases he; exact floordiv_int (by omega) (i1 _ _ rfl) (.inl (noPylong q.2))
        · cases he
    | _ => cases op <;> cases he
  | tuple hk hc hd hi =>
    cases hy with
    | tuple hk' hc' hd' hi' =>
      cases op <;> simp only [evBin] at he <;> first | (cases he; done) | skip
      split at he
      · rename_i q
        cases he
        have bh : B.StaysIn s.heap := fun a o e => F.keep a o (b a o e)
        have l1 := hi.length
        have l2 := hi'.length
        refine add_tuples F N ⟨_, hk.get (news_r N) bh, hc, _, hd⟩ ⟨_, hk'.get (news_r N) bh, hc', _, hd'⟩ (fun e => ?_) (fun _ e => ?_) (fun _ _ h' F' N' => ?_) (Nat.le_trans (by omega) (by decide : 1000 ≤ sizeLine))
        · subst e; cases hi
          exact h _ news s.heap _ .refl F N (.tuple hk' hc' hd' hi')
        · subst e; cases hi'
          rw [List.append_nil] at h
          exact h _ news s.heap _ .refl F N (.tuple hk hc hd hi)
        · obtain ⟨x1, x2⟩ := Ext.snoc N rfl N'
          exact h _ _ h' _ x1 F' x2 (.tuple kn_snoc rfl rfl (Ins.append (hi.mono x1.sub) (hi'.mono x1.sub)))
      · cases he
    | _ => cases op <;> cases he
  | _ => cases op <;> cases hy <;> cases he

theorem tru_ok {x : Value} {d : Dat} {t : Bool} {Q : Bool → Shared → Prop} (hx : In B news x d) (he : truD d = some t) (h : Q t s) : wpAny (model prog w) A (truthy x) Q E s := by
  cases hx with
  | int i t => cases he; exact PyProof.Rows.truthy_int h
  | bool b => cases he; exact wpAny_truthy_bool h
  | _ => cases he

theorem stays_trans {h : Heap} (b : B.StaysIn h₀) (F : Fr h₀ L h m) : B.StaysIn h := fun a o e => F.keep a o (b a o e)
theorem eqv_eq {x y : Dat} (hx : kqdOk 8 x = true) (hy : kqdOk 8 y = true) : PyData.eqv (kqdP x) (kqdP y) = decide (x = y) := by
  have q := kqd_eqv 8 x y 8 hx hy
  by_cases e : x = y
  · rw [decide_eq_true e]; exact q.mpr e
  · rw [decide_eq_false e]; exact Bool.eq_false_iff.mpr fun z => e (q.mp z)
theorem shaped_of {x : Dat} (hx : kqdOk 8 x = true) : SeqAt.shaped (kqdP x) = true := by
  have l := kqd_lay 8 x hx
  unfold SeqAt.shaped; rw [l.1, Bool.true_and]; exact decide_eq_true (Nat.le_trans l.2 (by decide))
theorem cmp_ok {op : CmpOp} {x y : Value} {dx dy r : Dat} {Q : Value → Shared → Prop} (hx : In B news x dx) (hy : In B news y dy) (F : Fr h₀ L s.heap m) (N : News h₀ L s.heap (fr ++ news)) (b : B.StaysIn h₀) (hu : A.units + 64 < cLine)
    (he : evCmp op dx dy = some r) (h : ∀ c, r = .bool c → Q (.bool c) s) : wpAny (model prog w) A (compareOp op x y) Q E s := by
  have bh := stays_trans b F
  cases op with
  | Eq =>
    simp only [evCmp] at he
    split at he
    · rename_i q
      cases he
      obtain ⟨as, ra⟩ := hx.reads (news_r N) bh 8 q.1
      obtain ⟨bs, rb⟩ := hy.reads (news_r N) bh 8 q.2
      refine eq_dataH ra rb (shaped_of q.1) (shaped_of q.2) hu ?_
      rw [eqv_eq q.1 q.2]
      exact h _ rfl
    · cases he
  | NotEq =>
    simp only [evCmp] at he
    split at he
    · rename_i q
      cases he
      obtain ⟨as, ra⟩ := hx.reads (news_r N) bh 8 q.1
      obtain ⟨bs, rb⟩ := hy.reads (news_r N) bh 8 q.2
      refine ne_dataH ra rb (shaped_of q.1) (shaped_of q.2) hu ?_
      rw [eqv_eq q.1 q.2]
      exact h _ rfl
    · cases he
  | Lt => cases hx <;> cases hy <;> first | (cases he; done) | (cases he; exact lt_int (h _ rfl))
  | Gt => cases hx <;> cases hy <;> first | (cases he; done) | (cases he; exact gt_int (h _ rfl))
  | LtE => cases hx <;> cases hy <;> first | (cases he; done) | (cases he; exact PyProof.Rows.le_int (h _ rfl))
  | GtE => cases hx <;> cases hy <;> first | (cases he; done) | (cases he; exact PyProof.Rows.ge_int (h _ rfl))
  | In =>
    cases hy with
    | list hk hc hd hi =>
      simp only [evCmp] at he
      split at he
      · rename_i q
        cases he
        obtain ⟨as, ra⟩ := Ins.reads (news_r N) bh 8 hi q.1
        obtain ⟨bs, rx⟩ := hx.reads (news_r N) bh 8 q.2
        have l := kqd_layL q.1
        have ld := kqd_lay 8 dx q.2
        rename_i ds
        have e : ((kqdPs ds).any fun y => PyData.eqv y (kqdP dx)) = decide (dx ∈ ds) := by
          by_cases hq : dx ∈ ds
          · rw [decide_eq_true hq]; exact (kqd_any ds dx q.1 q.2).mpr hq
          · rw [decide_eq_false hq]; exact Bool.eq_false_iff.mpr fun z => hq ((kqd_any ds dx q.1 q.2).mp z)
        refine SeqAt.in_list_reads (reads_list_at (hk.get (news_r N) bh) hc hd (by simpa using ra)) rx l.1 ld.1 ?_ (by rw [e]; exact h _ rfl)
        have := Nat.min_le_right (PyData.depthAll (kqdPs ds)) (kqdP dx).depth
        omega
      · cases he
    | _ => simp only [evCmp] at he; cases he
  | _ => simp only [evCmp] at he; cases he
end
end Mine

end

/-! # part AJ3 -/
section
open PySem PySem.W PyProof.Rows PySem.Calls PySem.Spec
set_option maxRecDepth 100000
namespace Mine
open Classical

structure Wd where
  prog : Program
  w : World
  K : Frag
  p : Program
  loose : List Str
  mean : ExcName → Option Value
  mg : Str → Option Value
  mb : Str → Option Value
structure Ct where
  dp : Nat
  un : Nat
  gd : Option (List Code)
  cn : Str
  cs : Scope
  a : Addr
  ccd : Value
  cl : List (Str × Addr)
  outer : List Env
  A₀ : Around
  base : Heap
  h₀ : Heap
  B : Heap
  L : Addr
abbrev Ct.A (c : Ct) : Around := ktrTop c.dp c.un c.gd c.cn c.cs c.L c.a c.ccd c.cl c.outer
abbrev SX (X : Wd) (c : Ct) (fr : Led) (m : Str → Option Value) (news : Led) (h : Heap) : Prop := Sx X.K X.p X.loose X.mean X.mg X.mb c.A₀ c.base c.h₀ c.B c.outer c.L m fr news c.cs h
abbrev NM (X : Wd) (c : Ct) (fr : Led) (en : Env) (nm : List (Str × NameKind)) (ns : List Str) (ρ : List (Option Dat)) (m : Str → Option Value) (news : Led) : Prop := Nm X.prog X.w X.K c.A en nm ns ρ c.h₀ c.B c.L m fr news
abbrev Room (c : Ct) (k : Nat) : Prop := c.dp + k < recursionLimit ∧ c.un + 8 * k + 100 < cLine
abbrev Pst (c : Ct) (fr : Led) (m : Str → Option Value) (news : Led) (s : Shared) (d : Dat) (Q : Value → Shared → Prop) : Prop := Post c.B c.h₀ c.L m fr news s d Q
abbrev FOk (X : Wd) (k : Nat) (f : Addr) (args : List Dat) (r : Dat) : Prop := FnOk X.prog X.w X.K X.p X.loose X.mean X.mg X.mb k f args r

def ET (X : Wd) (c : Ct) (en : Env) (nm : List (Str × NameKind)) (ns : List Str) (ρ : List (Option Dat)) (e : Expr) (d : Dat) : Prop :=
  ∀ (fr : Led) (m : Str → Option Value) (news : Led) (s : Shared) (Q E : Value → Shared → Prop), SX X c fr m news s.heap → NM X c fr en nm ns ρ m news → Pst c fr m news s d Q → wpAny (model X.prog X.w) c.A (eval e en) Q E s
def ETs (X : Wd) (c : Ct) (en : Env) (nm : List (Str × NameKind)) (ns : List Str) (ρ : List (Option Dat)) (pos : Pos) (es : List Expr) (ds : List Dat) : Prop :=
  ∀ (fr : Led) (m : Str → Option Value) (news : Led) (s : Shared) (Q : List Value → Shared → Prop) (E : Value → Shared → Prop), SX X c fr m news s.heap → NM X c fr en nm ns ρ m news →
    (∀ vs news' h' tk', Ext fr news news' → Fr c.h₀ c.L h' m → News c.h₀ c.L h' (fr ++ news') → Ins c.B news' vs ds → Q vs { s with heap := h', toks := tk' }) → wpAny (model X.prog X.w) c.A (spliced (backTo pos (starEach es en))) Q E s
def ETt (X : Wd) (c : Ct) (en : Env) (nm : List (Str × NameKind)) (ns : List Str) (ρ : List (Option Dat)) (e : Expr) (t : Bool) : Prop :=
  ∀ (fr : Led) (m : Str → Option Value) (news : Led) (s : Shared) (Q : Bool → Shared → Prop) (E : Value → Shared → Prop), SX X c fr m news s.heap → NM X c fr en nm ns ρ m news →
    (∀ news' h' tk', Ext fr news news' → Fr c.h₀ c.L h' m → News c.h₀ c.L h' (fr ++ news') → Q t { s with heap := h', toks := tk' }) → wpAny (model X.prog X.w) c.A (PySem.isTrue e en (eval e en)) Q E s

section
variable {X : Wd} {c : Ct} {en : Env} {nm : List (Str × NameKind)} {ns : List Str} {ρ : List (Option Dat)}

theorem not_starred {F : Nat → List Dat → Option Dat} {G : List (Str × GV)} {n : Nat} {e : Expr} {d : Dat} (h : ev F ρ (compE nm ns G n e) = some d) (rest : List Expr) : starEach (e :: rest) en = (false, eval e en) :: starEach rest en := by
  cases e <;> first | rfl | skip
  cases n <;> simp [compE, ev] at h

theorem ets_cons {pos : Pos} {e : Expr} {es : List Expr} {d : Dat} {ds : List Dat} (hs : starEach (e :: es) en = (false, eval e en) :: starEach es en) (h1 : ET X c en nm ns ρ e d) (h2 : ETs X c en nm ns ρ pos es ds) : ETs X c en nm ns ρ pos (e :: es) (d :: ds) := by
  intro fr m news s Q E S M P
  rw [hs]
  refine spliced_cons (h1 fr m news s _ _ S M fun v n1 h' tk' x1 F1 N1 I1 => ?_)
  exact h2 fr m n1 _ _ _ (S.go F1 N1) (M.go x1) fun vs n2 h2 tk2 x2 F2 N2 I2 => P _ n2 h2 tk2 (x1.trans x2) F2 N2 (.cons (I1.mono x2.sub) I2)
theorem ets_nil {pos : Pos} : ETs X c en nm ns ρ pos [] [] := by
  intro fr m news s Q E S M P
  exact spliced_nil (P _ news s.heap s.toks .refl S.frm S.nws .nil)

theorem ets_of {F : Nat → List Dat → Option Dat} {G : List (Str × GV)} {n : Nat} {pos : Pos} (IH : ∀ e d, ev F ρ (compE nm ns G n e) = some d → ET X c en nm ns ρ e d) :
    ∀ (es : List Expr) (ds : List Dat), evs F ρ (argsC (es.map (compE nm ns G n))) = some ds → ETs X c en nm ns ρ pos es ds
  | [], ds, h => by
    simp only [List.map_nil, argsC, evs, Option.some.injEq] at h
    subst h; exact ets_nil
  | e :: es, ds, h => by
    simp only [List.map_cons, argsC, evs, Option.bind_eq_some_iff] at h
    obtain ⟨d, h1, ds', h2, h3⟩ := h
    cases h3
    exact ets_cons (not_starred h1 es) (IH e d h1) (ets_of IH es ds' h2)

/-! isTrue -/
theorem ett_plain {e : Expr} {d : Dat} {t : Bool} (h : ET X c en nm ns ρ e d) (ht : truD d = some t) (he : ∀ whole, PySem.isTrue e en whole = (do let v ← whole; standAt e.pos; holding [v] (truthy v))) : ETt X c en nm ns ρ e t := by
  intro fr m news s Q E S M P
  refine isTrue_plain (h fr m news s _ _ S M fun v n1 h' tk' x1 F1 N1 I1 => ?_) (he _)
  exact tru_ok I1 ht (P n1 h' tk' x1 F1 N1)

theorem andC_cons {e e' : CE} {r : List CE} : andC (e :: e' :: r) = .and e (andC (e' :: r)) := rfl
theorem orC_cons {e e' : CE} {r : List CE} : orC (e :: e' :: r) = .or e (orC (e' :: r)) := rfl

theorem ett_and {F : Nat → List Dat → Option Dat} {C : Expr → CE} (IH : ∀ e d t, ev F ρ (C e) = some d → truD d = some t → ETt X c en nm ns ρ e t) {pos : Pos} :
    ∀ (es : List Expr) (d : Dat) (t : Bool), ev F ρ (andC (es.map C)) = some d → truD d = some t → ETt X c en nm ns ρ (.BoolOp .And es pos) t
  | [], d, t, h, ht => by simp [andC, ev] at h
  | [e], d, t, h, ht => by
    intro fr m news s Q E S M P
    refine isTrue_and (IH e d t h ht fr m news s _ _ S M fun n1 h' tk' x1 F1 N1 => ?_)
    cases t with
    | true => exact isTrue_and_nil (P n1 h' tk' x1 F1 N1)
    | false => exact P n1 h' tk' x1 F1 N1
  | e :: e' :: r, d, t, h, ht => by
    simp only [List.map_cons, andC_cons, ev, Option.bind_eq_some_iff] at h
    obtain ⟨d1, h1, t1, h2, h3⟩ := h
    intro fr m news s Q E S M P
    refine isTrue_and (IH e d1 t1 h1 h2 fr m news s _ _ S M fun n1 h' tk' x1 F1 N1 => ?_)
    cases t1 with
    | true => exact ett_and IH (pos := pos) (e' :: r) d t h3 ht fr m n1 _ _ _ (S.go F1 N1) (M.go x1) fun n2 h2 tk2 x2 F2 N2 => P n2 h2 tk2 (x1.trans x2) F2 N2
    | false =>
      simp only [Bool.false_eq_true, if_false, Option.some.injEq] at h3
      subst h3
      rw [h2] at ht; cases ht
      exact P n1 h' tk' x1 F1 N1
theorem ett_or {F : Nat → List Dat → Option Dat} {C : Expr → CE} (IH : ∀ e d t, ev F ρ (C e) = some d → truD d = some t → ETt X c en nm ns ρ e t) {pos : Pos} :
    ∀ (es : List Expr) (d : Dat) (t : Bool), ev F ρ (orC (es.map C)) = some d → truD d = some t → ETt X c en nm ns ρ (.BoolOp .Or es pos) t
  | [], d, t, h, ht => by simp [orC, ev] at h
  | [e], d, t, h, ht => by
    intro fr m news s Q E S M P
    refine isTrue_or (IH e d t h ht fr m news s _ _ S M fun n1 h' tk' x1 F1 N1 => ?_)
    cases t with
    | true => exact P n1 h' tk' x1 F1 N1
    | false => exact isTrue_or_nil (P n1 h' tk' x1 F1 N1)
  | e :: e' :: r, d, t, h, ht => by
    simp only [List.map_cons, orC_cons, ev, Option.bind_eq_some_iff] at h
    obtain ⟨d1, h1, t1, h2, h3⟩ := h
    intro fr m news s Q E S M P
    refine isTrue_or (IH e d1 t1 h1 h2 fr m news s _ _ S M fun n1 h' tk' x1 F1 N1 => ?_)
    cases t1 with
    | false => exact ett_or IH (pos := pos) (e' :: r) d t h3 ht fr m n1 _ _ _ (S.go F1 N1) (M.go x1) fun n2 h2 tk2 x2 F2 N2 => P n2 h2 tk2 (x1.trans x2) F2 N2
    | true =>
      simp only [if_true, Option.some.injEq] at h3
      subst h3
      rw [h2] at ht; cases ht
      exact P n1 h' tk' x1 F1 N1
theorem et_and {F : Nat → List Dat → Option Dat} {C : Expr → CE} (IH : ∀ e d, ev F ρ (C e) = some d → ET X c en nm ns ρ e d) {pos : Pos} :
    ∀ (es : List Expr) (d : Dat), ev F ρ (andC (es.map C)) = some d → ET X c en nm ns ρ (.BoolOp .And es pos) d
  | [], d, h => by simp [andC, ev] at h
  | [e], d, h => by
    intro fr m news s Q E S M P
    exact BoolOp_one (IH e d h fr m news s _ _ S M P)
  | e :: e' :: r, d, h => by
    simp only [List.map_cons, andC_cons, ev, Option.bind_eq_some_iff] at h
    obtain ⟨d1, h1, t1, h2, h3⟩ := h
    intro fr m news s Q E S M P
    refine BoolOp_and (IH e d1 h1 fr m news s _ _ S M fun v n1 h' tk' x1 F1 N1 I1 => tru_ok I1 h2 ?_)
    cases t1 with
    | true => exact et_and IH (e' :: r) d h3 fr m n1 _ _ _ (S.go F1 N1) (M.go x1) fun v n2 h2 tk2 x2 F2 N2 I2 => P v n2 h2 tk2 (x1.trans x2) F2 N2 I2
    | false =>
      simp only [Bool.false_eq_true, if_false, Option.some.injEq] at h3
      subst h3
      exact P v n1 h' tk' x1 F1 N1 I1
theorem et_or {F : Nat → List Dat → Option Dat} {C : Expr → CE} (IH : ∀ e d, ev F ρ (C e) = some d → ET X c en nm ns ρ e d) {pos : Pos} :
    ∀ (es : List Expr) (d : Dat), ev F ρ (orC (es.map C)) = some d → ET X c en nm ns ρ (.BoolOp .Or es pos) d
  | [], d, h => by simp [orC, ev] at h
  | [e], d, h => by
    intro fr m news s Q E S M P
    exact BoolOp_one (IH e d h fr m news s _ _ S M P)
  | e :: e' :: r, d, h => by
    simp only [List.map_cons, orC_cons, ev, Option.bind_eq_some_iff] at h
    obtain ⟨d1, h1, t1, h2, h3⟩ := h
    intro fr m news s Q E S M P
    refine BoolOp_or (IH e d1 h1 fr m news s _ _ S M fun v n1 h' tk' x1 F1 N1 I1 => tru_ok I1 h2 ?_)
    cases t1 with
    | false => exact et_or IH (e' :: r) d h3 fr m n1 _ _ _ (S.go F1 N1) (M.go x1) fun v n2 h2 tk2 x2 F2 N2 I2 => P v n2 h2 tk2 (x1.trans x2) F2 N2 I2
    | true =>
      simp only [if_true, Option.some.injEq] at h3
      subst h3
      exact P v n1 h' tk' x1 F1 N1 I1

theorem et_bin {l r : Expr} {op : Operator} {pos : Pos} {dl dr d : Dat} (h1 : ET X c en nm ns ρ l dl) (h2 : ET X c en nm ns ρ r dr) (he : evBin op dl dr = some d) : ET X c en nm ns ρ (.BinOp l op r pos) d := by
  intro fr m news s Q E S M P
  refine wpAny_BinOp (h1 fr m news s _ _ S M fun v n1 g1 tk1 x1 F1 N1 I1 => ?_)
  refine h2 fr m n1 _ _ _ (S.go F1 N1) (M.go x1) fun v2 n2 g2 tk2 x2 F2 N2 I2 => ?_
  exact bin_ok (I1.mono x2.sub) I2 F2 N2 S.bst he fun v3 n3 g3 tk3 x3 F3 N3 I3 => P v3 n3 g3 tk3 (x1.trans (x2.trans x3)) F3 N3 I3
theorem et_cmp {l r : Expr} {op : CmpOp} {pos : Pos} {dl dr d : Dat} (hu : c.un + 64 < cLine) (h1 : ET X c en nm ns ρ l dl) (h2 : ET X c en nm ns ρ r dr) (he : evCmp op dl dr = some d) (hd : ∃ b, d = .bool b) (hm : behindInMarks op r = false) : ET X c en nm ns ρ (.Compare l [op] [r] pos) d := by
  intro fr m news s Q E S M P
  obtain ⟨b, rfl⟩ := hd
  refine wpAny_Compare1 (h1 fr m news s _ _ S M fun v n1 g1 tk1 x1 F1 N1 I1 => ?_) hm
  refine h2 fr m n1 _ _ _ (S.go F1 N1) (M.go x1) fun v2 n2 g2 tk2 x2 F2 N2 I2 => ?_
  exact cmp_ok (I1.mono x2.sub) I2 F2 N2 S.bst hu he fun b' e => by cases e; exact P _ n2 g2 tk2 (x1.trans x2) F2 N2 (.bool _)
theorem evCmp_bool {op : CmpOp} {x y d : Dat} (h : evCmp op x y = some d) : ∃ b, d = .bool b := by
  unfold evCmp at h
  split at h <;> first | (split at h <;> first | (cases h; exact ⟨_, rfl⟩) | cases h) | (cases h; exact ⟨_, rfl⟩) | cases h
theorem ett_cmp {l r : Expr} {op : CmpOp} {pos : Pos} {dl dr d : Dat} {t : Bool} (hu : c.un + 64 < cLine) (h1 : ET X c en nm ns ρ l dl) (h2 : ET X c en nm ns ρ r dr) (he : evCmp op dl dr = some d) (ht : truD d = some t) (hm : behindInMarks op r = false) : ETt X c en nm ns ρ (.Compare l [op] [r] pos) t := by
  intro fr m news s Q E S M P
  obtain ⟨b, rfl⟩ := evCmp_bool he
  cases ht
  refine wpAny_isTrue_Compare1 (h1 fr m news s _ _ S M fun v n1 g1 tk1 x1 F1 N1 I1 => ?_) hm
  refine h2 fr m n1 _ _ _ (S.go F1 N1) (M.go x1) fun v2 n2 g2 tk2 x2 F2 N2 I2 => ?_
  exact cmp_ok (I1.mono x2.sub) I2 F2 N2 S.bst hu he fun b' e => by cases e; exact wpAny_truthy_bool (P n2 g2 tk2 (x1.trans x2) F2 N2)
theorem et_cmp2 {l r1 r2 : Expr} {o1 o2 : CmpOp} {pos : Pos} {dl d1 d2 : Dat} {e1 d : Dat} {t : Bool} (hu : c.un + 64 < cLine) (h0 : ET X c en nm ns ρ l dl) (h1 : ET X c en nm ns ρ r1 d1) (he : evCmp o1 dl d1 = some e1) (ht : truD e1 = some t)
    (h2 : if t then ET X c en nm ns ρ r2 d2 ∧ evCmp o2 d1 d2 = some d else e1 = d) (hm : lastMarks [o1, o2] [r1, r2] = false) : ET X c en nm ns ρ (.Compare l [o1, o2] [r1, r2] pos) d := by
  intro fr m news s Q E S M P
  obtain ⟨b, rfl⟩ := evCmp_bool he
  obtain rfl : b = t := by simpa [truD] using ht
  refine Compare_chain (h0 fr m news s _ _ S M fun v n1 g1 tk1 x1 F1 N1 I1 => chain_link ?_) hm
  refine h1 fr m n1 _ _ _ (S.go F1 N1) (M.go x1) fun v2 n2 g2 tk2 x2 F2 N2 I2 => ?_
  refine cmp_ok (I1.mono x2.sub) I2 F2 N2 S.bst hu he fun b' e => ?_
  cases e
  refine wpAny_truthy_bool ?_
  cases b with
  | false => rw [if_neg (by decide)] at h2; subst h2; exact P _ n2 g2 tk2 (x1.trans x2) F2 N2 (.bool _)
  | true =>
    rw [if_pos rfl] at h2
    rw [if_pos rfl]
    refine chain_last (h2.1 fr m n2 _ _ _ (S.go F2 N2) (M.go (x1.trans x2)) fun v3 n3 g3 tk3 x3 F3 N3 I3 => ?_)
    obtain ⟨b', rfl⟩ := evCmp_bool h2.2
    exact cmp_ok (I2.mono x3.sub) I3 F3 N3 S.bst hu h2.2 fun b' e => by cases e; exact P _ n3 g3 tk3 (x1.trans (x2.trans x3)) F3 N3 (.bool _)
theorem ett_cmp2 {l r1 r2 : Expr} {o1 o2 : CmpOp} {pos : Pos} {dl d1 d2 : Dat} {e1 d : Dat} {t tt : Bool} (hu : c.un + 64 < cLine) (h0 : ET X c en nm ns ρ l dl) (h1 : ET X c en nm ns ρ r1 d1) (he : evCmp o1 dl d1 = some e1) (ht : truD e1 = some t)
    (h2 : if t then ET X c en nm ns ρ r2 d2 ∧ evCmp o2 d1 d2 = some d else e1 = d) (htt : truD d = some tt) (hm : lastMarks [o1, o2] [r1, r2] = false) : ETt X c en nm ns ρ (.Compare l [o1, o2] [r1, r2] pos) tt := by
  intro fr m news s Q E S M P
  obtain ⟨b, rfl⟩ := evCmp_bool he
  obtain rfl : b = t := by simpa [truD] using ht
  refine isTrue_chain (h0 fr m news s _ _ S M fun v n1 g1 tk1 x1 F1 N1 I1 => test_link ?_) hm
  refine h1 fr m n1 _ _ _ (S.go F1 N1) (M.go x1) fun v2 n2 g2 tk2 x2 F2 N2 I2 => ?_
  refine cmp_ok (I1.mono x2.sub) I2 F2 N2 S.bst hu he fun b' e => ?_
  cases e
  refine wpAny_truthy_bool ?_
  cases b with
  | false => rw [if_neg (by decide)] at h2; subst h2; cases htt; exact P n2 g2 tk2 (x1.trans x2) F2 N2
  | true =>
    rw [if_pos rfl] at h2
    rw [if_pos rfl]
    refine test_last (h2.1 fr m n2 _ _ _ (S.go F2 N2) (M.go (x1.trans x2)) fun v3 n3 g3 tk3 x3 F3 N3 I3 => ?_)
    obtain ⟨b', rfl⟩ := evCmp_bool h2.2
    cases htt
    exact cmp_ok (I2.mono x3.sub) I3 F3 N3 S.bst hu h2.2 fun b' e => by cases e; exact wpAny_truthy_bool (P n3 g3 tk3 (x1.trans (x2.trans x3)) F3 N3)
theorem et_ite {t a b : Expr} {pos : Pos} {tt : Bool} {d : Dat} (h0 : ETt X c en nm ns ρ t tt) (h1 : if tt then ET X c en nm ns ρ a d else ET X c en nm ns ρ b d) : ET X c en nm ns ρ (.IfExp t a b pos) d := by
  intro fr m news s Q E S M P
  refine IfExp_ (h0 fr m news s _ _ S M fun n1 g1 tk1 x1 F1 N1 => ?_)
  cases tt with
  | true => exact h1 fr m n1 _ _ _ (S.go F1 N1) (M.go x1) fun v n2 h2 tk2 x2 F2 N2 I2 => P v n2 h2 tk2 (x1.trans x2) F2 N2 I2
  | false => exact h1 fr m n1 _ _ _ (S.go F1 N1) (M.go x1) fun v n2 h2 tk2 x2 F2 N2 I2 => P v n2 h2 tk2 (x1.trans x2) F2 N2 I2
theorem ett_ite {t a b : Expr} {pos : Pos} {tt r : Bool} (h0 : ETt X c en nm ns ρ t tt) (h1 : if tt then ETt X c en nm ns ρ a r else ETt X c en nm ns ρ b r) : ETt X c en nm ns ρ (.IfExp t a b pos) r := by
  intro fr m news s Q E S M P
  refine isTrue_IfExp (h0 fr m news s _ _ S M fun n1 g1 tk1 x1 F1 N1 => ?_)
  cases tt with
  | true => exact h1 fr m n1 _ _ _ (S.go F1 N1) (M.go x1) fun n2 h2 tk2 x2 F2 N2 => P n2 h2 tk2 (x1.trans x2) F2 N2
  | false => exact h1 fr m n1 _ _ _ (S.go F1 N1) (M.go x1) fun n2 h2 tk2 x2 F2 N2 => P n2 h2 tk2 (x1.trans x2) F2 N2

theorem et_tup {es : List Expr} {k : Nat} {pos : Pos} {ds : List Dat} (h : ETs X c en nm ns ρ pos es ds) (hl : es.length ≤ 30) (hd : ds.length = es.length) : ET X c en nm ns ρ (.Tuple es k pos) (.tuple ds) := by
  intro fr m news s Q E S M P
  refine Tuple_ (h fr m news s _ _ S M fun vs n1 g1 tk1 x1 F1 N1 I1 => ?_)
  have := I1.length
  refine newTuple_N F1 N1 (fun h' F2 N2 => ?_) (Nat.le_trans (by omega) (by decide : 30 ≤ sizeLine))
  obtain ⟨x2, N3⟩ := Ext.snoc N1 rfl N2
  exact P _ _ h' _ (x1.trans x2) F2 N3 (.tuple kn_snoc rfl rfl (I1.mono x2.sub))
theorem et_lst {es : List Expr} {pos : Pos} {ds : List Dat} (h : ETs X c en nm ns ρ pos es ds) (hl : es.length ≤ 30) (hd : ds.length = es.length) : ET X c en nm ns ρ (.List es pos) (.list ds) := by
  intro fr m news s Q E S M P
  refine List_ (h fr m news s _ _ S M fun vs n1 g1 tk1 x1 F1 N1 I1 => ?_)
  have := I1.length
  refine newList_N F1 N1 (fun h' F2 N2 => ?_) (Nat.le_trans (by omega) (by decide : 30 ≤ sizeLine))
  obtain ⟨x2, N3⟩ := Ext.snoc N1 rfl N2
  exact P _ _ h' _ (x1.trans x2) F2 N3 (.list kn_snoc rfl rfl (I1.mono x2.sub))
theorem evs_len {F : Nat → List Dat → Option Dat} : ∀ (es : List CE) (ds : List Dat), evs F ρ (argsC es) = some ds → ds.length = es.length
  | [], ds, h => by simp only [argsC, evs, Option.some.injEq] at h; subst h; rfl
  | e :: es, ds, h => by
    simp only [argsC, evs, Option.bind_eq_some_iff] at h
    obtain ⟨d, h1, ds', h2, h3⟩ := h
    cases h3
    exact congrArg Nat.succ (evs_len es ds' h2)
theorem et_sub {a i : Expr} {pos : Pos} {da di d : Dat} (h1 : ET X c en nm ns ρ a da) (h2 : ET X c en nm ns ρ i di) (he : evSub da di = some d) (hs : ∀ o v, subscripted i false o v = operate [o, v] (getItem o v)) : ET X c en nm ns ρ (.Subscript a i pos) d := by
  intro fr m news s Q E S M P
  refine Subscript_ (h1 fr m news s _ _ S M fun v n1 g1 tk1 x1 F1 N1 I1 => ?_)
  refine h2 fr m n1 _ _ _ (S.go F1 N1) (M.go x1) fun v2 n2 g2 tk2 x2 F2 N2 I2 => ?_
  have bh : c.B.StaysIn g2 := fun a o e => F2.keep a o (S.bst a o e)
  cases I1 with
  | @tuple _ _ vs _ _ hk hc hd hi =>
    cases I2 with
    | int k t =>
      simp only [evSub] at he
      split at he
      · rename_i q
        obtain ⟨v, hv, Iv⟩ := hi.get he
        have l := hi.length
        have hlo : -(2 ^ 63) ≤ k := Int.le_trans (by decide) q.1
        have hj : seqIndex? k vs.length = some k.toNat := by
          unfold seqIndex?
          have h1 : ¬ k < 0 := by omega
          have h2 : k < (vs.length : Int) := by rw [l]; exact q.2.1
          simp [h1, q.1, h2]
        exact item_tupleT ⟨_, (hk.mono x2.sub).get (news_r N2) bh, hc, _, hd⟩ hlo q.2.2 hj hv (P _ n2 g2 tk2 (x1.trans x2) F2 N2 (Iv.mono x2.sub)) (hs _ _)
      · cases he
    | _ => cases he
  | list hk hc hd hi =>
    cases I2 with
    | int k t =>
      simp only [evSub] at he
      split at he
      · rename_i q
        obtain ⟨v, hv, Iv⟩ := hi.get he
        have hL : g2.IsList _ _ := ⟨_, (hk.mono x2.sub).get (news_r N2) bh, hc, _, hd⟩
        exact tail_any hL.typeIs slot_list_getitem.lookup (wpAny_getItem_list hL q.1 q.2.2 (by simpa using hv) (P _ n2 g2 tk2 (x1.trans x2) F2 N2 (Iv.mono x2.sub))) (hs _ _)
      · cases he
    | _ => cases he
  | _ => cases he
theorem et_neg {x : Expr} {pos : Pos} {i : Int} (h : ET X c en nm ns ρ x (.int i)) : ET X c en nm ns ρ (.UnaryOp .USub x pos) (.int (-i)) := by
  intro fr m news s Q E S M P
  refine UnaryOp_ (h fr m news s _ _ S M fun v n1 g1 tk1 x1 F1 N1 I1 => ?_)
  cases I1
  exact PyProof.Rows.neg_int (P _ n1 g1 _ x1 F1 N1 (.int _ _))
theorem et_not {x : Expr} {pos : Pos} {d : Dat} {t : Bool} (h : ET X c en nm ns ρ x d) (ht : truD d = some t) : ET X c en nm ns ρ (.UnaryOp .Not x pos) (.bool (!t)) := by
  intro fr m news s Q E S M P
  refine UnaryOp_ (h fr m news s _ _ S M fun v n1 g1 tk1 x1 F1 N1 I1 => ?_)
  exact not_of (tru_ok I1 ht (P _ n1 g1 _ x1 F1 N1 (.bool _)))
theorem ett_not {x : Expr} {pos : Pos} {t : Bool} (h : ETt X c en nm ns ρ x t) : ETt X c en nm ns ρ (.UnaryOp .Not x pos) (!t) := by
  intro fr m news s Q E S M P
  exact isTrue_not (h fr m news s _ _ S M fun n1 g1 tk1 x1 F1 N1 => P n1 g1 tk1 x1 F1 N1)
theorem et_blen {o : Expr} {apos pos : Pos} {i : Int} {pl : Sem Bool} (h : ET X c en nm ns ρ o (.int i)) (he : eval (.Call (.Attribute o (Str.ofString "bit_length") apos) [] [] pos) en = (do
      let ov ← eval o en
      standAt apos.atName
      let (f, first) ← holding [ov] (getMethod ov (Str.ofString "bit_length") pl)
      callWith pos f first (backTo pos (starEach [] en)) [])) : ET X c en nm ns ρ (.Call (.Attribute o (Str.ofString "bit_length") apos) [] [] pos) (.int (bits i : Nat)) := by
  intro fr m news s Q E S M P
  refine MethodCall_ (h fr m news s _ _ S M fun v n1 g1 tk1 x1 F1 N1 I1 => ?_) he
  cases I1
  refine getMethod_int_bit_length ?_
  refine callWith_builtin rfl (evalArgs_nil3 ?_)
  exact call_int_bit_length (P _ n1 g1 _ x1 F1 N1 (.int _ _))
theorem et_call {f : Str} {fp pos : Pos} {e : Expr} {es : List Expr} {F : Nat → List Dat → Option Dat} {k : Nat} {a : Addr} {ds : List Dat} {r : Dat} (hroom : Room c k)
    (hF : FOk X k a ds r) (hg : isG nm f = true) (hk : nsIn X.K mainGlobals f = some (some (.ref a))) (hkeep : keepIn X.K (.ref a) = true) (hst : starEach (e :: es) en = (false, eval e en) :: starEach es en) (hpl : (backTo pos (starEach es en)).any (·.1) = false)
    (h : ETs X c en nm ns ρ pos (e :: es) ds) : ET X c en nm ns ρ (.Call (.Name f fp) (e :: es) [] pos) r := by
  intro fr m news s Q E S M P
  simp only [isG, Bool.and_eq_true, Bool.not_eq_true', beq_iff_eq] at hg
  refine Call_ (M.glo f _ hg.2 hk hg.1 s _ _ fp S.frm ?_)
  refine callWith_K S.kin₀ hkeep ?_ hst hpl
  refine h fr m news s _ _ S M fun vs n1 h' tk' x1 F1 N1 I1 => ⟨(S.go F1 N1).kinh, ?_⟩
  exact hF _ _ _ _ _ _ _ _ _ _ _ _ _ _ _ _ n1 _ vs _ _ (S.go F1 N1) I1 hroom.1 hroom.2 fun v n2 h2 tk2 x2 F2 N2 I2 => P v n2 h2 tk2 (x1.trans x2) F2 N2 I2
theorem et_blt {f : Str} {id : String} {fp pos : Pos} {e : Expr} {es : List Expr} {ds : List Dat} {r : Dat}
    (hg : isG nm f = true) (hk : nsIn X.K mainGlobals f = some none) (hb : bootBuiltins f = some (.builtin id)) (hn : f ≠ "__name__") (hst : starEach (e :: es) en = (false, eval e en) :: starEach es en) (hpl : (backTo pos (starEach es en)).any (·.1) = false)
    (h : ETs X c en nm ns ρ pos (e :: es) ds)
    (hq : ∀ fr m news (s : Shared) vs (Q E : Value → Shared → Prop), SX X c fr m news s.heap → Ins c.B news vs ds → Pst c fr m news s r Q → wpAny (model X.prog X.w) c.A (call (.builtin id) vs) Q E s) : ET X c en nm ns ρ (.Call (.Name f fp) (e :: es) [] pos) r := by
  intro fr m news s Q E S M P
  simp only [isG, Bool.and_eq_true, Bool.not_eq_true', beq_iff_eq] at hg
  refine Call_ (M.blt f _ hg.2 hk hb hn hg.1 s _ _ fp S.frm ?_)
  refine callWith_builtin ?_ ?_
  · rw [hst]; exact hpl
  rw [hst]
  refine evalArgs_plain ?_
  have h' := h fr m news s (fun vs s' => wpAny (model X.prog X.w) c.A (call (.builtin id) ([] ++ vs)) Q E s') E S M fun vs n1 h' tk' x1 F1 N1 I1 => by
    exact hq fr m n1 _ vs Q E (S.go F1 N1) I1 fun v n2 h2 tk2 x2 F2 N2 I2 => P v n2 h2 tk2 (x1.trans x2) F2 N2 I2
  rw [hst] at h'
  exact h'
theorem any_of_evs {F : Nat → List Dat → Option Dat} {G : List (Str × GV)} {n : Nat} {pos : Pos} : ∀ (es : List Expr) (ds : List Dat), evs F ρ (argsC (es.map (compE nm ns G n))) = some ds → (backTo pos (starEach es en)).any (·.1) = false
  | [], _, _ => rfl
  | e :: es, ds, h => by
    simp only [List.map_cons, argsC, evs, Option.bind_eq_some_iff] at h
    obtain ⟨d, h1, ds', h2, h3⟩ := h
    rw [not_starred h1 es]
    exact any_of_evs es ds' h2
theorem et_min {f : Str} {fp pos : Pos} {e1 e2 : Expr} {i j : Int} (hf : f = ("min" : Str)) (hg : isG nm f = true) (hk : nsIn X.K mainGlobals f = some none) (hst : starEach [e1, e2] en = (false, eval e1 en) :: starEach [e2] en) (hpl : (backTo pos (starEach [e2] en)).any (·.1) = false)
    (h : ETs X c en nm ns ρ pos [e1, e2] [.int i, .int j]) : ET X c en nm ns ρ (.Call (.Name f fp) [e1, e2] [] pos) (.int (if j < i then j else i)) := by
  refine et_blt hg hk (id := "min") (by rw [hf]; exact (by boot_by_name)) (by rw [hf]; decide) hst hpl h fun fr m news s vs Q E S I P => ?_
  cases I with
  | cons a r => cases r with
    | cons b r' =>
      cases r'; cases a; cases b
      exact min_two_N rfl S.frm S.nws fun h' tk F' N' => P _ news h' tk .refl F' N' (.int _ _)
theorem et_abs {f : Str} {fp pos : Pos} {e1 : Expr} {i : Int} (hf : f = ("abs" : Str)) (hg : isG nm f = true) (hk : nsIn X.K mainGlobals f = some none) (hst : starEach [e1] en = (false, eval e1 en) :: starEach [] en) (hpl : (backTo pos (starEach [] en)).any (·.1) = false)
    (h : ETs X c en nm ns ρ pos [e1] [.int i]) : ET X c en nm ns ρ (.Call (.Name f fp) [e1] [] pos) (.int (if i < 0 then -i else i)) := by
  refine et_blt hg hk (id := "abs") (by rw [hf]; exact (by boot_by_name)) (by rw [hf]; decide) hst hpl h fun fr m news s vs Q E S I P => ?_
  cases I with
  | cons a r =>
    cases r; cases a
    exact call_abs_int fun u tk => P _ news s.heap tk .refl S.frm S.nws (.int _ _)
theorem et_len {f : Str} {fp pos : Pos} {e1 : Expr} {l : List Dat} (hl : (l.length : Int) < 2 ^ 63) (hf : f = ("len" : Str)) (hg : isG nm f = true) (hk : nsIn X.K mainGlobals f = some none) (hst : starEach [e1] en = (false, eval e1 en) :: starEach [] en) (hpl : (backTo pos (starEach [] en)).any (·.1) = false)
    (h : ETs X c en nm ns ρ pos [e1] [.list l]) : ET X c en nm ns ρ (.Call (.Name f fp) [e1] [] pos) (.int l.length) := by
  refine et_blt hg hk (id := "len") (by rw [hf]; exact (by boot_by_name)) (by rw [hf]; decide) hst hpl h fun fr m news s vs Q E S I P => ?_
  cases I with
  | cons a r =>
    cases r
    cases a with
    | list hk hc hd hi =>
      have bh : c.B.StaysIn s.heap := S.stB
      have e := hi.length
      have hL : s.heap.IsList _ _ := ⟨_, hk.get (news_r S.nws) bh, hc, _, hd⟩
      refine call_len_list hL ?_ ?_
      · rw [List.size_toArray, e]; exact hl
      · rw [List.size_toArray, e]; exact P _ news s.heap _ .refl S.frm S.nws (.int _ _)
end
end Mine

end

/-! # part AJ4 -/
section
open PySem PySem.W PyProof.Rows PySem.Calls PySem.Spec
set_option maxRecDepth 100000
namespace Mine
open Classical
section
variable {X : Wd} {c : Ct} {en : Env} {nm : List (Str × NameKind)} {ns : List Str} {ρ : List (Option Dat)} {F : Nat → List Dat → Option Dat} {G : List (Str × GV)} {k : Nat}

theorem et_name {x : Str} {pos : Pos} {d : Dat} (hG : GOk X.w X.K G) (h : ev F ρ (compN nm ns G x) = some d) : ET X c en nm ns ρ (.Name x pos) d := by
  intro fr m news s Q E S M P
  unfold compN at h
  split at h
  · simp [ev] at h
  rename_i hd
  have hd' : (x == ("__debug__" : Str)) = false := by simpa using hd
  split at h
  · rename_i hk
    split at h
    · rename_i i hi
      simp only [ev] at h
      exact M.loc x i d (.inl hk) hi h hd' news s Q E pos .refl S.frm S.nws fun v I => P v news s.heap s.toks .refl S.frm S.nws I
    · simp [ev] at h
  · rename_i hk
    split at h
    · rename_i i hi
      simp only [ev] at h
      exact M.loc x i d (.inr hk) hi h hd' news s Q E pos .refl S.frm S.nws fun v I => P v news s.heap s.toks .refl S.frm S.nws I
    · simp [ev] at h
  · rename_i hk
    split at h
    · rename_i d' hc
      simp only [ev, Option.some.injEq] at h
      subst h
      obtain ⟨v, hv, I⟩ := hG.cst x _ hc
      exact M.glo x v hk hv hd' s Q E pos S.frm (P v news s.heap s.toks .refl S.frm S.nws ((I c.B S.kin).mono fun p hp => by cases hp))
    · simp [ev] at h
  · simp [ev] at h

theorem et_shd {x : Str} {p pos : Pos} {i : Expr} {kk : Str} {d : Dat} (hG : GOk X.w X.K G) (hg : isG nm x = true) (hx : G.lookup x = some .shd) (h : ET X c en nm ns ρ i (.str kk)) (hd : shTab.lookup kk = some d)
    (hs : ∀ o v, subscripted i false o v = operate [o, v] (getItem o v)) : ET X c en nm ns ρ (.Subscript (.Name x p) i pos) d := by
  intro fr m news s Q E S M P
  obtain ⟨D, hD, hr⟩ := hG.shd x hx
  simp only [isG, Bool.and_eq_true, Bool.not_eq_true', beq_iff_eq] at hg
  refine Subscript_ (M.glo x _ hg.2 hD hg.1 s _ _ p S.frm ?_)
  refine h fr m news s _ _ S M fun v n1 g1 tk1 x1 F1 N1 I1 => ?_
  cases I1
  exact hr X.prog kk d hd c.A _ _ c.B c.h₀ c.L m _ _ _ _ S.kin S.bst F1 (fun v Iv => P v n1 g1 _ x1 F1 N1 (Iv.mono fun p hp => by cases hp)) (hs _ _)

theorem blen_eq (o : Expr) (apos : Pos) {pos : Pos} (hpos : apos.endLine = pos.line) (ha : ∀ whole, attributeBase o (Str.ofString "bit_length") en whole = whole) : eval (.Call (.Attribute o (Str.ofString "bit_length") apos) [] [] pos) en = (do
      let ov ← eval o en
      standAt apos.atName
      let (f, first) ← holding [ov] (getMethod ov (Str.ofString "bit_length") (do return (← importBound o en).getD true))
      callWith pos f first (backTo pos (starEach [] en)) []) := by
  show (do
    let ov ← attributeBase o (Str.ofString "bit_length") en (eval o en)
    standAt apos.atName
    methodCall o (Str.ofString "bit_length") apos pos en ov 0 [] []) = _
  rw [ha]
  refine congrArg _ (funext fun ov => congrArg _ (funext fun _ => ?_))
  unfold methodCall
  have e1 : methodCallForm 0 [] [] = true := rfl
  have e2 : methodCallPos true o en apos pos = pure pos := by
    unfold methodCallPos
    rw [if_pos]
    simp [hpos]
  rw [e1, e2]
  rfl

theorem sound_E (hF : ∀ f args r, F f args = some r → FOk X k f args r) (hG : GOk X.w X.K G) (hroom : Room c k) :
    ∀ n, (∀ e d, ev F ρ (compE nm ns G n e) = some d → ET X c en nm ns ρ e d) ∧ (∀ e d t, ev F ρ (compE nm ns G n e) = some d → truD d = some t → ETt X c en nm ns ρ e t) := by
  have hu : c.un + 64 < cLine := by have := hroom.2; omega
  intro n
  induction n with
  | zero => exact ⟨fun e d h => by simp [compE, ev] at h, fun e d t h => by simp [compE, ev] at h⟩
  | succ n ih =>
    obtain ⟨IH, IT⟩ := ih
    have main : ∀ e d, ev F ρ (compE nm ns G (n + 1) e) = some d → ET X c en nm ns ρ e d := by
      intro e d h
      cases e with
      | Constant v kk pos =>
        cases v <;> simp only [compE, ev, Option.some.injEq] at h <;> first | (cases h; done) | skip
        · subst h; intro fr m news s Q E S M P; exact Constant_none (P _ news s.heap s.toks .refl S.frm S.nws .none)
        · subst h; intro fr m news s Q E S M P; exact Constant_bool (P _ news s.heap s.toks .refl S.frm S.nws (.bool _))
        · subst h; intro fr m news s Q E S M P; exact wpAny_Constant_int (P _ news s.heap _ .refl S.frm S.nws (.int _ _))
        · subst h; intro fr m news s Q E S M P; exact Constant_str (P _ news s.heap _ .refl S.frm S.nws (.str _ _))
      | Name x pos => exact et_name hG h
      | BinOp l op r pos =>
        simp only [compE, ev, Option.bind_eq_some_iff] at h
        obtain ⟨d1, h1, d2, h2, h3⟩ := h
        exact et_bin (IH _ _ h1) (IH _ _ h2) h3
      | UnaryOp op x pos =>
        cases op <;> simp only [compE, ev, Option.bind_eq_some_iff, Option.map_eq_some_iff] at h <;> first | (cases h; done) | skip
        · obtain ⟨d1, h1, t, h2, h3⟩ := h
          subst h3
          exact et_not (IH _ _ h1) h2
        · obtain ⟨d1, h1, h2⟩ := h
          split at h2
          · cases h2; exact et_neg (IH _ _ h1)
          · cases h2
      | BoolOp op es pos =>
        cases op with
        | And => exact et_and (C := compE nm ns G n) IH es d h
        | Or => exact et_or (C := compE nm ns G n) IH es d h
      | Compare l ops rs pos =>
        simp only [compE] at h
        split at h
        · rename_i op r
          split at h
          · simp [ev] at h
          · rename_i hm
            simp only [ev, Option.bind_eq_some_iff] at h
            obtain ⟨d1, h1, d2, h2, h3⟩ := h
            exact et_cmp hu (IH _ _ h1) (IH _ _ h2) h3 (evCmp_bool h3) (by simpa using hm)
        · rename_i o1 o2 r1 r2
          split at h
          · simp [ev] at h
          · rename_i hm
            simp only [ev, Option.bind_eq_some_iff] at h
            obtain ⟨d1, h1, d2, h2, e1, h3, t, h4, h5⟩ := h
            cases t with
            | true =>
              simp only [if_true, Option.bind_eq_some_iff] at h5
              obtain ⟨d3, h6, h7⟩ := h5
              exact et_cmp2 (d2 := d3) hu (IH _ _ h1) (IH _ _ h2) h3 h4 ⟨IH _ _ h6, h7⟩ (by simpa using hm)
            | false =>
              simp only [Bool.false_eq_true, if_false, Option.some.injEq] at h5
              exact et_cmp2 (d2 := d) hu (IH _ _ h1) (IH _ _ h2) h3 h4 (by rw [if_neg (by decide)]; exact h5) (by simpa using hm)
        · simp [ev] at h
      | IfExp t a b pos =>
        simp only [compE, ev, Option.bind_eq_some_iff] at h
        obtain ⟨d1, h1, tt, h2, h3⟩ := h
        refine et_ite (IT _ _ _ h1 h2) ?_
        cases tt with
        | true => exact IH _ _ h3
        | false => exact IH _ _ h3
      | Tuple es kk pos =>
        simp only [compE] at h
        split at h
        · rename_i hl
          simp only [ev, Option.map_eq_some_iff] at h
          obtain ⟨ds, h1, h2⟩ := h
          subst h2
          exact et_tup (ets_of IH es ds h1) hl ((evs_len _ ds h1).trans (List.length_map _))
        · simp [ev] at h
      | List es pos =>
        simp only [compE] at h
        split at h
        · rename_i hl
          simp only [ev, Option.map_eq_some_iff] at h
          obtain ⟨ds, h1, h2⟩ := h
          subst h2
          exact et_lst (ets_of IH es ds h1) hl ((evs_len _ ds h1).trans (List.length_map _))
        · simp [ev] at h
      | Subscript a i pos =>
        have hsub : ∀ d1 d2, ev F ρ (compE nm ns G n a) = some d1 → ev F ρ (compE nm ns G n i) = some d2 → evSub d1 d2 = some d → (∀ o v, subscripted i false o v = operate [o, v] (getItem o v)) → ET X c en nm ns ρ (.Subscript a i pos) d :=
          fun d1 d2 h1 h2 h3 hs => et_sub (IH _ _ h1) (IH _ _ h2) h3 hs
        have hs : (∀ l u st p, i ≠ .Slice l u st p) → ∀ o v, subscripted i false o v = operate [o, v] (getItem o v) := by
          intro hne o v
          cases i <;> first | rfl | exact absurd rfl (hne _ _ _ _)
        simp only [compE] at h
        split at h
        · simp [ev] at h
        · rename_i hne
          have hs' := hs fun l u st p e => hne l u st p e
          split at h
          · rename_i x px
            split at h
            · rename_i hg
              split at h
              · rename_i hx
                simp only [ev, Option.bind_eq_some_iff] at h
                obtain ⟨d1, h1, h2⟩ := h
                split at h2
                · exact et_shd hG hg hx (IH _ _ h1) h2 hs'
                · cases h2
              · simp only [ev, Option.bind_eq_some_iff] at h
                obtain ⟨d1, h1, d2, h2, h3⟩ := h
                exact hsub _ _ h1 h2 h3 hs'
            · simp only [ev, Option.bind_eq_some_iff] at h
              obtain ⟨d1, h1, d2, h2, h3⟩ := h
              exact hsub _ _ h1 h2 h3 hs'
          · simp only [ev, Option.bind_eq_some_iff] at h
            obtain ⟨d1, h1, d2, h2, h3⟩ := h
            exact hsub _ _ h1 h2 h3 hs'
      | Call f as kws pos =>
        cases kws with
        | cons _ _ => simp [compE, ev] at h
        | nil =>
          simp only [compE] at h
          split at h
          · rename_i x px
            unfold compCall at h
            split at h
            · rename_i hg
              split at h
              · rename_i a ha
                split at h
                · rename_i hl
                  simp only [ev, Option.bind_eq_some_iff] at h
                  obtain ⟨ds, h1, h2⟩ := h
                  obtain ⟨q1, q2⟩ := hG.fn x a ha
                  cases as with
                  | nil => simp at hl
                  | cons e es =>
                    have h1' := h1
                    simp only [List.map_cons, argsC, evs, Option.bind_eq_some_iff] at h1'
                    obtain ⟨d1, e1, ds', e2, _⟩ := h1'
                    exact et_call (F := F) hroom (hF _ _ _ h2) hg q1 q2 (not_starred e1 es) (any_of_evs es ds' e2) (ets_of IH (e :: es) ds h1)
                · simp [ev] at h
              · simp [ev] at h
              · rename_i hn
                split at h
                · rename_i a ha
                  obtain ⟨e1, rfl, rfl⟩ : ∃ e1, as = [e1] ∧ a = compE nm ns G n e1 := by
                    cases as with
                    | nil => simp at ha
                    | cons e1 r => cases r with
                      | nil => exact ⟨e1, rfl, by simpa using ha.symm⟩
                      | cons _ _ => simp at ha
                  split at h
                  · rename_i hf
                    simp only [ev, Option.bind_eq_some_iff] at h
                    obtain ⟨d1, h1, h2⟩ := h
                    split at h2
                    · cases h2
                      have hf' : x = ("abs" : Str) := beq_iff_eq.mp hf
                      exact et_abs hf' hg (hG.blt x (.inl hf')) (not_starred h1 []) rfl (ets_cons (not_starred h1 []) (IH _ _ h1) ets_nil)
                    · cases h2
                  · split at h
                    · rename_i hf
                      simp only [ev, Option.bind_eq_some_iff] at h
                      obtain ⟨d1, h1, h2⟩ := h
                      split at h2
                      · split at h2
                        · rename_i hl
                          cases h2
                          have hf' : x = ("len" : Str) := beq_iff_eq.mp hf
                          exact et_len hl hf' hg (hG.blt x (.inr (.inl hf'))) (not_starred h1 []) rfl (ets_cons (not_starred h1 []) (IH _ _ h1) ets_nil)
                        · cases h2
                      · cases h2
                    · simp [ev] at h
                · rename_i a b ha
                  obtain ⟨e1, e2, rfl, rfl, rfl⟩ : ∃ e1 e2, as = [e1, e2] ∧ a = compE nm ns G n e1 ∧ b = compE nm ns G n e2 := by
                    cases as with
                    | nil => simp at ha
                    | cons e1 r => cases r with
                      | nil => simp at ha
                      | cons e2 r => cases r with
                        | nil => simp only [List.map_cons, List.map_nil, List.cons.injEq, and_true] at ha; exact ⟨e1, e2, rfl, ha.1.symm, ha.2.symm⟩
                        | cons _ _ => simp at ha
                  split at h
                  · rename_i hf
                    simp only [ev, Option.bind_eq_some_iff] at h
                    obtain ⟨d1, h1, d2, h2, h3⟩ := h
                    split at h3
                    · cases h3
                      have hf' : x = ("min" : Str) := beq_iff_eq.mp hf
                      have st2 := not_starred (en := en) h2 []
                      refine et_min hf' hg (hG.blt x (.inr (.inr hf'))) (not_starred h1 [e2]) (by rw [st2]; rfl) (ets_cons (not_starred h1 [e2]) (IH _ _ h1) (ets_cons st2 (IH _ _ h2) ets_nil))
                    · cases h3
                  · simp [ev] at h
                · simp [ev] at h
            · simp [ev] at h
          · rename_i o at' apos
            split at h
            · rename_i hat
              simp only [Bool.and_eq_true, beq_iff_eq, List.isEmpty_iff] at hat
              obtain ⟨⟨rfl, rfl⟩, hpos⟩ := hat
              split at h
              · simp only [ev, Option.bind_eq_some_iff] at h
                obtain ⟨d1, h1, h2⟩ := h
                split at h2
                · cases h2; exact et_blen (IH _ _ h1) (blen_eq _ _ hpos fun _ => rfl)
                · cases h2
              · simp only [ev, Option.bind_eq_some_iff] at h
                obtain ⟨d1, h1, h2⟩ := h
                split at h2
                · cases h2; exact et_blen (IH _ _ h1) (blen_eq _ _ hpos fun _ => rfl)
                · cases h2
              · simp [ev] at h
            · simp [ev] at h
          · simp [ev] at h
      | _ => simp [compE, ev] at h
    refine ⟨main, fun e d t h ht => ?_⟩
    cases e with
    | UnaryOp op x pos =>
      cases op with
      | Not =>
        simp only [compE, ev, Option.bind_eq_some_iff, Option.map_eq_some_iff] at h
        obtain ⟨d1, h1, t1, h2, h3⟩ := h
        subst h3
        obtain rfl : (!t1) = t := by simpa [truD] using ht
        exact ett_not (IT _ _ _ h1 h2)
      | _ => exact ett_plain (main _ _ h) ht fun _ => rfl
    | BoolOp op es pos =>
      cases op with
      | And => exact ett_and (C := compE nm ns G n) IT es d t h ht
      | Or => exact ett_or (C := compE nm ns G n) IT es d t h ht
    | IfExp c' a b pos =>
      simp only [compE, ev, Option.bind_eq_some_iff] at h
      obtain ⟨d1, h1, tt, h2, h3⟩ := h
      refine ett_ite (IT _ _ _ h1 h2) ?_
      cases tt with
      | true => exact IT _ _ _ h3 ht
      | false => exact IT _ _ _ h3 ht
    | Compare l ops rs pos =>
      simp only [compE] at h
      split at h
      · rename_i op r
        split at h
        · simp [ev] at h
        · rename_i hm
          simp only [ev, Option.bind_eq_some_iff] at h
          obtain ⟨d1, h1, d2, h2, h3⟩ := h
          exact ett_cmp hu (IH _ _ h1) (IH _ _ h2) h3 ht (by simpa using hm)
      · rename_i o1 o2 r1 r2
        split at h
        · simp [ev] at h
        · rename_i hm
          simp only [ev, Option.bind_eq_some_iff] at h
          obtain ⟨d1, h1, d2, h2, e1, h3, t1, h4, h5⟩ := h
          cases t1 with
          | true =>
            simp only [if_true, Option.bind_eq_some_iff] at h5
            obtain ⟨d3, h6, h7⟩ := h5
            exact ett_cmp2 (d2 := d3) hu (IH _ _ h1) (IH _ _ h2) h3 h4 ⟨IH _ _ h6, h7⟩ ht (by simpa using hm)
          | false =>
            simp only [Bool.false_eq_true, if_false, Option.some.injEq] at h5
            exact ett_cmp2 (d2 := d) hu (IH _ _ h1) (IH _ _ h2) h3 h4 (by rw [if_neg (by decide)]; exact h5) ht (by simpa using hm)
      · simp [ev] at h
    | _ => exact ett_plain (main _ _ h) ht fun _ => rfl
end
end Mine

end

/-! # part AJ5 -/
section
open PySem PySem.W PyProof.Rows PySem.Calls PySem.Spec
set_option maxRecDepth 100000
namespace Mine
open Classical
abbrev Ct.en (c : Ct) : Env := envX c.cn c.cs c.L c.a c.ccd c.cl
abbrev Ct.nm (c : Ct) : List (Str × NameKind) := c.cs.names

def Loc (c : Ct) (m : Str → Option Value) (news : Led) (ns : List Str) (ρ : List (Option Dat)) : Prop :=
  ∀ x i d, ix ns x = some i → nth ρ i = some d →
    (c.nm.lookup x = some .local → ∃ v, m x = some v ∧ In c.B news v d) ∧
    (c.nm.lookup x = some .cell → ∃ a o v, c.cl.lookup x = some a ∧ (a, o) ∈ news ∧ o.data = .cell (some v) ∧ In c.B news v d)
theorem Loc.mono {c : Ct} {m : Str → Option Value} {news news' : Led} {ns : List Str} {ρ : List (Option Dat)} (l : Loc c m news ns ρ) (s : ∀ p ∈ news, p ∈ news') : Loc c m news' ns ρ :=
  fun x i d a b => ⟨fun h => let ⟨v, e, I⟩ := (l x i d a b).1 h; ⟨v, e, I.mono s⟩, fun h => let ⟨q, o, v, e, hm, hd, I⟩ := (l x i d a b).2 h; ⟨q, o, v, e, s _ hm, hd, I.mono s⟩⟩
theorem ix_inj : ∀ {ns : List Str} {x y : Str} {i : Nat}, ix ns x = some i → ix ns y = some i → x = y
  | [], _, _, _, h, _ => by cases h
  | z :: r, x, y, i, h, k => by
    unfold ix at h k
    split at h
    · rename_i q
      cases h
      split at k
      · rename_i q'
        exact (beq_iff_eq.mp q).symm.trans (beq_iff_eq.mp q')
      · simp at k
    · split at k
      · cases k; simp at h
      · obtain ⟨a, ha, e⟩ := Option.map_eq_some_iff.mp h
        obtain ⟨b, hb, e'⟩ := Option.map_eq_some_iff.mp k
        have : a = b := by omega
        subst this
        exact ix_inj ha hb
theorem nth_put : ∀ {ρ : List (Option Dat)} {i j : Nat} {d e : Dat}, nth (put ρ i d) j = some e → (j = i ∧ e = d) ∨ (j ≠ i ∧ nth ρ j = some e)
  | [], _, _, _, _, h => by simp [put, nth] at h
  | a :: r, 0, 0, d, e, h => by simp [put, nth] at h; exact .inl ⟨rfl, h.symm⟩
  | a :: r, 0, j + 1, d, e, h => .inr ⟨by omega, by simpa [put, nth] using h⟩
  | a :: r, i + 1, 0, d, e, h => .inr ⟨by omega, by simpa [put, nth] using h⟩
  | a :: r, i + 1, j + 1, d, e, h => by
    simp only [put, nth] at h
    rcases nth_put h with ⟨q, q'⟩ | ⟨q, q'⟩
    · exact .inl ⟨by omega, q'⟩
    · exact .inr ⟨by omega, by simpa [nth] using q'⟩
theorem Loc.put {c : Ct} {m : Str → Option Value} {news : Led} {ns : List Str} {ρ : List (Option Dat)} {x : Str} {i : Nat} {d : Dat} {v : Value} (l : Loc c m news ns ρ) (hx : ix ns x = some i) (hk : c.nm.lookup x = some .local) (I : In c.B news v d) :
    Loc c (fun y => if y = x then some v else m y) news ns (put ρ i d) := by
  intro y j e hy hj
  rcases nth_put hj with ⟨q, q'⟩ | ⟨q, q'⟩
  · subst q; subst q'
    obtain rfl := ix_inj hy hx
    exact ⟨fun _ => ⟨v, if_pos rfl, I⟩, fun h => by rw [hk] at h; cases h⟩
  · have hne : y ≠ x := fun z => q (by subst z; rw [hx] at hy; exact (Option.some.inj hy).symm)
    refine ⟨fun h => ?_, fun h => (l y j e hy q').2 h⟩
    obtain ⟨v', e', I'⟩ := (l y j e hy q').1 h
    exact ⟨v', by dsimp only; rw [if_neg hne]; exact e', I'⟩

section
variable {X : Wd} {c : Ct} {ns : List Str} {m : Str → Option Value} {fr news : Led} {h : Heap} {ρ : List (Option Dat)}
theorem nm_of (S : SX X c fr m news h) (l : Loc c m news ns ρ) : NM X c fr c.en c.nm ns ρ m news where
  loc := fun x i d hk hi hd hdb news' s Q E pos e F N P => by
    rcases hk with hk | hk
    · obtain ⟨v, hv, I⟩ := (l x i d hi hd).1 hk
      exact nameX_L F hv (P v (I.mono e.sub)) S.fn hk hdb
    · obtain ⟨a, o, v, hc, hm, hd', I⟩ := (l x i d hi hd).2 hk
      exact nameX_C N hc (List.mem_append_right _ (e.sub _ hm)) hd' (P v (I.mono e.sub)) S.fn hk hdb
  glo := fun x v hk hv hdb s Q E pos F P => nameX_K F S.kin₀ (topRead_of S.top) hv P S.fn hk hdb
  blt := fun x v hk hv hb hn hdb s Q E pos F P => nameX_B F S.kin₀ (topRead_of S.top) hv hb hn P S.fn hk hdb

abbrev OutIs (c : Ct) (ns : List Str) (o : Out) (f : Flow) (m' : Str → Option Value) (news' : Led) : Prop :=
  match o with
  | .nxt ρ' => f = .next ∧ Loc c m' news' ns ρ'
  | .ret d => ∃ v, f = .ret v ∧ In c.B news' v d
abbrev Fin (c : Ct) (ns : List Str) (fr news : Led) (s : Shared) (o : Out) (Q : Flow → Shared → Prop) : Prop :=
  ∀ f m' news' h' tk', Ext fr news news' → Fr c.h₀ c.L h' m' → News c.h₀ c.L h' (fr ++ news') → OutIs c ns o f m' news' → Q f { s with heap := h', toks := tk' }
def XT (X : Wd) (c : Ct) (ns : List Str) (st : Stmt) (ρ : List (Option Dat)) (o : Out) : Prop :=
  ∀ fr m news s (Q : Flow → Shared → Prop) (E : Value → Shared → Prop), SX X c fr m news s.heap → Loc c m news ns ρ → Fin c ns fr news s o Q → wpAny (model X.prog X.w) c.A (exec st c.en) Q E s
def XTs (X : Wd) (c : Ct) (ns : List Str) (b : List Stmt) (ρ : List (Option Dat)) (o : Out) : Prop :=
  ∀ fr m news s (Q : Flow → Shared → Prop) (E : Value → Shared → Prop), SX X c fr m news s.heap → Loc c m news ns ρ → Fin c ns fr news s o Q → wpAny (model X.prog X.w) c.A (execs b c.en) Q E s

abbrev seqC (C : Stmt → CS) (b : List Stmt) : CS := b.foldr (fun s r => .seq (C s) r) .skip
theorem xts_of {F : Nat → List Dat → Option Dat} {C : Stmt → CS} (IH : ∀ st ρ o, ex F (C st) ρ = some o → XT X c ns st ρ o) :
    ∀ (b : List Stmt) (ρ : List (Option Dat)) (o : Out), ex F (seqC C b) ρ = some o → XTs X c ns b ρ o
  | [], ρ, o, h => by
    simp only [seqC, List.foldr_nil, ex, Option.some.injEq] at h
    subst h
    intro fr m news s Q E S l P
    exact wpAny_execs_nil (P _ m news s.heap s.toks .refl S.frm S.nws ⟨rfl, l⟩)
  | st :: b, ρ, o, h => by
    simp only [seqC, List.foldr_cons, ex, Option.bind_eq_some_iff] at h
    obtain ⟨o1, h1, h2⟩ := h
    intro fr m news s Q E S l P
    refine wpAny_execs_cons (IH st ρ o1 h1 fr m news s _ _ S l fun f m1 n1 g1 tk1 x1 F1 N1 O1 => ?_)
    cases o1 with
    | nxt ρ1 =>
      obtain ⟨rfl, l1⟩ := O1
      exact xts_of IH b ρ1 o h2 fr m1 n1 _ _ _ (S.go F1 N1) l1 fun f m2 n2 g2 tk2 x2 F2 N2 O2 => P f m2 n2 g2 tk2 (x1.trans x2) F2 N2 O2
    | ret d =>
      simp only [Option.some.injEq] at h2
      subst h2
      obtain ⟨v, rfl, I⟩ := O1
      exact P _ m1 n1 g1 tk1 x1 F1 N1 ⟨v, rfl, I⟩

theorem loci_ix {nm : List (Str × NameKind)} {x : Str} {i : Nat} (h : loci nm ns x = some i) : nm.lookup x = some .local ∧ ix ns x = some i := by
  unfold loci at h
  split at h
  · rename_i q; exact ⟨beq_iff_eq.mp q, h⟩
  · cases h
theorem store_ok {x : Str} {i : Nat} {v : Value} {d : Dat} {s : Shared} {Q : Unit → Shared → Prop} {E : Value → Shared → Prop} (S : SX X c fr m news s.heap) (l : Loc c m news ns ρ) (hx : loci c.nm ns x = some i) (I : In c.B news v d)
    (P : ∀ m' h' tk', Fr c.h₀ c.L h' m' → News c.h₀ c.L h' (fr ++ news) → Loc c m' news ns (put ρ i d) → Q () { s with heap := h', toks := tk' }) : wpAny (model X.prog X.w) c.A (storeName c.en x v) Q E s := by
  obtain ⟨h1, h2⟩ := loci_ix hx
  exact storeX_L S.frm S.nws (fun h' F' N' => P _ h' _ F' N' (l.put h2 h1 I)) S.fn h1

theorem xt_ret {e : Expr} {pos : Pos} {d : Dat} (h : ET X c c.en c.nm ns ρ e d) : XT X c ns (.Return (some e) pos) ρ (.ret d) := by
  intro fr m news s Q E S l P
  refine wpAny_Return_some (h fr m news s _ _ S (nm_of S l) fun v n1 g1 tk1 x1 F1 N1 I1 => ?_)
  exact P _ m n1 g1 tk1 x1 F1 N1 ⟨v, rfl, I1⟩
theorem xt_if {t : Expr} {a b : List Stmt} {pos : Pos} {tt : Bool} {o : Out} (h : ETt X c c.en c.nm ns ρ t tt) (h1 : if tt then XTs X c ns a ρ o else XTs X c ns b ρ o) : XT X c ns (.If t a b pos) ρ o := by
  intro fr m news s Q E S l P
  refine wpAny_If (h fr m news s _ _ S (nm_of S l) fun n1 g1 tk1 x1 F1 N1 => ?_)
  cases tt with
  | true => exact h1 fr m n1 _ _ _ (S.go F1 N1) (l.mono x1.sub) fun f m2 n2 g2 tk2 x2 F2 N2 O2 => P f m2 n2 g2 tk2 (x1.trans x2) F2 N2 O2
  | false => exact h1 fr m n1 _ _ _ (S.go F1 N1) (l.mono x1.sub) fun f m2 n2 g2 tk2 x2 F2 N2 O2 => P f m2 n2 g2 tk2 (x1.trans x2) F2 N2 O2
theorem xt_assert {t : Expr} {pos : Pos} (h : ETt X c c.en c.nm ns ρ t true) : XT X c ns (.Assert t none pos) ρ (.nxt ρ) := by
  intro fr m news s Q E S l P
  refine wpAny_Assert_new rfl (h fr m news s _ _ S (nm_of S l) fun n1 g1 tk1 x1 F1 N1 => ?_)
  rw [if_pos rfl]
  exact P _ m n1 g1 tk1 x1 F1 N1 ⟨rfl, l.mono x1.sub⟩
theorem swaps_none {e : Expr} (he : isComp e = false) (t : Option Expr) (line : Nat) (en : Env) : swapsWith e t line en = pure false := by
  cases e <;> first | rfl | cases he
theorem xt_set {x : Str} {p pos : Pos} {e : Expr} {i : Nat} {d : Dat} (hc : isComp e = false) (hx : loci c.nm ns x = some i) (h : ET X c c.en c.nm ns ρ e d) : XT X c ns (.Assign [.Name x p] e pos) ρ (.nxt (put ρ i d)) := by
  intro fr m news s Q E S l P
  refine wpAny_Assign_Name (h fr m news s _ _ S (nm_of S l) fun v n1 g1 tk1 x1 F1 N1 I1 => ?_) (swaps_none hc _ _ _)
  exact store_ok (S.go F1 N1) (l.mono x1.sub) hx I1 fun m' h' tk' F' N' l' => P _ m' n1 h' tk' x1 F' N' ⟨rfl, l'⟩
theorem xt_set2 {x y : Str} {p q pos : Pos} {e : Expr} {i j : Nat} {d : Dat} (hx : loci c.nm ns x = some i) (hy : loci c.nm ns y = some j) (h : ET X c c.en c.nm ns ρ e d) : XT X c ns (.Assign [.Name x p, .Name y q] e pos) ρ (.nxt (put (put ρ i d) j d)) := by
  intro fr m news s Q E S l P
  refine wpAny_Assign_two (h fr m news s _ _ S (nm_of S l) fun v n1 g1 tk1 x1 F1 N1 I1 => ?_) rfl (by rfl)
  refine assign_Name (store_ok (S.go F1 N1) (l.mono x1.sub) hx I1 fun m' h' tk' F' N' l' => ?_)
  exact assign_Name (store_ok (S.go F' N') l' hy I1 fun m2 h2 tk2 F2 N2 l2 => P _ m2 n1 h2 tk2 x1 F2 N2 ⟨rfl, l2⟩)

theorem stores_ok : ∀ {xs : List Str} {is : List Nat} {vs : List Value} {ds : List Dat} {ρ ρ' : List (Option Dat)} {m : Str → Option Value} {s : Shared} {Q : Unit → Shared → Prop} {E : Value → Shared → Prop} (ts : List (Value → Sem Unit)),
    ts.length = xs.length → (∀ (j : Nat) (x : Str) t, xs[j]? = some x → ts[j]? = some t → ∀ v (s : Shared) (Q : Unit → Shared → Prop) (E : Value → Shared → Prop), wpAny (model X.prog X.w) c.A (storeName c.en x v) Q E s → wpAny (model X.prog X.w) c.A (t v) Q E s) →
    xs.map (loci c.nm ns) = is.map some → SX X c fr m news s.heap → Loc c m news ns ρ → Ins c.B news vs ds → puts ρ is ds = some ρ' →
    (∀ m' h' tk', Fr c.h₀ c.L h' m' → News c.h₀ c.L h' (fr ++ news) → Loc c m' news ns ρ' → Q () { s with heap := h', toks := tk' }) → wpAny (model X.prog X.w) c.A (assignInOrder ts vs) Q E s
  | [], is, vs, ds, ρ, ρ', m, s, Q, E, ts, hl, ht, hx, S, l, I, hp, P => by
    cases is with
    | cons _ _ => simp at hx
    | nil =>
      cases ts with
      | cons _ _ => simp at hl
      | nil =>
        cases ds with
        | cons _ _ => simp [puts] at hp
        | nil =>
          simp only [puts, Option.some.injEq] at hp
          subst hp
          exact assignInOrder_nil (P m s.heap s.toks S.frm S.nws l)
  | x :: xs, is, vs, ds, ρ, ρ', m, s, Q, E, ts, hl, ht, hx, S, l, I, hp, P => by
    cases is with
    | nil => simp at hx
    | cons i is =>
      cases ts with
      | nil => simp at hl
      | cons t ts =>
        cases I with
        | nil => simp [puts] at hp
        | cons I1 Ir =>
          simp only [List.map_cons, List.cons.injEq] at hx
          simp only [puts] at hp
          refine assignInOrder_cons (ht 0 x t rfl rfl _ _ _ _ (store_ok S l hx.1 I1 fun m' h' tk' F' N' l' => ?_))
          exact stores_ok ts (by simpa using hl) (fun j y u hy hu => ht (j + 1) y u (by simpa using hy) (by simpa using hu)) hx.2 (S.go F' N') l' Ir hp fun m2 h2 tk2 F2 N2 l2 => P m2 h2 tk2 F2 N2 l2

theorem locis_names {nm : List (Str × NameKind)} : ∀ {ts : List Expr} {is : List Nat}, locis nm ns ts = some is → (namesOf ts).map (loci nm ns) = is.map some ∧ (namesOf ts).length = ts.length ∧
    ∀ (en : Env), (assignEach ts en).map (·.2) = (namesOf ts).zipWith (fun x t => assign t en) ts ∧ (assignEach ts en).length = ts.length ∧ (assignEach ts en).findIdx? (·.1) = none
  | [], is, h => by
    simp only [locis, Option.some.injEq] at h
    subst h
    exact ⟨rfl, rfl, fun en => ⟨rfl, rfl, rfl⟩⟩
  | t :: r, is, h => by
    cases t <;> simp only [locis, Option.bind_eq_some_iff, Option.map_eq_some_iff] at h <;> first | (cases h; done) | skip
    rename_i x px
    obtain ⟨i, h1, is', h2, h3⟩ := h
    subst h3
    obtain ⟨q1, q2, q3⟩ := locis_names h2
    refine ⟨?_, ?_, fun en => ?_⟩
    · simp only [namesOf, List.map_cons, h1, q1]
    · simp only [namesOf, List.length_cons, q2]
    · obtain ⟨a1, a2, a3⟩ := q3 en
      have e : assignEach (Expr.Name x px :: r) en = (false, assign (Expr.Name x px) en) :: assignEach r en := rfl
      refine ⟨?_, ?_, ?_⟩
      · rw [e]; simp only [List.map_cons, namesOf, List.zipWith_cons_cons, a1]
      · rw [e]; simp only [List.length_cons, a2]
      · rw [e, List.findIdx?_cons]; simp [a3]
theorem names_at {nm : List (Str × NameKind)} : ∀ {ts : List Expr} {is : List Nat} {j : Nat} {x : Str} {t : Value → Sem Unit} {en : Env}, locis nm ns ts = some is → (namesOf ts)[j]? = some x → ((namesOf ts).zipWith (fun x t => assign t en) ts)[j]? = some t → ∃ px, t = assign (.Name x px) en
  | [], _, j, _, _, _, _, h, _ => by simp [namesOf] at h
  | t :: r, is, j, x, u, en, h, hx, hu => by
    cases t <;> simp only [locis, Option.bind_eq_some_iff, Option.map_eq_some_iff] at h <;> first | (cases h; done) | skip
    rename_i y px
    obtain ⟨i, h1, is', h2, h3⟩ := h
    cases j with
    | zero =>
      simp only [namesOf, List.getElem?_cons_zero, Option.some.injEq, List.zipWith_cons_cons] at hx hu
      subst hx; subst hu
      exact ⟨px, rfl⟩
    | succ j =>
      simp only [namesOf, List.getElem?_cons_succ, List.zipWith_cons_cons] at hx hu
      exact names_at h2 hx hu

theorem tup_len {v : Value} {ds : List Dat} (I : In c.B news v (.tuple ds)) : ∃ a vs o k, v = .ref a ∧ Kn c.B news a o ∧ o.cls = .type "tuple" ∧ o.data = .seq (List.toArray vs) k ∧ Ins c.B news vs ds := by
  cases I with
  | tuple hk hc hd hi => exact ⟨_, _, _, _, rfl, hk, hc, hd, hi⟩
theorem puts_len : ∀ {is : List Nat} {ds : List Dat} {ρ ρ' : List (Option Dat)}, puts ρ is ds = some ρ' → is.length = ds.length
  | [], [], _, _, _ => rfl
  | [], _ :: _, _, _, h => by simp [puts] at h
  | _ :: _, [], _, _, h => by simp [puts] at h
  | _ :: is, _ :: ds, _, _, h => congrArg Nat.succ (puts_len (by simpa [puts] using h))
theorem xt_unp {ts : List Expr} {k : Nat} {tp pos : Pos} {e : Expr} {is : List Nat} {ds : List Dat} {ρ' : List (Option Dat)} (hc : isComp e = false) (hx : locis c.nm ns ts = some is) (h : ET X c c.en c.nm ns ρ e (.tuple ds)) (hp : puts ρ is ds = some ρ')
    (hw : swappedStores [.Tuple ts k tp] e c.en = pure none) : XT X c ns (.Assign [.Tuple ts k tp] e pos) ρ (.nxt ρ') := by
  intro fr m news s Q E S l P
  obtain ⟨q1, q2, q3⟩ := locis_names hx
  obtain ⟨a1, a2, a3⟩ := q3 c.en
  refine PyProof.Rows.Assign_Tuple (h fr m news s _ _ S (nm_of S l) fun v n1 g1 tk1 x1 F1 N1 I1 => ?_) (swaps_none hc (some (.Tuple ts k tp)) pos.line c.en) hw
  obtain ⟨a, vs, o, kk, rfl, hk, hcl, hd, hi⟩ := tup_len I1
  have S1 := S.go F1 N1
  have hlen : (assignEach ts c.en).length = (List.toArray vs).size := by
    rw [a2, List.size_toArray, hi.length, ← puts_len hp, ← q2]
    have := congrArg List.length q1
    simpa using this
  refine unpackN_ F1 N1 ⟨_, hk.get (news_r N1) S1.stB, hcl, _, hd⟩ rfl hlen a3 fun h' F' N' => ?_
  rw [a1]
  refine stores_ok (xs := namesOf ts) _ (by simp [q2]) (fun j x t hj ht v s' Q' E' hst => ?_) q1 (S.go F' N') (l.mono x1.sub) hi hp fun m2 h2 tk2 F2 N2 l2 => P _ m2 n1 h2 tk2 x1 F2 N2 ⟨rfl, l2⟩
  obtain ⟨px, rfl⟩ := names_at hx hj ht
  exact assign_Name hst
theorem xt_swp {ts : List Expr} {k : Nat} {tp pos : Pos} {e : Expr} {is : List Nat} {ds : List Dat} {ρ' : List (Option Dat)} (hc : isComp e = false) (hx : locis c.nm ns ts = some is) (h : ET X c c.en c.nm ns ρ e (.tuple ds)) (hp : puts ρ is.reverse ds.reverse = some ρ')
    (hw : swappedStores [.Tuple ts k tp] e c.en = pure (some (namesOf ts))) : XT X c ns (.Assign [.Tuple ts k tp] e pos) ρ (.nxt ρ') := by
  intro fr m news s Q E S l P
  obtain ⟨q1, q2, q3⟩ := locis_names hx
  refine Assign_Tuple_swapped (h fr m news s _ _ S (nm_of S l) fun v n1 g1 tk1 x1 F1 N1 I1 => ?_) (swaps_none hc (some (.Tuple ts k tp)) pos.line c.en) hw
  obtain ⟨a, vs, o, kk, rfl, hk, hcl, hd, hi⟩ := tup_len I1
  have S1 := S.go F1 N1
  have hlen : (namesOf ts).length = (List.toArray vs).size := by
    have e1 := congrArg List.length q1
    have e2 := puts_len hp
    simp only [List.length_map, List.length_reverse] at e1 e2
    rw [List.size_toArray, hi.length]; omega
  refine unpackItemsN_ F1 N1 ⟨_, hk.get (news_r N1) S1.stB, hcl, _, hd⟩ rfl hlen fun h' F' N' => ?_
  refine stores_ok (xs := (namesOf ts).reverse) _ (by simp) (fun j x t hj ht v s' Q' E' hst => ?_) (by rw [List.map_reverse, q1, ← List.map_reverse]) (S.go F' N') (l.mono x1.sub) (by simpa using hi.reverse) hp fun m2 h2 tk2 F2 N2 l2 => P _ m2 n1 h2 tk2 x1 F2 N2 ⟨rfl, l2⟩
  rw [List.getElem?_map, hj] at ht
  cases ht
  exact bindName_ hst
theorem swap_none {ts : List Expr} {k : Nat} {tp : Pos} {e : Expr} {en : Env} (he : ∀ vs k p, e ≠ .Tuple vs k p) : swappedStores [.Tuple ts k tp] e en = pure none := by
  cases e <;> first | rfl | exact absurd rfl (he _ _ _)
theorem swap_ff {ts vs : List Expr} {k k' : Nat} {tp p : Pos} {en : Env} (h : swapAsk ts vs = some false) : swappedStores [.Tuple ts k tp] (.Tuple vs k' p) en = pure none := by
  unfold swapAsk at h
  split at h
  · rename_i q
    unfold swappedStores
    dsimp only
    rw [if_pos (by simp only [Bool.or_eq_true] at q ⊢; exact .inl q)]
  · split at h
    · cases h
    · dsimp only at h
      split at h <;> cases h
theorem filter_names {en : Env} {line : Nat} : ∀ {ts : List Expr} {is : List Nat}, locis en.scope.names ns ts = some is → ts.all (fun t => t.pos.line == line) = true →
    ts.filterMap (fun | .Name id pos => if en.kindOf id == some .local && pos.line == line then some id else none | _ => none) = namesOf ts
  | [], _, _, _ => rfl
  | t :: r, is, h, ha => by
    cases t <;> simp only [locis, Option.bind_eq_some_iff, Option.map_eq_some_iff] at h <;> first | (cases h; done) | skip
    rename_i x px
    obtain ⟨i, h1, is', h2, h3⟩ := h
    simp only [List.all_cons, Bool.and_eq_true] at ha
    have hk : en.kindOf x = some .local := (loci_ix h1).1
    have hl : (px.line == line) = true := ha.1
    rw [List.filterMap_cons]
    simp only [hk, hl, beq_self_eq_true, Bool.and_self, if_true, namesOf]
    rw [filter_names h2 ha.2]
theorem swap_tt {ts vs : List Expr} {k k' : Nat} {tp p : Pos} {is : List Nat} (hf : c.cs.kind = .function) (hx : locis c.nm ns ts = some is) (h : swapAsk ts vs = some true) : swappedStores [.Tuple ts k tp] (.Tuple vs k' p) c.en = pure (some (namesOf ts)) := by
  unfold swapAsk at h
  split at h
  · cases h
  · rename_i q
    split at h
    · cases h
    · rename_i hst
      dsimp only at h
      split at h
      · rename_i hq
        simp only [Bool.and_eq_true, beq_iff_eq, Bool.not_eq_true'] at hq
        obtain ⟨⟨⟨⟨hl, he⟩, hn⟩, hfs⟩, hca⟩ := hq
        have hb : c.en.blockKind = .function := by
          show (if c.cs.kind.isAnnotationScope then ScopeKind.function else c.cs.kind) = _
          rw [hf]; rfl
        have hfl := filter_names (ns := ns) (en := c.en) hx hl
        unfold swappedStores
        dsimp only
        refine (if_neg (by rw [hb]; simpa using q)).trans ?_
        refine (if_neg hst).trans ?_
        generalize hN : List.filterMap _ ts = N
        have hN' : N = namesOf ts := by rw [← hN]; exact hfl
        rw [hN']
        refine (if_neg (by rw [hn, he]; simp)).trans ?_
        refine (if_neg (by rw [hfs]; simp)).trans ?_
        exact (if_neg (by rw [hca]; simp)).trans rfl
      · cases h
end
end Mine

end

/-! # part AJ6 -/
section
open PySem PySem.W PyProof.Rows PySem.Calls PySem.Spec
set_option maxRecDepth 100000
namespace Mine
open Classical
section
variable {X : Wd} {c : Ct} {ns : List Str} {m : Str → Option Value} {fr news : Led} {h : Heap} {ρ : List (Option Dat)}
theorem aug_ok {prog : Program} {w : World} {A : Around} {E : Value → Shared → Prop} {s : Shared} {B : Heap} {op : Operator} {x y : Value} {dx dy r : Dat} {Q : Value → Shared → Prop} (hx : In B news x dx) (hy : In B news y dy)
    (he : evAug op dx dy = some r) (h : ∀ v, In B news v r → Q v { s with toks := s.toks + 1 }) : wpAny (model prog w) A (inplaceOp op x y) Q E s := by
  cases hx with
  | int a t =>
    cases hy with
    | int b u =>
      cases op <;> simp only [evAug] at he <;> first | (cases he; done) | skip
      · cases he; exact PyProof.Rows.iadd_int (h _ (.int _ _))
      · cases he; exact PyProof.Rows.isub_int (h _ (.int _ _))
      · split at he
        · rename_i q; cases he; exact ilshift_int q.1 q.2 (h _ (.int _ _))
        · cases he
      · split at he
        · rename_i q; cases he; exact irshift_int q (h _ (.int _ _))
        · cases he
      · cases he; exact ixor_int (h _ (.int _ _))
    | _ => cases op <;> cases he
  | _ => cases op <;> cases hy <;> cases he
theorem xt_aug {x : Str} {p pos : Pos} {op : Operator} {e : Expr} {i : Nat} {d0 d1 d : Dat} (hx : loci c.nm ns x = some i) (h0 : nth ρ i = some d0) (h : ET X c c.en c.nm ns ρ e d1) (he : evAug op d0 d1 = some d) :
    XT X c ns (.AugAssign (.Name x p) op e pos) ρ (.nxt (put ρ i d)) := by
  intro fr m news s Q E S l P
  obtain ⟨hk, hi⟩ := loci_ix hx
  obtain ⟨v0, hv, I0⟩ := (l x i d0 hi h0).1 hk
  refine wpAny_AugAssign_Name (wpAny_loadName_local S.fn hk S.frm.ns hv ?_)
  refine h fr m news s _ _ S (nm_of S l) fun v n1 g1 tk1 x1 F1 N1 I1 => ?_
  refine aug_ok (I0.mono x1.sub) I1 he fun r Ir => ?_
  have S1 : SX X c fr m n1 ({ s with heap := g1, toks := tk1 } : Shared).heap := S.go F1 N1
  exact store_ok (s := { s with heap := g1, toks := tk1 + 1 }) S1 (l.mono x1.sub) hx Ir fun m' h' tk' F' N' l' => P _ m' n1 h' tk' x1 F' N' ⟨rfl, l'⟩

/-! a loop over the rest of a list -/
theorem lookup_mem {β : Type} : ∀ {l : List (Str × β)} {x : Str} {b : β}, l.lookup x = some b → (x, b) ∈ l
  | [], _, _, h => by cases h
  | (y, c) :: r, x, b, h => by
    rw [List.lookup_cons] at h
    split at h
    · rename_i q
      cases h
      rw [beq_iff_eq.mp q]
      exact .head _
    · exact .tail _ (lookup_mem h)
theorem rest_ok {x : Str} {i : Nat} {body : List Stmt} {C : List (Option Dat) → Option Out} {I : Addr} {lp : Addr × Obj} {s : Shared} {Q : Flow → Shared → Prop} {E : Value → Shared → Prop}
    (hx : loci c.nm ns x = some i) (IH : ∀ ρ o, C ρ = some o → XTs X c ns body ρ o) (hS : SX X c fr m news s.heap) :
    ∀ {vs : List Value} {ds : List Dat} {ρ : List (Option Dat)} {o : Out} {m : Str → Option Value} {news : Led}, Ins c.B news vs ds → turns C i ds ρ = some o → Loc c m news ns ρ → (∀ p ∈ fr ++ news, p.1 ≠ I) → lp ∈ news →
      (∀ f m' news' h' tk', Ext fr news news' → Fr c.h₀ c.L h' m' → News c.h₀ c.L h' (fr ++ news') → OutIs c ns o f m' news' → Q f { s with heap := h', toks := tk' }) →
      ListRest X.prog X.w c.A E c.h₀ c.en x body Q s I lp vs m (fr ++ news)
  | [], _, ρ, o, m, news, .nil, ht, l, hI, hlp, P => by
    simp only [turns, Option.some.injEq] at ht
    subst ht
    exact ListRest.zero fun h' tk F N => P _ m news h' tk .refl F N ⟨rfl, l⟩
  | v :: vs, _, ρ, o, m, news, .cons (d := d) (ds := ds) Iv r, ht, l, hI, hlp, P => by
    simp only [turns, Option.bind_eq_some_iff] at ht
    obtain ⟨o1, h1, h2⟩ := ht
    obtain ⟨hk, hi⟩ := loci_ix hx
    refine ListRest.succ fun it h' tk hc F N => ?_
    have S1 : SX X c ((I, it) :: fr) (fun y => if y = x then some v else m y) news h' := hS.go F N
    have l1 : Loc c (fun y => if y = x then some v else m y) news ns (put ρ i d) := l.put hi hk Iv
    refine IH _ o1 h1 ((I, it) :: fr) _ _ { s with heap := h', toks := tk } _ _ S1 l1 fun f m2 n2 h2' tk2 x2 F2 N2 O2 => ?_
    obtain ⟨tl, rfl, ord⟩ := x2
    have x3 : Ext fr news (news ++ tl) := ⟨tl, rfl, fun q hq p hp => ord q (List.mem_cons_of_mem _ hq) p hp⟩
    have ne2 : ∀ p ∈ fr ++ (news ++ tl), p.1 ≠ I := fun p hp => by
      rw [← List.append_assoc] at hp
      rcases List.mem_append.mp hp with hp | hp
      · exact hI p hp
      · exact Nat.ne_of_gt (ord (I, it) (.head _) p hp)
    have N3 : News c.h₀ c.L h2' (fr ++ (news ++ tl)) := fun p hp => N2 p (List.mem_cons_of_mem _ hp)
    cases o1 with
    | nxt ρ1 =>
      obtain ⟨rfl, l2⟩ := O2
      refine ⟨h2', tk2, m2, fr ++ (news ++ tl), rfl, F2, N2, ne2, List.mem_append_right _ (List.mem_append_left _ hlp), ?_⟩
      exact rest_ok hx IH hS (r.mono fun p hp => List.mem_append_left _ hp) h2 l2 ne2 (List.mem_append_left _ hlp) fun f m3 n3 h3 tk3 x4 F3 N4 O3 => P f m3 n3 h3 tk3 (x3.trans x4) F3 N4 O3
    | ret d' =>
      simp only [Option.some.injEq] at h2
      subst h2
      obtain ⟨v', rfl, I'⟩ := O2
      exact P _ m2 _ h2' tk2 x3 F2 N3 ⟨v', rfl, I'⟩
theorem drop1 (v : Value) (vs : List Value) : (slicePick (List.toArray (v :: vs)) (some 1) none none).toList = vs := by
  have e : sliceBounds (some 1) none none (List.toArray (v :: vs)).size = (((1 : Nat) : Int), (((List.toArray (v :: vs)).size : Nat) : Int), 1) := by
    simp only [sliceBounds, Option.getD_none, show (1 : Int) > 0 by decide, if_true, if_neg (show ¬ ((1 : Int) < 0) by decide), List.size_toArray, List.length_cons]
    congr 1
    omega
  rw [kmk_pick_nat _ e]
  simp
theorem xt_for {x y : Str} {px py p1 p2 p3 pos : Pos} {k : Nat} {i : Nat} {body : List Stmt} {C : List (Option Dat) → Option Out} {d0 : Dat} {ds : List Dat} {o : Out} (hx : loci c.nm ns x = some i)
    (h : ET X c c.en c.nm ns ρ (.Name y py) (.list (d0 :: ds))) (IH : ∀ ρ o, C ρ = some o → XTs X c ns body ρ o) (hl : ds.length ≤ 1000) (ht : turns C i ds ρ = some o) :
    XT X c ns (.For (.Name x px) (.Subscript (.Name y py) (.Slice (some (.Constant (.int 1) k p1)) none none p2) p3) body [] pos) ρ o := by
  intro fr m news s Q E S l P
  obtain ⟨hk, hi⟩ := loci_ix hx
  have S' := S
  refine wpAny_mono (Q := Q) (E := fun _ _ => False) ?_ (fun _ _ q => q) (fun _ _ q => q.elim)
  refine For_invVF (h₀ := c.h₀) (m := m) S.frm hk (by show (c.cs.kind == .class || (c.cs.kind == .module && _)) = false; rw [S.fn]; rfl) ?_ (fun _ => rfl) PassesOwn.never
  refine Subscript_ (h fr m news s _ _ S (nm_of S l) fun v n1 g1 tk1 x1 F1 N1 I1 => ?_)
  cases I1 with
  | list hkk hc hd hi' =>
    rename_i a ob vs kk
    cases hi' with
    | cons Iv Ivs =>
      rename_i v0 vs
      have S1 : SX X c fr m n1 g1 := S.go F1 N1
      refine wpAny_Slice (evalPart_some_step (wpAny_Constant_int ?_))
      refine evalPart_none_step (evalPart_none_step ?_)
      have hL : g1.IsList a (List.toArray (v0 :: vs)) := ⟨_, hkk.get (news_r N1) S1.stB, hc, _, hd⟩
      have el := Ivs.length
      refine kmk_slice_lit (s := { s with heap := g1, toks := tk1 + 1 }) F1 N1 hL (.int 1 _) .none (drop1 v0 vs) (fun D h' F' N' lt => ?_) rfl (fun _ => rfl) (Nat.le_trans (by simp; omega) (by decide : 1001 ≤ sizeLine))
      obtain ⟨x2, N2⟩ := Ext.snoc' lt N'
      refine iter_listUnr (env := c.en) (vs := vs) (n := 0) rfl F' N2 (List.mem_append_right _ (List.mem_append_right _ (List.mem_singleton.mpr rfl))) rfl rfl fun I hI => ?_
      have S2 : SX X c fr m (n1 ++ [(D, listOf (List.toArray vs) 0)]) h' := S1.go F' N2
      refine rest_ok hx IH S2 (Ivs.mono x2.sub) ht ((l.mono x1.sub).mono x2.sub) (fun p hp => Nat.ne_of_lt (hI p hp)) (List.mem_append_right _ (List.mem_singleton.mpr rfl)) ?_
      exact fun f m3 n3 h3 tk3 x3 F3 N3 O3 => P f m3 n3 h3 tk3 (x1.trans (x2.trans x3)) F3 N3 O3
end
end Mine

end

/-! # part AJ8 -/
section
open PySem PySem.W PyProof.Rows PySem.Calls PySem.Spec
set_option maxRecDepth 100000
namespace Mine
open Classical
/-! ## Comprehensions -/
section
variable {X : Wd} {c : Ct} {fr : Led} {m : Str → Option Value} {news : Led} {x : Str} {scope : Scope} {cl : List (Str × Addr)}
theorem off3_go {I C D : Addr} {tl : Led} (h : LCg.Off3 I C D (fr ++ news)) (o : ∀ p ∈ tl, I < p.1 ∧ C < p.1 ∧ D < p.1) : LCg.Off3 I C D (fr ++ (news ++ tl)) := by
  refine LCg.Off3.of fun p hp => ?_
  rw [← List.append_assoc] at hp
  rcases List.mem_append.mp hp with hp | hp
  · exact h.mem p hp
  · exact ⟨Nat.ne_of_gt (o p hp).1, Nat.ne_of_gt (o p hp).2.1, Nat.ne_of_gt (o p hp).2.2⟩
/-- a block's names: its variable, and cells of the def around -/
theorem nm_comp {ys : List Str} {ρr : List (Option Dat)} {nm' : List (Str × NameKind)} {C : Addr} {oC : Obj} {m₂ : Str → Option Value} {v : Value} {d : Dat} {h : Heap} (S : SX X c fr m news h) (hm : (C, oC) ∈ fr) (hC : LCg.NsObj oC m₂) (hx : m₂ x = some v) (I : In c.B news v d)
    (hk : scope.kind = .function) (hnm : (relabel scope c.en).names = nm')
    (hcl : ∀ y i e, ix ys y = some i → nth ρr i = some e → y ≠ x → nm'.lookup y = some .cell ∧ ∃ a o u, cl.lookup y = some a ∧ (a, o) ∈ news ∧ o.data = .cell (some u) ∧ In c.B news u e) (hxl : nm'.lookup x = some .local) :
    NM X c fr (compEnvC scope cl C c.en) nm' (x :: ys) (some d :: ρr) m news where
  loc := fun y i e hkk hi hd hdb news' s Q E pos ex F N P => by
    unfold ix at hi
    split at hi
    · rename_i q
      cases hi
      have q' : x = y := beq_iff_eq.mp q
      subst q'
      simp only [nth, Option.some.injEq] at hd
      subst hd
      exact LCgL.ld_own N (List.mem_append_left _ hm) hC hx (P v (I.mono ex.sub)) hk (by show (relabel scope c.en).names.lookup x = _; rw [hnm]; exact hxl) hdb
    · rename_i q
      obtain ⟨j, hj, rfl⟩ := Option.map_eq_some_iff.mp hi
      simp only [nth] at hd
      obtain ⟨hc', a, o, u, h1, h2, h3, h4⟩ := hcl y j e hj hd fun z => q (by rw [z]; exact beq_self_eq_true _)
      exact wpAny_Name (wpAny_loadName_cell (env := compEnvC scope cl C c.en) hk (by show (relabel scope c.en).names.lookup y = _; rw [hnm]; exact hc') h1 ⟨o, N.get (List.mem_append_right _ (ex.sub _ h2)), h3⟩ (P u (h4.mono ex.sub))) hdb
  glo := fun y u hkk hv hdb s Q E pos F P => LCgL.ld_global F S.kin₀ S.top hv P rfl hk (by show (relabel scope c.en).names.lookup y = _; rw [hnm]; exact hkk) hdb
  blt := fun y u hkk hv hb hn hdb s Q E pos F P => LCgL.ld_built F S.kin₀ S.top hv hb hn P rfl rfl hk (by show (relabel scope c.en).names.lookup y = _; rw [hnm]; exact hkk) hdb

theorem crest {el : Dat → Option Dat} {elt : Expr} {nm' : List (Str × NameKind)} {ys : List Str} {ρr : List (Option Dat)} {s : Shared} {S : Led → Prop} {P : Nat → Value → Prop} {Fin' : List Value → Led → Prop}
    {hh : Heap} (hS : SX X c fr m news hh) (hel : ∀ d e, el d = some e → ∀ C, ET X c (compEnvC scope cl C c.en) nm' (x :: ys) (some d :: ρr) elt e)
    (hk : scope.kind = .function) (hnm : (relabel scope c.en).names = nm') (hxl : nm'.lookup x = some .local)
    (hSm : ∀ news' tl, S (fr ++ news') → S (fr ++ (news' ++ tl))) :
    ∀ (ds : List Dat) (i : Nat) (es₀ : List Dat) (es : List Dat) (vs : List Value) (news : Led), elMap el ds = some es → Ins c.B news vs es₀ → (∀ j v, j < ds.length → P (i + j) v → ∃ d, ds[j]? = some d ∧ In c.B news v d) → S (fr ++ news) →
      (∀ y i e, ix ys y = some i → nth ρr i = some e → y ≠ x → nm'.lookup y = some .cell ∧ ∃ a o u, cl.lookup y = some a ∧ (a, o) ∈ news ∧ o.data = .cell (some u) ∧ In c.B news u e) →
      (∀ vs' news', Ext fr news news' → Ins c.B news' vs' (es₀ ++ es) → S (fr ++ news') → Fin' vs' (fr ++ news')) →
      LCg.CompRest X.prog X.w c.A c.h₀ c.L m c.en elt x scope cl s S P Fin' ds.length i vs (fr ++ news)
  | [], i, es₀, es, vs, news, he, I, hP, hs, hcl, hF => by
    simp only [elMap, Option.some.injEq] at he
    subst he
    rw [List.append_nil] at hF
    exact LCg.CompRest.zero (hF vs news .refl I hs)
  | d :: ds, i, es₀, es, vs, news, he, I, hP, hs, hcl, hF => by
    simp only [elMap, Option.bind_eq_some_iff, Option.some.injEq] at he
    obtain ⟨e, h1, es', h2, rfl⟩ := he
    rw [List.length_cons]
    refine LCg.CompRest.succ fun v Ia oI C oC D m₂ h tk E' hp hC hx F N off ne => ?_
    obtain ⟨d', hd', Iv⟩ := hP 0 v (Nat.zero_lt_succ _) hp
    simp only [List.getElem?_cons_zero, Option.some.injEq] at hd'
    subst hd'
    have S1 : SX X c ((Ia, oI) :: (C, oC) :: (D, LCg.lst vs) :: fr) m news ({ s with heap := h, toks := tk } : Shared).heap := hS.go F N
    refine hel d e h1 C ((Ia, oI) :: (C, oC) :: (D, LCg.lst vs) :: fr) m news { s with heap := h, toks := tk } _ _ S1 (nm_comp S1 (.tail _ (.head _)) hC hx Iv hk hnm hcl hxl) fun y n' h' tk' x1 F1 N1 I1 => ?_
    obtain ⟨tl, rfl, ord⟩ := x1
    have x3 : Ext fr news (news ++ tl) := ⟨tl, rfl, fun q hq p hp => ord q (List.mem_cons_of_mem _ (List.mem_cons_of_mem _ (List.mem_cons_of_mem _ hq))) p hp⟩
    refine ⟨h', tk', fr ++ (news ++ tl), rfl, F1, N1, off3_go off fun p hp => ⟨ord (Ia, oI) (.head _) p hp, ord (C, oC) (.tail _ (.head _)) p hp, ord (D, LCg.lst vs) (.tail _ (.tail _ (.head _))) p hp⟩, hSm news tl hs, ?_⟩
    refine crest hS hel hk hnm hxl hSm ds (i + 1) (es₀ ++ [e]) es' (vs ++ [y]) (news ++ tl) h2 ((I.mono x3.sub).append (.cons I1 .nil)) (fun j v hj hp => ?_) (hSm news tl hs) (fun y i e a b c' => ?_) fun vs' news' x4 I4 s4 => hF vs' news' (x3.trans x4) (by simpa using I4) s4
    · obtain ⟨d', hd', Id⟩ := hP (j + 1) v (by rw [List.length_cons]; omega) (by rw [show i + (j + 1) = i + 1 + j by omega]; exact hp)
      exact ⟨d', by simpa using hd', Id.mono x3.sub⟩
    · obtain ⟨q, a', o, u, q1, q2, q3, q4⟩ := hcl y i e a b c'
      exact ⟨q, a', o, u, q1, x3.sub _ q2, q3, q4.mono x3.sub⟩
abbrev CEnd (c : Ct) (fr : Led) (m : Str → Option Value) (news : Led) (s : Shared) (es : List Dat) (Q : Value → Shared → Prop) : Prop :=
  ∀ D vs news' h' tk', Ext fr news news' → Fr c.h₀ c.L h' m → News c.h₀ c.L h' ((D, LCg.lst vs) :: (fr ++ news')) → LCg.Off1 D (fr ++ news') → Ins c.B news' vs es → Q (.ref D) { s with heap := h', toks := tk' }
structure CompOk (c : Ct) (scope : Scope) (cl : List (Str × Addr)) (x : Str) : Prop where
  clos : closureFor scope c.en = pure cl
  cell : ∀ y ∈ scope.names, y.2 ≠ .cell
  kind : scope.kind = .function
  names : ∀ y ∈ scope.names, y.2 = .local → scope.names.lookup y.1 = some .local
  hx : scope.names.lookup x = some .local
abbrev Cells (c : Ct) (nm' : List (Str × NameKind)) (ys : List Str) (ρr : List (Option Dat)) (x : Str) (cl : List (Str × Addr)) (news : Led) : Prop :=
  ∀ y i e, ix ys y = some i → nth ρr i = some e → y ≠ x → nm'.lookup y = some .cell ∧ ∃ a o u, cl.lookup y = some a ∧ (a, o) ∈ news ∧ o.data = .cell (some u) ∧ In c.B news u e
theorem Cells.mono {nm' : List (Str × NameKind)} {ys : List Str} {ρr : List (Option Dat)} {news' : Led} (h : Cells c nm' ys ρr x cl news) (s : ∀ p ∈ news, p ∈ news') : Cells c nm' ys ρr x cl news' :=
  fun y i e a b d => let ⟨q, a', o, u, q1, q2, q3, q4⟩ := h y i e a b d; ⟨q, a', o, u, q1, s _ q2, q3, q4.mono s⟩

theorem comp_list {el : Dat → Option Dat} {elt iter : Expr} {px pos : Pos} {nm' : List (Str × NameKind)} {ns ys : List Str} {ρ ρr : List (Option Dat)} {ds es : List Dat} (ok : CompOk c scope cl x) (hnm : (relabel scope c.en).names = nm') (hxl : nm'.lookup x = some .local)
    (hs : ∀ v, foldedSetIterable iter c.en v = pure v) (hit : ET X c c.en c.nm ns ρ iter (.list ds)) (hl : ds.length ≤ 1000) (hel : ∀ d e, el d = some e → ∀ C, ET X c (compEnvC scope cl C c.en) nm' (x :: ys) (some d :: ρr) elt e) (he : elMap el ds = some es)
    (s : Shared) (Q E : Value → Shared → Prop) (S : SX X c fr m news s.heap) (M : NM X c fr c.en c.nm ns ρ m news) (hcl : Cells c nm' ys ρr x cl news) (P : CEnd c fr m news s es Q) :
    wpAny (model X.prog X.w) c.A (eval (.ListComp elt [⟨.Name x px, iter, [], 0⟩] scope pos) c.en) Q E s := by
  refine LCg.ListComp_U S.frm ok.clos ok.cell ok.kind ok.names ok.hx (hit fr m news s _ _ S M fun v n1 g1 tk1 x1 F1 N1 I1 => ?_) hs
  cases I1 with
  | @list a o vs k _ hk hc hd hi =>
    have S1 := S.go F1 N1
    have hlen := hi.length
    refine .inl ⟨a, vs.toArray, fr ++ n1, rfl, rfl, F1, N1, ?_, Nat.le_trans (by rw [List.size_toArray, hlen]; exact hl) (by decide : 1000 ≤ sizeLine), fun s₂ ⟨g, e⟩ => ?_⟩
    · rcases hk with hk | hk
      · exact .inr ⟨o, List.mem_append_right _ hk, hc, k, hd⟩
      · exact .inl ⟨o, S.bst _ _ hk, hc, k, hd⟩
    · subst e
      have e1 : vs.toArray.size = ds.length := by rw [List.size_toArray, hlen]
      rw [e1]
      refine crest (el := el) (ys := ys) (ρr := ρr) (nm' := nm') S1 hel ok.kind hnm hxl (fun news' tl h => ?_) ds 0 [] es [] n1 he .nil (fun j v _ hv => ?_) ?_ (Cells.mono hcl x1.sub) fun vs' news' x2 I2 s2 => ?_
      · rcases h with h | ⟨o', hm, r⟩
        · exact .inl h
        · refine .inr ⟨o', ?_, r⟩
          rw [← List.append_assoc]; exact List.mem_append_left _ hm
      · rw [Nat.zero_add] at hv
        have hv' : vs[j]? = some v := by simpa using hv
        have hj : j < ds.length := by rw [← hlen]; exact (List.getElem?_eq_some_iff.mp hv').1
        obtain ⟨v', h1, h2⟩ := hi.get (i := j) (d := ds[j]) (by simp [hj])
        rw [hv'] at h1; cases h1
        exact ⟨_, by simp [hj], h2⟩
      · rcases hk with hk | hk
        · exact .inr ⟨o, List.mem_append_right _ hk, hc, k, hd⟩
        · exact .inl ⟨o, S.bst _ _ hk, hc, k, hd⟩
      · intro D h' tk' F2 N2 o2
        exact P D vs' news' h' tk' (x1.trans x2) F2 N2 o2 (by simpa using I2)
def TupAt (h₀ : Heap) (ax : Addr) (its : Array Value) (news : Led) : Prop := ∃ o, (h₀.get? ax = some o ∨ (ax, o) ∈ news) ∧ o.cls = .type "tuple" ∧ ∃ n, o.data = .seq its n
theorem comp_tup {el : Dat → Option Dat} {elt iter : Expr} {px pos : Pos} {nm' : List (Str × NameKind)} {ns ys : List Str} {ρ ρr : List (Option Dat)} {ds es : List Dat} (ok : CompOk c scope cl x) (hnm : (relabel scope c.en).names = nm') (hxl : nm'.lookup x = some .local)
    (hs : ∀ v, foldedSetIterable iter c.en v = pure v) (hit : ET X c c.en c.nm ns ρ iter (.tuple ds)) (hl : ds.length ≤ 1000) (hel : ∀ d e, el d = some e → ∀ C, ET X c (compEnvC scope cl C c.en) nm' (x :: ys) (some d :: ρr) elt e) (he : elMap el ds = some es)
    (s : Shared) (Q E : Value → Shared → Prop) (S : SX X c fr m news s.heap) (M : NM X c fr c.en c.nm ns ρ m news) (hcl : Cells c nm' ys ρr x cl news) (P : CEnd c fr m news s es Q) :
    wpAny (model X.prog X.w) c.A (eval (.ListComp elt [⟨.Name x px, iter, [], 0⟩] scope pos) c.en) Q E s := by
  rw [eval_ListComp]
  refine wpAny_comprehension_free (use := none) rfl hs ok.clos ok.kind ok.names (hit fr m news s _ _ S M fun v n1 g1 tk1 x1 F1 N1 I1 => ?_)
  cases I1 with
  | @tuple a o vs k _ hk hc hd hi =>
    have S1 := S.go F1 N1
    have hlen := hi.length
    have hget : g1.get? a = some o := hk.get (news_r N1) S1.stB
    have ht : g1.IsTuple a vs.toArray := ⟨o, hget, hc, k, hd⟩
    have hlt : a < g1.objs.size := Heap.lt_size hget
    have e1 : vs.toArray.size = ds.length := by rw [List.size_toArray, hlen]
    have sT : TupAt c.h₀ a vs.toArray (fr ++ n1) := ⟨o, hk.elim (fun e => .inr (List.mem_append_right _ e)) (fun e => .inl (S.bst _ _ e)), hc, k, hd⟩
    refine wpAny_pyIter_tuple ht ?_
    have up : ∀ b ob, g1.get? b = some ob → (g1.push { cls := .type "tuple_iterator", data := .fields #[.ref a, .int 0 0] }).get? b = some ob := fun b ob e => Heap.get?_push_of_some _ e
    refine LCg.block_U (Walks.tuple rfl g1.objs.size a (Nat.ne_of_lt hlt) vs.toArray) (by rw [e1]; exact Nat.le_trans hl (by decide)) (fun i h st => ?_) (fun i h h' ob nw st e e' kk NN sS => ?_) ok.cell ok.kind ok.hx ?_ (fun b hb => ?_)
      (F1.keeps up) (N1.grown up) (Nat.ne_of_lt F1.ns.lt) (next_is_new F1) (fun p hp => Nat.ne_of_lt (Heap.lt_size (N1 p hp).1)) sT (Fin := fun ys' nw => ∃ news' vs', ys' = vs' ∧ nw = fr ++ news' ∧ Ext fr news news' ∧ Ins c.B news' vs' es) ?_ ?_
    · obtain ⟨ob, e, _⟩ := st.1; exact ⟨ob, e⟩
    · refine ⟨?_, ?_⟩
      · obtain ⟨ob', q, r⟩ := st.1
        rw [e] at q; cases q
        exact ⟨_, e', r⟩
      · obtain ⟨ob', q, r1, r2⟩ := sS
        exact ⟨ob', q.elim (kk _ _) (fun z => (NN _ z).1), r1, r2⟩
    · exact ⟨⟨_, Heap.get?_push_size _ rfl, rfl, rfl⟩, ht.push _⟩
    · show b < (g1.push _).objs.size
      rw [Heap.size_push]
      rcases List.mem_cons.mp hb with rfl | hb
      · exact Nat.lt_succ_self _
      · rw [List.mem_singleton.mp hb]; exact Nat.lt_succ_of_lt hlt
    · rw [e1]
      refine crest (el := el) (ys := ys) (ρr := ρr) (nm' := nm') S1 hel ok.kind hnm hxl (fun news' tl h => ?_) ds 0 [] es [] n1 he .nil (fun j v _ hv => ?_) sT (Cells.mono hcl x1.sub) fun vs' news' x2 I2 s2 => ?_
      · obtain ⟨o', hm, r⟩ := h
        exact ⟨o', hm.imp id (fun z => by rw [← List.append_assoc]; exact List.mem_append_left _ z), r⟩
      · rw [Nat.zero_add] at hv
        have hv' : vs[j]? = some v := by simpa using hv
        have hj : j < ds.length := by rw [← hlen]; exact (List.getElem?_eq_some_iff.mp hv').1
        obtain ⟨v', h1, h2⟩ := hi.get (i := j) (d := ds[j]) (by simp [hj])
        rw [hv'] at h1; cases h1
        exact ⟨_, by simp [hj], h2⟩
      · exact ⟨news', vs', rfl, rfl, x1.trans x2, by simpa using I2⟩
    · rintro D C h2 tk2 m' _ _ F2 N2 o1 hn hC₀ hD₀ hCL hDL hCD offC ⟨news', vs', rfl, rfl, x2, I2⟩
      refine ⟨m', hn, fun h'' hs'' => P D _ news' h'' tk2 x2 (F2.change hs'' hCL hC₀) (fun p hp => ?_) o1 I2⟩
      refine ⟨hs''.extBut _ _ ?_ (N2 p hp).1, (N2 p hp).2⟩
      rcases List.mem_cons.mp hp with rfl | hp
      · exact Ne.symm hCD
      · exact offC p hp
end
section
variable {X : Wd} {c : Ct}
theorem clos_nil {scope : Scope} {en : Env} (h : ∀ y ∈ scope.names, y.2 ≠ .free) : closureFor scope en = pure [] := by
  unfold closureFor
  refine (congrArg (fun t => t >>= _) (forIn_yield_id (f := _) [] fun x hx cs => ?_)).trans rfl
  obtain ⟨n, k⟩ := x
  have hk : (k == NameKind.free) = false := by simpa using h _ hx
  dsimp only
  rw [if_neg (by rw [hk]; decide)]
theorem relabel_id {scope : Scope} {en : Env} (h : ∀ y ∈ scope.names, y.2 ≠ .free) : (relabel scope en).names = scope.names := by
  show scope.names.map _ = _
  refine (List.map_congr_left fun y hy => ?_).trans (List.map_id _)
  have := h y hy
  obtain ⟨a, k⟩ := y
  cases k <;> first | rfl | exact absurd rfl this
theorem block_ok {scope : Scope} {x : Str} (h : blockOk scope x = true) : CompOk c scope [] x ∧ (relabel scope c.en).names = scope.names := by
  unfold blockOk at h
  simp only [Bool.and_eq_true, beq_iff_eq, List.all_eq_true, bne_iff_ne, Bool.or_eq_true, ne_eq] at h
  obtain ⟨⟨h1, h2⟩, h3⟩ := h
  refine ⟨⟨clos_nil fun y hy => (h2 y hy).1.2, fun y hy => (h2 y hy).1.1, h1, fun y hy e => (h2 y hy).2.elim (fun q => absurd e q) id, h3⟩, relabel_id fun y hy => (h2 y hy).1.2⟩
theorem xt_unpC {ρ : List (Option Dat)} {ns : List Str} {ts : List Expr} {kk : Nat} {tp pos lp px : Pos} {elt iter : Expr} {x : Str} {scope : Scope} {is : List Nat} {src : Dat} {ds es : List Dat} {ρ' : List (Option Dat)} {el : Dat → Option Dat}
    (hi : locis c.nm ns ts = some is) (hpi : isPlainIter iter = true) (hb : blockOk scope x = true) (hit : ET X c c.en c.nm ns ρ iter src) (hsrc : src = .list ds ∨ src = .tuple ds) (hl : ds.length ≤ 1000)
    (hel : ∀ d e, el d = some e → ∀ C, ET X c (compEnvC scope [] C c.en) scope.names [x] [some d] elt e) (he : elMap el ds = some es) (hp : puts ρ is es = some ρ') :
    XT X c ns (.Assign [.Tuple ts kk tp] (.ListComp elt [⟨.Name x px, iter, [], 0⟩] scope lp) pos) ρ (.nxt ρ') := by
  intro fr m news s Q E S l P
  obtain ⟨ok, hnm⟩ := block_ok (c := c) hb
  obtain ⟨q1, q2, q3⟩ := locis_names hi
  obtain ⟨a1, a2, a3⟩ := q3 c.en
  have hs : ∀ v, foldedSetIterable iter c.en v = pure v := by
    intro v
    cases iter <;> first | rfl | cases hpi
  refine PyProof.Rows.Assign_Tuple ?_ rfl rfl
  have fin : CEnd c fr m news s es (fun v s₁ => wpAny (model X.prog X.w) c.A (assign (.Tuple ts kk tp) c.en v) (fun _ => Q .next) E s₁) := by
    intro D vs n1 h' tk' x1 F1 N1 o1 I1
    have hlen : (assignEach ts c.en).length = (List.toArray vs).size := by
      rw [a2, List.size_toArray, I1.length, ← puts_len hp, ← q2]
      have := congrArg List.length q1
      simpa using this
    have N2 : News c.h₀ c.L h' (fr ++ n1) := fun p hp => N1 p (List.mem_cons_of_mem _ hp)
    refine kun_list F1 N2 ⟨_, (N1 (D, LCg.lst vs) (.head _)).1, rfl, _, rfl⟩ rfl hlen a3 fun h2 F2 N3 => ?_
    rw [a1]
    refine stores_ok (xs := namesOf ts) _ (by simp [q2]) (fun j x t hj ht v s' Q' E' hst => ?_) q1 (S.go F2 N3) (l.mono x1.sub) I1 hp fun m2 h3 tk2 F3 N4 l2 => P _ m2 n1 h3 tk2 x1 F3 N4 ⟨rfl, l2⟩
    obtain ⟨px, rfl⟩ := names_at hi hj ht
    exact assign_Name hst
  have hcl : Cells c scope.names [] [] x [] news := fun y i e a => by cases a
  rcases hsrc with rfl | rfl
  · exact comp_list (el := el) (ys := []) (ρr := []) ok hnm ok.hx hs hit hl hel he s _ E S (nm_of S l) hcl fin
  · exact comp_tup (el := el) (ys := []) (ρr := []) ok hnm ok.hx hs hit hl hel he s _ E S (nm_of S l) hcl fin
end
end Mine

end

/-! # part AJ7 -/
section
open PySem PySem.W PyProof.Rows PySem.Calls PySem.Spec
set_option maxRecDepth 100000
namespace Mine
open Classical
section
variable {X : Wd} {c : Ct} {ns : List Str} {F : Nat → List Dat → Option Dat} {G : List (Str × GV)} {k : Nat}
theorem unp_fin {ρ : List (Option Dat)} {ts : List Expr} {kk : Nat} {tp pos : Pos} {e : Expr} {is : List Nat} {rv : Bool} {ce : CE} {o : Out} (hc : isComp e = false) (hi : locis c.nm ns ts = some is) (SE : ∀ d, ev F ρ ce = some d → ET X c c.en c.nm ns ρ e d)
    (h : ex F (.unp is rv ce) ρ = some o) (hw0 : rv = false → swappedStores [.Tuple ts kk tp] e c.en = pure none) (hw1 : rv = true → swappedStores [.Tuple ts kk tp] e c.en = pure (some (namesOf ts))) : XT X c ns (.Assign [.Tuple ts kk tp] e pos) ρ o := by
  simp only [ex, Option.bind_eq_some_iff] at h
  obtain ⟨d, h1, h2⟩ := h
  split at h2
  · rename_i ds
    cases rv with
    | true =>
      simp only [if_true, Option.map_eq_some_iff] at h2
      obtain ⟨ρ', h3, h4⟩ := h2
      subst h4
      exact xt_swp hc hi (SE _ h1) h3 (hw1 rfl)
    | false =>
      simp only [Bool.false_eq_true, if_false, Option.map_eq_some_iff] at h2
      obtain ⟨ρ', h3, h4⟩ := h2
      subst h4
      exact xt_unp hc hi (SE _ h1) h3 (hw0 rfl)
  · cases h2
theorem sound_S (hF : ∀ f args r, F f args = some r → FOk X k f args r) (hG : GOk X.w X.K G) (hroom : Room c k) (hfn : c.cs.kind = .function) :
    ∀ n st ρ o, ex F (compS c.nm ns G n st) ρ = some o → XT X c ns st ρ o := by
  have SE : ∀ {n : Nat} {ρ : List (Option Dat)} {e : Expr} {d : Dat}, ev F ρ (compE c.nm ns G n e) = some d → ET X c c.en c.nm ns ρ e d := fun {n _ _ _} h => (sound_E hF hG hroom n).1 _ _ h
  have ST : ∀ {n : Nat} {ρ : List (Option Dat)} {e : Expr} {d : Dat} {t : Bool}, ev F ρ (compE c.nm ns G n e) = some d → truD d = some t → ETt X c c.en c.nm ns ρ e t := fun {n _ _ _ _} h ht => (sound_E hF hG hroom n).2 _ _ _ h ht
  intro n
  induction n with
  | zero => intro st ρ o h; simp [compS, ex] at h
  | succ n IH =>
    have IHs : ∀ (b : List Stmt) (ρ : List (Option Dat)) (o : Out), ex F (b.foldr (fun s r => CS.seq (compS c.nm ns G n s) r) CS.skip) ρ = some o → XTs X c ns b ρ o := xts_of (C := compS c.nm ns G n) IH
    intro st ρ o h
    unfold compS at h
    split at h
    · -- Return
      simp only [ex, Option.map_eq_some_iff] at h
      obtain ⟨d, h1, h2⟩ := h
      subst h2
      exact xt_ret (SE h1)
    · -- If
      simp only [ex, Option.bind_eq_some_iff] at h
      obtain ⟨d, h1, t, h2, h3⟩ := h
      refine xt_if (ST h1 h2) ?_
      cases t with
      | true => exact IHs _ _ _ h3
      | false => exact IHs _ _ _ h3
    · -- Assign one
      split at h
      · split at h
        · simp [ex] at h
        · rename_i hc
          split at h
          · rename_i i hi
            simp only [ex, Option.bind_eq_some_iff, Option.some.injEq] at h
            obtain ⟨d, h1, h2⟩ := h
            subst h2
            exact xt_set (by simpa using hc) hi (SE h1)
          · simp [ex] at h
      · split at h
        · rename_i is hi
          split at h
          · -- a comprehension
            rename_i elt gens scope lp
            unfold compC at h
            split at h
            · rename_i x px iter
              split at h
              · rename_i hq
                simp only [Bool.and_eq_true] at hq
                simp only [ex, Option.bind_eq_some_iff] at h
                obtain ⟨src, h1, h2⟩ := h
                have hel : ∀ d e, ev F [some d] (compE scope.names [x] G n elt) = some e → ∀ C, ET X c (compEnvC scope [] C c.en) scope.names [x] [some d] elt e := fun d e he C => (sound_E hF hG hroom n).1 _ _ he
                split at h2
                · split at h2
                  · rename_i l hl
                    simp only [Option.bind_eq_some_iff, Option.map_eq_some_iff] at h2
                    obtain ⟨es, h3, ρ', h4, h5⟩ := h2
                    subst h5
                    exact xt_unpC hi hq.1 hq.2 (SE h1) (.inr rfl) hl hel h3 h4
                  · cases h2
                · split at h2
                  · rename_i l hl
                    simp only [Option.bind_eq_some_iff, Option.map_eq_some_iff] at h2
                    obtain ⟨es, h3, ρ', h4, h5⟩ := h2
                    subst h5
                    exact xt_unpC hi hq.1 hq.2 (SE h1) (.inl rfl) hl hel h3 h4
                  · cases h2
                · cases h2
              · simp [ex] at h
            · simp [ex] at h
          · split at h
            · rename_i rv hrv
              exact unp_fin rfl hi (fun d h => SE h) h (fun e => swap_ff (e ▸ hrv)) fun e => swap_tt hfn hi (e ▸ hrv)
            · simp [ex] at h
          · rename_i hne
            split at h
            · simp [ex] at h
            · rename_i hc
              exact unp_fin (by simpa using hc) hi (fun d h => SE h) h (fun _ => swap_none fun vs k p e => hne vs k p e) fun e => by cases e
        · simp [ex] at h
      · simp [ex] at h
    · -- Assign two
      split at h
      · rename_i i j hi hj
        simp only [ex, Option.bind_eq_some_iff, Option.some.injEq] at h
        obtain ⟨d, h1, h2⟩ := h
        subst h2
        exact xt_set2 hi hj (SE h1)
      · simp [ex] at h
    · -- AugAssign
      split at h
      · rename_i i hi
        simp only [ex, Option.bind_eq_some_iff, Option.some.injEq] at h
        obtain ⟨d0, h0, d1, h1, d, h2, h3⟩ := h
        subst h3
        exact xt_aug hi h0 (SE h1) h2
      · simp [ex] at h
    · -- Assert
      simp only [ex, Option.bind_eq_some_iff] at h
      obtain ⟨d, h1, t, h2, h3⟩ := h
      cases t with
      | true =>
        simp only [if_true, Option.some.injEq] at h3
        subst h3
        exact xt_assert (ST h1 h2)
      | false => simp at h3
    · -- For
      split at h
      · rename_i i hi
        simp only [ex, Option.bind_eq_some_iff] at h
        obtain ⟨d, h1, h2⟩ := h
        split at h2
        · split at h2
          · rename_i hl
            exact xt_for hi (SE h1) (fun ρ o h => IHs _ _ _ h) hl h2
          · cases h2
        · cases h2
      · simp [ex] at h
    · simp [ex] at h
theorem sound_B (hF : ∀ f args r, F f args = some r → FOk X k f args r) (hG : GOk X.w X.K G) (hroom : Room c k) (hfn : c.cs.kind = .function) (b : List Stmt) (ρ : List (Option Dat)) (o : Out) (h : ex F (compB c.nm ns G b) ρ = some o) : XTs X c ns b ρ o :=
  xts_of (C := compS c.nm ns G 30) (sound_S hF hG hroom hfn 30) b ρ o h
end

/-! ## A def -/
structure Fd where
  np : Nat
  ds : List Dat
  nl : Nat
  body : CS
/-- the slots at the start of a call -/
def ini (fd : Fd) (args : List Dat) : Option (List (Option Dat)) :=
  if args.length ≤ fd.np ∧ fd.np ≤ args.length + fd.ds.length ∧ fd.ds.length ≤ fd.np then some ((args ++ fd.ds.drop (args.length - (fd.np - fd.ds.length))).map some ++ List.replicate fd.nl none) else none
noncomputable def runD (F : Nat → List Dat → Option Dat) (fd : Fd) (args : List Dat) : Option Dat :=
  (ini fd args).bind fun ρ => (ex F fd.body ρ).bind fun o => match o with | .ret d => some d | .nxt _ => some .none
noncomputable def Fn (T : Nat → Option Fd) : Nat → Nat → List Dat → Option Dat
  | 0, _, _ => none
  | n + 1, f, args => (T f).bind fun fd => runD (Fn T n) fd args

/-- what is known of a def of the written part -/
structure DefOk (K : Frag) (G : List (Str × GV)) (f : Addr) (fd : Fd) : Prop where
  look : ∃ (oc : Value) (od : Option Addr) (osl : Array (Option Value)) (name qual : Str) (params : Arguments) (body : List Stmt) (scope : Scope) (dV kV doc pm cdv ct : Value) (an : Option Addr) (ns : List Str),
    K.lookup f = some ⟨oc, od, .func (fnOf name qual params body scope dV kV doc pm an cdv ct), osl⟩ ∧ codeIn K cdv qual = true ∧ scope.kind = .function ∧ scope.isCoroutine = false ∧ scope.isGenerator = false ∧ (∀ x ∈ scope.names, x.2 ≠ .cell) ∧
    compB scope.names ns G body = fd.body ∧ fd.np ≤ ns.length ∧ (∀ x ∈ ns.take fd.np, scope.names.lookup x = some .local) ∧ (ns.take fd.np).Nodup ∧
    (∀ (s : Shared) (vs : List Value), K.In s.heap → vs.length ≤ fd.np → fd.np ≤ vs.length + fd.ds.length → ∃ es, (∀ B : Heap, K.In B → Ins B [] es (fd.ds.drop (vs.length - (fd.np - fd.ds.length)))) ∧
      BindsTo s (fnOf name qual params body scope dV kV doc pm an cdv ct) ⟨vs, []⟩ ((ns.take fd.np).zip (vs ++ es)))
theorem DefOk.of {K : Frag} {G : List (Str × GV)} {f : Addr} {fd : Fd} {oc : Value} {od : Option Addr} {osl : Array (Option Value)} {name qual : Str} {params : Arguments} {body : List Stmt} {scope : Scope} {dV kV doc pm cdv ct : Value} {an : Option Addr} (ns : List Str)
    (l : K.lookup f = some ⟨oc, od, .func (fnOf name qual params body scope dV kV doc pm an cdv ct), osl⟩) (c : codeIn K cdv qual = true) (k1 : scope.kind = .function) (k2 : scope.isCoroutine = false) (k3 : scope.isGenerator = false) (k4 : ∀ x ∈ scope.names, x.2 ≠ .cell)
    (cb : compB scope.names ns G body = fd.body) (n1 : fd.np ≤ ns.length) (n2 : ∀ x ∈ ns.take fd.np, scope.names.lookup x = some .local) (n3 : (ns.take fd.np).Nodup)
    (b : ∀ (s : Shared) (vs : List Value), K.In s.heap → vs.length ≤ fd.np → fd.np ≤ vs.length + fd.ds.length → ∃ es, (∀ B : Heap, K.In B → Ins B [] es (fd.ds.drop (vs.length - (fd.np - fd.ds.length)))) ∧
      BindsTo s (fnOf name qual params body scope dV kV doc pm an cdv ct) ⟨vs, []⟩ ((ns.take fd.np).zip (vs ++ es))) : DefOk K G f fd :=
  ⟨⟨_, _, _, _, _, _, _, _, _, _, _, _, _, _, _, ns, l, c, k1, k2, k3, k4, cb, n1, n2, n3, b⟩⟩
theorem ix_get : ∀ {ns : List Str} {x : Str} {i : Nat}, ix ns x = some i → ns[i]? = some x
  | [], _, _, h => by cases h
  | y :: r, x, i, h => by
    unfold ix at h
    split at h
    · rename_i q; cases h; rw [beq_iff_eq.mp q]; rfl
    · obtain ⟨j, hj, e⟩ := Option.map_eq_some_iff.mp h
      subst e
      rw [List.getElem?_cons_succ]
      exact ix_get hj
theorem nth_ini {l : List Dat} {n i : Nat} {d : Dat} (h : nth (l.map some ++ List.replicate n none) i = some d) : l[i]? = some d := by
  induction l generalizing i with
  | nil =>
    exfalso
    simp only [List.map_nil, List.nil_append] at h
    induction n generalizing i with
    | zero => simp [nth] at h
    | succ n ih => cases i with
      | zero => simp [List.replicate_succ, nth] at h
      | succ i => exact ih (by simpa [List.replicate_succ, nth] using h)
  | cons a l ih => cases i with
    | zero => simpa [nth] using h
    | succ i => rw [List.getElem?_cons_succ]; exact ih (by simpa [nth] using h)
theorem lookup_rev {l : List (Str × Value)} {x : Str} {v : Value} (hn : (l.map (·.1)).Nodup) (hm : (x, v) ∈ l) : l.reverse.lookup x = some v := by
  have hm' : (x, v) ∈ l.reverse := List.mem_reverse.mpr hm
  have hn' : (l.reverse.map (·.1)).Nodup := by rw [List.map_reverse]; exact List.pairwise_reverse.mpr (hn.imp fun h e => h e.symm)
  generalize l.reverse = r at hm' hn'
  induction r with
  | nil => cases hm'
  | cons p r ih =>
    obtain ⟨y, w⟩ := p
    simp only [List.map_cons, List.nodup_cons] at hn'
    rw [List.lookup_cons]
    rcases List.mem_cons.mp hm' with e | e
    · cases e; simp
    · have hne : ¬ (x == y) = true := fun q => hn'.1 (by rw [← beq_iff_eq.mp q]; exact List.mem_map_of_mem e)
      rw [Bool.eq_false_iff.mpr hne]
      exact ih e hn'.2

theorem sound_def {X : Wd} {G : List (Str × GV)} {T : Nat → Option Fd} (hG : GOk X.w X.K G) (hT : ∀ f fd, T f = some fd → DefOk X.K G f fd) : ∀ n f args r, Fn T n f args = some r → FOk X n f args r := by
  intro n
  induction n with
  | zero => intro f args r h; cases h
  | succ n IH =>
    intro f args r h
    simp only [Fn, Option.bind_eq_some_iff] at h
    obtain ⟨fd, hfd, h⟩ := h
    obtain ⟨oc, od, osl, name, qual, params, body, scope, dV, kV, doc, pm, cdv, ct, an, ns, hlook, hcode, hk, hco, hgen, hcell, hcomp, hnp, hloc, hnd, hbind⟩ := (hT f fd hfd).look
    simp only [runD, Option.bind_eq_some_iff] at h
    obtain ⟨ρ, hρ, o, hex, ho⟩ := h
    intro dp un gd cn cs a ccd cl outer A₀ base h₀ B L m fr news s vs Q E S I hdp hun P
    unfold ini at hρ
    split at hρ
    · rename_i hq
      cases hρ
      have hlen := I.length
      obtain ⟨es, hes, hb⟩ := hbind s vs S.kinh (by omega) (by omega)
      rw [hlen] at hes
      have hes' : Ins B news es _ := (hes B S.kin).mono fun p hp => by cases hp
      have Iall := I.append hes'
      generalize hall : args ++ fd.ds.drop (args.length - (fd.np - fd.ds.length)) = all at Iall hex
      have hwl := Iall.length
      have hallLen : all.length = fd.np := by
        rw [← hall, List.length_append, List.length_drop]; omega
      refine wpAny_call (code_def (K := X.K) S.below S.frm S.kin₀ S.nws S.top rfl rfl S.fn hlook hcode (by show dp < recursionLimit; omega) hb (fun y hy => hloc _ (List.of_mem_zip hy).1) (fun g L' h₁ FG F' N' B' X' T' => ?_) hco hgen hk hcell)
      let c' : Ct := { dp := dp + 1, un := un + 3, gd := gd, cn := qual, cs := scope, a := f, ccd := cdv, cl := [], outer := envX cn cs L a ccd cl :: outer, A₀ := ktrTop dp un gd cn cs L a ccd cl outer, base := base, h₀ := g, B := B, L := L' }
      have S' : SX X c' fr (fun y => ((ns.take fd.np).zip (vs ++ es)).reverse.lookup y) news h₁ := ⟨B', F', S.kin, fun b o e => FG.keep b o (S.bst b o e), N', T', hk⟩
      have hl : Loc c' (fun y => ((ns.take fd.np).zip (vs ++ es)).reverse.lookup y) news ns (all.map some ++ List.replicate fd.nl none) := by
        intro x i d hi hd
        refine ⟨fun _ => ?_, fun hc => absurd (lookup_mem hc) fun hm => hcell _ hm rfl⟩
        have h1 := nth_ini hd
        obtain ⟨v, hv, Iv⟩ := Iall.get h1
        have hi' := ix_get hi
        have hlt : i < fd.np := by
          have := (List.getElem?_eq_some_iff.mp h1).1
          omega
        refine ⟨v, lookup_rev ?_ ?_, Iv⟩
        · rw [List.map_fst_zip (by rw [List.length_take]; omega)]; exact hnd
        · refine List.mem_iff_getElem?.mpr ⟨i, ?_⟩
          rw [List.getElem?_zip_eq_some]
          exact ⟨by rw [List.getElem?_take_of_lt hlt]; exact hi', hv⟩
      have hroom : Room c' n := ⟨by show dp + 1 + n < recursionLimit; omega, by show un + 3 + 8 * n + 100 < cLine; omega⟩
      rw [← hcomp] at hex
      refine sound_B (X := X) (c := c') (k := n) IH hG hroom hk body _ o hex fr _ news { s with heap := h₁, toks := s.toks + ((ns.take fd.np).zip (vs ++ es)).length } _ _ S' hl ?_
      intro f' m' news' h' tk' x1 F1 N1 O1
      cases o with
      | nxt ρ' =>
        obtain ⟨rfl, _⟩ := O1
        cases ho
        exact leaveK_ F1 N1 fun kF kN => P _ news' h' tk' x1 kF kN .none
      | ret d =>
        obtain ⟨v, rfl, Iv⟩ := O1
        cases ho
        exact leaveK_ F1 N1 fun kF kN => P _ news' h' tk' x1 kF kN Iv
    · cases hρ
end Mine

end

/-! # part AJ9 -/
section
open PySem PySem.W PyProof.Rows PySem.Calls PySem.Spec
set_option maxRecDepth 100000
namespace Mine
open Classical
theorem fill0 : Challenge.rw_aj5004_01 = Challenge.rw_aj5004_01 → hd.heap_39 = hd.heap_39 → True := by k_fill; intros; trivial

def GT : List (Str × GV) := [
 (Str.ofString "MPZ_ZERO", .cst (.int 0)),
 (Str.ofString "MPZ_ONE", .cst (.int 1)),
 (Str.ofString "round_nearest", .cst (.str (Str.ofString "n"))),
 (Str.ofString "round_floor", .cst (.str (Str.ofString "f"))),
 (Str.ofString "round_ceiling", .cst (.str (Str.ofString "c"))),
 (Str.ofString "round_up", .cst (.str (Str.ofString "u"))),
 (Str.ofString "round_down", .cst (.str (Str.ofString "d"))),
 (Str.ofString "round_fast", .cst (.str (Str.ofString "d"))),
 (Str.ofString "fzero", .cst (.tuple [.int 0, .int 0, .int 0, .int 0])),
 (Str.ofString "fnan", .cst (.tuple [.int 0, .int 0, .int (-123), .int (-1)])),
 (Str.ofString "finf", .cst (.tuple [.int 0, .int 0, .int (-456), .int (-2)])),
 (Str.ofString "fninf", .cst (.tuple [.int 1, .int 0, .int (-789), .int (-3)])),
 (Str.ofString "shifts_down", .shd),
 (Str.ofString "trailing", .fn 21),
 (Str.ofString "_normalize", .fn 37),
 (Str.ofString "normalize", .fn 44),
 (Str.ofString "mpf_cmp", .fn 51),
 (Str.ofString "mpf_lt", .fn 58),
 (Str.ofString "mpf_gt", .fn 65),
 (Str.ofString "mpf_min_max", .fn 72),
 (Str.ofString "mpf_pos", .fn 80),
 (Str.ofString "mpf_neg", .fn 88),
 (Str.ofString "mpf_sign", .fn 95),
 (Str.ofString "mpf_add", .fn 103),
 (Str.ofString "mpf_sub", .fn 111),
 (Str.ofString "mpf_mul", .fn 119),
 (Str.ofString "mpi_add", .fn 127),
 (Str.ofString "mpi_sub", .fn 135),
 (Str.ofString "mpi_delta", .fn 142),
 (Str.ofString "mpi_neg", .fn 150),
 (Str.ofString "mpi_abs", .fn 158),
 (Str.ofString "mpi_mul", .fn 166),
 (Str.ofString "_law_mixed", .fn 173),
 (Str.ofString "_law_made", .fn 180),
 (Str.ofString "_law_value", .fn 187),
 (Str.ofString "_law_sum", .fn 194),
 (Str.ofString "_law_times", .fn 201),
 (Str.ofString "_law_less", .fn 208),
 (Str.ofString "_law_same", .fn 215),
 (Str.ofString "_law_grid", .fn 222),
 (Str.ofString "_law_up", .fn 229),
 (Str.ofString "_law_span", .fn 236),
 (Str.ofString "_law_within", .fn 241),
 (Str.ofString "_law_wide", .fn 248),
 (Str.ofString "_law_side", .fn 255),
 (Str.ofString "_law_widths_right", .fn 262)]

def cTrailing : CS :=
 (.seq (.ite (.nt (.loc 0)) (.seq (.ret (.lit (Dat.int (0))))
 .skip) .skip)
 (.seq (.ret (.bin .Sub (.blen (.bin .BitAnd (.loc 0) (.neg (.loc 0)))) (.lit (Dat.int (1)))))
 .skip))

def cNormalize0 : CS :=
 (.seq (.ite (.nt (.loc 1)) (.seq (.ret (.lit (Dat.tuple [(Dat.int (0)), (Dat.int (0)), (Dat.int (0)), (Dat.int (0))])))
 .skip) .skip)
 (.seq (.set 6 (.bin .Sub (.loc 3) (.loc 4)))
 (.seq (.ite (.cmp .Gt (.loc 6) (.lit (Dat.int (0)))) (.seq (.ite (.cmp .Eq (.loc 5) (.lit (Dat.str (Str.ofString "n")))) (.seq (.set 7 (.bin .RShift (.loc 1) (.bin .Sub (.loc 6) (.lit (Dat.int (1))))))
 (.seq (.ite (.and (.bin .BitAnd (.loc 7) (.lit (Dat.int (1)))) (.or (.bin .BitAnd (.loc 7) (.lit (Dat.int (2)))) (.bin .BitAnd (.loc 1) (.bin .Sub (.bin .LShift (.lit (Dat.int (1))) (.bin .Sub (.loc 6) (.lit (Dat.int (1))))) (.lit (Dat.int (1))))))) (.seq (.set 1 (.bin .Add (.bin .RShift (.loc 7) (.lit (Dat.int (1)))) (.lit (Dat.int (1)))))
 .skip) (.seq (.set 1 (.bin .RShift (.loc 7) (.lit (Dat.int (1)))))
 .skip))
 .skip)) (.seq (.ite (.sub (.shd (.loc 5)) (.loc 0)) (.seq (.aug 1 .RShift (.loc 6))
 .skip) (.seq (.set 1 (.neg (.bin .RShift (.neg (.loc 1)) (.loc 6))))
 .skip))
 .skip))
 (.seq (.aug 2 .Add (.loc 6))
 (.seq (.set 3 (.loc 4))
 .skip))) .skip)
 (.seq (.ite (.nt (.bin .BitAnd (.loc 1) (.lit (Dat.int (1))))) (.seq (.set 7 (.call 21 (.cons (.loc 1) .nil)))
 (.seq (.aug 1 .RShift (.loc 7))
 (.seq (.aug 2 .Add (.loc 7))
 (.seq (.aug 3 .Sub (.loc 7))
 .skip)))) .skip)
 (.seq (.ite (.cmp .Eq (.loc 1) (.lit (Dat.int (1)))) (.seq (.set 3 (.lit (Dat.int (1))))
 .skip) .skip)
 (.seq (.ret (.tup (.cons (.loc 0) (.cons (.loc 1) (.cons (.loc 2) (.cons (.loc 3) .nil))))))
 .skip))))))

def cNormalize : CS :=
 (.seq (.asrt (.cmp .Eq (.loc 3) (.blen (.loc 1))))
 (.seq (.asrt (.cmp .GtE (.loc 1) (.lit (Dat.int (0)))))
 (.seq (.ret (.call 37 (.cons (.loc 0) (.cons (.loc 1) (.cons (.loc 2) (.cons (.loc 3) (.cons (.loc 4) (.cons (.loc 5) .nil))))))))
 .skip)))

def cMpfCmp : CS :=
 (.seq (.unp [2, 3, 4, 5] false (.loc 0))
 (.seq (.unp [6, 7, 8, 9] false (.loc 1))
 (.seq (.ite (.or (.nt (.loc 3)) (.nt (.loc 7))) (.seq (.ite (.cmp .Eq (.loc 0) (.lit (Dat.tuple [(Dat.int (0)), (Dat.int (0)), (Dat.int (0)), (Dat.int (0))]))) (.seq (.ret (.neg (.call 95 (.cons (.loc 1) .nil))))
 .skip) .skip)
 (.seq (.ite (.cmp .Eq (.loc 1) (.lit (Dat.tuple [(Dat.int (0)), (Dat.int (0)), (Dat.int (0)), (Dat.int (0))]))) (.seq (.ret (.call 95 (.cons (.loc 0) .nil)))
 .skip) .skip)
 (.seq (.ite (.cmp .Eq (.loc 0) (.loc 1)) (.seq (.ret (.lit (Dat.int (0))))
 .skip) .skip)
 (.seq (.ite (.cmp .Eq (.loc 1) (.lit (Dat.tuple [(Dat.int (0)), (Dat.int (0)), (Dat.int (-123)), (Dat.int (-1))]))) (.seq (.ret (.lit (Dat.int (1))))
 .skip) .skip)
 (.seq (.ite (.cmp .Eq (.loc 0) (.lit (Dat.tuple [(Dat.int (0)), (Dat.int (0)), (Dat.int (-456)), (Dat.int (-2))]))) (.seq (.ret (.lit (Dat.int (1))))
 .skip) .skip)
 (.seq (.ite (.cmp .Eq (.loc 1) (.lit (Dat.tuple [(Dat.int (1)), (Dat.int (0)), (Dat.int (-789)), (Dat.int (-3))]))) (.seq (.ret (.lit (Dat.int (1))))
 .skip) .skip)
 (.seq (.ret (.neg (.lit (Dat.int (1)))))
 .skip))))))) .skip)
 (.seq (.ite (.cmp .NotEq (.loc 2) (.loc 6)) (.seq (.ite (.nt (.loc 2)) (.seq (.ret (.lit (Dat.int (1))))
 .skip) .skip)
 (.seq (.ret (.neg (.lit (Dat.int (1)))))
 .skip)) .skip)
 (.seq (.ite (.cmp .Eq (.loc 4) (.loc 8)) (.seq (.ite (.cmp .Eq (.loc 3) (.loc 7)) (.seq (.ret (.lit (Dat.int (0))))
 .skip) .skip)
 (.seq (.ite (.cmp .Gt (.loc 3) (.loc 7)) (.seq (.ite (.loc 2) (.seq (.ret (.neg (.lit (Dat.int (1)))))
 .skip) (.seq (.ret (.lit (Dat.int (1))))
 .skip))
 .skip) (.seq (.ite (.loc 2) (.seq (.ret (.lit (Dat.int (1))))
 .skip) (.seq (.ret (.neg (.lit (Dat.int (1)))))
 .skip))
 .skip))
 .skip)) .skip)
 (.seq (.set 10 (.bin .Add (.loc 5) (.loc 4)))
 (.seq (.set 11 (.bin .Add (.loc 9) (.loc 8)))
 (.seq (.ite (.loc 2) (.seq (.ite (.cmp .Lt (.loc 10) (.loc 11)) (.seq (.ret (.lit (Dat.int (1))))
 .skip) .skip)
 (.seq (.ite (.cmp .Gt (.loc 10) (.loc 11)) (.seq (.ret (.neg (.lit (Dat.int (1)))))
 .skip) .skip)
 .skip)) (.seq (.ite (.cmp .Lt (.loc 10) (.loc 11)) (.seq (.ret (.neg (.lit (Dat.int (1)))))
 .skip) .skip)
 (.seq (.ite (.cmp .Gt (.loc 10) (.loc 11)) (.seq (.ret (.lit (Dat.int (1))))
 .skip) .skip)
 .skip)))
 (.seq (.set 12 (.call 111 (.cons (.loc 0) (.cons (.loc 1) (.cons (.lit (Dat.int (5))) (.cons (.lit (Dat.str (Str.ofString "f"))) .nil))))))
 (.seq (.ite (.sub (.loc 12) (.lit (Dat.int (0)))) (.seq (.ret (.neg (.lit (Dat.int (1)))))
 .skip) .skip)
 (.seq (.ret (.lit (Dat.int (1))))
 .skip)))))))))))

def cMpfLt : CS :=
 (.seq (.ite (.or (.cmp .Eq (.loc 0) (.lit (Dat.tuple [(Dat.int (0)), (Dat.int (0)), (Dat.int (-123)), (Dat.int (-1))]))) (.cmp .Eq (.loc 1) (.lit (Dat.tuple [(Dat.int (0)), (Dat.int (0)), (Dat.int (-123)), (Dat.int (-1))])))) (.seq (.ret (.lit (Dat.bool false)))
 .skip) .skip)
 (.seq (.ret (.cmp .Lt (.call 51 (.cons (.loc 0) (.cons (.loc 1) .nil))) (.lit (Dat.int (0)))))
 .skip))

def cMpfGt : CS :=
 (.seq (.ite (.or (.cmp .Eq (.loc 0) (.lit (Dat.tuple [(Dat.int (0)), (Dat.int (0)), (Dat.int (-123)), (Dat.int (-1))]))) (.cmp .Eq (.loc 1) (.lit (Dat.tuple [(Dat.int (0)), (Dat.int (0)), (Dat.int (-123)), (Dat.int (-1))])))) (.seq (.ret (.lit (Dat.bool false)))
 .skip) .skip)
 (.seq (.ret (.cmp .Gt (.call 51 (.cons (.loc 0) (.cons (.loc 1) .nil))) (.lit (Dat.int (0)))))
 .skip))

def cMpfMinMax : CS :=
 (.seq (.set2 1 2 (.sub (.loc 0) (.lit (Dat.int (0)))))
 (.seq (.forS 3 (.loc 0) (.seq (.ite (.call 58 (.cons (.loc 3) (.cons (.loc 1) .nil))) (.seq (.set 1 (.loc 3))
 .skip) .skip)
 (.seq (.ite (.call 65 (.cons (.loc 3) (.cons (.loc 2) .nil))) (.seq (.set 2 (.loc 3))
 .skip) .skip)
 .skip)))
 (.seq (.ret (.tup (.cons (.loc 1) (.cons (.loc 2) .nil))))
 .skip)))

def cMpfPos : CS :=
 (.seq (.ite (.loc 1) (.seq (.unp [3, 4, 5, 6] false (.loc 0))
 (.seq (.ite (.and (.nt (.loc 4)) (.loc 5)) (.seq (.ret (.loc 0))
 .skip) .skip)
 (.seq (.ret (.call 44 (.cons (.loc 3) (.cons (.loc 4) (.cons (.loc 5) (.cons (.loc 6) (.cons (.loc 1) (.cons (.loc 2) .nil))))))))
 .skip))) .skip)
 (.seq (.ret (.loc 0))
 .skip))

def cMpfNeg : CS :=
 (.seq (.unp [3, 4, 5, 6] false (.loc 0))
 (.seq (.ite (.nt (.loc 4)) (.seq (.ite (.loc 5) (.seq (.ite (.cmp .Eq (.loc 0) (.lit (Dat.tuple [(Dat.int (0)), (Dat.int (0)), (Dat.int (-456)), (Dat.int (-2))]))) (.seq (.ret (.lit (Dat.tuple [(Dat.int (1)), (Dat.int (0)), (Dat.int (-789)), (Dat.int (-3))])))
 .skip) .skip)
 (.seq (.ite (.cmp .Eq (.loc 0) (.lit (Dat.tuple [(Dat.int (1)), (Dat.int (0)), (Dat.int (-789)), (Dat.int (-3))]))) (.seq (.ret (.lit (Dat.tuple [(Dat.int (0)), (Dat.int (0)), (Dat.int (-456)), (Dat.int (-2))])))
 .skip) .skip)
 .skip)) .skip)
 (.seq (.ret (.loc 0))
 .skip)) .skip)
 (.seq (.ite (.nt (.loc 1)) (.seq (.ret (.tup (.cons (.bin .Sub (.lit (Dat.int (1))) (.loc 3)) (.cons (.loc 4) (.cons (.loc 5) (.cons (.loc 6) .nil))))))
 .skip) .skip)
 (.seq (.ret (.call 44 (.cons (.bin .Sub (.lit (Dat.int (1))) (.loc 3)) (.cons (.loc 4) (.cons (.loc 5) (.cons (.loc 6) (.cons (.loc 1) (.cons (.loc 2) .nil))))))))
 .skip))))

def cMpfSign : CS :=
 (.seq (.unp [1, 2, 3, 4] false (.loc 0))
 (.seq (.ite (.nt (.loc 2)) (.seq (.ite (.cmp .Eq (.loc 0) (.lit (Dat.tuple [(Dat.int (0)), (Dat.int (0)), (Dat.int (-456)), (Dat.int (-2))]))) (.seq (.ret (.lit (Dat.int (1))))
 .skip) .skip)
 (.seq (.ite (.cmp .Eq (.loc 0) (.lit (Dat.tuple [(Dat.int (1)), (Dat.int (0)), (Dat.int (-789)), (Dat.int (-3))]))) (.seq (.ret (.neg (.lit (Dat.int (1)))))
 .skip) .skip)
 (.seq (.ret (.lit (Dat.int (0))))
 .skip))) .skip)
 (.seq (.ret (.bin .Pow (.neg (.lit (Dat.int (1)))) (.loc 1)))
 .skip)))

def cMpfAdd : CS :=
 (.seq (.unp [5, 6, 7, 8] false (.loc 0))
 (.seq (.unp [9, 10, 11, 12] false (.loc 1))
 (.seq (.aug 9 .BitXor (.loc 4))
 (.seq (.ite (.and (.loc 6) (.loc 10)) (.seq (.set 13 (.bin .Sub (.loc 7) (.loc 11)))
 (.seq (.ite (.loc 13) (.seq (.ite (.cmp .Gt (.loc 13) (.lit (Dat.int (0)))) (.seq (.ite (.and (.cmp .Gt (.loc 13) (.lit (Dat.int (100)))) (.loc 2)) (.seq (.set 14 (.bin .Sub (.bin .Sub (.bin .Add (.loc 8) (.loc 7)) (.loc 12)) (.loc 11)))
 (.seq (.ite (.cmp .Gt (.loc 14) (.bin .Add (.loc 2) (.lit (Dat.int (4))))) (.seq (.set 13 (.bin .Add (.loc 2) (.lit (Dat.int (4)))))
 (.seq (.aug 6 .LShift (.loc 13))
 (.seq (.ite (.cmp .Eq (.loc 9) (.loc 5)) (.seq (.aug 6 .Add (.lit (Dat.int (1))))
 .skip) (.seq (.aug 6 .Sub (.lit (Dat.int (1))))
 .skip))
 (.seq (.ret (.call 44 (.cons (.loc 5) (.cons (.loc 6) (.cons (.bin .Sub (.loc 7) (.loc 13)) (.cons (.blen (.loc 6)) (.cons (.loc 2) (.cons (.loc 3) .nil))))))))
 .skip)))) .skip)
 .skip)) .skip)
 (.seq (.ite (.cmp .Eq (.loc 5) (.loc 9)) (.seq (.set 15 (.bin .Add (.loc 10) (.bin .LShift (.loc 6) (.loc 13))))
 .skip) (.seq (.ite (.loc 5) (.seq (.set 15 (.bin .Sub (.loc 10) (.bin .LShift (.loc 6) (.loc 13))))
 .skip) (.seq (.set 15 (.bin .Sub (.bin .LShift (.loc 6) (.loc 13)) (.loc 10)))
 .skip))
 (.seq (.ite (.cmp .GtE (.loc 15) (.lit (Dat.int (0)))) (.seq (.set 5 (.lit (Dat.int (0))))
 .skip) (.seq (.set 15 (.neg (.loc 15)))
 (.seq (.set 5 (.lit (Dat.int (1))))
 .skip)))
 .skip)))
 (.seq (.set 16 (.blen (.loc 15)))
 (.seq (.ret (.call 44 (.cons (.loc 5) (.cons (.loc 15) (.cons (.loc 11) (.cons (.loc 16) (.cons (.or (.loc 2) (.loc 16)) (.cons (.loc 3) .nil))))))))
 .skip)))) (.seq (.ite (.cmp .Lt (.loc 13) (.lit (Dat.int (0)))) (.seq (.ite (.and (.cmp .Lt (.loc 13) (.neg (.lit (Dat.int (100))))) (.loc 2)) (.seq (.set 14 (.bin .Sub (.bin .Sub (.bin .Add (.loc 12) (.loc 11)) (.loc 8)) (.loc 7)))
 (.seq (.ite (.cmp .Gt (.loc 14) (.bin .Add (.loc 2) (.lit (Dat.int (4))))) (.seq (.set 13 (.bin .Add (.loc 2) (.lit (Dat.int (4)))))
 (.seq (.aug 10 .LShift (.loc 13))
 (.seq (.ite (.cmp .Eq (.loc 5) (.loc 9)) (.seq (.aug 10 .Add (.lit (Dat.int (1))))
 .skip) (.seq (.aug 10 .Sub (.lit (Dat.int (1))))
 .skip))
 (.seq (.ret (.call 44 (.cons (.loc 9) (.cons (.loc 10) (.cons (.bin .Sub (.loc 11) (.loc 13)) (.cons (.blen (.loc 10)) (.cons (.loc 2) (.cons (.loc 3) .nil))))))))
 .skip)))) .skip)
 .skip)) .skip)
 (.seq (.ite (.cmp .Eq (.loc 5) (.loc 9)) (.seq (.set 15 (.bin .Add (.loc 6) (.bin .LShift (.loc 10) (.neg (.loc 13)))))
 .skip) (.seq (.ite (.loc 9) (.seq (.set 15 (.bin .Sub (.loc 6) (.bin .LShift (.loc 10) (.neg (.loc 13)))))
 .skip) (.seq (.set 15 (.bin .Sub (.bin .LShift (.loc 10) (.neg (.loc 13))) (.loc 6)))
 .skip))
 (.seq (.ite (.cmp .GtE (.loc 15) (.lit (Dat.int (0)))) (.seq (.set 5 (.lit (Dat.int (0))))
 .skip) (.seq (.set 15 (.neg (.loc 15)))
 (.seq (.set 5 (.lit (Dat.int (1))))
 .skip)))
 .skip)))
 (.seq (.set 16 (.blen (.loc 15)))
 (.seq (.ret (.call 44 (.cons (.loc 5) (.cons (.loc 15) (.cons (.loc 7) (.cons (.loc 16) (.cons (.or (.loc 2) (.loc 16)) (.cons (.loc 3) .nil))))))))
 .skip)))) .skip)
 .skip))
 .skip) .skip)
 (.seq (.ite (.cmp .Eq (.loc 5) (.loc 9)) (.seq (.set 15 (.bin .Add (.loc 10) (.loc 6)))
 .skip) (.seq (.ite (.loc 5) (.seq (.set 15 (.bin .Sub (.loc 10) (.loc 6)))
 .skip) (.seq (.set 15 (.bin .Sub (.loc 6) (.loc 10)))
 .skip))
 (.seq (.ite (.cmp .GtE (.loc 15) (.lit (Dat.int (0)))) (.seq (.set 5 (.lit (Dat.int (0))))
 .skip) (.seq (.set 15 (.neg (.loc 15)))
 (.seq (.set 5 (.lit (Dat.int (1))))
 .skip)))
 .skip)))
 (.seq (.set 16 (.blen (.loc 15)))
 (.seq (.ret (.call 44 (.cons (.loc 5) (.cons (.loc 15) (.cons (.loc 11) (.cons (.loc 16) (.cons (.or (.loc 2) (.loc 16)) (.cons (.loc 3) .nil))))))))
 .skip))))) .skip)
 (.seq (.ite (.loc 4) (.seq (.set 1 (.call 88 (.cons (.loc 1) .nil)))
 .skip) .skip)
 (.seq (.ite (.nt (.loc 6)) (.seq (.ite (.loc 7) (.seq (.ite (.or (.cmp .Eq (.loc 0) (.loc 1)) (.or (.loc 10) (.nt (.loc 11)))) (.seq (.ret (.loc 0))
 .skip) .skip)
 (.seq (.ret (.lit (Dat.tuple [(Dat.int (0)), (Dat.int (0)), (Dat.int (-123)), (Dat.int (-1))])))
 .skip)) .skip)
 (.seq (.ite (.loc 10) (.seq (.ret (.call 44 (.cons (.loc 9) (.cons (.loc 10) (.cons (.loc 11) (.cons (.loc 12) (.cons (.or (.loc 2) (.loc 12)) (.cons (.loc 3) .nil))))))))
 .skip) .skip)
 (.seq (.ret (.loc 1))
 .skip))) .skip)
 (.seq (.ite (.loc 11) (.seq (.ret (.loc 1))
 .skip) .skip)
 (.seq (.ite (.loc 6) (.seq (.ret (.call 44 (.cons (.loc 5) (.cons (.loc 6) (.cons (.loc 7) (.cons (.loc 8) (.cons (.or (.loc 2) (.loc 8)) (.cons (.loc 3) .nil))))))))
 .skip) .skip)
 (.seq (.ret (.loc 0))
 .skip)))))))))

def cMpfSub : CS :=
 (.seq (.ret (.call 103 (.cons (.loc 0) (.cons (.loc 1) (.cons (.loc 2) (.cons (.loc 3) (.cons (.lit (Dat.int (1))) .nil)))))))
 .skip)

def cMpfMul : CS :=
 (.seq (.unp [4, 5, 6, 7] false (.loc 0))
 (.seq (.unp [8, 9, 10, 11] false (.loc 1))
 (.seq (.set 12 (.bin .BitXor (.loc 4) (.loc 8)))
 (.seq (.set 13 (.bin .Mult (.loc 5) (.loc 9)))
 (.seq (.ite (.loc 13) (.seq (.set 14 (.blen (.loc 13)))
 (.seq (.ite (.loc 2) (.seq (.ret (.call 44 (.cons (.loc 12) (.cons (.loc 13) (.cons (.bin .Add (.loc 6) (.loc 10)) (.cons (.loc 14) (.cons (.loc 2) (.cons (.loc 3) .nil))))))))
 .skip) (.seq (.ret (.tup (.cons (.loc 12) (.cons (.loc 13) (.cons (.bin .Add (.loc 6) (.loc 10)) (.cons (.loc 14) .nil))))))
 .skip))
 .skip)) .skip)
 (.seq (.set 15 (.and (.nt (.loc 5)) (.loc 6)))
 (.seq (.set 16 (.and (.nt (.loc 9)) (.loc 10)))
 (.seq (.ite (.and (.nt (.loc 15)) (.nt (.loc 16))) (.seq (.ret (.lit (Dat.tuple [(Dat.int (0)), (Dat.int (0)), (Dat.int (0)), (Dat.int (0))])))
 .skip) .skip)
 (.seq (.ite (.cmp .In (.lit (Dat.tuple [(Dat.int (0)), (Dat.int (0)), (Dat.int (-123)), (Dat.int (-1))])) (.tup (.cons (.loc 0) (.cons (.loc 1) .nil)))) (.seq (.ret (.lit (Dat.tuple [(Dat.int (0)), (Dat.int (0)), (Dat.int (-123)), (Dat.int (-1))])))
 .skip) .skip)
 (.seq (.ite (.and (.nt (.loc 9)) (.loc 10)) (.seq (.unp [0, 1] true (.tup (.cons (.loc 1) (.cons (.loc 0) .nil))))
 .skip) .skip)
 (.seq (.ite (.cmp .Eq (.loc 1) (.lit (Dat.tuple [(Dat.int (0)), (Dat.int (0)), (Dat.int (0)), (Dat.int (0))]))) (.seq (.ret (.lit (Dat.tuple [(Dat.int (0)), (Dat.int (0)), (Dat.int (-123)), (Dat.int (-1))])))
 .skip) .skip)
 (.seq (.ret (.sub .fail (.bin .Mult (.call 95 (.cons (.loc 0) .nil)) (.call 95 (.cons (.loc 1) .nil)))))
 .skip))))))))))))

def cMpiAdd : CS :=
 (.seq (.unp [3, 4] false (.loc 0))
 (.seq (.unp [5, 6] false (.loc 1))
 (.seq (.set 7 (.call 103 (.cons (.loc 3) (.cons (.loc 5) (.cons (.loc 2) (.cons (.lit (Dat.str (Str.ofString "f"))) .nil))))))
 (.seq (.set 8 (.call 103 (.cons (.loc 4) (.cons (.loc 6) (.cons (.loc 2) (.cons (.lit (Dat.str (Str.ofString "c"))) .nil))))))
 (.seq (.ite (.cmp .Eq (.loc 7) (.lit (Dat.tuple [(Dat.int (0)), (Dat.int (0)), (Dat.int (-123)), (Dat.int (-1))]))) (.seq (.set 7 (.lit (Dat.tuple [(Dat.int (1)), (Dat.int (0)), (Dat.int (-789)), (Dat.int (-3))])))
 .skip) .skip)
 (.seq (.ite (.cmp .Eq (.loc 8) (.lit (Dat.tuple [(Dat.int (0)), (Dat.int (0)), (Dat.int (-123)), (Dat.int (-1))]))) (.seq (.set 8 (.lit (Dat.tuple [(Dat.int (0)), (Dat.int (0)), (Dat.int (-456)), (Dat.int (-2))])))
 .skip) .skip)
 (.seq (.ret (.tup (.cons (.loc 7) (.cons (.loc 8) .nil))))
 .skip)))))))

def cMpiSub : CS :=
 (.seq (.unp [3, 4] false (.loc 0))
 (.seq (.unp [5, 6] false (.loc 1))
 (.seq (.set 7 (.call 111 (.cons (.loc 3) (.cons (.loc 6) (.cons (.loc 2) (.cons (.lit (Dat.str (Str.ofString "f"))) .nil))))))
 (.seq (.set 8 (.call 111 (.cons (.loc 4) (.cons (.loc 5) (.cons (.loc 2) (.cons (.lit (Dat.str (Str.ofString "c"))) .nil))))))
 (.seq (.ite (.cmp .Eq (.loc 7) (.lit (Dat.tuple [(Dat.int (0)), (Dat.int (0)), (Dat.int (-123)), (Dat.int (-1))]))) (.seq (.set 7 (.lit (Dat.tuple [(Dat.int (1)), (Dat.int (0)), (Dat.int (-789)), (Dat.int (-3))])))
 .skip) .skip)
 (.seq (.ite (.cmp .Eq (.loc 8) (.lit (Dat.tuple [(Dat.int (0)), (Dat.int (0)), (Dat.int (-123)), (Dat.int (-1))]))) (.seq (.set 8 (.lit (Dat.tuple [(Dat.int (0)), (Dat.int (0)), (Dat.int (-456)), (Dat.int (-2))])))
 .skip) .skip)
 (.seq (.ret (.tup (.cons (.loc 7) (.cons (.loc 8) .nil))))
 .skip)))))))

def cMpiDelta : CS :=
 (.seq (.unp [2, 3] false (.loc 0))
 (.seq (.ret (.call 111 (.cons (.loc 3) (.cons (.loc 2) (.cons (.loc 1) (.cons (.lit (Dat.str (Str.ofString "u"))) .nil))))))
 .skip))

def cMpiNeg : CS :=
 (.seq (.unp [2, 3] false (.loc 0))
 (.seq (.set 4 (.call 88 (.cons (.loc 3) (.cons (.loc 1) (.cons (.lit (Dat.str (Str.ofString "f"))) .nil)))))
 (.seq (.set 5 (.call 88 (.cons (.loc 2) (.cons (.loc 1) (.cons (.lit (Dat.str (Str.ofString "c"))) .nil)))))
 (.seq (.ret (.tup (.cons (.loc 4) (.cons (.loc 5) .nil))))
 .skip))))

def cMpiAbs : CS :=
 (.seq (.unp [2, 3] false (.loc 0))
 (.seq (.set 4 (.call 95 (.cons (.loc 2) .nil)))
 (.seq (.set 5 (.call 95 (.cons (.loc 3) .nil)))
 (.seq (.ite (.cmp .GtE (.loc 4) (.lit (Dat.int (0)))) (.seq (.set 6 (.call 80 (.cons (.loc 2) (.cons (.loc 1) (.cons (.lit (Dat.str (Str.ofString "f"))) .nil)))))
 (.seq (.set 7 (.call 80 (.cons (.loc 3) (.cons (.loc 1) (.cons (.lit (Dat.str (Str.ofString "c"))) .nil)))))
 .skip)) (.seq (.ite (.cmp .GtE (.loc 5) (.lit (Dat.int (0)))) (.seq (.set 6 (.lit (Dat.tuple [(Dat.int (0)), (Dat.int (0)), (Dat.int (0)), (Dat.int (0))])))
 (.seq (.set 8 (.call 88 (.cons (.loc 2) .nil)))
 (.seq (.ite (.call 58 (.cons (.loc 8) (.cons (.loc 3) .nil))) (.seq (.set 7 (.call 80 (.cons (.loc 3) (.cons (.loc 1) (.cons (.lit (Dat.str (Str.ofString "c"))) .nil)))))
 .skip) (.seq (.set 7 (.call 80 (.cons (.loc 8) (.cons (.loc 1) (.cons (.lit (Dat.str (Str.ofString "c"))) .nil)))))
 .skip))
 .skip))) (.seq (.set 6 (.call 88 (.cons (.loc 3) (.cons (.loc 1) (.cons (.lit (Dat.str (Str.ofString "f"))) .nil)))))
 (.seq (.set 7 (.call 88 (.cons (.loc 2) (.cons (.loc 1) (.cons (.lit (Dat.str (Str.ofString "c"))) .nil)))))
 .skip)))
 .skip))
 (.seq (.ret (.tup (.cons (.loc 6) (.cons (.loc 7) .nil))))
 .skip)))))

def cMpiMul : CS :=
 (.seq (.unp [3, 4] false (.loc 0))
 (.seq (.unp [5, 6] false (.loc 1))
 (.seq (.set 7 (.call 95 (.cons (.loc 3) .nil)))
 (.seq (.set 8 (.call 95 (.cons (.loc 4) .nil)))
 (.seq (.set 9 (.call 95 (.cons (.loc 5) .nil)))
 (.seq (.set 10 (.call 95 (.cons (.loc 6) .nil)))
 (.seq (.ite (.cmp2 .Eq .Eq (.loc 7) (.loc 8) (.lit (Dat.int (0)))) (.seq (.ite (.or (.cmp .Eq (.loc 5) (.lit (Dat.tuple [(Dat.int (1)), (Dat.int (0)), (Dat.int (-789)), (Dat.int (-3))]))) (.cmp .Eq (.loc 6) (.lit (Dat.tuple [(Dat.int (0)), (Dat.int (0)), (Dat.int (-456)), (Dat.int (-2))])))) (.seq (.ret (.tup (.cons (.lit (Dat.tuple [(Dat.int (1)), (Dat.int (0)), (Dat.int (-789)), (Dat.int (-3))])) (.cons (.lit (Dat.tuple [(Dat.int (0)), (Dat.int (0)), (Dat.int (-456)), (Dat.int (-2))])) .nil))))
 .skip) .skip)
 (.seq (.ret (.tup (.cons (.lit (Dat.tuple [(Dat.int (0)), (Dat.int (0)), (Dat.int (0)), (Dat.int (0))])) (.cons (.lit (Dat.tuple [(Dat.int (0)), (Dat.int (0)), (Dat.int (0)), (Dat.int (0))])) .nil))))
 .skip)) .skip)
 (.seq (.ite (.cmp2 .Eq .Eq (.loc 9) (.loc 10) (.lit (Dat.int (0)))) (.seq (.ite (.or (.cmp .Eq (.loc 3) (.lit (Dat.tuple [(Dat.int (1)), (Dat.int (0)), (Dat.int (-789)), (Dat.int (-3))]))) (.cmp .Eq (.loc 4) (.lit (Dat.tuple [(Dat.int (0)), (Dat.int (0)), (Dat.int (-456)), (Dat.int (-2))])))) (.seq (.ret (.tup (.cons (.lit (Dat.tuple [(Dat.int (1)), (Dat.int (0)), (Dat.int (-789)), (Dat.int (-3))])) (.cons (.lit (Dat.tuple [(Dat.int (0)), (Dat.int (0)), (Dat.int (-456)), (Dat.int (-2))])) .nil))))
 .skip) .skip)
 (.seq (.ret (.tup (.cons (.lit (Dat.tuple [(Dat.int (0)), (Dat.int (0)), (Dat.int (0)), (Dat.int (0))])) (.cons (.lit (Dat.tuple [(Dat.int (0)), (Dat.int (0)), (Dat.int (0)), (Dat.int (0))])) .nil))))
 .skip)) .skip)
 (.seq (.ite (.cmp .GtE (.loc 7) (.lit (Dat.int (0)))) (.seq (.ite (.cmp .GtE (.loc 9) (.lit (Dat.int (0)))) (.seq (.set 11 (.call 119 (.cons (.loc 3) (.cons (.loc 5) (.cons (.loc 2) (.cons (.lit (Dat.str (Str.ofString "f"))) .nil))))))
 (.seq (.set 12 (.call 119 (.cons (.loc 4) (.cons (.loc 6) (.cons (.loc 2) (.cons (.lit (Dat.str (Str.ofString "c"))) .nil))))))
 (.seq (.ite (.cmp .Eq (.loc 11) (.lit (Dat.tuple [(Dat.int (0)), (Dat.int (0)), (Dat.int (-123)), (Dat.int (-1))]))) (.seq (.set 11 (.lit (Dat.tuple [(Dat.int (0)), (Dat.int (0)), (Dat.int (0)), (Dat.int (0))])))
 .skip) .skip)
 (.seq (.ite (.cmp .Eq (.loc 12) (.lit (Dat.tuple [(Dat.int (0)), (Dat.int (0)), (Dat.int (-123)), (Dat.int (-1))]))) (.seq (.set 12 (.lit (Dat.tuple [(Dat.int (0)), (Dat.int (0)), (Dat.int (-456)), (Dat.int (-2))])))
 .skip) .skip)
 .skip)))) (.seq (.ite (.cmp .LtE (.loc 10) (.lit (Dat.int (0)))) (.seq (.set 11 (.call 119 (.cons (.loc 4) (.cons (.loc 5) (.cons (.loc 2) (.cons (.lit (Dat.str (Str.ofString "f"))) .nil))))))
 (.seq (.set 12 (.call 119 (.cons (.loc 3) (.cons (.loc 6) (.cons (.loc 2) (.cons (.lit (Dat.str (Str.ofString "c"))) .nil))))))
 (.seq (.ite (.cmp .Eq (.loc 11) (.lit (Dat.tuple [(Dat.int (0)), (Dat.int (0)), (Dat.int (-123)), (Dat.int (-1))]))) (.seq (.set 11 (.lit (Dat.tuple [(Dat.int (1)), (Dat.int (0)), (Dat.int (-789)), (Dat.int (-3))])))
 .skip) .skip)
 (.seq (.ite (.cmp .Eq (.loc 12) (.lit (Dat.tuple [(Dat.int (0)), (Dat.int (0)), (Dat.int (-123)), (Dat.int (-1))]))) (.seq (.set 12 (.lit (Dat.tuple [(Dat.int (0)), (Dat.int (0)), (Dat.int (0)), (Dat.int (0))])))
 .skip) .skip)
 .skip)))) (.seq (.set 11 (.call 119 (.cons (.loc 4) (.cons (.loc 5) (.cons (.loc 2) (.cons (.lit (Dat.str (Str.ofString "f"))) .nil))))))
 (.seq (.set 12 (.call 119 (.cons (.loc 4) (.cons (.loc 6) (.cons (.loc 2) (.cons (.lit (Dat.str (Str.ofString "c"))) .nil))))))
 (.seq (.ite (.cmp .Eq (.loc 11) (.lit (Dat.tuple [(Dat.int (0)), (Dat.int (0)), (Dat.int (-123)), (Dat.int (-1))]))) (.seq (.set 11 (.lit (Dat.tuple [(Dat.int (1)), (Dat.int (0)), (Dat.int (-789)), (Dat.int (-3))])))
 .skip) .skip)
 (.seq (.ite (.cmp .Eq (.loc 12) (.lit (Dat.tuple [(Dat.int (0)), (Dat.int (0)), (Dat.int (-123)), (Dat.int (-1))]))) (.seq (.set 12 (.lit (Dat.tuple [(Dat.int (0)), (Dat.int (0)), (Dat.int (-456)), (Dat.int (-2))])))
 .skip) .skip)
 .skip)))))
 .skip))
 .skip) (.seq (.ite (.cmp .LtE (.loc 8) (.lit (Dat.int (0)))) (.seq (.ite (.cmp .GtE (.loc 9) (.lit (Dat.int (0)))) (.seq (.set 11 (.call 119 (.cons (.loc 3) (.cons (.loc 6) (.cons (.loc 2) (.cons (.lit (Dat.str (Str.ofString "f"))) .nil))))))
 (.seq (.set 12 (.call 119 (.cons (.loc 4) (.cons (.loc 5) (.cons (.loc 2) (.cons (.lit (Dat.str (Str.ofString "c"))) .nil))))))
 (.seq (.ite (.cmp .Eq (.loc 11) (.lit (Dat.tuple [(Dat.int (0)), (Dat.int (0)), (Dat.int (-123)), (Dat.int (-1))]))) (.seq (.set 11 (.lit (Dat.tuple [(Dat.int (1)), (Dat.int (0)), (Dat.int (-789)), (Dat.int (-3))])))
 .skip) .skip)
 (.seq (.ite (.cmp .Eq (.loc 12) (.lit (Dat.tuple [(Dat.int (0)), (Dat.int (0)), (Dat.int (-123)), (Dat.int (-1))]))) (.seq (.set 12 (.lit (Dat.tuple [(Dat.int (0)), (Dat.int (0)), (Dat.int (0)), (Dat.int (0))])))
 .skip) .skip)
 .skip)))) (.seq (.ite (.cmp .LtE (.loc 10) (.lit (Dat.int (0)))) (.seq (.set 11 (.call 119 (.cons (.loc 4) (.cons (.loc 6) (.cons (.loc 2) (.cons (.lit (Dat.str (Str.ofString "f"))) .nil))))))
 (.seq (.set 12 (.call 119 (.cons (.loc 3) (.cons (.loc 5) (.cons (.loc 2) (.cons (.lit (Dat.str (Str.ofString "c"))) .nil))))))
 (.seq (.ite (.cmp .Eq (.loc 11) (.lit (Dat.tuple [(Dat.int (0)), (Dat.int (0)), (Dat.int (-123)), (Dat.int (-1))]))) (.seq (.set 11 (.lit (Dat.tuple [(Dat.int (0)), (Dat.int (0)), (Dat.int (0)), (Dat.int (0))])))
 .skip) .skip)
 (.seq (.ite (.cmp .Eq (.loc 12) (.lit (Dat.tuple [(Dat.int (0)), (Dat.int (0)), (Dat.int (-123)), (Dat.int (-1))]))) (.seq (.set 12 (.lit (Dat.tuple [(Dat.int (0)), (Dat.int (0)), (Dat.int (-456)), (Dat.int (-2))])))
 .skip) .skip)
 .skip)))) (.seq (.set 11 (.call 119 (.cons (.loc 3) (.cons (.loc 6) (.cons (.loc 2) (.cons (.lit (Dat.str (Str.ofString "f"))) .nil))))))
 (.seq (.set 12 (.call 119 (.cons (.loc 3) (.cons (.loc 5) (.cons (.loc 2) (.cons (.lit (Dat.str (Str.ofString "c"))) .nil))))))
 (.seq (.ite (.cmp .Eq (.loc 11) (.lit (Dat.tuple [(Dat.int (0)), (Dat.int (0)), (Dat.int (-123)), (Dat.int (-1))]))) (.seq (.set 11 (.lit (Dat.tuple [(Dat.int (1)), (Dat.int (0)), (Dat.int (-789)), (Dat.int (-3))])))
 .skip) .skip)
 (.seq (.ite (.cmp .Eq (.loc 12) (.lit (Dat.tuple [(Dat.int (0)), (Dat.int (0)), (Dat.int (-123)), (Dat.int (-1))]))) (.seq (.set 12 (.lit (Dat.tuple [(Dat.int (0)), (Dat.int (0)), (Dat.int (-456)), (Dat.int (-2))])))
 .skip) .skip)
 .skip)))))
 .skip))
 .skip) (.seq (.set 13 (.lst (.cons (.call 119 (.cons (.loc 3) (.cons (.loc 5) .nil))) (.cons (.call 119 (.cons (.loc 3) (.cons (.loc 6) .nil))) (.cons (.call 119 (.cons (.loc 4) (.cons (.loc 5) .nil))) (.cons (.call 119 (.cons (.loc 4) (.cons (.loc 6) .nil))) .nil))))))
 (.seq (.ite (.cmp .In (.lit (Dat.tuple [(Dat.int (0)), (Dat.int (0)), (Dat.int (-123)), (Dat.int (-1))])) (.loc 13)) (.seq (.unp [11, 12] true (.tup (.cons (.lit (Dat.tuple [(Dat.int (1)), (Dat.int (0)), (Dat.int (-789)), (Dat.int (-3))])) (.cons (.lit (Dat.tuple [(Dat.int (0)), (Dat.int (0)), (Dat.int (-456)), (Dat.int (-2))])) .nil))))
 .skip) (.seq (.unp [11, 12] false (.call 72 (.cons (.loc 13) .nil)))
 (.seq (.set 11 (.call 80 (.cons (.loc 11) (.cons (.loc 2) (.cons (.lit (Dat.str (Str.ofString "f"))) .nil)))))
 (.seq (.set 12 (.call 80 (.cons (.loc 12) (.cons (.loc 2) (.cons (.lit (Dat.str (Str.ofString "c"))) .nil)))))
 .skip))))
 .skip)))
 .skip))
 (.seq (.ret (.tup (.cons (.loc 11) (.cons (.loc 12) .nil))))
 .skip))))))))))

def cLawMixed : CS :=
 (.seq (.set 2 (.ite (.cmp .Lt (.loc 1) (.clen (.loc 0))) (.sub (.loc 0) (.loc 1)) (.lit (Dat.int (0)))))
 (.seq (.ite (.cmp .GtE (.loc 2) (.bin .Pow (.lit (Dat.int (2))) (.lit (Dat.int (64))))) (.seq (.ret (.loc 2))
 .skip) .skip)
 (.seq (.ret (.bin .Mod (.bin .FloorDiv (.bin .Pow (.bin .Add (.bin .Mult (.loc 2) (.lit (Dat.int (6364136223846793005)))) (.bin .Mult (.bin .Add (.loc 1) (.lit (Dat.int (1)))) (.lit (Dat.int (1442695040888963407))))) (.lit (Dat.int (3)))) (.bin .Pow (.lit (Dat.int (2))) (.lit (Dat.int (40))))) (.bin .Pow (.lit (Dat.int (2))) (.lit (Dat.int (190))))))
 .skip)))

def cLawMade : CS :=
 (.seq (.unp [2, 3] false (.ite (.cmp .Lt (.loc 0) (.lit (Dat.int (0)))) (.tup (.cons (.lit (Dat.int (1))) (.cons (.neg (.loc 0)) .nil))) (.tup (.cons (.lit (Dat.int (0))) (.cons (.loc 0) .nil)))))
 (.seq (.ite (.cmp .Eq (.loc 3) (.lit (Dat.int (0)))) (.seq (.ret (.tup (.cons (.lit (Dat.int (0))) (.cons (.lit (Dat.int (0))) (.cons (.lit (Dat.int (0))) (.cons (.lit (Dat.int (0))) .nil))))))
 .skip) .skip)
 (.seq (.set 4 (.bin .Sub (.blen (.bin .BitAnd (.loc 3) (.neg (.loc 3)))) (.lit (Dat.int (1)))))
 (.seq (.set 3 (.bin .FloorDiv (.loc 3) (.bin .Pow (.lit (Dat.int (2))) (.loc 4))))
 (.seq (.ret (.tup (.cons (.loc 2) (.cons (.loc 3) (.cons (.bin .Add (.loc 1) (.loc 4)) (.cons (.blen (.loc 3)) .nil))))))
 .skip)))))

def cLawValue : CS :=
 (.seq (.ret (.tup (.cons (.ite (.cmp .Eq (.sub (.loc 0) (.lit (Dat.int (0)))) (.lit (Dat.int (1)))) (.neg (.sub (.loc 0) (.lit (Dat.int (1))))) (.sub (.loc 0) (.lit (Dat.int (1))))) (.cons (.sub (.loc 0) (.lit (Dat.int (2)))) .nil))))
 .skip)

def cLawSum : CS :=
 (.seq (.set 2 (.cmin (.sub (.loc 0) (.lit (Dat.int (1)))) (.sub (.loc 1) (.lit (Dat.int (1))))))
 (.seq (.ret (.tup (.cons (.bin .Add (.bin .Mult (.sub (.loc 0) (.lit (Dat.int (0)))) (.bin .Pow (.lit (Dat.int (2))) (.bin .Sub (.sub (.loc 0) (.lit (Dat.int (1)))) (.loc 2)))) (.bin .Mult (.sub (.loc 1) (.lit (Dat.int (0)))) (.bin .Pow (.lit (Dat.int (2))) (.bin .Sub (.sub (.loc 1) (.lit (Dat.int (1)))) (.loc 2))))) (.cons (.loc 2) .nil))))
 .skip))

def cLawTimes : CS :=
 (.seq (.ret (.tup (.cons (.bin .Mult (.sub (.loc 0) (.lit (Dat.int (0)))) (.sub (.loc 1) (.lit (Dat.int (0))))) (.cons (.bin .Add (.sub (.loc 0) (.lit (Dat.int (1)))) (.sub (.loc 1) (.lit (Dat.int (1))))) .nil))))
 .skip)

def cLawLess : CS :=
 (.seq (.set 2 (.cmin (.sub (.loc 0) (.lit (Dat.int (1)))) (.sub (.loc 1) (.lit (Dat.int (1))))))
 (.seq (.ret (.cmp .Lt (.bin .Mult (.sub (.loc 0) (.lit (Dat.int (0)))) (.bin .Pow (.lit (Dat.int (2))) (.bin .Sub (.sub (.loc 0) (.lit (Dat.int (1)))) (.loc 2)))) (.bin .Mult (.sub (.loc 1) (.lit (Dat.int (0)))) (.bin .Pow (.lit (Dat.int (2))) (.bin .Sub (.sub (.loc 1) (.lit (Dat.int (1)))) (.loc 2))))))
 .skip))

def cLawSame : CS :=
 (.seq (.ret (.cmp .Eq (.sub (.call 194 (.cons (.loc 0) (.cons (.tup (.cons (.neg (.sub (.loc 1) (.lit (Dat.int (0))))) (.cons (.sub (.loc 1) (.lit (Dat.int (1)))) .nil))) .nil))) (.lit (Dat.int (0)))) (.lit (Dat.int (0)))))
 .skip)

def cLawGrid : CS :=
 (.seq (.unp [1, 2, 3] true (.tup (.cons (.bin .Mod (.loc 0) (.lit (Dat.int (6)))) (.cons (.bin .Sub (.bin .Mod (.bin .FloorDiv (.loc 0) (.lit (Dat.int (6)))) (.lit (Dat.int (25)))) (.lit (Dat.int (12)))) (.cons (.bin .Add (.lit (Dat.int (1))) (.bin .Mod (.bin .FloorDiv (.loc 0) (.lit (Dat.int (150)))) (.lit (Dat.int (24))))) .nil)))))
 (.seq (.unp [4, 5] true (.tup (.cons (.bin .Sub (.bin .Mod (.bin .FloorDiv (.loc 0) (.bin .Pow (.lit (Dat.int (2))) (.lit (Dat.int (13))))) (.bin .Pow (.lit (Dat.int (2))) (.loc 3))) (.bin .Pow (.lit (Dat.int (2))) (.bin .Sub (.loc 3) (.lit (Dat.int (1)))))) (.cons (.bin .Mod (.bin .FloorDiv (.loc 0) (.bin .Pow (.lit (Dat.int (2))) (.lit (Dat.int (40))))) (.bin .Pow (.lit (Dat.int (2))) (.bin .Add (.lit (Dat.int (1))) (.bin .Mod (.bin .FloorDiv (.loc 0) (.bin .Pow (.lit (Dat.int (2))) (.lit (Dat.int (66))))) (.lit (Dat.int (24))))))) .nil))))
 (.seq (.ite (.cmp .Eq (.loc 1) (.lit (Dat.int (0)))) (.seq (.set 5 (.lit (Dat.int (0))))
 .skip) (.seq (.ite (.cmp .Eq (.loc 1) (.lit (Dat.int (1)))) (.seq (.set 4 (.lit (Dat.int (0))))
 .skip) (.seq (.ite (.cmp .Eq (.loc 1) (.lit (Dat.int (2)))) (.seq (.set 4 (.neg (.loc 5)))
 .skip) .skip)
 .skip))
 .skip))
 (.seq (.ret (.tup (.cons (.loc 4) (.cons (.bin .Add (.loc 4) (.loc 5)) (.cons (.loc 2) .nil)))))
 .skip))))

def cLawUp : CS :=
 (.seq (.unp [1, 2, 3] false (.call 222 (.cons (.loc 0) .nil)))
 (.seq (.ret (.tup (.cons (.cabs (.loc 1)) (.cons (.bin .Sub (.bin .Add (.cabs (.loc 1)) (.loc 2)) (.loc 1)) (.cons (.loc 3) .nil)))))
 .skip))

def cLawSpan : CS :=
 (.seq (.ret (.tup (.cons (.call 180 (.cons (.sub (.loc 0) (.lit (Dat.int (0)))) (.cons (.sub (.loc 0) (.lit (Dat.int (2)))) .nil))) (.cons (.call 180 (.cons (.sub (.loc 0) (.lit (Dat.int (1)))) (.cons (.sub (.loc 0) (.lit (Dat.int (2)))) .nil))) .nil))))
 .skip)

def cLawWithin : CS :=
 (.seq (.unpC [2, 3, 4, 5] (.bin .Add (.loc 0) (.loc 1)) (.call 187 (.cons (.loc 0) .nil)))
 (.seq (.ret (.and (.nt (.call 208 (.cons (.loc 2) (.cons (.loc 4) .nil)))) (.and (.nt (.call 208 (.cons (.loc 5) (.cons (.loc 3) .nil)))) (.nt (.call 208 (.cons (.loc 3) (.cons (.loc 2) .nil)))))))
 .skip))

def cLawWide : CS :=
 (.seq (.ret (.call 187 (.cons (.call 142 (.cons (.loc 0) (.cons (.lit (Dat.int (400))) .nil))) .nil)))
 .skip)

def cLawSide : CS :=
 (.seq (.unp [1, 2] true (.tup (.cons (.sub (.call 187 (.cons (.sub (.loc 0) (.lit (Dat.int (0)))) .nil)) (.lit (Dat.int (0)))) (.cons (.sub (.call 187 (.cons (.sub (.loc 0) (.lit (Dat.int (1)))) .nil)) (.lit (Dat.int (0)))) .nil))))
 (.seq (.ite (.and (.cmp .Eq (.loc 1) (.lit (Dat.int (0)))) (.cmp .Eq (.loc 2) (.lit (Dat.int (0))))) (.seq (.ret (.lit (Dat.int (2))))
 .skip) .skip)
 (.seq (.ret (.ite (.cmp .GtE (.loc 1) (.lit (Dat.int (0)))) (.lit (Dat.int (1))) (.ite (.cmp .LtE (.loc 2) (.lit (Dat.int (0)))) (.neg (.lit (Dat.int (1)))) (.lit (Dat.int (0))))))
 .skip)))

def cLawWidthsRight : CS :=
 (.seq (.unp [2, 3] true (.tup (.cons (.call 248 (.cons (.loc 0) .nil)) (.cons (.call 248 (.cons (.loc 1) .nil)) .nil))))
 (.seq (.unp [4, 5] true (.tup (.cons (.call 194 (.cons (.loc 2) (.cons (.loc 3) .nil))) (.cons (.call 166 (.cons (.loc 0) (.cons (.loc 1) .nil))) .nil))))
 (.seq (.ite (.or (.nt (.call 215 (.cons (.call 248 (.cons (.call 127 (.cons (.loc 0) (.cons (.loc 1) .nil))) .nil)) (.cons (.loc 4) .nil)))) (.nt (.call 215 (.cons (.call 248 (.cons (.call 135 (.cons (.loc 0) (.cons (.loc 1) .nil))) .nil)) (.cons (.loc 4) .nil))))) (.seq (.ret (.lit (Dat.bool false)))
 .skip) .skip)
 (.seq (.set 6 (.lst (.cons (.call 201 (.cons (.call 187 (.cons (.sub (.call 158 (.cons (.loc 0) .nil)) (.lit (Dat.int (1)))) .nil)) (.cons (.loc 3) .nil))) (.cons (.call 201 (.cons (.call 187 (.cons (.sub (.call 158 (.cons (.loc 1) .nil)) (.lit (Dat.int (1)))) .nil)) (.cons (.loc 2) .nil))) .nil))))
 (.seq (.set 7 (.call 194 (.cons (.sub (.loc 6) (.lit (Dat.int (0)))) (.cons (.sub (.loc 6) (.lit (Dat.int (1)))) .nil))))
 (.seq (.ret (.and (.nt (.call 208 (.cons (.call 248 (.cons (.loc 5) .nil)) (.cons (.sub (.loc 6) (.lit (Dat.int (0)))) .nil)))) (.and (.nt (.call 208 (.cons (.call 248 (.cons (.loc 5) .nil)) (.cons (.sub (.loc 6) (.lit (Dat.int (1)))) .nil)))) (.nt (.call 208 (.cons (.loc 7) (.cons (.call 248 (.cons (.loc 5) .nil)) .nil)))))))
 .skip))))))

def fd21 : Fd := ⟨1, [], 0, cTrailing⟩
def fd37 : Fd := ⟨6, [], 2, cNormalize0⟩
def fd44 : Fd := ⟨6, [], 0, cNormalize⟩
def fd51 : Fd := ⟨2, [], 11, cMpfCmp⟩
def fd58 : Fd := ⟨2, [], 0, cMpfLt⟩
def fd65 : Fd := ⟨2, [], 0, cMpfGt⟩
def fd72 : Fd := ⟨1, [], 3, cMpfMinMax⟩
def fd80 : Fd := ⟨3, [.int 0, .str (Str.ofString "d")], 4, cMpfPos⟩
def fd88 : Fd := ⟨3, [.int 0, .str (Str.ofString "d")], 4, cMpfNeg⟩
def fd95 : Fd := ⟨1, [], 4, cMpfSign⟩
def fd103 : Fd := ⟨5, [.int 0, .str (Str.ofString "d"), .int 0], 12, cMpfAdd⟩
def fd111 : Fd := ⟨4, [.int 0, .str (Str.ofString "d")], 0, cMpfSub⟩
def fd119 : Fd := ⟨4, [.int 0, .str (Str.ofString "d")], 13, cMpfMul⟩
def fd127 : Fd := ⟨3, [.int 0], 6, cMpiAdd⟩
def fd135 : Fd := ⟨3, [.int 0], 6, cMpiSub⟩
def fd142 : Fd := ⟨2, [], 2, cMpiDelta⟩
def fd150 : Fd := ⟨2, [.int 0], 4, cMpiNeg⟩
def fd158 : Fd := ⟨2, [.int 0], 7, cMpiAbs⟩
def fd166 : Fd := ⟨3, [.int 0], 11, cMpiMul⟩
def fd173 : Fd := ⟨2, [], 1, cLawMixed⟩
def fd180 : Fd := ⟨2, [], 3, cLawMade⟩
def fd187 : Fd := ⟨1, [], 0, cLawValue⟩
def fd194 : Fd := ⟨2, [], 1, cLawSum⟩
def fd201 : Fd := ⟨2, [], 0, cLawTimes⟩
def fd208 : Fd := ⟨2, [], 1, cLawLess⟩
def fd215 : Fd := ⟨2, [], 0, cLawSame⟩
def fd222 : Fd := ⟨1, [], 5, cLawGrid⟩
def fd229 : Fd := ⟨1, [], 3, cLawUp⟩
def fd236 : Fd := ⟨1, [], 0, cLawSpan⟩
def fd241 : Fd := ⟨2, [], 4, cLawWithin⟩
def fd248 : Fd := ⟨1, [], 0, cLawWide⟩
def fd255 : Fd := ⟨1, [], 2, cLawSide⟩
def fd262 : Fd := ⟨2, [], 6, cLawWidthsRight⟩
def Tb : Nat → Option Fd
  | 21 => some fd21
  | 37 => some fd37
  | 44 => some fd44
  | 51 => some fd51
  | 58 => some fd58
  | 65 => some fd65
  | 72 => some fd72
  | 80 => some fd80
  | 88 => some fd88
  | 95 => some fd95
  | 103 => some fd103
  | 111 => some fd111
  | 119 => some fd119
  | 127 => some fd127
  | 135 => some fd135
  | 142 => some fd142
  | 150 => some fd150
  | 158 => some fd158
  | 166 => some fd166
  | 173 => some fd173
  | 180 => some fd180
  | 187 => some fd187
  | 194 => some fd194
  | 201 => some fd201
  | 208 => some fd208
  | 215 => some fd215
  | 222 => some fd222
  | 229 => some fd229
  | 236 => some fd236
  | 241 => some fd241
  | 248 => some fd248
  | 255 => some fd255
  | 262 => some fd262
  | _ => none

set_option maxHeartbeats 4000000 in
theorem ok21 (P : Params) : DefOk (hd.heap_39 P) GT 21 fd21 := by
  refine' DefOk.of [Str.ofString "n"] ?l ?c ?k1 ?k2 ?k3 ?k4 ?cb ?n1 ?n2 ?n3 ?b
  case l => k_is
  case c => k_is
  case k1 => exact rfl
  case k2 => exact rfl
  case k3 => exact rfl
  case k4 => decide
  case cb => kernel_rfl
  case n1 => decide
  case n2 => decide
  case n3 => decide
  case b =>
    intro s vs X h1 h2
    cases vs with
    | nil => exact absurd h2 (by simp [fd21])
    | cons v0 vs =>
      cases vs with
      | nil => exact ⟨[], fun B hB => .nil, BindsTo.of_eq rfl⟩
      | cons v1 vs => exact absurd h1 (by simp [fd21])
set_option maxHeartbeats 4000000 in
theorem ok37 (P : Params) : DefOk (hd.heap_39 P) GT 37 fd37 := by
  refine' DefOk.of [Str.ofString "sign", Str.ofString "man", Str.ofString "exp", Str.ofString "bc", Str.ofString "prec", Str.ofString "rnd", Str.ofString "n", Str.ofString "t"] ?l ?c ?k1 ?k2 ?k3 ?k4 ?cb ?n1 ?n2 ?n3 ?b
  case l => k_is
  case c => k_is
  case k1 => exact rfl
  case k2 => exact rfl
  case k3 => exact rfl
  case k4 => decide
  case cb => kernel_rfl
  case n1 => decide
  case n2 => decide
  case n3 => decide
  case b =>
    intro s vs X h1 h2
    cases vs with
    | nil => exact absurd h2 (by simp [fd37])
    | cons v0 vs =>
      cases vs with
      | nil => exact absurd h2 (by simp [fd37])
      | cons v1 vs =>
        cases vs with
        | nil => exact absurd h2 (by simp [fd37])
        | cons v2 vs =>
          cases vs with
          | nil => exact absurd h2 (by simp [fd37])
          | cons v3 vs =>
            cases vs with
            | nil => exact absurd h2 (by simp [fd37])
            | cons v4 vs =>
              cases vs with
              | nil => exact absurd h2 (by simp [fd37])
              | cons v5 vs =>
                cases vs with
                | nil => exact ⟨[], fun B hB => .nil, BindsTo.of_eq rfl⟩
                | cons v6 vs => exact absurd h1 (by simp [fd37])
set_option maxHeartbeats 4000000 in
theorem ok44 (P : Params) : DefOk (hd.heap_39 P) GT 44 fd44 := by
  refine' DefOk.of [Str.ofString "sign", Str.ofString "man", Str.ofString "exp", Str.ofString "bc", Str.ofString "prec", Str.ofString "rnd"] ?l ?c ?k1 ?k2 ?k3 ?k4 ?cb ?n1 ?n2 ?n3 ?b
  case l => k_is
  case c => k_is
  case k1 => exact rfl
  case k2 => exact rfl
  case k3 => exact rfl
  case k4 => decide
  case cb => kernel_rfl
  case n1 => decide
  case n2 => decide
  case n3 => decide
  case b =>
    intro s vs X h1 h2
    cases vs with
    | nil => exact absurd h2 (by simp [fd44])
    | cons v0 vs =>
      cases vs with
      | nil => exact absurd h2 (by simp [fd44])
      | cons v1 vs =>
        cases vs with
        | nil => exact absurd h2 (by simp [fd44])
        | cons v2 vs =>
          cases vs with
          | nil => exact absurd h2 (by simp [fd44])
          | cons v3 vs =>
            cases vs with
            | nil => exact absurd h2 (by simp [fd44])
            | cons v4 vs =>
              cases vs with
              | nil => exact absurd h2 (by simp [fd44])
              | cons v5 vs =>
                cases vs with
                | nil => exact ⟨[], fun B hB => .nil, BindsTo.of_eq rfl⟩
                | cons v6 vs => exact absurd h1 (by simp [fd44])
set_option maxHeartbeats 4000000 in
theorem ok51 (P : Params) : DefOk (hd.heap_39 P) GT 51 fd51 := by
  refine' DefOk.of [Str.ofString "s", Str.ofString "t", Str.ofString "ssign", Str.ofString "sman", Str.ofString "sexp", Str.ofString "sbc", Str.ofString "tsign", Str.ofString "tman", Str.ofString "texp", Str.ofString "tbc", Str.ofString "a", Str.ofString "b", Str.ofString "delta"] ?l ?c ?k1 ?k2 ?k3 ?k4 ?cb ?n1 ?n2 ?n3 ?b
  case l => k_is
  case c => k_is
  case k1 => exact rfl
  case k2 => exact rfl
  case k3 => exact rfl
  case k4 => decide
  case cb => kernel_rfl
  case n1 => decide
  case n2 => decide
  case n3 => decide
  case b =>
    intro s vs X h1 h2
    cases vs with
    | nil => exact absurd h2 (by simp [fd51])
    | cons v0 vs =>
      cases vs with
      | nil => exact absurd h2 (by simp [fd51])
      | cons v1 vs =>
        cases vs with
        | nil => exact ⟨[], fun B hB => .nil, BindsTo.of_eq rfl⟩
        | cons v2 vs => exact absurd h1 (by simp [fd51])
set_option maxHeartbeats 4000000 in
theorem ok58 (P : Params) : DefOk (hd.heap_39 P) GT 58 fd58 := by
  refine' DefOk.of [Str.ofString "s", Str.ofString "t"] ?l ?c ?k1 ?k2 ?k3 ?k4 ?cb ?n1 ?n2 ?n3 ?b
  case l => k_is
  case c => k_is
  case k1 => exact rfl
  case k2 => exact rfl
  case k3 => exact rfl
  case k4 => decide
  case cb => kernel_rfl
  case n1 => decide
  case n2 => decide
  case n3 => decide
  case b =>
    intro s vs X h1 h2
    cases vs with
    | nil => exact absurd h2 (by simp [fd58])
    | cons v0 vs =>
      cases vs with
      | nil => exact absurd h2 (by simp [fd58])
      | cons v1 vs =>
        cases vs with
        | nil => exact ⟨[], fun B hB => .nil, BindsTo.of_eq rfl⟩
        | cons v2 vs => exact absurd h1 (by simp [fd58])
set_option maxHeartbeats 4000000 in
theorem ok65 (P : Params) : DefOk (hd.heap_39 P) GT 65 fd65 := by
  refine' DefOk.of [Str.ofString "s", Str.ofString "t"] ?l ?c ?k1 ?k2 ?k3 ?k4 ?cb ?n1 ?n2 ?n3 ?b
  case l => k_is
  case c => k_is
  case k1 => exact rfl
  case k2 => exact rfl
  case k3 => exact rfl
  case k4 => decide
  case cb => kernel_rfl
  case n1 => decide
  case n2 => decide
  case n3 => decide
  case b =>
    intro s vs X h1 h2
    cases vs with
    | nil => exact absurd h2 (by simp [fd65])
    | cons v0 vs =>
      cases vs with
      | nil => exact absurd h2 (by simp [fd65])
      | cons v1 vs =>
        cases vs with
        | nil => exact ⟨[], fun B hB => .nil, BindsTo.of_eq rfl⟩
        | cons v2 vs => exact absurd h1 (by simp [fd65])
set_option maxHeartbeats 4000000 in
theorem ok72 (P : Params) : DefOk (hd.heap_39 P) GT 72 fd72 := by
  refine' DefOk.of [Str.ofString "seq", Str.ofString "min", Str.ofString "max", Str.ofString "x"] ?l ?c ?k1 ?k2 ?k3 ?k4 ?cb ?n1 ?n2 ?n3 ?b
  case l => k_is
  case c => k_is
  case k1 => exact rfl
  case k2 => exact rfl
  case k3 => exact rfl
  case k4 => decide
  case cb => kernel_rfl
  case n1 => decide
  case n2 => decide
  case n3 => decide
  case b =>
    intro s vs X h1 h2
    cases vs with
    | nil => exact absurd h2 (by simp [fd72])
    | cons v0 vs =>
      cases vs with
      | nil => exact ⟨[], fun B hB => .nil, BindsTo.of_eq rfl⟩
      | cons v1 vs => exact absurd h1 (by simp [fd72])
set_option maxHeartbeats 4000000 in
theorem ok80 (P : Params) : DefOk (hd.heap_39 P) GT 80 fd80 := by
  refine' DefOk.of [Str.ofString "s", Str.ofString "prec", Str.ofString "rnd", Str.ofString "sign", Str.ofString "man", Str.ofString "exp", Str.ofString "bc"] ?l ?c ?k1 ?k2 ?k3 ?k4 ?cb ?n1 ?n2 ?n3 ?b
  case l => k_is
  case c => k_is
  case k1 => exact rfl
  case k2 => exact rfl
  case k3 => exact rfl
  case k4 => decide
  case cb => kernel_rfl
  case n1 => decide
  case n2 => decide
  case n3 => decide
  case b =>
    intro s vs X h1 h2
    cases vs with
    | nil => exact absurd h2 (by simp [fd80])
    | cons v0 vs =>
      cases vs with
      | nil => exact ⟨[(Value.int 0 _), (Value.str (Str.ofString "d") _)], fun B hB => (.cons (.int _ _) (.cons (.str _ _) .nil)), binds_K X rfl (by k_is) rfl rfl rfl⟩
      | cons v1 vs =>
        cases vs with
        | nil => exact ⟨[(Value.str (Str.ofString "d") _)], fun B hB => (.cons (.str _ _) .nil), binds_K X rfl (by k_is) rfl rfl rfl⟩
        | cons v2 vs =>
          cases vs with
          | nil => exact ⟨[], fun B hB => .nil, binds_K X rfl (by k_is) rfl rfl rfl⟩
          | cons v3 vs => exact absurd h1 (by simp [fd80])
set_option maxHeartbeats 4000000 in
theorem ok88 (P : Params) : DefOk (hd.heap_39 P) GT 88 fd88 := by
  refine' DefOk.of [Str.ofString "s", Str.ofString "prec", Str.ofString "rnd", Str.ofString "sign", Str.ofString "man", Str.ofString "exp", Str.ofString "bc"] ?l ?c ?k1 ?k2 ?k3 ?k4 ?cb ?n1 ?n2 ?n3 ?b
  case l => k_is
  case c => k_is
  case k1 => exact rfl
  case k2 => exact rfl
  case k3 => exact rfl
  case k4 => decide
  case cb => kernel_rfl
  case n1 => decide
  case n2 => decide
  case n3 => decide
  case b =>
    intro s vs X h1 h2
    cases vs with
    | nil => exact absurd h2 (by simp [fd88])
    | cons v0 vs =>
      cases vs with
      | nil => exact ⟨[(Value.int 0 _), (Value.str (Str.ofString "d") _)], fun B hB => (.cons (.int _ _) (.cons (.str _ _) .nil)), binds_K X rfl (by k_is) rfl rfl rfl⟩
      | cons v1 vs =>
        cases vs with
        | nil => exact ⟨[(Value.str (Str.ofString "d") _)], fun B hB => (.cons (.str _ _) .nil), binds_K X rfl (by k_is) rfl rfl rfl⟩
        | cons v2 vs =>
          cases vs with
          | nil => exact ⟨[], fun B hB => .nil, binds_K X rfl (by k_is) rfl rfl rfl⟩
          | cons v3 vs => exact absurd h1 (by simp [fd88])
set_option maxHeartbeats 4000000 in
theorem ok95 (P : Params) : DefOk (hd.heap_39 P) GT 95 fd95 := by
  refine' DefOk.of [Str.ofString "s", Str.ofString "sign", Str.ofString "man", Str.ofString "exp", Str.ofString "bc"] ?l ?c ?k1 ?k2 ?k3 ?k4 ?cb ?n1 ?n2 ?n3 ?b
  case l => k_is
  case c => k_is
  case k1 => exact rfl
  case k2 => exact rfl
  case k3 => exact rfl
  case k4 => decide
  case cb => kernel_rfl
  case n1 => decide
  case n2 => decide
  case n3 => decide
  case b =>
    intro s vs X h1 h2
    cases vs with
    | nil => exact absurd h2 (by simp [fd95])
    | cons v0 vs =>
      cases vs with
      | nil => exact ⟨[], fun B hB => .nil, BindsTo.of_eq rfl⟩
      | cons v1 vs => exact absurd h1 (by simp [fd95])
set_option maxHeartbeats 4000000 in
theorem ok103 (P : Params) : DefOk (hd.heap_39 P) GT 103 fd103 := by
  refine' DefOk.of [Str.ofString "s", Str.ofString "t", Str.ofString "prec", Str.ofString "rnd", Str.ofString "_sub", Str.ofString "ssign", Str.ofString "sman", Str.ofString "sexp", Str.ofString "sbc", Str.ofString "tsign", Str.ofString "tman", Str.ofString "texp", Str.ofString "tbc", Str.ofString "offset", Str.ofString "delta", Str.ofString "man", Str.ofString "bc"] ?l ?c ?k1 ?k2 ?k3 ?k4 ?cb ?n1 ?n2 ?n3 ?b
  case l => k_is
  case c => k_is
  case k1 => exact rfl
  case k2 => exact rfl
  case k3 => exact rfl
  case k4 => decide
  case cb => kernel_rfl
  case n1 => decide
  case n2 => decide
  case n3 => decide
  case b =>
    intro s vs X h1 h2
    cases vs with
    | nil => exact absurd h2 (by simp [fd103])
    | cons v0 vs =>
      cases vs with
      | nil => exact absurd h2 (by simp [fd103])
      | cons v1 vs =>
        cases vs with
        | nil => exact ⟨[(Value.int 0 _), (Value.str (Str.ofString "d") _), (Value.int 0 _)], fun B hB => (.cons (.int _ _) (.cons (.str _ _) (.cons (.int _ _) .nil))), binds_K X rfl (by k_is) rfl rfl rfl⟩
        | cons v2 vs =>
          cases vs with
          | nil => exact ⟨[(Value.str (Str.ofString "d") _), (Value.int 0 _)], fun B hB => (.cons (.str _ _) (.cons (.int _ _) .nil)), binds_K X rfl (by k_is) rfl rfl rfl⟩
          | cons v3 vs =>
            cases vs with
            | nil => exact ⟨[(Value.int 0 _)], fun B hB => (.cons (.int _ _) .nil), binds_K X rfl (by k_is) rfl rfl rfl⟩
            | cons v4 vs =>
              cases vs with
              | nil => exact ⟨[], fun B hB => .nil, binds_K X rfl (by k_is) rfl rfl rfl⟩
              | cons v5 vs => exact absurd h1 (by simp [fd103])
set_option maxHeartbeats 4000000 in
theorem ok111 (P : Params) : DefOk (hd.heap_39 P) GT 111 fd111 := by
  refine' DefOk.of [Str.ofString "s", Str.ofString "t", Str.ofString "prec", Str.ofString "rnd"] ?l ?c ?k1 ?k2 ?k3 ?k4 ?cb ?n1 ?n2 ?n3 ?b
  case l => k_is
  case c => k_is
  case k1 => exact rfl
  case k2 => exact rfl
  case k3 => exact rfl
  case k4 => decide
  case cb => kernel_rfl
  case n1 => decide
  case n2 => decide
  case n3 => decide
  case b =>
    intro s vs X h1 h2
    cases vs with
    | nil => exact absurd h2 (by simp [fd111])
    | cons v0 vs =>
      cases vs with
      | nil => exact absurd h2 (by simp [fd111])
      | cons v1 vs =>
        cases vs with
        | nil => exact ⟨[(Value.int 0 _), (Value.str (Str.ofString "d") _)], fun B hB => (.cons (.int _ _) (.cons (.str _ _) .nil)), binds_K X rfl (by k_is) rfl rfl rfl⟩
        | cons v2 vs =>
          cases vs with
          | nil => exact ⟨[(Value.str (Str.ofString "d") _)], fun B hB => (.cons (.str _ _) .nil), binds_K X rfl (by k_is) rfl rfl rfl⟩
          | cons v3 vs =>
            cases vs with
            | nil => exact ⟨[], fun B hB => .nil, binds_K X rfl (by k_is) rfl rfl rfl⟩
            | cons v4 vs => exact absurd h1 (by simp [fd111])
set_option maxHeartbeats 4000000 in
theorem ok119 (P : Params) : DefOk (hd.heap_39 P) GT 119 fd119 := by
  refine' DefOk.of [Str.ofString "s", Str.ofString "t", Str.ofString "prec", Str.ofString "rnd", Str.ofString "ssign", Str.ofString "sman", Str.ofString "sexp", Str.ofString "sbc", Str.ofString "tsign", Str.ofString "tman", Str.ofString "texp", Str.ofString "tbc", Str.ofString "sign", Str.ofString "man", Str.ofString "bc", Str.ofString "s_special", Str.ofString "t_special"] ?l ?c ?k1 ?k2 ?k3 ?k4 ?cb ?n1 ?n2 ?n3 ?b
  case l => k_is
  case c => k_is
  case k1 => exact rfl
  case k2 => exact rfl
  case k3 => exact rfl
  case k4 => decide
  case cb => kernel_rfl
  case n1 => decide
  case n2 => decide
  case n3 => decide
  case b =>
    intro s vs X h1 h2
    cases vs with
    | nil => exact absurd h2 (by simp [fd119])
    | cons v0 vs =>
      cases vs with
      | nil => exact absurd h2 (by simp [fd119])
      | cons v1 vs =>
        cases vs with
        | nil => exact ⟨[(Value.int 0 _), (Value.str (Str.ofString "d") _)], fun B hB => (.cons (.int _ _) (.cons (.str _ _) .nil)), binds_K X rfl (by k_is) rfl rfl rfl⟩
        | cons v2 vs =>
          cases vs with
          | nil => exact ⟨[(Value.str (Str.ofString "d") _)], fun B hB => (.cons (.str _ _) .nil), binds_K X rfl (by k_is) rfl rfl rfl⟩
          | cons v3 vs =>
            cases vs with
            | nil => exact ⟨[], fun B hB => .nil, binds_K X rfl (by k_is) rfl rfl rfl⟩
            | cons v4 vs => exact absurd h1 (by simp [fd119])
set_option maxHeartbeats 4000000 in
theorem ok127 (P : Params) : DefOk (hd.heap_39 P) GT 127 fd127 := by
  refine' DefOk.of [Str.ofString "s", Str.ofString "t", Str.ofString "prec", Str.ofString "sa", Str.ofString "sb", Str.ofString "ta", Str.ofString "tb", Str.ofString "a", Str.ofString "b"] ?l ?c ?k1 ?k2 ?k3 ?k4 ?cb ?n1 ?n2 ?n3 ?b
  case l => k_is
  case c => k_is
  case k1 => exact rfl
  case k2 => exact rfl
  case k3 => exact rfl
  case k4 => decide
  case cb => kernel_rfl
  case n1 => decide
  case n2 => decide
  case n3 => decide
  case b =>
    intro s vs X h1 h2
    cases vs with
    | nil => exact absurd h2 (by simp [fd127])
    | cons v0 vs =>
      cases vs with
      | nil => exact absurd h2 (by simp [fd127])
      | cons v1 vs =>
        cases vs with
        | nil => exact ⟨[(Value.int 0 _)], fun B hB => (.cons (.int _ _) .nil), binds_K X rfl (by k_is) rfl rfl rfl⟩
        | cons v2 vs =>
          cases vs with
          | nil => exact ⟨[], fun B hB => .nil, binds_K X rfl (by k_is) rfl rfl rfl⟩
          | cons v3 vs => exact absurd h1 (by simp [fd127])
set_option maxHeartbeats 4000000 in
theorem ok135 (P : Params) : DefOk (hd.heap_39 P) GT 135 fd135 := by
  refine' DefOk.of [Str.ofString "s", Str.ofString "t", Str.ofString "prec", Str.ofString "sa", Str.ofString "sb", Str.ofString "ta", Str.ofString "tb", Str.ofString "a", Str.ofString "b"] ?l ?c ?k1 ?k2 ?k3 ?k4 ?cb ?n1 ?n2 ?n3 ?b
  case l => k_is
  case c => k_is
  case k1 => exact rfl
  case k2 => exact rfl
  case k3 => exact rfl
  case k4 => decide
  case cb => kernel_rfl
  case n1 => decide
  case n2 => decide
  case n3 => decide
  case b =>
    intro s vs X h1 h2
    cases vs with
    | nil => exact absurd h2 (by simp [fd135])
    | cons v0 vs =>
      cases vs with
      | nil => exact absurd h2 (by simp [fd135])
      | cons v1 vs =>
        cases vs with
        | nil => exact ⟨[(Value.int 0 _)], fun B hB => (.cons (.int _ _) .nil), binds_K X rfl (by k_is) rfl rfl rfl⟩
        | cons v2 vs =>
          cases vs with
          | nil => exact ⟨[], fun B hB => .nil, binds_K X rfl (by k_is) rfl rfl rfl⟩
          | cons v3 vs => exact absurd h1 (by simp [fd135])
set_option maxHeartbeats 4000000 in
theorem ok142 (P : Params) : DefOk (hd.heap_39 P) GT 142 fd142 := by
  refine' DefOk.of [Str.ofString "s", Str.ofString "prec", Str.ofString "sa", Str.ofString "sb"] ?l ?c ?k1 ?k2 ?k3 ?k4 ?cb ?n1 ?n2 ?n3 ?b
  case l => k_is
  case c => k_is
  case k1 => exact rfl
  case k2 => exact rfl
  case k3 => exact rfl
  case k4 => decide
  case cb => kernel_rfl
  case n1 => decide
  case n2 => decide
  case n3 => decide
  case b =>
    intro s vs X h1 h2
    cases vs with
    | nil => exact absurd h2 (by simp [fd142])
    | cons v0 vs =>
      cases vs with
      | nil => exact absurd h2 (by simp [fd142])
      | cons v1 vs =>
        cases vs with
        | nil => exact ⟨[], fun B hB => .nil, BindsTo.of_eq rfl⟩
        | cons v2 vs => exact absurd h1 (by simp [fd142])
set_option maxHeartbeats 4000000 in
theorem ok150 (P : Params) : DefOk (hd.heap_39 P) GT 150 fd150 := by
  refine' DefOk.of [Str.ofString "s", Str.ofString "prec", Str.ofString "sa", Str.ofString "sb", Str.ofString "a", Str.ofString "b"] ?l ?c ?k1 ?k2 ?k3 ?k4 ?cb ?n1 ?n2 ?n3 ?b
  case l => k_is
  case c => k_is
  case k1 => exact rfl
  case k2 => exact rfl
  case k3 => exact rfl
  case k4 => decide
  case cb => kernel_rfl
  case n1 => decide
  case n2 => decide
  case n3 => decide
  case b =>
    intro s vs X h1 h2
    cases vs with
    | nil => exact absurd h2 (by simp [fd150])
    | cons v0 vs =>
      cases vs with
      | nil => exact ⟨[(Value.int 0 _)], fun B hB => (.cons (.int _ _) .nil), binds_K X rfl (by k_is) rfl rfl rfl⟩
      | cons v1 vs =>
        cases vs with
        | nil => exact ⟨[], fun B hB => .nil, binds_K X rfl (by k_is) rfl rfl rfl⟩
        | cons v2 vs => exact absurd h1 (by simp [fd150])
set_option maxHeartbeats 4000000 in
theorem ok158 (P : Params) : DefOk (hd.heap_39 P) GT 158 fd158 := by
  refine' DefOk.of [Str.ofString "s", Str.ofString "prec", Str.ofString "sa", Str.ofString "sb", Str.ofString "sas", Str.ofString "sbs", Str.ofString "a", Str.ofString "b", Str.ofString "negsa"] ?l ?c ?k1 ?k2 ?k3 ?k4 ?cb ?n1 ?n2 ?n3 ?b
  case l => k_is
  case c => k_is
  case k1 => exact rfl
  case k2 => exact rfl
  case k3 => exact rfl
  case k4 => decide
  case cb => kernel_rfl
  case n1 => decide
  case n2 => decide
  case n3 => decide
  case b =>
    intro s vs X h1 h2
    cases vs with
    | nil => exact absurd h2 (by simp [fd158])
    | cons v0 vs =>
      cases vs with
      | nil => exact ⟨[(Value.int 0 _)], fun B hB => (.cons (.int _ _) .nil), binds_K X rfl (by k_is) rfl rfl rfl⟩
      | cons v1 vs =>
        cases vs with
        | nil => exact ⟨[], fun B hB => .nil, binds_K X rfl (by k_is) rfl rfl rfl⟩
        | cons v2 vs => exact absurd h1 (by simp [fd158])
set_option maxHeartbeats 4000000 in
theorem ok166 (P : Params) : DefOk (hd.heap_39 P) GT 166 fd166 := by
  refine' DefOk.of [Str.ofString "s", Str.ofString "t", Str.ofString "prec", Str.ofString "sa", Str.ofString "sb", Str.ofString "ta", Str.ofString "tb", Str.ofString "sas", Str.ofString "sbs", Str.ofString "tas", Str.ofString "tbs", Str.ofString "a", Str.ofString "b", Str.ofString "cases"] ?l ?c ?k1 ?k2 ?k3 ?k4 ?cb ?n1 ?n2 ?n3 ?b
  case l => k_is
  case c => k_is
  case k1 => exact rfl
  case k2 => exact rfl
  case k3 => exact rfl
  case k4 => decide
  case cb => kernel_rfl
  case n1 => decide
  case n2 => decide
  case n3 => decide
  case b =>
    intro s vs X h1 h2
    cases vs with
    | nil => exact absurd h2 (by simp [fd166])
    | cons v0 vs =>
      cases vs with
      | nil => exact absurd h2 (by simp [fd166])
      | cons v1 vs =>
        cases vs with
        | nil => exact ⟨[(Value.int 0 _)], fun B hB => (.cons (.int _ _) .nil), binds_K X rfl (by k_is) rfl rfl rfl⟩
        | cons v2 vs =>
          cases vs with
          | nil => exact ⟨[], fun B hB => .nil, binds_K X rfl (by k_is) rfl rfl rfl⟩
          | cons v3 vs => exact absurd h1 (by simp [fd166])
set_option maxHeartbeats 4000000 in
theorem ok173 (P : Params) : DefOk (hd.heap_39 P) GT 173 fd173 := by
  refine' DefOk.of [Str.ofString "script", Str.ofString "k", Str.ofString "n"] ?l ?c ?k1 ?k2 ?k3 ?k4 ?cb ?n1 ?n2 ?n3 ?b
  case l => k_is
  case c => k_is
  case k1 => exact rfl
  case k2 => exact rfl
  case k3 => exact rfl
  case k4 => decide
  case cb => kernel_rfl
  case n1 => decide
  case n2 => decide
  case n3 => decide
  case b =>
    intro s vs X h1 h2
    cases vs with
    | nil => exact absurd h2 (by simp [fd173])
    | cons v0 vs =>
      cases vs with
      | nil => exact absurd h2 (by simp [fd173])
      | cons v1 vs =>
        cases vs with
        | nil => exact ⟨[], fun B hB => .nil, BindsTo.of_eq rfl⟩
        | cons v2 vs => exact absurd h1 (by simp [fd173])
set_option maxHeartbeats 4000000 in
theorem ok180 (P : Params) : DefOk (hd.heap_39 P) GT 180 fd180 := by
  refine' DefOk.of [Str.ofString "n", Str.ofString "e", Str.ofString "sign", Str.ofString "size", Str.ofString "low"] ?l ?c ?k1 ?k2 ?k3 ?k4 ?cb ?n1 ?n2 ?n3 ?b
  case l => k_is
  case c => k_is
  case k1 => exact rfl
  case k2 => exact rfl
  case k3 => exact rfl
  case k4 => decide
  case cb => kernel_rfl
  case n1 => decide
  case n2 => decide
  case n3 => decide
  case b =>
    intro s vs X h1 h2
    cases vs with
    | nil => exact absurd h2 (by simp [fd180])
    | cons v0 vs =>
      cases vs with
      | nil => exact absurd h2 (by simp [fd180])
      | cons v1 vs =>
        cases vs with
        | nil => exact ⟨[], fun B hB => .nil, BindsTo.of_eq rfl⟩
        | cons v2 vs => exact absurd h1 (by simp [fd180])
set_option maxHeartbeats 4000000 in
theorem ok187 (P : Params) : DefOk (hd.heap_39 P) GT 187 fd187 := by
  refine' DefOk.of [Str.ofString "s"] ?l ?c ?k1 ?k2 ?k3 ?k4 ?cb ?n1 ?n2 ?n3 ?b
  case l => k_is
  case c => k_is
  case k1 => exact rfl
  case k2 => exact rfl
  case k3 => exact rfl
  case k4 => decide
  case cb => kernel_rfl
  case n1 => decide
  case n2 => decide
  case n3 => decide
  case b =>
    intro s vs X h1 h2
    cases vs with
    | nil => exact absurd h2 (by simp [fd187])
    | cons v0 vs =>
      cases vs with
      | nil => exact ⟨[], fun B hB => .nil, BindsTo.of_eq rfl⟩
      | cons v1 vs => exact absurd h1 (by simp [fd187])
set_option maxHeartbeats 4000000 in
theorem ok194 (P : Params) : DefOk (hd.heap_39 P) GT 194 fd194 := by
  refine' DefOk.of [Str.ofString "x", Str.ofString "y", Str.ofString "low"] ?l ?c ?k1 ?k2 ?k3 ?k4 ?cb ?n1 ?n2 ?n3 ?b
  case l => k_is
  case c => k_is
  case k1 => exact rfl
  case k2 => exact rfl
  case k3 => exact rfl
  case k4 => decide
  case cb => kernel_rfl
  case n1 => decide
  case n2 => decide
  case n3 => decide
  case b =>
    intro s vs X h1 h2
    cases vs with
    | nil => exact absurd h2 (by simp [fd194])
    | cons v0 vs =>
      cases vs with
      | nil => exact absurd h2 (by simp [fd194])
      | cons v1 vs =>
        cases vs with
        | nil => exact ⟨[], fun B hB => .nil, BindsTo.of_eq rfl⟩
        | cons v2 vs => exact absurd h1 (by simp [fd194])
set_option maxHeartbeats 4000000 in
theorem ok201 (P : Params) : DefOk (hd.heap_39 P) GT 201 fd201 := by
  refine' DefOk.of [Str.ofString "x", Str.ofString "y"] ?l ?c ?k1 ?k2 ?k3 ?k4 ?cb ?n1 ?n2 ?n3 ?b
  case l => k_is
  case c => k_is
  case k1 => exact rfl
  case k2 => exact rfl
  case k3 => exact rfl
  case k4 => decide
  case cb => kernel_rfl
  case n1 => decide
  case n2 => decide
  case n3 => decide
  case b =>
    intro s vs X h1 h2
    cases vs with
    | nil => exact absurd h2 (by simp [fd201])
    | cons v0 vs =>
      cases vs with
      | nil => exact absurd h2 (by simp [fd201])
      | cons v1 vs =>
        cases vs with
        | nil => exact ⟨[], fun B hB => .nil, BindsTo.of_eq rfl⟩
        | cons v2 vs => exact absurd h1 (by simp [fd201])
set_option maxHeartbeats 4000000 in
theorem ok208 (P : Params) : DefOk (hd.heap_39 P) GT 208 fd208 := by
  refine' DefOk.of [Str.ofString "x", Str.ofString "y", Str.ofString "low"] ?l ?c ?k1 ?k2 ?k3 ?k4 ?cb ?n1 ?n2 ?n3 ?b
  case l => k_is
  case c => k_is
  case k1 => exact rfl
  case k2 => exact rfl
  case k3 => exact rfl
  case k4 => decide
  case cb => kernel_rfl
  case n1 => decide
  case n2 => decide
  case n3 => decide
  case b =>
    intro s vs X h1 h2
    cases vs with
    | nil => exact absurd h2 (by simp [fd208])
    | cons v0 vs =>
      cases vs with
      | nil => exact absurd h2 (by simp [fd208])
      | cons v1 vs =>
        cases vs with
        | nil => exact ⟨[], fun B hB => .nil, BindsTo.of_eq rfl⟩
        | cons v2 vs => exact absurd h1 (by simp [fd208])
set_option maxHeartbeats 4000000 in
theorem ok215 (P : Params) : DefOk (hd.heap_39 P) GT 215 fd215 := by
  refine' DefOk.of [Str.ofString "x", Str.ofString "y"] ?l ?c ?k1 ?k2 ?k3 ?k4 ?cb ?n1 ?n2 ?n3 ?b
  case l => k_is
  case c => k_is
  case k1 => exact rfl
  case k2 => exact rfl
  case k3 => exact rfl
  case k4 => decide
  case cb => kernel_rfl
  case n1 => decide
  case n2 => decide
  case n3 => decide
  case b =>
    intro s vs X h1 h2
    cases vs with
    | nil => exact absurd h2 (by simp [fd215])
    | cons v0 vs =>
      cases vs with
      | nil => exact absurd h2 (by simp [fd215])
      | cons v1 vs =>
        cases vs with
        | nil => exact ⟨[], fun B hB => .nil, BindsTo.of_eq rfl⟩
        | cons v2 vs => exact absurd h1 (by simp [fd215])
set_option maxHeartbeats 4000000 in
theorem ok222 (P : Params) : DefOk (hd.heap_39 P) GT 222 fd222 := by
  refine' DefOk.of [Str.ofString "rich", Str.ofString "kind", Str.ofString "e", Str.ofString "bits", Str.ofString "low", Str.ofString "wide"] ?l ?c ?k1 ?k2 ?k3 ?k4 ?cb ?n1 ?n2 ?n3 ?b
  case l => k_is
  case c => k_is
  case k1 => exact rfl
  case k2 => exact rfl
  case k3 => exact rfl
  case k4 => decide
  case cb => kernel_rfl
  case n1 => decide
  case n2 => decide
  case n3 => decide
  case b =>
    intro s vs X h1 h2
    cases vs with
    | nil => exact absurd h2 (by simp [fd222])
    | cons v0 vs =>
      cases vs with
      | nil => exact ⟨[], fun B hB => .nil, BindsTo.of_eq rfl⟩
      | cons v1 vs => exact absurd h1 (by simp [fd222])
set_option maxHeartbeats 4000000 in
theorem ok229 (P : Params) : DefOk (hd.heap_39 P) GT 229 fd229 := by
  refine' DefOk.of [Str.ofString "rich", Str.ofString "low", Str.ofString "high", Str.ofString "e"] ?l ?c ?k1 ?k2 ?k3 ?k4 ?cb ?n1 ?n2 ?n3 ?b
  case l => k_is
  case c => k_is
  case k1 => exact rfl
  case k2 => exact rfl
  case k3 => exact rfl
  case k4 => decide
  case cb => kernel_rfl
  case n1 => decide
  case n2 => decide
  case n3 => decide
  case b =>
    intro s vs X h1 h2
    cases vs with
    | nil => exact absurd h2 (by simp [fd229])
    | cons v0 vs =>
      cases vs with
      | nil => exact ⟨[], fun B hB => .nil, BindsTo.of_eq rfl⟩
      | cons v1 vs => exact absurd h1 (by simp [fd229])
set_option maxHeartbeats 4000000 in
theorem ok236 (P : Params) : DefOk (hd.heap_39 P) GT 236 fd236 := by
  refine' DefOk.of [Str.ofString "grid"] ?l ?c ?k1 ?k2 ?k3 ?k4 ?cb ?n1 ?n2 ?n3 ?b
  case l => k_is
  case c => k_is
  case k1 => exact rfl
  case k2 => exact rfl
  case k3 => exact rfl
  case k4 => decide
  case cb => kernel_rfl
  case n1 => decide
  case n2 => decide
  case n3 => decide
  case b =>
    intro s vs X h1 h2
    cases vs with
    | nil => exact absurd h2 (by simp [fd236])
    | cons v0 vs =>
      cases vs with
      | nil => exact ⟨[], fun B hB => .nil, BindsTo.of_eq rfl⟩
      | cons v1 vs => exact absurd h1 (by simp [fd236])
set_option maxHeartbeats 4000000 in
theorem ok241 (P : Params) : DefOk (hd.heap_39 P) GT 241 fd241 := by
  refine' DefOk.of [Str.ofString "part", Str.ofString "whole", Str.ofString "a", Str.ofString "b", Str.ofString "c", Str.ofString "d"] ?l ?c ?k1 ?k2 ?k3 ?k4 ?cb ?n1 ?n2 ?n3 ?b
  case l => k_is
  case c => k_is
  case k1 => exact rfl
  case k2 => exact rfl
  case k3 => exact rfl
  case k4 => decide
  case cb => kernel_rfl
  case n1 => decide
  case n2 => decide
  case n3 => decide
  case b =>
    intro s vs X h1 h2
    cases vs with
    | nil => exact absurd h2 (by simp [fd241])
    | cons v0 vs =>
      cases vs with
      | nil => exact absurd h2 (by simp [fd241])
      | cons v1 vs =>
        cases vs with
        | nil => exact ⟨[], fun B hB => .nil, BindsTo.of_eq rfl⟩
        | cons v2 vs => exact absurd h1 (by simp [fd241])
set_option maxHeartbeats 4000000 in
theorem ok248 (P : Params) : DefOk (hd.heap_39 P) GT 248 fd248 := by
  refine' DefOk.of [Str.ofString "s"] ?l ?c ?k1 ?k2 ?k3 ?k4 ?cb ?n1 ?n2 ?n3 ?b
  case l => k_is
  case c => k_is
  case k1 => exact rfl
  case k2 => exact rfl
  case k3 => exact rfl
  case k4 => decide
  case cb => kernel_rfl
  case n1 => decide
  case n2 => decide
  case n3 => decide
  case b =>
    intro s vs X h1 h2
    cases vs with
    | nil => exact absurd h2 (by simp [fd248])
    | cons v0 vs =>
      cases vs with
      | nil => exact ⟨[], fun B hB => .nil, BindsTo.of_eq rfl⟩
      | cons v1 vs => exact absurd h1 (by simp [fd248])
set_option maxHeartbeats 4000000 in
theorem ok255 (P : Params) : DefOk (hd.heap_39 P) GT 255 fd255 := by
  refine' DefOk.of [Str.ofString "s", Str.ofString "low", Str.ofString "high"] ?l ?c ?k1 ?k2 ?k3 ?k4 ?cb ?n1 ?n2 ?n3 ?b
  case l => k_is
  case c => k_is
  case k1 => exact rfl
  case k2 => exact rfl
  case k3 => exact rfl
  case k4 => decide
  case cb => kernel_rfl
  case n1 => decide
  case n2 => decide
  case n3 => decide
  case b =>
    intro s vs X h1 h2
    cases vs with
    | nil => exact absurd h2 (by simp [fd255])
    | cons v0 vs =>
      cases vs with
      | nil => exact ⟨[], fun B hB => .nil, BindsTo.of_eq rfl⟩
      | cons v1 vs => exact absurd h1 (by simp [fd255])
set_option maxHeartbeats 4000000 in
theorem ok262 (P : Params) : DefOk (hd.heap_39 P) GT 262 fd262 := by
  refine' DefOk.of [Str.ofString "s", Str.ofString "t", Str.ofString "one", Str.ofString "other", Str.ofString "both", Str.ofString "many", Str.ofString "rows", Str.ofString "most"] ?l ?c ?k1 ?k2 ?k3 ?k4 ?cb ?n1 ?n2 ?n3 ?b
  case l => k_is
  case c => k_is
  case k1 => exact rfl
  case k2 => exact rfl
  case k3 => exact rfl
  case k4 => decide
  case cb => kernel_rfl
  case n1 => decide
  case n2 => decide
  case n3 => decide
  case b =>
    intro s vs X h1 h2
    cases vs with
    | nil => exact absurd h2 (by simp [fd262])
    | cons v0 vs =>
      cases vs with
      | nil => exact absurd h2 (by simp [fd262])
      | cons v1 vs =>
        cases vs with
        | nil => exact ⟨[], fun B hB => .nil, BindsTo.of_eq rfl⟩
        | cons v2 vs => exact absurd h1 (by simp [fd262])
abbrev GFact (w : World) (K : Frag) (q : Str × GV) : Prop := match q.2 with
  | .fn a => nsIn K mainGlobals q.1 = some (some (.ref a)) ∧ keepIn K (.ref a) = true
  | .cst d => ∃ v, nsIn K mainGlobals q.1 = some (some v) ∧ ∀ B : Heap, K.In B → In B [] v d
  | .shd => nsIn K mainGlobals q.1 = some (some (.ref 26))
set_option maxHeartbeats 4000000 in
theorem gfacts (w : World) : ∀ q ∈ GT, GFact w (hd.heap_39 w.params) q := by
  unfold GT
  refine List.forall_mem_cons.mpr ⟨(⟨_, by k_is, fun _ _ => .int _ _⟩), ?_⟩
  refine List.forall_mem_cons.mpr ⟨(⟨_, by k_is, fun _ _ => .int _ _⟩), ?_⟩
  refine List.forall_mem_cons.mpr ⟨(⟨_, by k_is, fun _ _ => .str _ _⟩), ?_⟩
  refine List.forall_mem_cons.mpr ⟨(⟨_, by k_is, fun _ _ => .str _ _⟩), ?_⟩
  refine List.forall_mem_cons.mpr ⟨(⟨_, by k_is, fun _ _ => .str _ _⟩), ?_⟩
  refine List.forall_mem_cons.mpr ⟨(⟨_, by k_is, fun _ _ => .str _ _⟩), ?_⟩
  refine List.forall_mem_cons.mpr ⟨(⟨_, by k_is, fun _ _ => .str _ _⟩), ?_⟩
  refine List.forall_mem_cons.mpr ⟨(⟨_, by k_is, fun _ _ => .str _ _⟩), ?_⟩
  refine List.forall_mem_cons.mpr ⟨(⟨_, by k_is, fun B hB => .tuple (.inr (hB _ _ (by k_is))) rfl rfl (.cons (.int _ _) (.cons (.int _ _) (.cons (.int _ _) (.cons (.int _ _) .nil))))⟩), ?_⟩
  refine List.forall_mem_cons.mpr ⟨(⟨_, by k_is, fun B hB => .tuple (.inr (hB _ _ (by k_is))) rfl rfl (.cons (.int _ _) (.cons (.int _ _) (.cons (.int _ _) (.cons (.int _ _) .nil))))⟩), ?_⟩
  refine List.forall_mem_cons.mpr ⟨(⟨_, by k_is, fun B hB => .tuple (.inr (hB _ _ (by k_is))) rfl rfl (.cons (.int _ _) (.cons (.int _ _) (.cons (.int _ _) (.cons (.int _ _) .nil))))⟩), ?_⟩
  refine List.forall_mem_cons.mpr ⟨(⟨_, by k_is, fun B hB => .tuple (.inr (hB _ _ (by k_is))) rfl rfl (.cons (.int _ _) (.cons (.int _ _) (.cons (.int _ _) (.cons (.int _ _) .nil))))⟩), ?_⟩
  refine List.forall_mem_cons.mpr ⟨(show nsIn (hd.heap_39 w.params) mainGlobals (Str.ofString "shifts_down") = some (some (.ref 26)) from by k_is), ?_⟩
  refine List.forall_mem_cons.mpr ⟨(⟨by k_is, by k_is⟩), ?_⟩
  refine List.forall_mem_cons.mpr ⟨(⟨by k_is, by k_is⟩), ?_⟩
  refine List.forall_mem_cons.mpr ⟨(⟨by k_is, by k_is⟩), ?_⟩
  refine List.forall_mem_cons.mpr ⟨(⟨by k_is, by k_is⟩), ?_⟩
  refine List.forall_mem_cons.mpr ⟨(⟨by k_is, by k_is⟩), ?_⟩
  refine List.forall_mem_cons.mpr ⟨(⟨by k_is, by k_is⟩), ?_⟩
  refine List.forall_mem_cons.mpr ⟨(⟨by k_is, by k_is⟩), ?_⟩
  refine List.forall_mem_cons.mpr ⟨(⟨by k_is, by k_is⟩), ?_⟩
  refine List.forall_mem_cons.mpr ⟨(⟨by k_is, by k_is⟩), ?_⟩
  refine List.forall_mem_cons.mpr ⟨(⟨by k_is, by k_is⟩), ?_⟩
  refine List.forall_mem_cons.mpr ⟨(⟨by k_is, by k_is⟩), ?_⟩
  refine List.forall_mem_cons.mpr ⟨(⟨by k_is, by k_is⟩), ?_⟩
  refine List.forall_mem_cons.mpr ⟨(⟨by k_is, by k_is⟩), ?_⟩
  refine List.forall_mem_cons.mpr ⟨(⟨by k_is, by k_is⟩), ?_⟩
  refine List.forall_mem_cons.mpr ⟨(⟨by k_is, by k_is⟩), ?_⟩
  refine List.forall_mem_cons.mpr ⟨(⟨by k_is, by k_is⟩), ?_⟩
  refine List.forall_mem_cons.mpr ⟨(⟨by k_is, by k_is⟩), ?_⟩
  refine List.forall_mem_cons.mpr ⟨(⟨by k_is, by k_is⟩), ?_⟩
  refine List.forall_mem_cons.mpr ⟨(⟨by k_is, by k_is⟩), ?_⟩
  refine List.forall_mem_cons.mpr ⟨(⟨by k_is, by k_is⟩), ?_⟩
  refine List.forall_mem_cons.mpr ⟨(⟨by k_is, by k_is⟩), ?_⟩
  refine List.forall_mem_cons.mpr ⟨(⟨by k_is, by k_is⟩), ?_⟩
  refine List.forall_mem_cons.mpr ⟨(⟨by k_is, by k_is⟩), ?_⟩
  refine List.forall_mem_cons.mpr ⟨(⟨by k_is, by k_is⟩), ?_⟩
  refine List.forall_mem_cons.mpr ⟨(⟨by k_is, by k_is⟩), ?_⟩
  refine List.forall_mem_cons.mpr ⟨(⟨by k_is, by k_is⟩), ?_⟩
  refine List.forall_mem_cons.mpr ⟨(⟨by k_is, by k_is⟩), ?_⟩
  refine List.forall_mem_cons.mpr ⟨(⟨by k_is, by k_is⟩), ?_⟩
  refine List.forall_mem_cons.mpr ⟨(⟨by k_is, by k_is⟩), ?_⟩
  refine List.forall_mem_cons.mpr ⟨(⟨by k_is, by k_is⟩), ?_⟩
  refine List.forall_mem_cons.mpr ⟨(⟨by k_is, by k_is⟩), ?_⟩
  refine List.forall_mem_cons.mpr ⟨(⟨by k_is, by k_is⟩), ?_⟩
  refine List.forall_mem_cons.mpr ⟨(⟨by k_is, by k_is⟩), ?_⟩
  exact fun _ h => nomatch h
theorem shd_at {prog : Program} {w : World} {A : Around} {value slice : Expr} {h₀ : Heap} {L : Addr} {m : Str → Option Value} {s : Shared} {t : Tok} {Q E : Value → Shared → Prop} {k : Str} {v : Value} (F : Fr h₀ L s.heap m) (X₀ : (hd.heap_39 w.params).In h₀)
    (e : nsIn (hd.heap_39 w.params) 26 k = some (some v)) (h : Q v { s with toks := s.toks + 1 }) (hs : subscripted slice false (.ref 26) (.str k t) = operate [.ref 26, .str k t] (getItem (.ref 26) (.str k t))) :
    wpAny (model prog w) A (subscriptTail value slice (.ref 26) (.str k t)) Q E s := by
  refine' topItem_K F X₀ ?l ?k e h hs
  case l => k_is
  case k => k_keys
theorem gok (w : World) : GOk w (hd.heap_39 w.params) GT where
  fn := fun x a h => gfacts w _ (lookup_mem h)
  cst := fun x d h => gfacts w _ (lookup_mem h)
  blt := fun x h => by
    rcases h with h | h | h
    · subst h; k_is
    · subst h; k_is
    · subst h; k_is
  shd := fun x h => by
    refine ⟨26, gfacts w _ (lookup_mem h), ?_⟩
    intro prog k d hk A value slice B h₀ L m s t Q E hB hBh F hQ hs
    have X₀ : (hd.heap_39 w.params).In h₀ := fun a o e => hBh _ _ (hB a o e)
    have tup : ∀ (a : Addr) (i j : Int) (t u : Tok), (hd.heap_39 w.params).lookup a = some { cls := .type "tuple", data := .seq #[.int i t, .int j u] } → In B [] (.ref a) (.tuple [.int i, .int j]) := fun a i j t u e =>
      .tuple (vs := [.int i t, .int j u]) (.inr (hB _ _ e)) rfl rfl (.cons (.int _ _) (.cons (.int _ _) .nil))
    have hm := lookup_mem hk
    simp only [shTab, List.mem_cons, List.not_mem_nil, or_false, Prod.mk.injEq] at hm
    rcases hm with ⟨rfl, rfl⟩ | ⟨rfl, rfl⟩ | ⟨rfl, rfl⟩ | ⟨rfl, rfl⟩
    · exact shd_at F X₀ (v := .ref 27) (by k_is) (hQ _ (tup _ _ _ _ _ (by k_is))) hs
    · exact shd_at F X₀ (v := .ref 28) (by k_is) (hQ _ (tup _ _ _ _ _ (by k_is))) hs
    · exact shd_at F X₀ (v := .ref 29) (by k_is) (hQ _ (tup _ _ _ _ _ (by k_is))) hs
    · exact shd_at F X₀ (v := .ref 30) (by k_is) (hQ _ (tup _ _ _ _ _ (by k_is))) hs
theorem tok (P : Params) : ∀ f fd, Tb f = some fd → DefOk (hd.heap_39 P) GT f fd := by
  intro f fd h
  unfold Tb at h
  split at h <;> first | (cases h; done) | skip
  · cases h; exact ok21 P
  · cases h; exact ok37 P
  · cases h; exact ok44 P
  · cases h; exact ok51 P
  · cases h; exact ok58 P
  · cases h; exact ok65 P
  · cases h; exact ok72 P
  · cases h; exact ok80 P
  · cases h; exact ok88 P
  · cases h; exact ok95 P
  · cases h; exact ok103 P
  · cases h; exact ok111 P
  · cases h; exact ok119 P
  · cases h; exact ok127 P
  · cases h; exact ok135 P
  · cases h; exact ok142 P
  · cases h; exact ok150 P
  · cases h; exact ok158 P
  · cases h; exact ok166 P
  · cases h; exact ok173 P
  · cases h; exact ok180 P
  · cases h; exact ok187 P
  · cases h; exact ok194 P
  · cases h; exact ok201 P
  · cases h; exact ok208 P
  · cases h; exact ok215 P
  · cases h; exact ok222 P
  · cases h; exact ok229 P
  · cases h; exact ok236 P
  · cases h; exact ok241 P
  · cases h; exact ok248 P
  · cases h; exact ok255 P
  · cases h; exact ok262 P
end Mine

end

/-! # part AM1 -/
section
open PySem PySem.W
namespace Mine
/-! ## Bits -/
theorem bits_le {x : Int} {k : Nat} : bits x ≤ k ↔ x.natAbs < 2 ^ k := by
  unfold bits Builtin.Int.intBits
  by_cases h : x = 0
  · subst h; simp [Nat.two_pow_pos]
  · have h' : (x == 0) = false := by simpa using h
    rw [h', if_neg (by decide)]
    have : x.natAbs ≠ 0 := by omega
    rw [← Nat.log2_lt this]; omega
theorem bits_zero : bits 0 = 0 := rfl
theorem bits_pos {x : Int} (h : x ≠ 0) : 0 < bits x := by
  refine Nat.pos_of_ne_zero fun e => ?_
  have := (bits_le (x := x) (k := 0)).mp (by omega)
  omega
theorem bits_neg (x : Int) : bits (-x) = bits x := by
  unfold bits Builtin.Int.intBits
  by_cases h : x = 0
  · subst h; rfl
  · have h' : (x == 0) = false := by simpa using h
    have h'' : (-x == 0) = false := by simp; omega
    rw [h', h'', Int.natAbs_neg]
theorem lt_bits {x : Int} : x.natAbs < 2 ^ bits x := bits_le.mp (Nat.le_refl _)
theorem pow_le_of_bits {x : Int} (h : x ≠ 0) : 2 ^ (bits x - 1) ≤ x.natAbs := by
  have hp := bits_pos h
  refine Nat.le_of_not_lt fun e => ?_
  have := bits_le.mpr e
  omega
theorem bits_eq {x : Int} {k : Nat} (h1 : 2 ^ k ≤ x.natAbs) (h2 : x.natAbs < 2 ^ (k + 1)) : bits x = k + 1 := by
  have a := bits_le.mpr h2
  have b : ¬ bits x ≤ k := fun e => by have := bits_le.mp e; omega
  omega
theorem bits_shift {a : Int} (h : a ≠ 0) (k : Nat) : bits (a * 2 ^ k) = bits a + k := by
  have h1 := pow_le_of_bits h
  have h2 := lt_bits (x := a)
  have hp := bits_pos h
  have e : (a * 2 ^ k).natAbs = a.natAbs * 2 ^ k := by rw [Int.natAbs_mul, Int.natAbs_pow]; rfl
  obtain ⟨j, hj⟩ : ∃ j, bits a = j + 1 := ⟨bits a - 1, by omega⟩
  rw [hj] at h1 h2 ⊢
  have : bits (a * 2 ^ k) = j + k + 1 := by
    refine bits_eq ?_ ?_
    · rw [e, Nat.pow_add]; exact Nat.mul_le_mul_right _ h1
    · rw [e, show j + k + 1 = j + 1 + k by omega, Nat.pow_add]; exact (Nat.mul_lt_mul_right (Nat.two_pow_pos k)).mpr h2
  omega
theorem bits_mul_le (x y : Int) : bits (x * y) ≤ bits x + bits y := by
  rw [bits_le, Int.natAbs_mul, Nat.pow_add]
  by_cases hx : x.natAbs = 0
  · rw [hx, Nat.zero_mul]; exact Nat.mul_pos (Nat.two_pow_pos _) (Nat.two_pow_pos _)
  · exact Nat.mul_lt_mul'' lt_bits lt_bits
theorem bits_add_le {x y : Int} {k : Nat} (hx : bits x ≤ k) (hy : bits y ≤ k) : bits (x + y) ≤ k + 1 := by
  rw [bits_le] at *
  have := Int.natAbs_add_le x y
  rw [Nat.pow_succ]; omega
theorem bits_mono {x y : Int} (h : x.natAbs ≤ y.natAbs) : bits x ≤ bits y := bits_le.mpr (Nat.lt_of_le_of_lt h lt_bits)
theorem bits_pow (k : Nat) : bits (2 ^ k) = k + 1 := by
  refine bits_eq ?_ ?_
  · rw [Int.natAbs_pow]; exact Nat.le_refl _
  · rw [Int.natAbs_pow]; exact Nat.pow_lt_pow_right (by decide) (by omega)

/-! ## Trailing zeros -/
def tz (n : Nat) : Nat := if h : n = 0 ∨ n % 2 = 1 then 0 else tz (n / 2) + 1
termination_by n
decreasing_by omega
theorem tz_odd {n : Nat} (h : n % 2 = 1) : tz n = 0 := by rw [tz, dif_pos (.inr h)]
theorem tz_even {n : Nat} (h : n ≠ 0) : tz (2 * n) = tz n + 1 := by
  rw [tz, dif_neg (by omega), Nat.mul_div_cancel_left n (by decide)]
theorem tz_shift {a : Nat} (h : a % 2 = 1) : ∀ k, tz (a * 2 ^ k) = k
  | 0 => by rw [Nat.pow_zero, Nat.mul_one, tz_odd h]
  | k + 1 => by
    have e : a * 2 ^ (k + 1) = 2 * (a * 2 ^ k) := by rw [Nat.pow_succ]; rw [Nat.mul_comm 2, Nat.mul_assoc]
    rw [e, tz_even, tz_shift h k]
    have : 0 < a * 2 ^ k := Nat.mul_pos (by omega) (Nat.two_pow_pos _)
    omega
theorem tz_spec : ∀ n : Nat, n ≠ 0 → ∃ a, a % 2 = 1 ∧ n = a * 2 ^ tz n := by
  intro n
  induction n using Nat.strongRecOn with
  | ind n ih =>
    intro hn
    by_cases h : n % 2 = 1
    · exact ⟨n, h, by rw [tz_odd h, Nat.pow_zero, Nat.mul_one]⟩
    · obtain ⟨m, rfl⟩ : ∃ m, n = 2 * m := ⟨n / 2, by omega⟩
      have hm : m ≠ 0 := by omega
      obtain ⟨a, ha, e⟩ := ih m (by omega) hm
      refine ⟨a, ha, ?_⟩
      rw [tz_even hm, Nat.pow_succ]
      have : a * (2 ^ tz m * 2) = 2 * (a * 2 ^ tz m) := by rw [Nat.mul_comm (2 ^ tz m), ← Nat.mul_assoc, Nat.mul_comm a 2, Nat.mul_assoc]
      omega
def od (n : Nat) : Nat := n / 2 ^ tz n
theorem od_spec {n : Nat} (h : n ≠ 0) : od n % 2 = 1 ∧ n = od n * 2 ^ tz n := by
  obtain ⟨a, ha, e⟩ := tz_spec n h
  have : od n = a := by
    unfold od
    conv => lhs; lhs; rw [e]
    exact Nat.mul_div_cancel _ (Nat.two_pow_pos _)
  rw [this]; exact ⟨ha, e⟩
theorem od_shift {a : Nat} (h : a % 2 = 1) (k : Nat) : od (a * 2 ^ k) = a := by
  unfold od; rw [tz_shift h k]; exact Nat.mul_div_cancel _ (Nat.two_pow_pos _)
theorem land_pred : ∀ n : Nat, n ≠ 0 → n &&& (n - 1) = n - 2 ^ tz n := by
  intro n
  induction n using Nat.strongRecOn with
  | ind n ih =>
    intro hn
    by_cases h : n % 2 = 1
    · rw [tz_odd h, Nat.pow_zero]
      obtain ⟨m, rfl⟩ : ∃ m, n = 2 * m + 1 := ⟨n / 2, by omega⟩
      rw [Nat.add_sub_cancel]
      apply Nat.eq_of_testBit_eq
      intro i
      rw [Nat.testBit_and]
      cases i with
      | zero => simp
      | succ i =>
        rw [Nat.testBit_succ, Nat.testBit_succ]
        have e1 : (2 * m + 1) / 2 = m := by omega
        have e2 : (2 * m) / 2 = m := by omega
        rw [e1, e2, Bool.and_self]
    · obtain ⟨m, rfl⟩ : ∃ m, n = 2 * m := ⟨n / 2, by omega⟩
      have hm : m ≠ 0 := by omega
      have ih' := ih m (by omega) hm
      rw [tz_even hm, Nat.pow_succ]
      have e : (2 * m) &&& (2 * m - 1) = 2 * (m &&& (m - 1)) := by
        apply Nat.eq_of_testBit_eq
        intro i
        rw [Nat.testBit_and]
        cases i with
        | zero => simp
        | succ i =>
          rw [Nat.testBit_succ, Nat.testBit_succ, Nat.testBit_succ]
          have e1 : (2 * m) / 2 = m := by omega
          have e2 : (2 * m - 1) / 2 = m - 1 := by omega
          have e3 : 2 * (m &&& (m - 1)) / 2 = m &&& (m - 1) := by omega
          rw [e1, e2, e3, Nat.testBit_and]
      rw [e, ih']
      omega
theorem and_neg {a : Nat} (h : a ≠ 0) : Builtin.bitAnd (a : Int) (-(a : Int)) = (2 ^ tz a : Nat) := by
  have hle : 2 ^ tz a ≤ a := by
    obtain ⟨h1, h2⟩ := od_spec h
    have : 1 * 2 ^ tz a ≤ od a * 2 ^ tz a := Nat.mul_le_mul_right _ (by omega)
    omega
  have key := land_pred a h
  unfold Builtin.bitAnd
  have h1 : decide (0 ≤ (a : Int)) = true := by simp
  have h2 : decide (0 ≤ -(a : Int)) = false := by simp; omega
  rw [h1, h2]
  dsimp only
  have e : (Builtin.bitNot (-(a : Int))).toNat = a - 1 := by
    unfold Builtin.bitNot
    omega
  rw [e, Int.toNat_natCast, key]
  omega
theorem and_one (a : Nat) : Builtin.bitAnd (a : Int) 1 = ((a % 2 : Nat) : Int) := by
  unfold Builtin.bitAnd
  have h1 : decide (0 ≤ (a : Int)) = true := by simp
  rw [h1]
  show (((a : Int).toNat &&& (1 : Int).toNat : Nat) : Int) = _
  rw [Int.toNat_natCast]
  show ((a &&& 1 : Nat) : Int) = _
  rw [Nat.and_one_is_mod]
end Mine

end

/-! # part AM2 -/
section
open PySem PySem.W
set_option maxRecDepth 100000
namespace Mine
open Classical
/-! ## Runs of the pure interpreter -/
section
variable {F : Nat → List Dat → Option Dat} {ρ : List (Option Dat)} {Q : Dat → Prop} {st : List CS}
/-- the rest of a body is a list of codes -/
def RunL (F : Nat → List Dat → Option Dat) : List CS → List (Option Dat) → (Dat → Prop) → Prop
  | [], _, Q => Q .none
  | s :: st, ρ, Q => ∃ o, ex F s ρ = some o ∧ match o with | .nxt ρ' => RunL F st ρ' Q | .ret d => Q d
theorem RunL.skip (h : RunL F st ρ Q) : RunL F (.skip :: st) ρ Q := ⟨_, rfl, h⟩
theorem RunL.seq {a b : CS} (h : RunL F (a :: b :: st) ρ Q) : RunL F (.seq a b :: st) ρ Q := by
  obtain ⟨o, h1, h2⟩ := h
  cases o with
  | nxt ρ' =>
    obtain ⟨o', h3, h4⟩ := h2
    exact ⟨o', by simp only [ex, h1, Option.bind_some, h3], h4⟩
  | ret d => exact ⟨.ret d, by simp only [ex, h1, Option.bind_some], h2⟩
theorem RunL.set {i : Nat} {e : CE} {d : Dat} {ρ' : List (Option Dat)} (h : ev F ρ e = some d) (hp : put ρ i d = ρ') (k : RunL F st ρ' Q) : RunL F (.set i e :: st) ρ Q := ⟨.nxt ρ', by simp only [ex, h, Option.bind_some, hp], k⟩
theorem RunL.set2 {i j : Nat} {e : CE} {d : Dat} {ρ' : List (Option Dat)} (h : ev F ρ e = some d) (hp : put (put ρ i d) j d = ρ') (k : RunL F st ρ' Q) : RunL F (.set2 i j e :: st) ρ Q := ⟨.nxt ρ', by simp only [ex, h, Option.bind_some, hp], k⟩
theorem RunL.aug {i : Nat} {op : Operator} {e : CE} {d0 d1 d : Dat} {ρ' : List (Option Dat)} (h0 : nth ρ i = some d0) (h1 : ev F ρ e = some d1) (h : evAug op d0 d1 = some d) (hp : put ρ i d = ρ') (k : RunL F st ρ' Q) : RunL F (.aug i op e :: st) ρ Q :=
  ⟨.nxt ρ', by simp only [ex, h0, h1, h, Option.bind_some, hp], k⟩
theorem RunL.unp {is : List Nat} {e : CE} {ds : List Dat} {ρ' : List (Option Dat)} (h : ev F ρ e = some (.tuple ds)) (hp : puts ρ is ds = some ρ') (k : RunL F st ρ' Q) : RunL F (.unp is false e :: st) ρ Q :=
  ⟨.nxt ρ', by simp only [ex, h, Option.bind_some, Bool.false_eq_true, if_false, hp, Option.map_some], k⟩
theorem RunL.unpR {is : List Nat} {e : CE} {ds : List Dat} {ρ' : List (Option Dat)} (h : ev F ρ e = some (.tuple ds)) (hp : puts ρ is.reverse ds.reverse = some ρ') (k : RunL F st ρ' Q) : RunL F (.unp is true e :: st) ρ Q :=
  ⟨.nxt ρ', by simp only [ex, h, Option.bind_some, if_true, hp, Option.map_some], k⟩
theorem RunL.ret {e : CE} {d : Dat} (h : ev F ρ e = some d) (k : Q d) : RunL F (.ret e :: st) ρ Q := ⟨.ret d, by simp only [ex, h, Option.map_some], k⟩
theorem RunL.ite {e : CE} {a b : CS} {d : Dat} {t : Bool} (h : ev F ρ e = some d) (ht : truD d = some t) (k1 : t = true → RunL F (a :: st) ρ Q) (k2 : t = false → RunL F (b :: st) ρ Q) : RunL F (.ite e a b :: st) ρ Q := by
  cases t with
  | true =>
    obtain ⟨o, h1, h2⟩ := k1 rfl
    exact ⟨o, by simp only [ex, h, ht, Option.bind_some, if_true, h1], h2⟩
  | false =>
    obtain ⟨o, h1, h2⟩ := k2 rfl
    exact ⟨o, by simp only [ex, h, ht, Option.bind_some, Bool.false_eq_true, if_false, h1], h2⟩
theorem RunL.asrt {e : CE} {d : Dat} (h : ev F ρ e = some d) (ht : truD d = some true) (k : RunL F st ρ Q) : RunL F (.asrt e :: st) ρ Q := ⟨.nxt ρ, by simp only [ex, h, ht, Option.bind_some, if_true], k⟩
theorem Fn_of {T : Nat → Option Fd} {n f : Nat} {args : List Dat} {fd : Fd} {r : Dat} (ht : T f = some fd) (hi : ini fd args = some ρ) (h : RunL (Fn T n) [fd.body] ρ (fun d => d = r)) : Fn T (n + 1) f args = some r := by
  obtain ⟨o, h1, h2⟩ := h
  cases o with
  | nxt ρ' => cases h2; simp only [Fn, ht, runD, hi, h1, Option.bind_some]
  | ret d => cases h2; simp only [Fn, ht, runD, hi, h1, Option.bind_some]
end
section
variable {a b n : Int}
theorem b_add : evBin .Add (.int a) (.int b) = some (.int (a + b)) := rfl
theorem b_sub : evBin .Sub (.int a) (.int b) = some (.int (a - b)) := rfl
theorem b_and : evBin .BitAnd (.int a) (.int b) = some (.int (Builtin.bitAnd a b)) := rfl
theorem b_xor : evBin .BitXor (.int a) (.int b) = some (.int (Builtin.bitXor a b)) := rfl
theorem b_mul (h : bits a + bits b ≤ 2 ^ 26) : evBin .Mult (.int a) (.int b) = some (.int (a * b)) := if_pos h
theorem b_shl (h0 : 0 ≤ n) (h : (bits a : Int) + n ≤ 2 ^ 27) : evBin .LShift (.int a) (.int n) = some (.int (a * 2 ^ n.toNat)) := if_pos ⟨h0, h⟩
theorem b_shr (h0 : 0 ≤ n) : evBin .RShift (.int a) (.int n) = some (.int (a.fdiv (2 ^ n.toNat))) := if_pos h0
theorem b_pow (h0 : 0 ≤ n) (h : (bits a : Int) * n ≤ 2 ^ 27) : evBin .Pow (.int a) (.int n) = some (.int (a ^ n.toNat)) := if_pos ⟨h0, h⟩
theorem b_div (h0 : 0 < b) (h : bits b ≤ 8000) : evBin .FloorDiv (.int a) (.int b) = some (.int (a.fdiv b)) := if_pos ⟨h0, h⟩
theorem b_mod (h0 : 0 < b) : evBin .Mod (.int a) (.int b) = some (.int (a.fmod b)) := if_pos h0
theorem g_add : evAug .Add (.int a) (.int b) = some (.int (a + b)) := rfl
theorem g_sub : evAug .Sub (.int a) (.int b) = some (.int (a - b)) := rfl
theorem g_xor : evAug .BitXor (.int a) (.int b) = some (.int (Builtin.bitXor a b)) := rfl
theorem g_shl (h0 : 0 ≤ n) (h : (bits a : Int) + n ≤ 2 ^ 27) : evAug .LShift (.int a) (.int n) = some (.int (a * 2 ^ n.toNat)) := if_pos ⟨h0, h⟩
theorem g_shr (h0 : 0 ≤ n) : evAug .RShift (.int a) (.int n) = some (.int (a.fdiv (2 ^ n.toNat))) := if_pos h0
theorem c_lt : evCmp .Lt (.int a) (.int b) = some (.bool (decide (a < b))) := rfl
theorem c_gt : evCmp .Gt (.int a) (.int b) = some (.bool (decide (b < a))) := rfl
theorem c_le : evCmp .LtE (.int a) (.int b) = some (.bool (decide (a ≤ b))) := rfl
theorem c_ge : evCmp .GtE (.int a) (.int b) = some (.bool (decide (b ≤ a))) := rfl
theorem c_eq {x y : Dat} (h1 : kqdOk 8 x = true) (h2 : kqdOk 8 y = true) : evCmp .Eq x y = some (.bool (decide (x = y))) := if_pos ⟨h1, h2⟩
theorem c_ne {x y : Dat} (h1 : kqdOk 8 x = true) (h2 : kqdOk 8 y = true) : evCmp .NotEq x y = some (.bool (!decide (x = y))) := if_pos ⟨h1, h2⟩
theorem s_tup {l : List Dat} {k : Int} {d : Dat} (h : 0 ≤ k ∧ k < l.length ∧ k < 2 ^ 63) (hd : l[k.toNat]? = some d) : evSub (.tuple l) (.int k) = some d := by
  show (if _ then _ else _) = _
  rw [if_pos h, hd]
theorem s_lst {l : List Dat} {k : Int} {d : Dat} (h : 0 ≤ k ∧ k < l.length ∧ k < 2 ^ 63) (hd : l[k.toNat]? = some d) : evSub (.list l) (.int k) = some d := by
  show (if _ then _ else _) = _
  rw [if_pos h, hd]
theorem t_int : truD (.int a) = some (a != 0) := rfl
theorem t_bool {c : Bool} : truD (.bool c) = some c := rfl
end
theorem trailing_spec (n : Nat) (a : Nat) (h : a ≠ 0) : Fn Tb (n + 1) 21 [.int a] = some (.int (tz a : Nat)) := by
  refine Fn_of (fd := fd21) rfl rfl ?_
  generalize Fn Tb n = F
  refine RunL.seq (RunL.ite (by (simp only [ev, evs, nth, b_add, b_sub, b_and, b_xor, t_int, t_bool, c_lt, c_gt, c_le, c_ge, Option.bind_some, Option.map_some]; exact rfl)) (by simp only [truD]; exact rfl) (fun h1 => ?_) (fun h1 => ?_))
  · simp only [Bool.not_eq_true', bne_eq_false_iff_eq] at h1; omega
  · refine RunL.skip (RunL.seq (RunL.ret (by (simp only [ev, evs, nth, b_add, b_sub, b_and, b_xor, t_int, t_bool, c_lt, c_gt, c_le, c_ge, Option.bind_some, Option.map_some]; exact rfl)) ?_))
    rw [and_neg h]
    have := bits_pow (tz a)
    rw [Int.natCast_pow]
    show Dat.int (((bits (2 ^ tz a : Int) : Nat) : Int) - 1) = _
    rw [this]; congr 1; omega
end Mine

end

/-! # part AM3 -/
section
open PySem PySem.W
set_option maxRecDepth 100000
set_option linter.unusedSimpArgs false
set_option linter.unusedVariables false
namespace Mine
open Classical
/-! ## Fixed point: a number X at the scale N is X / 2 ^ N -/
def si (b : Bool) : Int := if b then 1 else 0
def sv (b : Bool) (x : Int) : Int := if b then -x else x
def t4 (a b c d : Int) : Dat := .tuple [.int a, .int b, .int c, .int d]
def fp (N : Nat) (X : Int) : Dat := if X = 0 then t4 0 0 0 0 else t4 (si (decide (X < 0))) (od X.natAbs : Nat) ((tz X.natAbs : Nat) - (N : Int)) (bits (od X.natAbs : Nat) : Nat)
theorem fp_zero (N : Nat) : fp N 0 = t4 0 0 0 0 := if_pos rfl
theorem fp_mk (N : Nat) (b : Bool) {a k : Nat} (h : a % 2 = 1) : fp N (sv b ((a : Int) * 2 ^ k)) = t4 (si b) a ((k : Int) - N) (bits (a : Int) : Nat) := by
  have hp : 0 < (a : Int) * 2 ^ k := Int.mul_pos (by omega) (Int.pow_pos (by decide))
  have e : ((a : Int) * 2 ^ k).natAbs = a * 2 ^ k := by rw [Int.natAbs_mul, Int.natAbs_pow]; rfl
  cases b with
  | false =>
    show fp N ((a : Int) * 2 ^ k) = _
    unfold fp
    rw [if_neg (by omega), e, od_shift h, tz_shift h, decide_eq_false (by omega)]
  | true =>
    show fp N (-((a : Int) * 2 ^ k)) = _
    unfold fp
    rw [if_neg (by omega), Int.natAbs_neg, e, od_shift h, tz_shift h, decide_eq_true (by omega)]
theorem split_int {X : Int} (h : X ≠ 0) : ∃ b a k, a % 2 = 1 ∧ X = sv b ((a : Nat) * 2 ^ k : Int) := by
  obtain ⟨h1, h2⟩ := od_spec (n := X.natAbs) (by omega)
  refine ⟨decide (X < 0), od X.natAbs, tz X.natAbs, h1, ?_⟩
  have e : ((od X.natAbs : Nat) : Int) * 2 ^ tz X.natAbs = (X.natAbs : Int) := by
    conv => rhs; rw [h2]
    rw [Int.natCast_mul, Int.natCast_pow]; rfl
  rw [e]
  unfold sv
  by_cases hx : X < 0
  · rw [decide_eq_true hx, if_pos rfl]; omega
  · rw [decide_eq_false hx, if_neg (by decide)]; omega
theorem fp_scale (N j : Nat) (X : Int) : fp (N + j) (X * 2 ^ j) = fp N X := by
  by_cases h : X = 0
  · subst h; rw [Int.zero_mul, fp_zero, fp_zero]
  · obtain ⟨b, a, k, ha, rfl⟩ := split_int h
    have e : sv b ((a : Nat) * 2 ^ k : Int) * 2 ^ j = sv b ((a : Nat) * 2 ^ (k + j) : Int) := by
      cases b
      · show (a : Int) * 2 ^ k * 2 ^ j = a * 2 ^ (k + j)
        rw [Int.pow_add, Int.mul_assoc]
      · show -((a : Int) * 2 ^ k) * 2 ^ j = -(a * 2 ^ (k + j))
        rw [Int.pow_add, Int.neg_mul, Int.mul_assoc]
    rw [e, fp_mk _ _ ha, fp_mk _ _ ha]
    congr 1
    omega
/-- the number of a tuple, at the scale N -/
def un (N : Nat) : Dat → Int
  | .tuple [.int s, .int a, .int e, .int _] => if s = 1 then -(a * 2 ^ (e + N).toNat) else a * 2 ^ (e + N).toNat
  | _ => 0
theorem un_fp (N : Nat) (X : Int) : un N (fp N X) = X := by
  by_cases h : X = 0
  · subst h; rw [fp_zero]; simp [un, t4]
  · obtain ⟨b, a, k, ha, rfl⟩ := split_int h
    rw [fp_mk _ _ ha]
    have e : ((k : Int) - N + N).toNat = k := by omega
    cases b <;> simp [un, t4, si, sv, e]
theorem fp_inj {N : Nat} {X Y : Int} (h : fp N X = fp N Y) : X = Y := by rw [← un_fp N X, h, un_fp]
theorem fp_eq {N : Nat} {X Y : Int} : fp N X = fp N Y ↔ X = Y := ⟨fp_inj, fun h => by rw [h]⟩

/-! ## Rounding -/
inductive Md | f | c | d | u
def Md.s : Md → Str
  | .f => Str.ofString "f" | .c => Str.ofString "c" | .d => Str.ofString "d" | .u => Str.ofString "u"
/-- is the size cut down -/
def Md.tr : Md → Bool → Bool
  | .f, n => !n | .c, n => n | .d, _ => true | .u, _ => false
def dnN (p m : Nat) : Nat := m / 2 ^ (bits (m : Int) - p) * 2 ^ (bits (m : Int) - p)
def upN (p m : Nat) : Nat := (m + (2 ^ (bits (m : Int) - p) - 1)) / 2 ^ (bits (m : Int) - p) * 2 ^ (bits (m : Int) - p)
def mag (r : Md) (b : Bool) (p m : Nat) : Nat := if r.tr b then dnN p m else upN p m
def rr (r : Md) (p : Nat) (X : Int) : Int := if p = 0 then X else if X < 0 then -(mag r true p X.natAbs : Nat) else (mag r false p X.natAbs : Nat)
theorem dn_small {p m : Nat} (h : bits (m : Int) ≤ p) : dnN p m = m := by
  unfold dnN; rw [show bits (m : Int) - p = 0 by omega, Nat.pow_zero, Nat.div_one, Nat.mul_one]
theorem up_small {p m : Nat} (h : bits (m : Int) ≤ p) : upN p m = m := by
  unfold upN; rw [show bits (m : Int) - p = 0 by omega, Nat.pow_zero, Nat.div_one, Nat.mul_one]; rfl
theorem mag_small {r : Md} {b : Bool} {p m : Nat} (h : bits (m : Int) ≤ p) : mag r b p m = m := by
  unfold mag; split
  · exact dn_small h
  · exact up_small h
theorem rr_small {r : Md} {p : Nat} {X : Int} (h : bits X ≤ p) : rr r p X = X := by
  have e : bits (X.natAbs : Int) = bits X := by
    rcases Int.natAbs_eq X with q | q
    · rw [← q]
    · conv => rhs; rw [q, bits_neg]
  unfold rr
  split
  · rfl
  · rw [mag_small (by rw [e]; exact h), mag_small (by rw [e]; exact h)]
    split <;> omega
theorem mag_shift {r : Md} {b : Bool} {p m k : Nat} : mag r b p (m * 2 ^ k) = mag r b p m * 2 ^ k := by
  by_cases hm : m = 0
  · subst hm
    rw [Nat.zero_mul, mag_small (by rw [show ((0 : Nat) : Int) = 0 from rfl, bits_zero]; omega), Nat.zero_mul]
  have hb : bits ((m * 2 ^ k : Nat) : Int) = bits (m : Int) + k := by
    rw [Int.natCast_mul, Int.natCast_pow]; exact bits_shift (by omega) k
  have hpk := Nat.two_pow_pos k
  by_cases hs : bits (m : Int) ≤ p
  · rw [mag_small hs]
    obtain ⟨j, hj⟩ : ∃ j, j = bits (m : Int) + k - p := ⟨_, rfl⟩
    obtain ⟨i, hi⟩ : ∃ i, k = i + j := ⟨k - j, by omega⟩
    have hpj := Nat.two_pow_pos j
    have e : m * 2 ^ k = m * 2 ^ i * 2 ^ j := by rw [hi, Nat.pow_add, Nat.mul_assoc]
    unfold mag
    split
    · unfold dnN
      rw [hb, ← hj, e, Nat.mul_div_cancel _ hpj]
    · unfold upN
      rw [hb, ← hj, e]
      congr 1
      rw [Nat.add_comm, Nat.add_mul_div_right _ _ hpj, Nat.div_eq_of_lt (by omega), Nat.zero_add]
  · obtain ⟨j, hj⟩ : ∃ j, j = bits (m : Int) - p := ⟨_, rfl⟩
    have e : bits ((m * 2 ^ k : Nat) : Int) - p = j + k := by omega
    have hpj := Nat.two_pow_pos j
    unfold mag
    split
    · unfold dnN
      rw [e, ← hj, Nat.pow_add, Nat.mul_div_mul_right _ _ hpk, Nat.mul_assoc]
    · unfold upN
      rw [e, ← hj, Nat.pow_add]
      have : (m * 2 ^ k + (2 ^ j * 2 ^ k - 1)) / (2 ^ j * 2 ^ k) = (m + (2 ^ j - 1)) / 2 ^ j := by
        rw [Nat.mul_comm (2 ^ j), ← Nat.div_div_eq_div_mul]
        congr 1
        have h1 : m * 2 ^ k + (2 ^ k * 2 ^ j - 1) = (2 ^ k - 1) + 2 ^ k * (m + (2 ^ j - 1)) := by
          have : 2 ^ k * (m + (2 ^ j - 1)) + 2 ^ k = m * 2 ^ k + 2 ^ k * 2 ^ j := by
            rw [← Nat.mul_succ, show (m + (2 ^ j - 1)).succ = m + 2 ^ j by omega, Nat.mul_add, Nat.mul_comm m]
          have h3 : 0 < 2 ^ k * 2 ^ j := Nat.mul_pos hpk hpj
          omega
        rw [h1, Nat.add_mul_div_left _ _ hpk, Nat.div_eq_of_lt (by omega), Nat.zero_add]
      rw [this, Nat.mul_assoc]
/-- rounding of a signed size -/
theorem rr_sv {r : Md} {p : Nat} {b : Bool} {m : Nat} (hp : p ≠ 0) (hm : m ≠ 0) : rr r p (sv b (m : Int)) = sv b (mag r b p m : Nat) := by
  unfold rr
  rw [if_neg hp]
  cases b with
  | false =>
    show (if (m : Int) < 0 then _ else _) = ((mag r false p m : Nat) : Int)
    rw [if_neg (by omega)]
    show ((mag r false p (m : Int).natAbs : Nat) : Int) = _
    rw [Int.natAbs_natCast]
  | true =>
    show (if -(m : Int) < 0 then -((mag r true p (-(m : Int)).natAbs : Nat) : Int) else _) = -((mag r true p m : Nat) : Int)
    rw [if_pos (by omega), Int.natAbs_neg, Int.natAbs_natCast]

/-! ## _normalize -/
theorem sh_val {F : Nat → List Dat → Option Dat} (r : Md) (b : Bool) (x1 x2 x3 x4 x6 x7 : Option Dat) : ev F [some (.int (si b)), x1, x2, x3, x4, some (.str r.s), x6, x7] (.sub (.shd (.loc 5)) (.loc 0)) = some (.int (si (r.tr b))) := by
  have h1 : shTab.lookup r.s = some (.tuple [.int (si (r.tr false)), .int (si (r.tr true))]) := by cases r <;> rfl
  simp only [ev, nth, Option.bind_some, h1]
  cases b with
  | false => exact s_tup ⟨by decide, by show (0 : Int) < 2; decide, by decide⟩ rfl
  | true => exact s_tup ⟨by decide, by show (1 : Int) < 2; decide, by decide⟩ rfl
theorem rnd_ne (r : Md) : evCmp .Eq (.str r.s) (.str (Str.ofString "n")) = some (.bool false) := by
  have h : kqdOk 8 (.str r.s) = true := by cases r <;> decide +kernel
  rw [c_eq h (by decide +kernel)]
  congr 2
  refine decide_eq_false fun e => ?_
  cases r <;> exact absurd (Dat.str.inj e) (by decide)
def tl3 : CS → CS
  | .seq _ (.seq _ (.seq _ t)) => t
  | x => x
theorem fdiv_nat (m k : Nat) : (m : Int).fdiv (2 ^ k) = ((m / 2 ^ k : Nat) : Int) := by
  rw [Int.fdiv_eq_ediv_of_nonneg _ (Int.le_of_lt (Int.pow_pos (by decide)))]
  rw [Int.natCast_ediv, Int.natCast_pow]; rfl
theorem norm_tail {F : Nat → List Dat → Option Dat} (h21 : ∀ a : Nat, a ≠ 0 → F 21 [.int a] = some (.int (tz a : Nat))) {N : Nat} {b : Bool} {m j : Nat} {e bc : Int} {x4 x5 x6 x7 : Option Dat} (hm : m ≠ 0) (he : e + N = j)
    (hbc : bc - tz m = bits ((od m : Nat) : Int) ∨ od m = 1) : RunL F [tl3 cNormalize0] [some (.int (si b)), some (.int m), some (.int e), some (.int bc), x4, x5, x6, x7] (fun d => d = fp N (sv b ((m : Int) * 2 ^ j))) := by
  obtain ⟨ho1, ho2⟩ := od_spec hm
  have hfp : fp N (sv b ((m : Int) * 2 ^ j)) = t4 (si b) (od m : Nat) (e + tz m) (bits ((od m : Nat) : Int) : Nat) := by
    have e1 : (m : Int) * 2 ^ j = ((od m : Nat) : Int) * 2 ^ (tz m + j) := by
      rw [Int.pow_add, ← Int.mul_assoc]
      congr 1
      conv => lhs; rw [ho2]
      rw [Int.natCast_mul, Int.natCast_pow]; rfl
    rw [e1, fp_mk _ _ ho1]
    congr 1
    omega
  rw [hfp]
  have hm1 := and_one m
  have fin : ∀ (bc' : Int) (x7 : Option Dat), (bc' = bits ((od m : Nat) : Int) ∨ od m = 1) → RunL F [tl3 (tl3 cNormalize0) |> fun _ => .seq (.ite (.cmp .Eq (.loc 1) (.lit (Dat.int 1))) (.seq (.set 3 (.lit (Dat.int 1))) .skip) .skip) (.seq (.ret (.tup (.cons (.loc 0) (.cons (.loc 1) (.cons (.loc 2) (.cons (.loc 3) .nil)))))) .skip)]
      [some (.int (si b)), some (.int (od m : Nat)), some (.int (e + tz m)), some (.int bc'), x4, x5, x6, x7] (fun d => d = t4 (si b) (od m : Nat) (e + tz m) (bits ((od m : Nat) : Int) : Nat)) := by
    intro bc' x7 hb
    refine RunL.seq (RunL.ite (by simp (disch := first | assumption | omega | rfl) only [ev, evs, nth, b_add, b_sub, b_and, b_xor, b_mul, b_shl, b_shr, b_pow, b_div, b_mod, t_int, t_bool, c_lt, c_gt, c_le, c_ge, Option.bind_some, Option.map_some, if_true, Bool.false_eq_true, if_false, c_eq] <;> exact rfl) (by simp only [t_int, t_bool] <;> exact rfl) (fun h => ?_) (fun h => ?_))
    · have h0 : ((od m : Nat) : Int) = 1 := by simpa using h
      have h1 : od m = 1 := by omega
      refine RunL.seq (RunL.set (by simp (disch := first | assumption | omega | rfl) only [ev, evs, nth, b_add, b_sub, b_and, b_xor, b_mul, b_shl, b_shr, b_pow, b_div, b_mod, t_int, t_bool, c_lt, c_gt, c_le, c_ge, Option.bind_some, Option.map_some, if_true, Bool.false_eq_true, if_false] <;> exact rfl) (by simp only [put] <;> exact rfl) (RunL.skip (RunL.seq (RunL.ret (by simp (disch := first | assumption | omega | rfl) only [ev, evs, nth, b_add, b_sub, b_and, b_xor, b_mul, b_shl, b_shr, b_pow, b_div, b_mod, t_int, t_bool, c_lt, c_gt, c_le, c_ge, Option.bind_some, Option.map_some, if_true, Bool.false_eq_true, if_false] <;> exact rfl) ?_))))
      rw [h1]; rfl
    · have h0 : ¬ ((od m : Nat) : Int) = 1 := by simpa using h
      have h1 : od m ≠ 1 := by omega
      refine RunL.skip (RunL.seq (RunL.ret (by simp (disch := first | assumption | omega | rfl) only [ev, evs, nth, b_add, b_sub, b_and, b_xor, b_mul, b_shl, b_shr, b_pow, b_div, b_mod, t_int, t_bool, c_lt, c_gt, c_le, c_ge, Option.bind_some, Option.map_some, if_true, Bool.false_eq_true, if_false] <;> exact rfl) ?_))
      rcases hb with hb | hb
      · rw [hb]; rfl
      · exact absurd hb h1
  refine RunL.seq (RunL.ite (by simp (disch := first | assumption | omega | rfl) only [ev, evs, nth, b_add, b_sub, b_and, b_xor, b_mul, b_shl, b_shr, b_pow, b_div, b_mod, t_int, t_bool, c_lt, c_gt, c_le, c_ge, Option.bind_some, Option.map_some, if_true, Bool.false_eq_true, if_false, hm1] <;> exact rfl) (by simp only [t_int, t_bool] <;> exact rfl) (fun h => ?_) (fun h => ?_))
  · have h1 : m % 2 = 0 := by
      have : ((m % 2 : Nat) : Int) = 0 := by simpa using h
      omega
    have hm21 := h21 m hm
    refine RunL.seq (RunL.set (by simp (disch := first | assumption | omega | rfl) only [ev, evs, nth, b_add, b_sub, b_and, b_xor, b_mul, b_shl, b_shr, b_pow, b_div, b_mod, t_int, t_bool, c_lt, c_gt, c_le, c_ge, Option.bind_some, Option.map_some, if_true, Bool.false_eq_true, if_false, hm21] <;> exact rfl) (by simp only [put] <;> exact rfl) (RunL.seq (RunL.aug rfl (by simp (disch := first | assumption | omega | rfl) only [ev, evs, nth, b_add, b_sub, b_and, b_xor, b_mul, b_shl, b_shr, b_pow, b_div, b_mod, t_int, t_bool, c_lt, c_gt, c_le, c_ge, Option.bind_some, Option.map_some, if_true, Bool.false_eq_true, if_false] <;> exact rfl) (by simp (disch := first | assumption | omega | rfl) only [g_add, g_sub, g_xor, g_shl, g_shr] <;> exact rfl) (by simp only [put] <;> exact rfl) ?_)))
    rw [Int.toNat_natCast, fdiv_nat]
    refine RunL.seq (RunL.aug rfl (by simp (disch := first | assumption | omega | rfl) only [ev, evs, nth, b_add, b_sub, b_and, b_xor, b_mul, b_shl, b_shr, b_pow, b_div, b_mod, t_int, t_bool, c_lt, c_gt, c_le, c_ge, Option.bind_some, Option.map_some, if_true, Bool.false_eq_true, if_false] <;> exact rfl) (by simp (disch := first | assumption | omega | rfl) only [g_add, g_sub, g_xor, g_shl, g_shr] <;> exact rfl) (by simp only [put] <;> exact rfl) (RunL.seq (RunL.aug rfl (by simp (disch := first | assumption | omega | rfl) only [ev, evs, nth, b_add, b_sub, b_and, b_xor, b_mul, b_shl, b_shr, b_pow, b_div, b_mod, t_int, t_bool, c_lt, c_gt, c_le, c_ge, Option.bind_some, Option.map_some, if_true, Bool.false_eq_true, if_false] <;> exact rfl) (by simp (disch := first | assumption | omega | rfl) only [g_add, g_sub, g_xor, g_shl, g_shr] <;> exact rfl) (by simp only [put] <;> exact rfl) (RunL.skip ?_))))
    exact fin _ _ hbc
  · have h1 : m % 2 = 1 := by
      have : ((m % 2 : Nat) : Int) ≠ 0 := by simpa using h
      omega
    have h2 : tz m = 0 := tz_odd h1
    have h3 : od m = m := by
      rw [h2, Nat.pow_zero, Nat.mul_one] at ho2; exact ho2.symm
    have := fin bc x7 (by rw [h2] at hbc; simpa using hbc)
    rw [h2, h3] at this
    refine RunL.skip ?_
    simpa [h2, h3] using this
end Mine

end

/-! # part AM4 -/
section
open PySem PySem.W
set_option maxRecDepth 100000
set_option linter.unusedSimpArgs false
set_option linter.unusedVariables false
namespace Mine
open Classical
theorem bits_nat {m k : Nat} (h1 : 2 ^ k ≤ m) (h2 : m < 2 ^ (k + 1)) : bits (m : Int) = k + 1 := bits_eq (by rw [Int.natAbs_natCast]; exact h1) (by rw [Int.natAbs_natCast]; exact h2)
theorem nat_bits {m : Nat} (h : m ≠ 0) : 2 ^ (bits (m : Int) - 1) ≤ m ∧ m < 2 ^ bits (m : Int) ∧ 0 < bits (m : Int) := by
  have h1 := pow_le_of_bits (x := (m : Int)) (by omega)
  have h2 := lt_bits (x := (m : Int))
  rw [Int.natAbs_natCast] at h1 h2
  exact ⟨h1, h2, bits_pos (by omega)⟩
theorem bits_trunc {m p n : Nat} (h : bits (m : Int) = p + n) (hp : 1 ≤ p) : bits ((m / 2 ^ n : Nat) : Int) = p := by
  have hm : m ≠ 0 := by
    intro e; subst e; rw [show ((0 : Nat) : Int) = 0 from rfl, bits_zero] at h; omega
  obtain ⟨h1, h2, _⟩ := nat_bits hm
  rw [h] at h1 h2
  have hpn := Nat.two_pow_pos n
  have e : p = (p - 1) + 1 := by omega
  rw [e]
  refine bits_nat ?_ ?_
  · rw [Nat.le_div_iff_mul_le hpn, ← Nat.pow_add]
    rw [show p - 1 + n = p + n - 1 by omega]; exact h1
  · rw [Nat.div_lt_iff_lt_mul hpn, ← Nat.pow_add]
    rw [show p - 1 + 1 + n = p + n by omega]; exact h2
theorem bits_ceil {m p n : Nat} (h : bits (m : Int) = p + n) (hp : 1 ≤ p) : bits (((m + (2 ^ n - 1)) / 2 ^ n : Nat) : Int) = p ∨ (m + (2 ^ n - 1)) / 2 ^ n = 2 ^ p := by
  have hm : m ≠ 0 := by
    intro e; subst e; rw [show ((0 : Nat) : Int) = 0 from rfl, bits_zero] at h; omega
  obtain ⟨h1, h2, _⟩ := nat_bits hm
  rw [h] at h1 h2
  have hpn := Nat.two_pow_pos n
  obtain ⟨q, rfl⟩ : ∃ q, p = q + 1 := ⟨p - 1, by omega⟩
  have lo : 2 ^ q ≤ (m + (2 ^ n - 1)) / 2 ^ n := by
    rw [Nat.le_div_iff_mul_le hpn, ← Nat.pow_add]
    rw [show q + 1 + n - 1 = q + n by omega] at h1
    omega
  have hi : (m + (2 ^ n - 1)) / 2 ^ n < 2 ^ (q + 1) + 1 := by
    rw [Nat.div_lt_iff_lt_mul hpn, Nat.add_mul, ← Nat.pow_add]
    omega
  by_cases e : (m + (2 ^ n - 1)) / 2 ^ n = 2 ^ (q + 1)
  · exact .inr e
  · exact .inl (bits_nat lo (by omega))
theorem ceil_fdiv (m n : Nat) : -((-(m : Int)).fdiv (2 ^ n)) = (((m + (2 ^ n - 1)) / 2 ^ n : Nat) : Int) := by
  have hpn : (0 : Int) < 2 ^ n := Int.pow_pos (by decide)
  have hpn' := Nat.two_pow_pos n
  rw [Int.fdiv_eq_ediv_of_nonneg _ (Int.le_of_lt hpn)]
  have e2 : ((2 ^ n : Nat) : Int) = 2 ^ n := by rw [Int.natCast_pow]; rfl
  generalize hq : (m + (2 ^ n - 1)) / 2 ^ n = q
  have h1 := Nat.div_add_mod (m + (2 ^ n - 1)) (2 ^ n)
  have h2 := Nat.mod_lt (m + (2 ^ n - 1)) hpn'
  rw [hq] at h1
  have h3 : (-(m : Int)) / 2 ^ n = -(q : Int) := by
    have hr : (-(m : Int)) = (2 ^ n - 1 - (((m + (2 ^ n - 1)) % 2 ^ n : Nat) : Int)) + (-(q : Int)) * 2 ^ n := by
      have : ((2 ^ n * q + (m + (2 ^ n - 1)) % 2 ^ n : Nat) : Int) = ((m + (2 ^ n - 1) : Nat) : Int) := by rw [h1]
      rw [Int.natCast_add, Int.natCast_mul, e2] at this
      have e3 : ((m + (2 ^ n - 1) : Nat) : Int) = m + (2 ^ n - 1) := by
        rw [Int.natCast_add, Int.natCast_sub hpn', e2]; rfl
      rw [e3] at this
      rw [Int.neg_mul, Int.mul_comm (q : Int)]
      omega
    rw [hr, Int.add_mul_ediv_right _ _ (by omega), Int.ediv_eq_zero_of_lt, Int.zero_add]
    · have : (((m + (2 ^ n - 1)) % 2 ^ n : Nat) : Int) < ((2 ^ n : Nat) : Int) := Int.ofNat_lt.mpr h2
      rw [e2] at this; omega
    · have : (0 : Int) ≤ (((m + (2 ^ n - 1)) % 2 ^ n : Nat) : Int) := Int.natCast_nonneg _
      omega
  rw [h3, Int.neg_neg]
theorem od_bits {m : Nat} (h : m ≠ 0) : (bits (m : Int) : Int) - tz m = bits ((od m : Nat) : Int) := by
  obtain ⟨h1, h2⟩ := od_spec h
  have e : (m : Int) = ((od m : Nat) : Int) * 2 ^ tz m := by
    conv => lhs; rw [h2]
    rw [Int.natCast_mul, Int.natCast_pow]; rfl
  have := bits_shift (a := ((od m : Nat) : Int)) (by omega) (tz m)
  rw [← e] at this
  omega
theorem norm_body {F : Nat → List Dat → Option Dat} (h21 : ∀ a : Nat, a ≠ 0 → F 21 [.int a] = some (.int (tz a : Nat))) {N : Nat} {b : Bool} {m j p : Nat} {e : Int} {r : Md} (hp : 1 ≤ p) (he : e + N = j) :
    RunL F [cNormalize0] [some (.int (si b)), some (.int m), some (.int e), some (.int (bits (m : Int) : Nat)), some (.int p), some (.str r.s), none, none] (fun d => d = fp N (sv b (((mag r b p m : Nat) : Int) * 2 ^ j))) := by
  refine RunL.seq (RunL.ite (by simp (disch := first | assumption | omega | rfl) only [ev, evs, nth, b_add, b_sub, b_and, b_xor, b_mul, b_shl, b_shr, b_pow, b_div, b_mod, t_int, t_bool, c_lt, c_gt, c_le, c_ge, Option.bind_some, Option.map_some, if_true, Bool.false_eq_true, if_false] <;> exact rfl) (by simp only [t_int, t_bool] <;> exact rfl) (fun h => ?_) (fun h => ?_))
  · have hm : m = 0 := by
      have : (m : Int) = 0 := by simpa using h
      omega
    subst hm
    rw [mag_small (by rw [show ((0 : Nat) : Int) = 0 from rfl, bits_zero]; omega)]
    refine RunL.seq (RunL.ret (by simp (disch := first | assumption | omega | rfl) only [ev, evs, nth, b_add, b_sub, b_and, b_xor, b_mul, b_shl, b_shr, b_pow, b_div, b_mod, t_int, t_bool, c_lt, c_gt, c_le, c_ge, Option.bind_some, Option.map_some, if_true, Bool.false_eq_true, if_false] <;> exact rfl) ?_)
    have : sv b (((0 : Nat) : Int) * 2 ^ j) = 0 := by cases b <;> simp [sv]
    rw [this, fp_zero]; rfl
  · have hm : m ≠ 0 := by
      have : (m : Int) ≠ 0 := by simpa using h
      omega
    refine RunL.skip (RunL.seq (RunL.set (by simp (disch := first | assumption | omega | rfl) only [ev, evs, nth, b_add, b_sub, b_and, b_xor, b_mul, b_shl, b_shr, b_pow, b_div, b_mod, t_int, t_bool, c_lt, c_gt, c_le, c_ge, Option.bind_some, Option.map_some, if_true, Bool.false_eq_true, if_false] <;> exact rfl) (by simp only [put] <;> exact rfl) (RunL.seq (RunL.ite (by simp (disch := first | assumption | omega | rfl) only [ev, evs, nth, b_add, b_sub, b_and, b_xor, b_mul, b_shl, b_shr, b_pow, b_div, b_mod, t_int, t_bool, c_lt, c_gt, c_le, c_ge, Option.bind_some, Option.map_some, if_true, Bool.false_eq_true, if_false] <;> exact rfl) (by simp only [t_int, t_bool] <;> exact rfl) (fun h => ?_) (fun h => ?_)))))
    · have h' : (0 : Int) < (bits (m : Int) : Nat) - (p : Int) := by simpa using h
      obtain ⟨n, hn⟩ : ∃ n : Nat, bits (m : Int) = p + n := ⟨bits (m : Int) - p, by omega⟩
      have hn0 : ((bits (m : Int) : Nat) : Int) - (p : Int) = (n : Int) := by omega
      have hsub : bits (m : Int) - p = n := by omega
      have fin : ∀ (m1 : Nat) (x7 : Option Dat), m1 ≠ 0 → (bits (m1 : Int) = p ∨ m1 = 2 ^ p) → mag r b p m = m1 * 2 ^ n →
          RunL F [.seq (.aug 2 .Add (.loc 6)) (.seq (.set 3 (.loc 4)) .skip), tl3 cNormalize0] [some (.int (si b)), some (.int m1), some (.int e), some (.int (bits (m : Int) : Nat)), some (.int p), some (.str r.s), some (.int (n : Int)), x7] (fun d => d = fp N (sv b (((mag r b p m : Nat) : Int) * 2 ^ j))) := by
        intro m1 x7 h1 h2 h3
        have e3 : ((mag r b p m : Nat) : Int) * 2 ^ j = (m1 : Int) * 2 ^ (n + j) := by
          rw [h3, Int.natCast_mul, Int.natCast_pow, Int.mul_assoc, Int.pow_add]; rfl
        rw [e3]
        refine RunL.seq (RunL.aug rfl (by simp (disch := first | assumption | omega | rfl) only [ev, evs, nth, b_add, b_sub, b_and, b_xor, b_mul, b_shl, b_shr, b_pow, b_div, b_mod, t_int, t_bool, c_lt, c_gt, c_le, c_ge, Option.bind_some, Option.map_some, if_true, Bool.false_eq_true, if_false] <;> exact rfl) (by simp (disch := first | assumption | omega | rfl) only [g_add, g_sub, g_xor, g_shl, g_shr] <;> exact rfl) (by simp only [put] <;> exact rfl) (RunL.seq (RunL.set (by simp (disch := first | assumption | omega | rfl) only [ev, evs, nth, b_add, b_sub, b_and, b_xor, b_mul, b_shl, b_shr, b_pow, b_div, b_mod, t_int, t_bool, c_lt, c_gt, c_le, c_ge, Option.bind_some, Option.map_some, if_true, Bool.false_eq_true, if_false] <;> exact rfl) (by simp only [put] <;> exact rfl) (RunL.skip ?_))))
        refine norm_tail h21 h1 (by omega) ?_
        rcases h2 with h2 | h2
        · left; rw [← od_bits h1, h2]
        · right
          have := od_shift (a := 1) rfl p
          rw [Nat.one_mul] at this
          rw [h2, this]
      rw [hn0]
      have hrn := rnd_ne r
      refine RunL.seq (RunL.ite (by simp (disch := first | assumption | omega | rfl) only [ev, evs, nth, b_add, b_sub, b_and, b_xor, b_mul, b_shl, b_shr, b_pow, b_div, b_mod, t_int, t_bool, c_lt, c_gt, c_le, c_ge, Option.bind_some, Option.map_some, if_true, Bool.false_eq_true, if_false, hrn] <;> exact rfl) (by simp only [t_int, t_bool] <;> exact rfl) (fun h => by cases h) (fun _ => ?_))
      refine RunL.seq (RunL.ite (sh_val r b _ _ _ _ _ _) (by simp only [t_int, t_bool] <;> exact rfl) (fun h => ?_) (fun h => ?_))
      · have htr : r.tr b = true := by
          cases q : r.tr b
          · rw [q] at h; simp [si] at h
          · rfl
        refine RunL.seq (RunL.aug rfl (by simp (disch := first | assumption | omega | rfl) only [ev, evs, nth, b_add, b_sub, b_and, b_xor, b_mul, b_shl, b_shr, b_pow, b_div, b_mod, t_int, t_bool, c_lt, c_gt, c_le, c_ge, Option.bind_some, Option.map_some, if_true, Bool.false_eq_true, if_false] <;> exact rfl) (by simp (disch := first | assumption | omega | rfl) only [g_add, g_sub, g_xor, g_shl, g_shr] <;> exact rfl) (by simp only [put] <;> exact rfl) (RunL.skip (RunL.skip ?_)))
        rw [Int.toNat_natCast, fdiv_nat]
        refine fin (m / 2 ^ n) none ?_ (.inl (bits_trunc hn hp)) ?_
        · intro z
          have := bits_trunc hn hp
          rw [z, show ((0 : Nat) : Int) = 0 from rfl, bits_zero] at this; omega
        · unfold mag dnN; rw [if_pos htr, hsub]
      · have htr : r.tr b = false := by
          cases q : r.tr b
          · rfl
          · rw [q] at h; simp [si] at h
        refine RunL.seq (RunL.set (by simp (disch := first | assumption | omega | rfl) only [ev, evs, nth, b_add, b_sub, b_and, b_xor, b_mul, b_shl, b_shr, b_pow, b_div, b_mod, t_int, t_bool, c_lt, c_gt, c_le, c_ge, Option.bind_some, Option.map_some, if_true, Bool.false_eq_true, if_false] <;> exact rfl) (by simp only [put] <;> exact rfl) (RunL.skip (RunL.skip ?_)))
        rw [Int.toNat_natCast, ceil_fdiv]
        refine fin ((m + (2 ^ n - 1)) / 2 ^ n) none ?_ (bits_ceil hn hp) ?_
        · intro z
          rcases bits_ceil hn hp with q | q
          · rw [z, show ((0 : Nat) : Int) = 0 from rfl, bits_zero] at q; omega
          · have := Nat.two_pow_pos p; omega
        · unfold mag upN; rw [if_neg (by rw [htr]; decide), hsub]
    · have h' : ¬ (0 : Int) < (bits (m : Int) : Nat) - (p : Int) := by simpa using h
      rw [mag_small (by omega)]
      refine RunL.skip ?_
      exact norm_tail h21 hm he (.inl (od_bits hm))
theorem norm0_spec (n : Nat) {N : Nat} (b : Bool) (m j : Nat) {p : Nat} {e : Int} (r : Md) (hp : 1 ≤ p) (he : e + N = j) : Fn Tb (n + 2) 37 [.int (si b), .int m, .int e, .int (bits (m : Int) : Nat), .int p, .str r.s] = some (fp N (sv b (((mag r b p m : Nat) : Int) * 2 ^ j))) :=
  Fn_of (fd := fd37) rfl rfl (norm_body (trailing_spec n) hp he)
theorem norm_spec (n : Nat) {N : Nat} (b : Bool) (m j : Nat) {p : Nat} {e : Int} (r : Md) (hp : 1 ≤ p) (he : e + N = j) : Fn Tb (n + 3) 44 [.int (si b), .int m, .int e, .int (bits (m : Int) : Nat), .int p, .str r.s] = some (fp N (sv b (((mag r b p m : Nat) : Int) * 2 ^ j))) := by
  have h37 := norm0_spec n b m j r hp he
  refine Fn_of (fd := fd44) rfl (by simp only [ini, fd44, List.length_cons, List.length_nil, List.map_cons, List.map_nil, List.cons_append, List.nil_append, List.drop_succ_cons, List.drop_zero, List.drop_nil, List.replicate_succ, List.replicate_zero, Nat.reduceAdd, Nat.reduceSub, Nat.reduceLeDiff, and_self, if_true] <;> exact rfl) ?_
  generalize Fn Tb (n + 2) = F at h37 ⊢
  refine RunL.seq (RunL.asrt (by simp (disch := first | assumption | omega | rfl) only [ev, evs, nth, b_add, b_sub, b_and, b_xor, b_mul, b_shl, b_shr, b_pow, b_div, b_mod, t_int, t_bool, c_lt, c_gt, c_le, c_ge, Option.bind_some, Option.map_some, if_true, Bool.false_eq_true, if_false, c_eq] <;> exact rfl) (by simp only [t_bool, decide_true]) (RunL.seq (RunL.asrt (by simp (disch := first | assumption | omega | rfl) only [ev, evs, nth, b_add, b_sub, b_and, b_xor, b_mul, b_shl, b_shr, b_pow, b_div, b_mod, t_int, t_bool, c_lt, c_gt, c_le, c_ge, Option.bind_some, Option.map_some, if_true, Bool.false_eq_true, if_false] <;> exact rfl) (by simp only [t_bool, Int.natCast_nonneg, decide_true]) (RunL.seq (RunL.ret (by simp (disch := first | assumption | omega | rfl) only [ev, evs, nth, b_add, b_sub, b_and, b_xor, b_mul, b_shl, b_shr, b_pow, b_div, b_mod, t_int, t_bool, c_lt, c_gt, c_le, c_ge, Option.bind_some, Option.map_some, if_true, Bool.false_eq_true, if_false, h37] <;> exact rfl) rfl)))))
end Mine

end

/-! # part AM5 -/
section
open PySem PySem.W
set_option maxRecDepth 100000
set_option linter.unusedSimpArgs false
set_option linter.unusedVariables false
namespace Mine
open Classical
theorem norm_zero (n : Nat) {s e p : Int} {r : Md} : Fn Tb (n + 3) 44 [.int s, .int 0, .int e, .int 0, .int p, .str r.s] = some (t4 0 0 0 0) := by
  have h37 : Fn Tb (n + 2) 37 [.int s, .int 0, .int e, .int 0, .int p, .str r.s] = some (t4 0 0 0 0) := by
    refine Fn_of (fd := fd37) rfl (by simp only [ini, fd37, List.length_cons, List.length_nil, List.map_cons, List.map_nil, List.cons_append, List.nil_append, List.drop_succ_cons, List.drop_zero, List.drop_nil, List.replicate_succ, List.replicate_zero, Nat.reduceAdd, Nat.reduceSub, Nat.reduceLeDiff, and_self, if_true] <;> exact rfl) ?_
    refine RunL.seq (RunL.ite (by simp (disch := first | assumption | omega | rfl) only [ev, evs, nth, t4, b_add, b_sub, b_and, b_xor, b_mul, b_shl, b_shr, b_pow, b_div, b_mod, t_int, t_bool, c_lt, c_gt, c_le, c_ge, Option.bind_some, Option.map_some, if_true, Bool.false_eq_true, if_false] <;> exact rfl) (by simp only [t_int, t_bool] <;> exact rfl) (fun h => ?_) (fun h => by cases h))
    exact RunL.seq (RunL.ret (by simp (disch := first | assumption | omega | rfl) only [ev, evs, nth, t4, b_add, b_sub, b_and, b_xor, b_mul, b_shl, b_shr, b_pow, b_div, b_mod, t_int, t_bool, c_lt, c_gt, c_le, c_ge, Option.bind_some, Option.map_some, if_true, Bool.false_eq_true, if_false] <;> exact rfl) rfl)
  refine Fn_of (fd := fd44) rfl (by simp only [ini, fd44, List.length_cons, List.length_nil, List.map_cons, List.map_nil, List.cons_append, List.nil_append, List.drop_succ_cons, List.drop_zero, List.drop_nil, List.replicate_succ, List.replicate_zero, Nat.reduceAdd, Nat.reduceSub, Nat.reduceLeDiff, and_self, if_true] <;> exact rfl) ?_
  generalize Fn Tb (n + 2) = F at h37 ⊢
  have hb : ((bits 0 : Nat) : Int) = 0 := rfl
  refine RunL.seq (RunL.asrt (by simp (disch := first | assumption | omega | rfl) only [ev, evs, nth, t4, b_add, b_sub, b_and, b_xor, b_mul, b_shl, b_shr, b_pow, b_div, b_mod, t_int, t_bool, c_lt, c_gt, c_le, c_ge, Option.bind_some, Option.map_some, if_true, Bool.false_eq_true, if_false, c_eq, hb] <;> exact rfl) (by simp only [t_bool, decide_true]) (RunL.seq (RunL.asrt (by simp (disch := first | assumption | omega | rfl) only [ev, evs, nth, t4, b_add, b_sub, b_and, b_xor, b_mul, b_shl, b_shr, b_pow, b_div, b_mod, t_int, t_bool, c_lt, c_gt, c_le, c_ge, Option.bind_some, Option.map_some, if_true, Bool.false_eq_true, if_false] <;> exact rfl) (by simp only [t_bool]; rfl) (RunL.seq (RunL.ret (by simp (disch := first | assumption | omega | rfl) only [ev, evs, nth, t4, b_add, b_sub, b_and, b_xor, b_mul, b_shl, b_shr, b_pow, b_div, b_mod, t_int, t_bool, c_lt, c_gt, c_le, c_ge, Option.bind_some, Option.map_some, if_true, Bool.false_eq_true, if_false, h37] <;> exact rfl) rfl)))))
/-- normalize with «prec or bc» -/
theorem nrm (n : Nat) {N : Nat} (b : Bool) (m j p : Nat) {e P : Int} (r : Md) (he : e + N = j) (hP : P = if p = 0 then ((bits (m : Int) : Nat) : Int) else p) :
    Fn Tb (n + 3) 44 [.int (si b), .int m, .int e, .int (bits (m : Int) : Nat), .int P, .str r.s] = some (fp N (rr r p (sv b ((m : Int) * 2 ^ j)))) := by
  by_cases hm : m = 0
  · subst hm
    have e0 : sv b (((0 : Nat) : Int) * 2 ^ j) = 0 := by cases b <;> simp [sv]
    rw [e0, rr_small (by rw [bits_zero]; omega), fp_zero]
    exact norm_zero n
  · have e1 : sv b ((m : Int) * 2 ^ j) = sv b ((m * 2 ^ j : Nat) : Int) := by rw [Int.natCast_mul, Int.natCast_pow]; rfl
    have hpj := Nat.two_pow_pos j
    have hmj : m * 2 ^ j ≠ 0 := Nat.mul_ne_zero hm (by omega)
    by_cases hp : p = 0
    · subst hp
      rw [if_pos rfl] at hP
      subst hP
      rw [norm_spec n b m j r (nat_bits hm).2.2 he, mag_small (Nat.le_refl _)]
      rfl
    · rw [if_neg hp] at hP
      subst hP
      rw [norm_spec n b m j r (by omega) he, e1, rr_sv hp hmj, mag_shift, Int.natCast_mul, Int.natCast_pow]
      rfl

/-! ## sign, neg, pos -/
theorem ok4 {a b c d : Int} : kqdOk 8 (.tuple [.int a, .int b, .int c, .int d]) = true := rfl
theorem ne4 {a b c d a' b' c' d' : Int} (h : d ≠ d') : (Dat.tuple [.int a, .int b, .int c, .int d] = Dat.tuple [.int a', .int b', .int c', .int d']) = False := by simp [h]
theorem sign_spec (n N : Nat) (X : Int) : Fn Tb (n + 1) 95 [fp N X] = some (.int X.sign) := by
  by_cases h : X = 0
  · subst h
    rw [fp_zero]
    refine Fn_of (fd := fd95) rfl (by simp only [ini, fd95, List.length_cons, List.length_nil, List.map_cons, List.map_nil, List.cons_append, List.nil_append, List.drop_succ_cons, List.drop_zero, List.drop_nil, List.replicate_succ, List.replicate_zero, Nat.reduceAdd, Nat.reduceSub, Nat.reduceLeDiff, and_self, if_true] <;> exact rfl) ?_
    generalize Fn Tb n = F
    refine RunL.seq (RunL.unp (by simp (disch := first | assumption | omega | rfl) only [ev, evs, nth, t4, b_add, b_sub, b_and, b_xor, b_mul, b_shl, b_shr, b_pow, b_div, b_mod, t_int, t_bool, c_lt, c_gt, c_le, c_ge, Option.bind_some, Option.map_some, if_true, Bool.false_eq_true, if_false] <;> exact rfl) (by simp only [puts, put, List.reverse_cons, List.reverse_nil, List.nil_append, List.cons_append] <;> exact rfl) (RunL.seq (RunL.ite (by simp (disch := first | assumption | omega | rfl) only [ev, evs, nth, t4, b_add, b_sub, b_and, b_xor, b_mul, b_shl, b_shr, b_pow, b_div, b_mod, t_int, t_bool, c_lt, c_gt, c_le, c_ge, Option.bind_some, Option.map_some, if_true, Bool.false_eq_true, if_false] <;> exact rfl) (by simp only [t_int, t_bool] <;> exact rfl) (fun h => ?_) (fun h => by cases h))))
    refine RunL.seq (RunL.ite (by simp (disch := first | assumption | omega | rfl) only [ev, evs, nth, t4, b_add, b_sub, b_and, b_xor, b_mul, b_shl, b_shr, b_pow, b_div, b_mod, t_int, t_bool, c_lt, c_gt, c_le, c_ge, Option.bind_some, Option.map_some, if_true, Bool.false_eq_true, if_false, c_eq] <;> exact rfl) (by simp; rfl) (fun h => by cases h) (fun h => RunL.skip ?_))
    refine RunL.seq (RunL.ite (by simp (disch := first | assumption | omega | rfl) only [ev, evs, nth, t4, b_add, b_sub, b_and, b_xor, b_mul, b_shl, b_shr, b_pow, b_div, b_mod, t_int, t_bool, c_lt, c_gt, c_le, c_ge, Option.bind_some, Option.map_some, if_true, Bool.false_eq_true, if_false, c_eq] <;> exact rfl) (by simp; rfl) (fun h => by cases h) (fun h => RunL.skip ?_))
    exact RunL.seq (RunL.ret (by simp (disch := first | assumption | omega | rfl) only [ev, evs, nth, t4, b_add, b_sub, b_and, b_xor, b_mul, b_shl, b_shr, b_pow, b_div, b_mod, t_int, t_bool, c_lt, c_gt, c_le, c_ge, Option.bind_some, Option.map_some, if_true, Bool.false_eq_true, if_false] <;> exact rfl) rfl)
  · obtain ⟨b, a, k, ha, rfl⟩ := split_int h
    rw [fp_mk N b ha]
    refine Fn_of (fd := fd95) rfl (by simp only [ini, fd95, List.length_cons, List.length_nil, List.map_cons, List.map_nil, List.cons_append, List.nil_append, List.drop_succ_cons, List.drop_zero, List.drop_nil, List.replicate_succ, List.replicate_zero, Nat.reduceAdd, Nat.reduceSub, Nat.reduceLeDiff, and_self, if_true] <;> exact rfl) ?_
    generalize Fn Tb n = F
    have ha0 : ((a : Int) != 0) = true := by simp; omega
    refine RunL.seq (RunL.unp (by simp (disch := first | assumption | omega | rfl) only [ev, evs, nth, t4, b_add, b_sub, b_and, b_xor, b_mul, b_shl, b_shr, b_pow, b_div, b_mod, t_int, t_bool, c_lt, c_gt, c_le, c_ge, Option.bind_some, Option.map_some, if_true, Bool.false_eq_true, if_false] <;> exact rfl) (by simp only [puts, put, List.reverse_cons, List.reverse_nil, List.nil_append, List.cons_append] <;> exact rfl) (RunL.seq (RunL.ite (by simp (disch := first | assumption | omega | rfl) only [ev, evs, nth, t4, b_add, b_sub, b_and, b_xor, b_mul, b_shl, b_shr, b_pow, b_div, b_mod, t_int, t_bool, c_lt, c_gt, c_le, c_ge, Option.bind_some, Option.map_some, if_true, Bool.false_eq_true, if_false, ha0] <;> exact rfl) (by simp only [t_int, t_bool] <;> exact rfl) (fun h => by cases h) (fun h => RunL.skip ?_))))
    have hp : 0 < (a : Int) * 2 ^ k := Int.mul_pos (by omega) (Int.pow_pos (by decide))
    have hs : (sv b ((a : Int) * 2 ^ k)).sign = (-1) ^ (si b).toNat := by
      cases b
      · exact Int.sign_eq_one_of_pos hp
      · exact Int.sign_eq_neg_one_of_neg (by show -((a : Int) * 2 ^ k) < 0; omega)
    rw [hs]
    have h0 : 0 ≤ si b := by cases b <;> decide
    have h1 : ((bits (-1) : Nat) : Int) * si b ≤ 2 ^ 27 := by cases b <;> decide
    exact RunL.seq (RunL.ret (by simp (disch := first | assumption | omega | rfl) only [ev, evs, nth, t4, b_add, b_sub, b_and, b_xor, b_mul, b_shl, b_shr, b_pow, b_div, b_mod, t_int, t_bool, c_lt, c_gt, c_le, c_ge, Option.bind_some, Option.map_some, if_true, Bool.false_eq_true, if_false] <;> exact rfl) rfl)
theorem sv_not (b : Bool) (x : Int) : sv (!b) x = -sv b x := by cases b <;> simp [sv]
theorem si_not (b : Bool) : 1 - si b = si (!b) := by cases b <;> rfl
theorem neg_spec (n N p : Nat) (r : Md) (X : Int) : Fn Tb (n + 4) 88 [fp N X, .int p, .str r.s] = some (fp N (rr r p (-X))) := by
  by_cases h : X = 0
  · subst h
    rw [Int.neg_zero, rr_small (by rw [bits_zero]; omega), fp_zero]
    refine Fn_of (fd := fd88) rfl (by simp only [ini, fd88, List.length_cons, List.length_nil, List.map_cons, List.map_nil, List.cons_append, List.nil_append, List.drop_succ_cons, List.drop_zero, List.drop_nil, List.replicate_succ, List.replicate_zero, Nat.reduceAdd, Nat.reduceSub, Nat.reduceLeDiff, and_self, if_true] <;> exact rfl) ?_
    generalize Fn Tb (n + 3) = F
    refine RunL.seq (RunL.unp (by simp (disch := first | assumption | omega | rfl) only [ev, evs, nth, t4, b_add, b_sub, b_and, b_xor, b_mul, b_shl, b_shr, b_pow, b_div, b_mod, t_int, t_bool, c_lt, c_gt, c_le, c_ge, Option.bind_some, Option.map_some, if_true, Bool.false_eq_true, if_false] <;> exact rfl) (by simp only [puts, put, List.reverse_cons, List.reverse_nil, List.nil_append, List.cons_append] <;> exact rfl) (RunL.seq (RunL.ite (by simp (disch := first | assumption | omega | rfl) only [ev, evs, nth, t4, b_add, b_sub, b_and, b_xor, b_mul, b_shl, b_shr, b_pow, b_div, b_mod, t_int, t_bool, c_lt, c_gt, c_le, c_ge, Option.bind_some, Option.map_some, if_true, Bool.false_eq_true, if_false] <;> exact rfl) (by simp only [t_int, t_bool] <;> exact rfl) (fun h => ?_) (fun h => by cases h))))
    refine RunL.seq (RunL.ite (by simp (disch := first | assumption | omega | rfl) only [ev, evs, nth, t4, b_add, b_sub, b_and, b_xor, b_mul, b_shl, b_shr, b_pow, b_div, b_mod, t_int, t_bool, c_lt, c_gt, c_le, c_ge, Option.bind_some, Option.map_some, if_true, Bool.false_eq_true, if_false] <;> exact rfl) (by simp only [t_int, t_bool] <;> exact rfl) (fun h => by cases h) (fun h => RunL.skip ?_))
    exact RunL.seq (RunL.ret (by simp (disch := first | assumption | omega | rfl) only [ev, evs, nth, t4, b_add, b_sub, b_and, b_xor, b_mul, b_shl, b_shr, b_pow, b_div, b_mod, t_int, t_bool, c_lt, c_gt, c_le, c_ge, Option.bind_some, Option.map_some, if_true, Bool.false_eq_true, if_false] <;> exact rfl) rfl)
  · obtain ⟨b, a, k, ha, rfl⟩ := split_int h
    rw [fp_mk N b ha]
    have hk : fp N (rr r p (-sv b ((a : Int) * 2 ^ k))) = fp N (rr r p (sv (!b) ((a : Int) * 2 ^ k))) := by rw [sv_not]
    rw [hk]
    refine Fn_of (fd := fd88) rfl (by simp only [ini, fd88, List.length_cons, List.length_nil, List.map_cons, List.map_nil, List.cons_append, List.nil_append, List.drop_succ_cons, List.drop_zero, List.drop_nil, List.replicate_succ, List.replicate_zero, Nat.reduceAdd, Nat.reduceSub, Nat.reduceLeDiff, and_self, if_true] <;> exact rfl) ?_
    have ha0 : ((a : Int) != 0) = true := by simp; omega
    have h44 := nrm n (N := N) (!b) a k p (e := (k : Int) - N) (P := p) r (by omega)
    generalize Fn Tb (n + 3) = F at h44 ⊢
    have hsi := si_not b
    refine RunL.seq (RunL.unp (by simp (disch := first | assumption | omega | rfl) only [ev, evs, nth, t4, b_add, b_sub, b_and, b_xor, b_mul, b_shl, b_shr, b_pow, b_div, b_mod, t_int, t_bool, c_lt, c_gt, c_le, c_ge, Option.bind_some, Option.map_some, if_true, Bool.false_eq_true, if_false] <;> exact rfl) (by simp only [puts, put, List.reverse_cons, List.reverse_nil, List.nil_append, List.cons_append] <;> exact rfl) (RunL.seq (RunL.ite (by simp (disch := first | assumption | omega | rfl) only [ev, evs, nth, t4, b_add, b_sub, b_and, b_xor, b_mul, b_shl, b_shr, b_pow, b_div, b_mod, t_int, t_bool, c_lt, c_gt, c_le, c_ge, Option.bind_some, Option.map_some, if_true, Bool.false_eq_true, if_false, ha0] <;> exact rfl) (by simp only [t_int, t_bool] <;> exact rfl) (fun h => by cases h) (fun h => RunL.skip ?_))))
    refine RunL.seq (RunL.ite (by simp (disch := first | assumption | omega | rfl) only [ev, evs, nth, t4, b_add, b_sub, b_and, b_xor, b_mul, b_shl, b_shr, b_pow, b_div, b_mod, t_int, t_bool, c_lt, c_gt, c_le, c_ge, Option.bind_some, Option.map_some, if_true, Bool.false_eq_true, if_false] <;> exact rfl) (by simp only [t_int, t_bool] <;> exact rfl) (fun h => ?_) (fun h => RunL.skip ?_))
    · have hp : p = 0 := by
        have : (p : Int) = 0 := by simpa using h
        omega
      subst hp
      have : rr r 0 (sv (!b) ((a : Int) * 2 ^ k)) = sv (!b) ((a : Int) * 2 ^ k) := rfl
      rw [this, fp_mk N (!b) ha]
      exact RunL.seq (RunL.ret (by simp (disch := first | assumption | omega | rfl) only [ev, evs, nth, t4, b_add, b_sub, b_and, b_xor, b_mul, b_shl, b_shr, b_pow, b_div, b_mod, t_int, t_bool, c_lt, c_gt, c_le, c_ge, Option.bind_some, Option.map_some, if_true, Bool.false_eq_true, if_false, hsi] <;> exact rfl) rfl)
    · have hp : p ≠ 0 := by
        have : (p : Int) ≠ 0 := by simpa using h
        omega
      have h44' := h44 (by rw [if_neg hp])
      exact RunL.seq (RunL.ret (by simp (disch := first | assumption | omega | rfl) only [ev, evs, nth, t4, b_add, b_sub, b_and, b_xor, b_mul, b_shl, b_shr, b_pow, b_div, b_mod, t_int, t_bool, c_lt, c_gt, c_le, c_ge, Option.bind_some, Option.map_some, if_true, Bool.false_eq_true, if_false, hsi, h44'] <;> exact rfl) rfl)
theorem neg1_spec (n N : Nat) (X : Int) : Fn Tb (n + 4) 88 [fp N X] = some (fp N (-X)) := by
  have := neg_spec n N 0 .d X
  have e : rr .d 0 (-X) = -X := rfl
  rw [e] at this
  rw [← this]; rfl
theorem pos_spec (n N p : Nat) (r : Md) (X : Int) : Fn Tb (n + 4) 80 [fp N X, .int p, .str r.s] = some (fp N (rr r p X)) := by
  refine Fn_of (fd := fd80) rfl (by simp only [ini, fd80, List.length_cons, List.length_nil, List.map_cons, List.map_nil, List.cons_append, List.nil_append, List.drop_succ_cons, List.drop_zero, List.drop_nil, List.replicate_succ, List.replicate_zero, Nat.reduceAdd, Nat.reduceSub, Nat.reduceLeDiff, and_self, if_true] <;> exact rfl) ?_
  by_cases hp : p = 0
  · subst hp
    refine RunL.seq (RunL.ite (by simp (disch := first | assumption | omega | rfl) only [ev, evs, nth, t4, b_add, b_sub, b_and, b_xor, b_mul, b_shl, b_shr, b_pow, b_div, b_mod, t_int, t_bool, c_lt, c_gt, c_le, c_ge, Option.bind_some, Option.map_some, if_true, Bool.false_eq_true, if_false] <;> exact rfl) (by simp only [t_int, t_bool] <;> exact rfl) (fun h => by cases h) (fun h => RunL.skip ?_))
    exact RunL.seq (RunL.ret (by simp (disch := first | assumption | omega | rfl) only [ev, evs, nth, t4, b_add, b_sub, b_and, b_xor, b_mul, b_shl, b_shr, b_pow, b_div, b_mod, t_int, t_bool, c_lt, c_gt, c_le, c_ge, Option.bind_some, Option.map_some, if_true, Bool.false_eq_true, if_false] <;> exact rfl) rfl)
  have hp0 : ((p : Int) != 0) = true := by simp; omega
  by_cases h : X = 0
  · subst h
    rw [rr_small (by rw [bits_zero]; omega), fp_zero]
    have h44 := norm_zero n (s := 0) (e := 0) (p := p) (r := r)
    generalize Fn Tb (n + 3) = F at h44 ⊢
    refine RunL.seq (RunL.ite (by simp (disch := first | assumption | omega | rfl) only [ev, evs, nth, t4, b_add, b_sub, b_and, b_xor, b_mul, b_shl, b_shr, b_pow, b_div, b_mod, t_int, t_bool, c_lt, c_gt, c_le, c_ge, Option.bind_some, Option.map_some, if_true, Bool.false_eq_true, if_false] <;> exact rfl) (by simp only [t_int, t_bool] <;> exact rfl) (fun h => ?_) (fun h => by rw [hp0] at h; cases h))
    refine RunL.seq (RunL.unp (by simp (disch := first | assumption | omega | rfl) only [ev, evs, nth, t4, b_add, b_sub, b_and, b_xor, b_mul, b_shl, b_shr, b_pow, b_div, b_mod, t_int, t_bool, c_lt, c_gt, c_le, c_ge, Option.bind_some, Option.map_some, if_true, Bool.false_eq_true, if_false] <;> exact rfl) (by simp only [puts, put, List.reverse_cons, List.reverse_nil, List.nil_append, List.cons_append] <;> exact rfl) (RunL.seq (RunL.ite (by simp (disch := first | assumption | omega | rfl) only [ev, evs, nth, t4, b_add, b_sub, b_and, b_xor, b_mul, b_shl, b_shr, b_pow, b_div, b_mod, t_int, t_bool, c_lt, c_gt, c_le, c_ge, Option.bind_some, Option.map_some, if_true, Bool.false_eq_true, if_false] <;> exact rfl) (by simp only [t_int, t_bool] <;> exact rfl) (fun h => by cases h) (fun h => RunL.skip ?_))))
    have h44' : F 44 [.int 0, .int 0, .int 0, .int 0, .int p, .str r.s] = some (.tuple [.int 0, .int 0, .int 0, .int 0]) := h44
    exact RunL.seq (RunL.ret (by simp (disch := first | assumption | omega | rfl) only [ev, evs, nth, t4, b_add, b_sub, b_and, b_xor, b_mul, b_shl, b_shr, b_pow, b_div, b_mod, t_int, t_bool, c_lt, c_gt, c_le, c_ge, Option.bind_some, Option.map_some, if_true, Bool.false_eq_true, if_false, h44'] <;> exact rfl) rfl)
  · obtain ⟨b, a, k, ha, rfl⟩ := split_int h
    rw [fp_mk N b ha]
    have ha0 : ((a : Int) != 0) = true := by simp; omega
    have h44 := nrm n (N := N) b a k p (e := (k : Int) - N) (P := p) r (by omega) (by rw [if_neg hp])
    generalize Fn Tb (n + 3) = F at h44 ⊢
    refine RunL.seq (RunL.ite (by simp (disch := first | assumption | omega | rfl) only [ev, evs, nth, t4, b_add, b_sub, b_and, b_xor, b_mul, b_shl, b_shr, b_pow, b_div, b_mod, t_int, t_bool, c_lt, c_gt, c_le, c_ge, Option.bind_some, Option.map_some, if_true, Bool.false_eq_true, if_false] <;> exact rfl) (by simp only [t_int, t_bool] <;> exact rfl) (fun h => ?_) (fun h => by rw [hp0] at h; cases h))
    refine RunL.seq (RunL.unp (by simp (disch := first | assumption | omega | rfl) only [ev, evs, nth, t4, b_add, b_sub, b_and, b_xor, b_mul, b_shl, b_shr, b_pow, b_div, b_mod, t_int, t_bool, c_lt, c_gt, c_le, c_ge, Option.bind_some, Option.map_some, if_true, Bool.false_eq_true, if_false] <;> exact rfl) (by simp only [puts, put, List.reverse_cons, List.reverse_nil, List.nil_append, List.cons_append] <;> exact rfl) (RunL.seq (RunL.ite (by simp (disch := first | assumption | omega | rfl) only [ev, evs, nth, t4, b_add, b_sub, b_and, b_xor, b_mul, b_shl, b_shr, b_pow, b_div, b_mod, t_int, t_bool, c_lt, c_gt, c_le, c_ge, Option.bind_some, Option.map_some, if_true, Bool.false_eq_true, if_false, ha0, Bool.not_true] <;> exact rfl) (by simp only [t_int, t_bool] <;> exact rfl) (fun h => by cases h) (fun h => RunL.skip ?_))))
    exact RunL.seq (RunL.ret (by simp (disch := first | assumption | omega | rfl) only [ev, evs, nth, t4, b_add, b_sub, b_and, b_xor, b_mul, b_shl, b_shr, b_pow, b_div, b_mod, t_int, t_bool, c_lt, c_gt, c_le, c_ge, Option.bind_some, Option.map_some, if_true, Bool.false_eq_true, if_false, h44] <;> exact rfl) rfl)
end Mine

end

/-! # part AM6 -/
section
open PySem PySem.W
set_option maxRecDepth 100000
set_option linter.unusedSimpArgs false
set_option linter.unusedVariables false
namespace Mine
open Classical
theorem xor_si (b c : Bool) : Builtin.bitXor (si b) (si c) = si (xor b c) := by cases b <;> cases c <;> decide
theorem eq_si (b c : Bool) : (Dat.int (si b) = Dat.int (si c)) = (b = c) := by cases b <;> cases c <;> simp [si]
/-- the ends of mpf_add: what is reckoned is a signed size at the lower exponent -/
def tlA : CS → CS
  | .seq _ (.seq _ (.seq _ (.seq t _))) => t
  | x => x
def bodA : CS → CS
  | .ite _ b _ => b
  | x => x
/-- a signed size out of two -/
theorem comb (b1 b2 : Bool) (A C : Nat) : ∃ (b : Bool) (m : Nat), sv b (m : Int) = sv b1 (A : Int) + sv b2 (C : Int) ∧
    ((b1 = b2 ∧ b = b1 ∧ (m : Int) = C + A) ∨ (b1 ≠ b2 ∧ ((b1 = true ∧ ((b = false ∧ 0 ≤ (C : Int) - A ∧ (m : Int) = C - A) ∨ (b = true ∧ ¬ 0 ≤ (C : Int) - A ∧ (m : Int) = -(C - A)))) ∨
      (b1 = false ∧ ((b = false ∧ 0 ≤ (A : Int) - C ∧ (m : Int) = A - C) ∨ (b = true ∧ ¬ 0 ≤ (A : Int) - C ∧ (m : Int) = -(A - C))))))) := by
  cases b1 <;> cases b2
  · exact ⟨false, C + A, by simp [sv]; omega, .inl ⟨rfl, rfl, by omega⟩⟩
  · by_cases h : C ≤ A
    · exact ⟨false, A - C, by simp only [sv]; simp; omega, .inr ⟨by decide, .inr ⟨rfl, .inl ⟨rfl, by omega, by omega⟩⟩⟩⟩
    · exact ⟨true, C - A, by simp only [sv]; simp; omega, .inr ⟨by decide, .inr ⟨rfl, .inr ⟨rfl, by omega, by omega⟩⟩⟩⟩
  · by_cases h : A ≤ C
    · exact ⟨false, C - A, by simp only [sv]; simp; omega, .inr ⟨by decide, .inl ⟨rfl, .inl ⟨rfl, by omega, by omega⟩⟩⟩⟩
    · exact ⟨true, A - C, by simp only [sv]; simp; omega, .inr ⟨by decide, .inl ⟨rfl, .inr ⟨rfl, by omega, by omega⟩⟩⟩⟩
  · exact ⟨true, C + A, by simp [sv]; omega, .inl ⟨rfl, rfl, by omega⟩⟩
theorem sv_mul (b : Bool) (m k : Int) : sv b m * k = sv b (m * k) := by cases b <;> simp [sv, Int.neg_mul]
/-- the three blocks of mpf_add, by their shape: eT the size that stands, eS the one that is shifted, sg the sign asked, er the exponent -/
def blk (eT eS : CE) (cmpE : CE) (sg : Nat) (er : Nat) : CS :=
  .seq (.ite cmpE (.seq (.set 15 (.bin .Add eT eS)) .skip) (.seq (.ite (.loc sg) (.seq (.set 15 (.bin .Sub eT eS)) .skip) (.seq (.set 15 (.bin .Sub eS eT)) .skip))
    (.seq (.ite (.cmp .GtE (.loc 15) (.lit (Dat.int 0))) (.seq (.set 5 (.lit (Dat.int 0))) .skip) (.seq (.set 15 (.neg (.loc 15))) (.seq (.set 5 (.lit (Dat.int 1))) .skip))) .skip)))
   (.seq (.set 16 (.blen (.loc 15))) (.seq (.ret (.call 44 (.cons (.loc 5) (.cons (.loc 15) (.cons (.loc er) (.cons (.loc 16) (.cons (.or (.loc 2) (.loc 16)) (.cons (.loc 3) .nil)))))))) .skip))
theorem blk_ok {F : Nat → List Dat → Option Dat} {N : Nat} {b1 b2 : Bool} {A C j p : Nat} {r : Md} {e : Int} {eT eS cE : CE} {sg er : Nat} {st : List CS} {x0 x1 x4 y6 y7 y8 y10 y11 y12 y13 y14 y15 y16 : Option Dat} {sA sC : Bool}
    (h44 : ∀ (b : Bool) (m : Nat) (e P : Int), e + N = j → (P = if p = 0 then ((bits (m : Int) : Nat) : Int) else p) → F 44 [.int (si b), .int m, .int e, .int (bits (m : Int) : Nat), .int P, .str r.s] = some (fp N (rr r p (sv b ((m : Int) * 2 ^ j)))))
    (he : e + N = j) (her : (er = 7 ∧ y7 = some (.int e)) ∨ (er = 11 ∧ y11 = some (.int e)))
    (hsg : (sg = 5 ∧ sA = b1 ∧ sC = b2) ∨ (sg = 9 ∧ sA = b2 ∧ sC = b1))
    (hc : ∀ x5 x9, x5 = some (Dat.int (si sA)) → x9 = some (Dat.int (si sC)) → ev F [x0, x1, some (.int p), some (.str r.s), x4, x5, y6, y7, y8, x9, y10, y11, y12, y13, y14, y15, y16] cE = some (.bool (decide (b1 = b2))))
    (hT : ∀ x15, ev F [x0, x1, some (.int p), some (.str r.s), x4, some (.int (si sA)), y6, y7, y8, some (.int (si sC)), y10, y11, y12, y13, y14, x15, y16] eT = some (.int C))
    (hS : ∀ x15, ev F [x0, x1, some (.int p), some (.str r.s), x4, some (.int (si sA)), y6, y7, y8, some (.int (si sC)), y10, y11, y12, y13, y14, x15, y16] eS = some (.int A)) :
    (sA = sC → sA = b1) → RunL F (blk eT eS cE sg er :: st) [x0, x1, some (.int p), some (.str r.s), x4, some (.int (si sA)), y6, y7, y8, some (.int (si sC)), y10, y11, y12, y13, y14, y15, y16]
      (fun d => d = fp N (rr r p (sv b1 ((A : Int) * 2 ^ j) + sv b2 ((C : Int) * 2 ^ j)))) := by
  intro hAC
  obtain ⟨b, m, hm, hcase⟩ := comb b1 b2 A C
  have hval : sv b1 ((A : Int) * 2 ^ j) + sv b2 ((C : Int) * 2 ^ j) = sv b ((m : Int) * 2 ^ j) := by
    rw [← sv_mul, ← sv_mul, ← Int.add_mul, ← hm, sv_mul]
  rw [hval]
  have hpp : ((p : Int) != 0) = decide (p ≠ 0) := by
    by_cases h : p = 0
    · subst h; rfl
    · rw [decide_eq_true h]; simp; omega
  -- the end
  have fin : ∀ x16, RunL F (.seq (.set 16 (.blen (.loc 15))) (.seq (.ret (.call 44 (.cons (.loc 5) (.cons (.loc 15) (.cons (.loc er) (.cons (.loc 16) (.cons (.or (.loc 2) (.loc 16)) (.cons (.loc 3) .nil)))))))) .skip) :: st)
      [x0, x1, some (.int p), some (.str r.s), x4, some (.int (si b)), y6, y7, y8, some (.int (si sC)), y10, y11, y12, y13, y14, some (.int m), x16] (fun d => d = fp N (rr r p (sv b ((m : Int) * 2 ^ j)))) := by
    intro x16
    refine RunL.seq (RunL.set (by simp (disch := first | assumption | omega | rfl) only [ev, evs, nth, t4, b_add, b_sub, b_and, b_xor, b_mul, b_shl, b_shr, b_pow, b_div, b_mod, t_int, t_bool, c_lt, c_gt, c_le, c_ge, Option.bind_some, Option.map_some, if_true, Bool.false_eq_true, if_false] <;> exact rfl) (by simp only [put] <;> exact rfl) (RunL.seq ?_))
    by_cases hp : p = 0
    · subst hp
      have h := h44 b m e ((bits (m : Int) : Nat) : Int) he (by rw [if_pos rfl])
      have hq : (((0 : Nat) : Int) != 0) = false := rfl
      rcases her with ⟨rfl, rfl⟩ | ⟨rfl, rfl⟩
      · exact RunL.ret (by simp (disch := first | assumption | omega | rfl) only [ev, evs, nth, t4, b_add, b_sub, b_and, b_xor, b_mul, b_shl, b_shr, b_pow, b_div, b_mod, t_int, t_bool, c_lt, c_gt, c_le, c_ge, Option.bind_some, Option.map_some, if_true, Bool.false_eq_true, if_false, hq, h] <;> exact rfl) rfl
      · exact RunL.ret (by simp (disch := first | assumption | omega | rfl) only [ev, evs, nth, t4, b_add, b_sub, b_and, b_xor, b_mul, b_shl, b_shr, b_pow, b_div, b_mod, t_int, t_bool, c_lt, c_gt, c_le, c_ge, Option.bind_some, Option.map_some, if_true, Bool.false_eq_true, if_false, hq, h] <;> exact rfl) rfl
    · have h := h44 b m e p he (by rw [if_neg hp])
      have hq : ((p : Int) != 0) = true := by rw [hpp, decide_eq_true hp]
      rcases her with ⟨rfl, rfl⟩ | ⟨rfl, rfl⟩
      · exact RunL.ret (by simp (disch := first | assumption | omega | rfl) only [ev, evs, nth, t4, b_add, b_sub, b_and, b_xor, b_mul, b_shl, b_shr, b_pow, b_div, b_mod, t_int, t_bool, c_lt, c_gt, c_le, c_ge, Option.bind_some, Option.map_some, if_true, Bool.false_eq_true, if_false, hq, h] <;> exact rfl) rfl
      · exact RunL.ret (by simp (disch := first | assumption | omega | rfl) only [ev, evs, nth, t4, b_add, b_sub, b_and, b_xor, b_mul, b_shl, b_shr, b_pow, b_div, b_mod, t_int, t_bool, c_lt, c_gt, c_le, c_ge, Option.bind_some, Option.map_some, if_true, Bool.false_eq_true, if_false, hq, h] <;> exact rfl) rfl
  unfold blk
  refine RunL.seq (RunL.ite (hc _ _ rfl rfl) (by simp only [t_int, t_bool] <;> exact rfl) (fun h => ?_) (fun h => ?_))
  · have h12 : b1 = b2 := of_decide_eq_true h
    rcases hcase with ⟨_, rfl, hm'⟩ | ⟨hne, _⟩
    · have hb : sA = b := by
        rcases hsg with ⟨_, q1, q2⟩ | ⟨_, q1, q2⟩
        · exact q1
        · rw [q1]; exact h12.symm
      refine RunL.seq (RunL.set (by simp (disch := first | assumption | omega | rfl) only [ev, evs, nth, t4, b_add, b_sub, b_and, b_xor, b_mul, b_shl, b_shr, b_pow, b_div, b_mod, t_int, t_bool, c_lt, c_gt, c_le, c_ge, Option.bind_some, Option.map_some, if_true, Bool.false_eq_true, if_false, hT, hS] <;> exact rfl) (by simp only [put] <;> exact rfl) (RunL.skip ?_))
      rw [← hm', hb]
      exact fin _
    · exact absurd h12 hne
  · have h12 : b1 ≠ b2 := of_decide_eq_false h
    rcases hcase with ⟨q, _⟩ | ⟨_, hcase⟩
    · exact absurd q h12
    · have tail : ∀ (M : Int) x5, ((b = false ∧ 0 ≤ M ∧ (m : Int) = M) ∨ (b = true ∧ ¬ 0 ≤ M ∧ (m : Int) = -M)) →
          RunL F (.seq (.ite (.cmp .GtE (.loc 15) (.lit (Dat.int 0))) (.seq (.set 5 (.lit (Dat.int 0))) .skip) (.seq (.set 15 (.neg (.loc 15))) (.seq (.set 5 (.lit (Dat.int 1))) .skip))) .skip ::
            .seq (.set 16 (.blen (.loc 15))) (.seq (.ret (.call 44 (.cons (.loc 5) (.cons (.loc 15) (.cons (.loc er) (.cons (.loc 16) (.cons (.or (.loc 2) (.loc 16)) (.cons (.loc 3) .nil)))))))) .skip) :: st)
          [x0, x1, some (.int p), some (.str r.s), x4, x5, y6, y7, y8, some (.int (si sC)), y10, y11, y12, y13, y14, some (.int M), y16] (fun d => d = fp N (rr r p (sv b ((m : Int) * 2 ^ j)))) := by
        intro M x5 hM
        refine RunL.seq (RunL.ite (by simp (disch := first | assumption | omega | rfl) only [ev, evs, nth, t4, b_add, b_sub, b_and, b_xor, b_mul, b_shl, b_shr, b_pow, b_div, b_mod, t_int, t_bool, c_lt, c_gt, c_le, c_ge, Option.bind_some, Option.map_some, if_true, Bool.false_eq_true, if_false] <;> exact rfl) (by simp only [t_int, t_bool] <;> exact rfl) (fun h => ?_) (fun h => ?_))
        · have h0 : 0 ≤ M := of_decide_eq_true h
          rcases hM with ⟨rfl, _, hm'⟩ | ⟨_, q, _⟩
          · refine RunL.seq (RunL.set (by simp (disch := first | assumption | omega | rfl) only [ev, evs, nth, t4, b_add, b_sub, b_and, b_xor, b_mul, b_shl, b_shr, b_pow, b_div, b_mod, t_int, t_bool, c_lt, c_gt, c_le, c_ge, Option.bind_some, Option.map_some, if_true, Bool.false_eq_true, if_false] <;> exact rfl) (by simp only [put] <;> exact rfl) (RunL.skip (RunL.skip ?_)))
            rw [← hm']; exact fin _
          · exact absurd h0 q
        · have h0 : ¬ 0 ≤ M := of_decide_eq_false h
          rcases hM with ⟨_, q, _⟩ | ⟨rfl, _, hm'⟩
          · exact absurd q h0
          · refine RunL.seq (RunL.set (by simp (disch := first | assumption | omega | rfl) only [ev, evs, nth, t4, b_add, b_sub, b_and, b_xor, b_mul, b_shl, b_shr, b_pow, b_div, b_mod, t_int, t_bool, c_lt, c_gt, c_le, c_ge, Option.bind_some, Option.map_some, if_true, Bool.false_eq_true, if_false] <;> exact rfl) (by simp only [put] <;> exact rfl) (RunL.seq (RunL.set (by simp (disch := first | assumption | omega | rfl) only [ev, evs, nth, t4, b_add, b_sub, b_and, b_xor, b_mul, b_shl, b_shr, b_pow, b_div, b_mod, t_int, t_bool, c_lt, c_gt, c_le, c_ge, Option.bind_some, Option.map_some, if_true, Bool.false_eq_true, if_false] <;> exact rfl) (by simp only [put] <;> exact rfl) (RunL.skip (RunL.skip ?_)))))
            rw [← hm']; exact fin _
      have hsv : ev F [x0, x1, some (.int p), some (.str r.s), x4, some (.int (si sA)), y6, y7, y8, some (.int (si sC)), y10, y11, y12, y13, y14, y15, y16] (.loc sg) = some (.int (si b1)) := by
        rcases hsg with ⟨rfl, q1, q2⟩ | ⟨rfl, q1, q2⟩
        · rw [q1]; rfl
        · rw [q2]; rfl
      refine RunL.seq (RunL.ite hsv (by simp only [t_int, t_bool] <;> exact rfl) (fun h => ?_) (fun h => ?_))
      · have hb : b1 = true := by
          cases b1
          · simp [si] at h
          · rfl
        rcases hcase with ⟨_, hc'⟩ | ⟨q, _⟩
        · exact RunL.seq (RunL.set (by simp (disch := first | assumption | omega | rfl) only [ev, evs, nth, t4, b_add, b_sub, b_and, b_xor, b_mul, b_shl, b_shr, b_pow, b_div, b_mod, t_int, t_bool, c_lt, c_gt, c_le, c_ge, Option.bind_some, Option.map_some, if_true, Bool.false_eq_true, if_false, hT, hS] <;> exact rfl) (by simp only [put] <;> exact rfl) (RunL.skip (tail _ _ hc')))
        · rw [hb] at q; cases q
      · have hb : b1 = false := by
          cases b1
          · rfl
          · simp [si] at h
        rcases hcase with ⟨q, _⟩ | ⟨_, hc'⟩
        · rw [hb] at q; cases q
        · exact RunL.seq (RunL.set (by simp (disch := first | assumption | omega | rfl) only [ev, evs, nth, t4, b_add, b_sub, b_and, b_xor, b_mul, b_shl, b_shr, b_pow, b_div, b_mod, t_int, t_bool, c_lt, c_gt, c_le, c_ge, Option.bind_some, Option.map_some, if_true, Bool.false_eq_true, if_false, hT, hS] <;> exact rfl) (by simp only [put] <;> exact rfl) (RunL.skip (tail _ _ hc')))
end Mine

end

/-! # part AM7 -/
section
open PySem PySem.W
set_option maxRecDepth 100000
set_option linter.unusedSimpArgs false
set_option linter.unusedVariables false
namespace Mine
open Classical
theorem sv_sv (b c : Bool) (x : Int) : sv c (sv b x) = sv (xor b c) x := by cases b <;> cases c <;> simp [sv]
theorem sv_zero (b : Bool) : sv b 0 = 0 := by cases b <;> rfl
theorem bits_sv (b : Bool) (x : Int) : bits (sv b x) = bits x := by cases b; · rfl
                                                                    · exact bits_neg x
theorem bits_ak {a k : Nat} (h : a % 2 = 1) (b : Bool) : bits (sv b ((a : Int) * 2 ^ k)) = bits (a : Int) + k := by rw [bits_sv]; exact bits_shift (by omega) k
theorem cast_shift (a d : Nat) : (a : Int) * 2 ^ d = ((a * 2 ^ d : Nat) : Int) := by rw [Int.natCast_mul, Int.natCast_pow]; rfl
theorem add_spec (n N p : Nat) (r : Md) (X Y : Int) (sub : Bool) (hX : bits X ≤ 10000) (hY : bits Y ≤ 10000) (hcond : p = 0 ∨ (bits X ≤ 100 ∧ bits Y ≤ 100) ∨ bits X = bits Y) :
    Fn Tb (n + 5) 103 [fp N X, fp N Y, .int p, .str r.s, .int (si sub)] = some (fp N (rr r p (X + sv sub Y))) := by
  have h44 := fun (b : Bool) (m j : Nat) (e P : Int) (he : e + N = j) (hP : P = if p = 0 then ((bits (m : Int) : Nat) : Int) else p) => nrm (n + 1) (N := N) b m j p (e := e) (P := P) r he hP
  have h88 := neg1_spec n N Y
  have hpb : ((p : Int) != 0) = decide (p ≠ 0) := by
    by_cases h : p = 0
    · subst h; rfl
    · rw [decide_eq_true h]; simp; omega
  refine Fn_of (fd := fd103) rfl (by simp only [ini, fd103, List.length_cons, List.length_nil, List.map_cons, List.map_nil, List.cons_append, List.nil_append, List.drop_succ_cons, List.drop_zero, List.drop_nil, List.replicate_succ, List.replicate_zero, Nat.reduceAdd, Nat.reduceSub, Nat.reduceLeDiff, and_self, if_true] <;> exact rfl) ?_
  generalize Fn Tb (n + 4) = F at h44 h88 ⊢
  by_cases hx : X = 0
  · subst hx
    rw [Int.zero_add]
    by_cases hy : Y = 0
    · subst hy
      rw [sv_zero, rr_small (by rw [bits_zero]; omega)]
      rw [Int.neg_zero] at h88
      rw [fp_zero] at h88 ⊢
      refine RunL.seq (RunL.unp (by simp (disch := first | assumption | omega | rfl) only [ev, evs, nth, t4, b_add, b_sub, b_and, b_xor, b_mul, b_shl, b_shr, b_pow, b_div, b_mod, t_int, t_bool, c_lt, c_gt, c_le, c_ge, Option.bind_some, Option.map_some, if_true, Bool.false_eq_true, if_false] <;> exact rfl) (by simp only [puts, put, List.reverse_cons, List.reverse_nil, List.nil_append, List.cons_append] <;> exact rfl) (RunL.seq (RunL.unp (by simp (disch := first | assumption | omega | rfl) only [ev, evs, nth, t4, b_add, b_sub, b_and, b_xor, b_mul, b_shl, b_shr, b_pow, b_div, b_mod, t_int, t_bool, c_lt, c_gt, c_le, c_ge, Option.bind_some, Option.map_some, if_true, Bool.false_eq_true, if_false] <;> exact rfl) (by simp only [puts, put, List.reverse_cons, List.reverse_nil, List.nil_append, List.cons_append] <;> exact rfl) (RunL.seq (RunL.aug rfl (by simp (disch := first | assumption | omega | rfl) only [ev, evs, nth, t4, b_add, b_sub, b_and, b_xor, b_mul, b_shl, b_shr, b_pow, b_div, b_mod, t_int, t_bool, c_lt, c_gt, c_le, c_ge, Option.bind_some, Option.map_some, if_true, Bool.false_eq_true, if_false] <;> exact rfl) (by simp (disch := first | assumption | omega | rfl) only [g_add, g_sub, g_xor, g_shl, g_shr] <;> exact rfl) (by simp only [put] <;> exact rfl) ?_)))))
      refine RunL.seq (RunL.ite (by simp (disch := first | assumption | omega | rfl) only [ev, evs, nth, t4, b_add, b_sub, b_and, b_xor, b_mul, b_shl, b_shr, b_pow, b_div, b_mod, t_int, t_bool, c_lt, c_gt, c_le, c_ge, Option.bind_some, Option.map_some, if_true, Bool.false_eq_true, if_false] <;> exact rfl) (by simp only [t_int, t_bool] <;> exact rfl) (fun h => by cases h) (fun h => RunL.skip ?_))
      refine RunL.seq (RunL.ite (by simp (disch := first | assumption | omega | rfl) only [ev, evs, nth, t4, b_add, b_sub, b_and, b_xor, b_mul, b_shl, b_shr, b_pow, b_div, b_mod, t_int, t_bool, c_lt, c_gt, c_le, c_ge, Option.bind_some, Option.map_some, if_true, Bool.false_eq_true, if_false] <;> exact rfl) (by simp only [t_int, t_bool] <;> exact rfl) (fun h => ?_) (fun h => ?_))
      · have h88' : F 88 [.tuple [.int 0, .int 0, .int 0, .int 0]] = some (.tuple [.int 0, .int 0, .int 0, .int 0]) := h88
        refine RunL.seq (RunL.set (by simp (disch := first | assumption | omega | rfl) only [ev, evs, nth, t4, b_add, b_sub, b_and, b_xor, b_mul, b_shl, b_shr, b_pow, b_div, b_mod, t_int, t_bool, c_lt, c_gt, c_le, c_ge, Option.bind_some, Option.map_some, if_true, Bool.false_eq_true, if_false, h88'] <;> exact rfl) (by simp only [put] <;> exact rfl) (RunL.skip ?_))
        refine RunL.seq (RunL.ite (by simp (disch := first | assumption | omega | rfl) only [ev, evs, nth, t4, b_add, b_sub, b_and, b_xor, b_mul, b_shl, b_shr, b_pow, b_div, b_mod, t_int, t_bool, c_lt, c_gt, c_le, c_ge, Option.bind_some, Option.map_some, if_true, Bool.false_eq_true, if_false] <;> exact rfl) (by simp only [t_int, t_bool] <;> exact rfl) (fun h => ?_) (fun h => by cases h))
        refine RunL.seq (RunL.ite (by simp (disch := first | assumption | omega | rfl) only [ev, evs, nth, t4, b_add, b_sub, b_and, b_xor, b_mul, b_shl, b_shr, b_pow, b_div, b_mod, t_int, t_bool, c_lt, c_gt, c_le, c_ge, Option.bind_some, Option.map_some, if_true, Bool.false_eq_true, if_false] <;> exact rfl) (by simp only [t_int, t_bool] <;> exact rfl) (fun h => by cases h) (fun h => RunL.skip ?_))
        refine RunL.seq (RunL.ite (by simp (disch := first | assumption | omega | rfl) only [ev, evs, nth, t4, b_add, b_sub, b_and, b_xor, b_mul, b_shl, b_shr, b_pow, b_div, b_mod, t_int, t_bool, c_lt, c_gt, c_le, c_ge, Option.bind_some, Option.map_some, if_true, Bool.false_eq_true, if_false] <;> exact rfl) (by simp only [t_int, t_bool] <;> exact rfl) (fun h => by cases h) (fun h => RunL.skip ?_))
        exact RunL.seq (RunL.ret (by simp (disch := first | assumption | omega | rfl) only [ev, evs, nth, t4, b_add, b_sub, b_and, b_xor, b_mul, b_shl, b_shr, b_pow, b_div, b_mod, t_int, t_bool, c_lt, c_gt, c_le, c_ge, Option.bind_some, Option.map_some, if_true, Bool.false_eq_true, if_false] <;> exact rfl) rfl)
      · refine RunL.skip ?_
        refine RunL.seq (RunL.ite (by simp (disch := first | assumption | omega | rfl) only [ev, evs, nth, t4, b_add, b_sub, b_and, b_xor, b_mul, b_shl, b_shr, b_pow, b_div, b_mod, t_int, t_bool, c_lt, c_gt, c_le, c_ge, Option.bind_some, Option.map_some, if_true, Bool.false_eq_true, if_false] <;> exact rfl) (by simp only [t_int, t_bool] <;> exact rfl) (fun h => ?_) (fun h => by cases h))
        refine RunL.seq (RunL.ite (by simp (disch := first | assumption | omega | rfl) only [ev, evs, nth, t4, b_add, b_sub, b_and, b_xor, b_mul, b_shl, b_shr, b_pow, b_div, b_mod, t_int, t_bool, c_lt, c_gt, c_le, c_ge, Option.bind_some, Option.map_some, if_true, Bool.false_eq_true, if_false] <;> exact rfl) (by simp only [t_int, t_bool] <;> exact rfl) (fun h => by cases h) (fun h => RunL.skip ?_))
        refine RunL.seq (RunL.ite (by simp (disch := first | assumption | omega | rfl) only [ev, evs, nth, t4, b_add, b_sub, b_and, b_xor, b_mul, b_shl, b_shr, b_pow, b_div, b_mod, t_int, t_bool, c_lt, c_gt, c_le, c_ge, Option.bind_some, Option.map_some, if_true, Bool.false_eq_true, if_false] <;> exact rfl) (by simp only [t_int, t_bool] <;> exact rfl) (fun h => by cases h) (fun h => RunL.skip ?_))
        exact RunL.seq (RunL.ret (by simp (disch := first | assumption | omega | rfl) only [ev, evs, nth, t4, b_add, b_sub, b_and, b_xor, b_mul, b_shl, b_shr, b_pow, b_div, b_mod, t_int, t_bool, c_lt, c_gt, c_le, c_ge, Option.bind_some, Option.map_some, if_true, Bool.false_eq_true, if_false] <;> exact rfl) rfl)
    · obtain ⟨b, c, k, hc, rfl⟩ := split_int hy
      rw [sv_sv]
      rw [← sv_not] at h88
      rw [fp_mk N b hc] at h88 ⊢
      rw [fp_mk N (!b) hc] at h88
      rw [fp_zero]
      have hc0 : ((c : Int) != 0) = true := by simp; omega
      have hxor := xor_si b sub
      have fin : ∀ (st : List CS) (x1 x13 x14 x15 x16 : Option Dat), RunL F (.seq (.ret (.call 44 (.cons (.loc 9) (.cons (.loc 10) (.cons (.loc 11) (.cons (.loc 12) (.cons (.or (.loc 2) (.loc 12)) (.cons (.loc 3) .nil)))))))) .skip :: st)
          [some (t4 0 0 0 0), x1, some (.int p), some (.str r.s), some (.int (si sub)), some (.int 0), some (.int 0), some (.int 0), some (.int 0), some (.int (si (xor b sub))), some (.int c), some (.int ((k : Int) - N)), some (.int (bits (c : Int) : Nat)), x13, x14, x15, x16]
          (fun d => d = fp N (rr r p (sv (xor b sub) ((c : Int) * 2 ^ k)))) := by
        intro st x1 x13 x14 x15 x16
        by_cases hp : p = 0
        · subst hp
          have h := h44 (xor b sub) c k ((k : Int) - N) _ (by omega) (by rw [if_pos rfl])
          have hq : (((0 : Nat) : Int) != 0) = false := rfl
          exact RunL.seq (RunL.ret (by simp (disch := first | assumption | omega | rfl) only [ev, evs, nth, t4, b_add, b_sub, b_and, b_xor, b_mul, b_shl, b_shr, b_pow, b_div, b_mod, t_int, t_bool, c_lt, c_gt, c_le, c_ge, Option.bind_some, Option.map_some, if_true, Bool.false_eq_true, if_false, hq, h] <;> exact rfl) rfl)
        · have h := h44 (xor b sub) c k ((k : Int) - N) p (by omega) (by rw [if_neg hp])
          have hq : ((p : Int) != 0) = true := by rw [hpb, decide_eq_true hp]
          exact RunL.seq (RunL.ret (by simp (disch := first | assumption | omega | rfl) only [ev, evs, nth, t4, b_add, b_sub, b_and, b_xor, b_mul, b_shl, b_shr, b_pow, b_div, b_mod, t_int, t_bool, c_lt, c_gt, c_le, c_ge, Option.bind_some, Option.map_some, if_true, Bool.false_eq_true, if_false, hq, h] <;> exact rfl) rfl)
      refine RunL.seq (RunL.unp (by simp (disch := first | assumption | omega | rfl) only [ev, evs, nth, t4, b_add, b_sub, b_and, b_xor, b_mul, b_shl, b_shr, b_pow, b_div, b_mod, t_int, t_bool, c_lt, c_gt, c_le, c_ge, Option.bind_some, Option.map_some, if_true, Bool.false_eq_true, if_false] <;> exact rfl) (by simp only [puts, put, List.reverse_cons, List.reverse_nil, List.nil_append, List.cons_append] <;> exact rfl) (RunL.seq (RunL.unp (by simp (disch := first | assumption | omega | rfl) only [ev, evs, nth, t4, b_add, b_sub, b_and, b_xor, b_mul, b_shl, b_shr, b_pow, b_div, b_mod, t_int, t_bool, c_lt, c_gt, c_le, c_ge, Option.bind_some, Option.map_some, if_true, Bool.false_eq_true, if_false] <;> exact rfl) (by simp only [puts, put, List.reverse_cons, List.reverse_nil, List.nil_append, List.cons_append] <;> exact rfl) (RunL.seq (RunL.aug rfl (by simp (disch := first | assumption | omega | rfl) only [ev, evs, nth, t4, b_add, b_sub, b_and, b_xor, b_mul, b_shl, b_shr, b_pow, b_div, b_mod, t_int, t_bool, c_lt, c_gt, c_le, c_ge, Option.bind_some, Option.map_some, if_true, Bool.false_eq_true, if_false] <;> exact rfl) (by simp (disch := first | assumption | omega | rfl) only [g_add, g_sub, g_xor, g_shl, g_shr, hxor] <;> exact rfl) (by simp only [put] <;> exact rfl) ?_)))))
      refine RunL.seq (RunL.ite (by simp (disch := first | assumption | omega | rfl) only [ev, evs, nth, t4, b_add, b_sub, b_and, b_xor, b_mul, b_shl, b_shr, b_pow, b_div, b_mod, t_int, t_bool, c_lt, c_gt, c_le, c_ge, Option.bind_some, Option.map_some, if_true, Bool.false_eq_true, if_false] <;> exact rfl) (by simp only [t_int, t_bool] <;> exact rfl) (fun h => by cases h) (fun h => RunL.skip ?_))
      refine RunL.seq (RunL.ite (by simp (disch := first | assumption | omega | rfl) only [ev, evs, nth, t4, b_add, b_sub, b_and, b_xor, b_mul, b_shl, b_shr, b_pow, b_div, b_mod, t_int, t_bool, c_lt, c_gt, c_le, c_ge, Option.bind_some, Option.map_some, if_true, Bool.false_eq_true, if_false] <;> exact rfl) (by simp only [t_int, t_bool] <;> exact rfl) (fun h => ?_) (fun h => ?_))
      · have h88' : F 88 [.tuple [.int (si b), .int c, .int ((k : Int) - N), .int (bits (c : Int) : Nat)]] = some (.tuple [.int (si (!b)), .int c, .int ((k : Int) - N), .int (bits (c : Int) : Nat)]) := h88
        refine RunL.seq (RunL.set (by simp (disch := first | assumption | omega | rfl) only [ev, evs, nth, t4, b_add, b_sub, b_and, b_xor, b_mul, b_shl, b_shr, b_pow, b_div, b_mod, t_int, t_bool, c_lt, c_gt, c_le, c_ge, Option.bind_some, Option.map_some, if_true, Bool.false_eq_true, if_false, h88'] <;> exact rfl) (by simp only [put] <;> exact rfl) (RunL.skip ?_))
        refine RunL.seq (RunL.ite (by simp (disch := first | assumption | omega | rfl) only [ev, evs, nth, t4, b_add, b_sub, b_and, b_xor, b_mul, b_shl, b_shr, b_pow, b_div, b_mod, t_int, t_bool, c_lt, c_gt, c_le, c_ge, Option.bind_some, Option.map_some, if_true, Bool.false_eq_true, if_false] <;> exact rfl) (by simp only [t_int, t_bool] <;> exact rfl) (fun h => ?_) (fun h => by cases h))
        refine RunL.seq (RunL.ite (by simp (disch := first | assumption | omega | rfl) only [ev, evs, nth, t4, b_add, b_sub, b_and, b_xor, b_mul, b_shl, b_shr, b_pow, b_div, b_mod, t_int, t_bool, c_lt, c_gt, c_le, c_ge, Option.bind_some, Option.map_some, if_true, Bool.false_eq_true, if_false] <;> exact rfl) (by simp only [t_int, t_bool] <;> exact rfl) (fun h => by cases h) (fun h => RunL.skip ?_))
        refine RunL.seq (RunL.ite (by simp (disch := first | assumption | omega | rfl) only [ev, evs, nth, t4, b_add, b_sub, b_and, b_xor, b_mul, b_shl, b_shr, b_pow, b_div, b_mod, t_int, t_bool, c_lt, c_gt, c_le, c_ge, Option.bind_some, Option.map_some, if_true, Bool.false_eq_true, if_false] <;> exact rfl) (by simp only [t_int, t_bool] <;> exact rfl) (fun h => fin _ _ _ _ _ _) (fun h => by rw [hc0] at h; cases h))
      · refine RunL.skip ?_
        refine RunL.seq (RunL.ite (by simp (disch := first | assumption | omega | rfl) only [ev, evs, nth, t4, b_add, b_sub, b_and, b_xor, b_mul, b_shl, b_shr, b_pow, b_div, b_mod, t_int, t_bool, c_lt, c_gt, c_le, c_ge, Option.bind_some, Option.map_some, if_true, Bool.false_eq_true, if_false] <;> exact rfl) (by simp only [t_int, t_bool] <;> exact rfl) (fun h => ?_) (fun h => by cases h))
        refine RunL.seq (RunL.ite (by simp (disch := first | assumption | omega | rfl) only [ev, evs, nth, t4, b_add, b_sub, b_and, b_xor, b_mul, b_shl, b_shr, b_pow, b_div, b_mod, t_int, t_bool, c_lt, c_gt, c_le, c_ge, Option.bind_some, Option.map_some, if_true, Bool.false_eq_true, if_false] <;> exact rfl) (by simp only [t_int, t_bool] <;> exact rfl) (fun h => by cases h) (fun h => RunL.skip ?_))
        refine RunL.seq (RunL.ite (by simp (disch := first | assumption | omega | rfl) only [ev, evs, nth, t4, b_add, b_sub, b_and, b_xor, b_mul, b_shl, b_shr, b_pow, b_div, b_mod, t_int, t_bool, c_lt, c_gt, c_le, c_ge, Option.bind_some, Option.map_some, if_true, Bool.false_eq_true, if_false] <;> exact rfl) (by simp only [t_int, t_bool] <;> exact rfl) (fun h => fin _ _ _ _ _ _) (fun h => by rw [hc0] at h; cases h))
  · obtain ⟨b1, a, i, ha, rfl⟩ := split_int hx
    have ha0 : ((a : Int) != 0) = true := by simp; omega
    by_cases hy : Y = 0
    · subst hy
      rw [sv_zero, Int.add_zero]
      rw [Int.neg_zero] at h88
      rw [fp_zero] at h88 ⊢
      rw [fp_mk N b1 ha]
      have fin : ∀ (st : List CS) (x1 x9 x13 x14 x15 x16 : Option Dat), RunL F (.seq (.ret (.call 44 (.cons (.loc 5) (.cons (.loc 6) (.cons (.loc 7) (.cons (.loc 8) (.cons (.or (.loc 2) (.loc 8)) (.cons (.loc 3) .nil)))))))) .skip :: st)
          [some (t4 (si b1) a ((i : Int) - N) (bits (a : Int) : Nat)), x1, some (.int p), some (.str r.s), some (.int (si sub)), some (.int (si b1)), some (.int a), some (.int ((i : Int) - N)), some (.int (bits (a : Int) : Nat)), x9, some (.int 0), some (.int 0), some (.int 0), x13, x14, x15, x16]
          (fun d => d = fp N (rr r p (sv b1 ((a : Int) * 2 ^ i)))) := by
        intro st x1 x9 x13 x14 x15 x16
        by_cases hp : p = 0
        · subst hp
          have h := h44 b1 a i ((i : Int) - N) _ (by omega) (by rw [if_pos rfl])
          have hq : (((0 : Nat) : Int) != 0) = false := rfl
          exact RunL.seq (RunL.ret (by simp (disch := first | assumption | omega | rfl) only [ev, evs, nth, t4, b_add, b_sub, b_and, b_xor, b_mul, b_shl, b_shr, b_pow, b_div, b_mod, t_int, t_bool, c_lt, c_gt, c_le, c_ge, Option.bind_some, Option.map_some, if_true, Bool.false_eq_true, if_false, hq, h] <;> exact rfl) rfl)
        · have h := h44 b1 a i ((i : Int) - N) p (by omega) (by rw [if_neg hp])
          have hq : ((p : Int) != 0) = true := by rw [hpb, decide_eq_true hp]
          exact RunL.seq (RunL.ret (by simp (disch := first | assumption | omega | rfl) only [ev, evs, nth, t4, b_add, b_sub, b_and, b_xor, b_mul, b_shl, b_shr, b_pow, b_div, b_mod, t_int, t_bool, c_lt, c_gt, c_le, c_ge, Option.bind_some, Option.map_some, if_true, Bool.false_eq_true, if_false, hq, h] <;> exact rfl) rfl)
      refine RunL.seq (RunL.unp (by simp (disch := first | assumption | omega | rfl) only [ev, evs, nth, t4, b_add, b_sub, b_and, b_xor, b_mul, b_shl, b_shr, b_pow, b_div, b_mod, t_int, t_bool, c_lt, c_gt, c_le, c_ge, Option.bind_some, Option.map_some, if_true, Bool.false_eq_true, if_false] <;> exact rfl) (by simp only [puts, put, List.reverse_cons, List.reverse_nil, List.nil_append, List.cons_append] <;> exact rfl) (RunL.seq (RunL.unp (by simp (disch := first | assumption | omega | rfl) only [ev, evs, nth, t4, b_add, b_sub, b_and, b_xor, b_mul, b_shl, b_shr, b_pow, b_div, b_mod, t_int, t_bool, c_lt, c_gt, c_le, c_ge, Option.bind_some, Option.map_some, if_true, Bool.false_eq_true, if_false] <;> exact rfl) (by simp only [puts, put, List.reverse_cons, List.reverse_nil, List.nil_append, List.cons_append] <;> exact rfl) (RunL.seq (RunL.aug rfl (by simp (disch := first | assumption | omega | rfl) only [ev, evs, nth, t4, b_add, b_sub, b_and, b_xor, b_mul, b_shl, b_shr, b_pow, b_div, b_mod, t_int, t_bool, c_lt, c_gt, c_le, c_ge, Option.bind_some, Option.map_some, if_true, Bool.false_eq_true, if_false] <;> exact rfl) (by simp (disch := first | assumption | omega | rfl) only [g_add, g_sub, g_xor, g_shl, g_shr] <;> exact rfl) (by simp only [put] <;> exact rfl) ?_)))))
      refine RunL.seq (RunL.ite (by simp (disch := first | assumption | omega | rfl) only [ev, evs, nth, t4, b_add, b_sub, b_and, b_xor, b_mul, b_shl, b_shr, b_pow, b_div, b_mod, t_int, t_bool, c_lt, c_gt, c_le, c_ge, Option.bind_some, Option.map_some, if_true, Bool.false_eq_true, if_false, ha0] <;> exact rfl) (by simp only [t_int, t_bool] <;> exact rfl) (fun h => by cases h) (fun h => RunL.skip ?_))
      refine RunL.seq (RunL.ite (by simp (disch := first | assumption | omega | rfl) only [ev, evs, nth, t4, b_add, b_sub, b_and, b_xor, b_mul, b_shl, b_shr, b_pow, b_div, b_mod, t_int, t_bool, c_lt, c_gt, c_le, c_ge, Option.bind_some, Option.map_some, if_true, Bool.false_eq_true, if_false] <;> exact rfl) (by simp only [t_int, t_bool] <;> exact rfl) (fun h => ?_) (fun h => ?_))
      · have h88' : F 88 [.tuple [.int 0, .int 0, .int 0, .int 0]] = some (.tuple [.int 0, .int 0, .int 0, .int 0]) := h88
        refine RunL.seq (RunL.set (by simp (disch := first | assumption | omega | rfl) only [ev, evs, nth, t4, b_add, b_sub, b_and, b_xor, b_mul, b_shl, b_shr, b_pow, b_div, b_mod, t_int, t_bool, c_lt, c_gt, c_le, c_ge, Option.bind_some, Option.map_some, if_true, Bool.false_eq_true, if_false, h88'] <;> exact rfl) (by simp only [put] <;> exact rfl) (RunL.skip ?_))
        refine RunL.seq (RunL.ite (by simp (disch := first | assumption | omega | rfl) only [ev, evs, nth, t4, b_add, b_sub, b_and, b_xor, b_mul, b_shl, b_shr, b_pow, b_div, b_mod, t_int, t_bool, c_lt, c_gt, c_le, c_ge, Option.bind_some, Option.map_some, if_true, Bool.false_eq_true, if_false, ha0] <;> exact rfl) (by simp only [t_int, t_bool] <;> exact rfl) (fun h => by cases h) (fun h => RunL.skip ?_))
        refine RunL.seq (RunL.ite (by simp (disch := first | assumption | omega | rfl) only [ev, evs, nth, t4, b_add, b_sub, b_and, b_xor, b_mul, b_shl, b_shr, b_pow, b_div, b_mod, t_int, t_bool, c_lt, c_gt, c_le, c_ge, Option.bind_some, Option.map_some, if_true, Bool.false_eq_true, if_false] <;> exact rfl) (by simp only [t_int, t_bool] <;> exact rfl) (fun h => by cases h) (fun h => RunL.skip ?_))
        exact RunL.seq (RunL.ite (by simp (disch := first | assumption | omega | rfl) only [ev, evs, nth, t4, b_add, b_sub, b_and, b_xor, b_mul, b_shl, b_shr, b_pow, b_div, b_mod, t_int, t_bool, c_lt, c_gt, c_le, c_ge, Option.bind_some, Option.map_some, if_true, Bool.false_eq_true, if_false] <;> exact rfl) (by simp only [t_int, t_bool] <;> exact rfl) (fun h => fin _ _ _ _ _ _ _) (fun h => by rw [ha0] at h; cases h))
      · refine RunL.skip ?_
        refine RunL.seq (RunL.ite (by simp (disch := first | assumption | omega | rfl) only [ev, evs, nth, t4, b_add, b_sub, b_and, b_xor, b_mul, b_shl, b_shr, b_pow, b_div, b_mod, t_int, t_bool, c_lt, c_gt, c_le, c_ge, Option.bind_some, Option.map_some, if_true, Bool.false_eq_true, if_false, ha0] <;> exact rfl) (by simp only [t_int, t_bool] <;> exact rfl) (fun h => by cases h) (fun h => RunL.skip ?_))
        refine RunL.seq (RunL.ite (by simp (disch := first | assumption | omega | rfl) only [ev, evs, nth, t4, b_add, b_sub, b_and, b_xor, b_mul, b_shl, b_shr, b_pow, b_div, b_mod, t_int, t_bool, c_lt, c_gt, c_le, c_ge, Option.bind_some, Option.map_some, if_true, Bool.false_eq_true, if_false] <;> exact rfl) (by simp only [t_int, t_bool] <;> exact rfl) (fun h => by cases h) (fun h => RunL.skip ?_))
        exact RunL.seq (RunL.ite (by simp (disch := first | assumption | omega | rfl) only [ev, evs, nth, t4, b_add, b_sub, b_and, b_xor, b_mul, b_shl, b_shr, b_pow, b_div, b_mod, t_int, t_bool, c_lt, c_gt, c_le, c_ge, Option.bind_some, Option.map_some, if_true, Bool.false_eq_true, if_false] <;> exact rfl) (by simp only [t_int, t_bool] <;> exact rfl) (fun h => fin _ _ _ _ _ _ _) (fun h => by rw [ha0] at h; cases h))
    · obtain ⟨b2, c, j, hc, rfl⟩ := split_int hy
      have hc0 : ((c : Int) != 0) = true := by simp; omega
      rw [sv_sv]
      rw [bits_ak ha] at hX hcond
      rw [bits_ak hc] at hY hcond
      rw [fp_mk N b1 ha, fp_mk N b2 hc]
      have hxor := xor_si b2 sub
      generalize hb3 : xor b2 sub = b3 at hxor ⊢
      have hcmp : ∀ (x0 x1 x2 x3 x4 x6 x7 x8 x10 x11 x12 x13 x14 x15 x16 : Option Dat), ev F [x0, x1, x2, x3, x4, some (.int (si b1)), x6, x7, x8, some (.int (si b3)), x10, x11, x12, x13, x14, x15, x16] (.cmp .Eq (.loc 5) (.loc 9)) = some (.bool (decide (b1 = b3))) := by
        intros
        have h0 : evCmp .Eq (.int (si b1)) (.int (si b3)) = some (.bool (decide (b1 = b3))) := by
          rw [c_eq rfl rfl]
          simp only [eq_si]
        exact (by simp (disch := first | assumption | omega | rfl) only [ev, evs, nth, t4, b_add, b_sub, b_and, b_xor, b_mul, b_shl, b_shr, b_pow, b_div, b_mod, t_int, t_bool, c_lt, c_gt, c_le, c_ge, Option.bind_some, Option.map_some, if_true, Bool.false_eq_true, if_false, h0] <;> exact rfl)
      refine RunL.seq (RunL.unp (by simp (disch := first | assumption | omega | rfl) only [ev, evs, nth, t4, b_add, b_sub, b_and, b_xor, b_mul, b_shl, b_shr, b_pow, b_div, b_mod, t_int, t_bool, c_lt, c_gt, c_le, c_ge, Option.bind_some, Option.map_some, if_true, Bool.false_eq_true, if_false] <;> exact rfl) (by simp only [puts, put, List.reverse_cons, List.reverse_nil, List.nil_append, List.cons_append] <;> exact rfl) (RunL.seq (RunL.unp (by simp (disch := first | assumption | omega | rfl) only [ev, evs, nth, t4, b_add, b_sub, b_and, b_xor, b_mul, b_shl, b_shr, b_pow, b_div, b_mod, t_int, t_bool, c_lt, c_gt, c_le, c_ge, Option.bind_some, Option.map_some, if_true, Bool.false_eq_true, if_false] <;> exact rfl) (by simp only [puts, put, List.reverse_cons, List.reverse_nil, List.nil_append, List.cons_append] <;> exact rfl) (RunL.seq (RunL.aug rfl (by simp (disch := first | assumption | omega | rfl) only [ev, evs, nth, t4, b_add, b_sub, b_and, b_xor, b_mul, b_shl, b_shr, b_pow, b_div, b_mod, t_int, t_bool, c_lt, c_gt, c_le, c_ge, Option.bind_some, Option.map_some, if_true, Bool.false_eq_true, if_false] <;> exact rfl) (by simp (disch := first | assumption | omega | rfl) only [g_add, g_sub, g_xor, g_shl, g_shr, hxor] <;> exact rfl) (by simp only [put] <;> exact rfl) ?_)))))
      refine RunL.seq (RunL.ite (by simp (disch := first | assumption | omega | rfl) only [ev, evs, nth, t4, b_add, b_sub, b_and, b_xor, b_mul, b_shl, b_shr, b_pow, b_div, b_mod, t_int, t_bool, c_lt, c_gt, c_le, c_ge, Option.bind_some, Option.map_some, if_true, Bool.false_eq_true, if_false, ha0] <;> exact rfl) (by simp only [t_int, t_bool] <;> exact rfl) (fun h => ?_) (fun h => by rw [hc0] at h; cases h))
      refine RunL.seq (RunL.set (by simp (disch := first | assumption | omega | rfl) only [ev, evs, nth, t4, b_add, b_sub, b_and, b_xor, b_mul, b_shl, b_shr, b_pow, b_div, b_mod, t_int, t_bool, c_lt, c_gt, c_le, c_ge, Option.bind_some, Option.map_some, if_true, Bool.false_eq_true, if_false] <;> exact rfl) (by simp only [put] <;> exact rfl) ?_)
      rcases Nat.lt_trichotomy j i with hlt | heq | hgt
      · -- the first at the higher exponent
        obtain ⟨d, rfl⟩ : ∃ d, i = j + d := ⟨i - j, by omega⟩
        have hd : ((j + d : Nat) : Int) - N - ((j : Int) - N) = (d : Int) := by omega
        rw [hd]
        have hd0 : ((d : Int) != 0) = true := by simp; omega
        have hdp : decide ((0 : Int) < (d : Int)) = true := decide_eq_true (by omega)
        refine RunL.seq (RunL.ite (by simp (disch := first | assumption | omega | rfl) only [ev, evs, nth, t4, b_add, b_sub, b_and, b_xor, b_mul, b_shl, b_shr, b_pow, b_div, b_mod, t_int, t_bool, c_lt, c_gt, c_le, c_ge, Option.bind_some, Option.map_some, if_true, Bool.false_eq_true, if_false] <;> exact rfl) (by simp only [t_int, t_bool] <;> exact rfl) (fun h => ?_) (fun h => by rw [hd0] at h; cases h))
        refine RunL.seq (RunL.ite (by simp (disch := first | assumption | omega | rfl) only [ev, evs, nth, t4, b_add, b_sub, b_and, b_xor, b_mul, b_shl, b_shr, b_pow, b_div, b_mod, t_int, t_bool, c_lt, c_gt, c_le, c_ge, Option.bind_some, Option.map_some, if_true, Bool.false_eq_true, if_false] <;> exact rfl) (by simp only [t_int, t_bool] <;> exact rfl) (fun h => ?_) (fun h => by rw [hdp] at h; cases h))
        have hres : sv b1 ((a : Int) * 2 ^ (j + d)) + sv b3 ((c : Int) * 2 ^ j) = sv b1 (((a * 2 ^ d : Nat) : Int) * 2 ^ j) + sv b3 ((c : Int) * 2 ^ j) := by
          rw [← cast_shift, Int.mul_assoc, ← Int.pow_add, Nat.add_comm d j]
        rw [hres]
        have main : ∀ (st : List CS) x14, RunL F (blk (.loc 10) (.bin .LShift (.loc 6) (.loc 13)) (.cmp .Eq (.loc 5) (.loc 9)) 5 11 :: st)
            [some (t4 (si b1) a (((j + d : Nat) : Int) - N) (bits (a : Int) : Nat)), some (t4 (si b2) c ((j : Int) - N) (bits (c : Int) : Nat)), some (.int p), some (.str r.s), some (.int (si sub)), some (.int (si b1)), some (.int a), some (.int (((j + d : Nat) : Int) - N)), some (.int (bits (a : Int) : Nat)), some (.int (si b3)), some (.int c), some (.int ((j : Int) - N)), some (.int (bits (c : Int) : Nat)), some (.int d), x14, none, none]
            (fun d' => d' = fp N (rr r p (sv b1 (((a * 2 ^ d : Nat) : Int) * 2 ^ j) + sv b3 ((c : Int) * 2 ^ j)))) := by
          intro st x14
          refine blk_ok (b1 := b1) (b2 := b3) (A := a * 2 ^ d) (C := c) (j := j) (p := p) (e := (j : Int) - N) (sA := b1) (sC := b3) (fun b m e P he hP => h44 b m j e P he hP) (by omega) (.inr ⟨rfl, rfl⟩) (.inl ⟨rfl, rfl, rfl⟩) (fun x5 x9 q1 q2 => by subst q1; subst q2; exact hcmp _ _ _ _ _ _ _ _ _ _ _ _ _ _ _) (fun x15 => rfl) (fun x15 => ?_) (fun _ => rfl)
          rw [← cast_shift]
          have hs1 : (0 : Int) ≤ (d : Int) := by omega
          have hs2 : ((bits (a : Int) : Nat) : Int) + (d : Int) ≤ 2 ^ 27 := by omega
          exact (by simp (disch := first | assumption | omega | rfl) only [ev, evs, nth, t4, b_add, b_sub, b_and, b_xor, b_mul, b_shl, b_shr, b_pow, b_div, b_mod, t_int, t_bool, c_lt, c_gt, c_le, c_ge, Option.bind_some, Option.map_some, if_true, Bool.false_eq_true, if_false, Int.toNat_natCast] <;> exact rfl)
        by_cases h100 : (100 : Int) < (d : Int)
        · have hq : decide ((100 : Int) < (d : Int)) = true := decide_eq_true h100
          by_cases hp : p = 0
          · subst hp
            have hpq : (((0 : Nat) : Int) != 0) = false := rfl
            exact RunL.seq (RunL.ite (by simp (disch := first | assumption | omega | rfl) only [ev, evs, nth, t4, b_add, b_sub, b_and, b_xor, b_mul, b_shl, b_shr, b_pow, b_div, b_mod, t_int, t_bool, c_lt, c_gt, c_le, c_ge, Option.bind_some, Option.map_some, if_true, Bool.false_eq_true, if_false, hq] <;> exact rfl) (by simp only [t_int, t_bool] <;> exact rfl) (fun h => by cases h) (fun h => RunL.skip (main _ _)))
          · have hpq : ((p : Int) != 0) = true := by rw [hpb, decide_eq_true hp]
            refine RunL.seq (RunL.ite (by simp (disch := first | assumption | omega | rfl) only [ev, evs, nth, t4, b_add, b_sub, b_and, b_xor, b_mul, b_shl, b_shr, b_pow, b_div, b_mod, t_int, t_bool, c_lt, c_gt, c_le, c_ge, Option.bind_some, Option.map_some, if_true, Bool.false_eq_true, if_false, hq] <;> exact rfl) (by simp only [t_int, t_bool] <;> exact rfl) (fun h => ?_) (fun h => by rw [hpq] at h; cases h))
            refine RunL.seq (RunL.set (by simp (disch := first | assumption | omega | rfl) only [ev, evs, nth, t4, b_add, b_sub, b_and, b_xor, b_mul, b_shl, b_shr, b_pow, b_div, b_mod, t_int, t_bool, c_lt, c_gt, c_le, c_ge, Option.bind_some, Option.map_some, if_true, Bool.false_eq_true, if_false] <;> exact rfl) (by simp only [put] <;> exact rfl) (RunL.seq (RunL.ite (by simp (disch := first | assumption | omega | rfl) only [ev, evs, nth, t4, b_add, b_sub, b_and, b_xor, b_mul, b_shl, b_shr, b_pow, b_div, b_mod, t_int, t_bool, c_lt, c_gt, c_le, c_ge, Option.bind_some, Option.map_some, if_true, Bool.false_eq_true, if_false] <;> exact rfl) (by simp only [t_int, t_bool] <;> exact rfl) (fun h => ?_) (fun h => RunL.skip (RunL.skip (main _ _))))))
            have h' := of_decide_eq_true h
            omega
        · have hq : decide ((100 : Int) < (d : Int)) = false := decide_eq_false h100
          exact RunL.seq (RunL.ite (by simp (disch := first | assumption | omega | rfl) only [ev, evs, nth, t4, b_add, b_sub, b_and, b_xor, b_mul, b_shl, b_shr, b_pow, b_div, b_mod, t_int, t_bool, c_lt, c_gt, c_le, c_ge, Option.bind_some, Option.map_some, if_true, Bool.false_eq_true, if_false, hq] <;> exact rfl) (by simp only [t_int, t_bool] <;> exact rfl) (fun h => by cases h) (fun h => RunL.skip (main _ _)))
      · -- the same exponent
        subst heq
        have hd : (j : Int) - N - ((j : Int) - N) = 0 := by omega
        rw [hd]
        refine RunL.seq (RunL.ite (by simp (disch := first | assumption | omega | rfl) only [ev, evs, nth, t4, b_add, b_sub, b_and, b_xor, b_mul, b_shl, b_shr, b_pow, b_div, b_mod, t_int, t_bool, c_lt, c_gt, c_le, c_ge, Option.bind_some, Option.map_some, if_true, Bool.false_eq_true, if_false] <;> exact rfl) (by simp only [t_int, t_bool] <;> exact rfl) (fun h => by cases h) (fun h => RunL.skip ?_))
        refine blk_ok (b1 := b1) (b2 := b3) (A := a) (C := c) (j := j) (p := p) (e := (j : Int) - N) (sA := b1) (sC := b3) (fun b m e P he hP => h44 b m j e P he hP) (by omega) (.inr ⟨rfl, rfl⟩) (.inl ⟨rfl, rfl, rfl⟩) (fun x5 x9 q1 q2 => by subst q1; subst q2; exact hcmp _ _ _ _ _ _ _ _ _ _ _ _ _ _ _) (fun x15 => rfl) (fun x15 => rfl) (fun _ => rfl)
      · -- the second at the higher exponent
        obtain ⟨d, rfl⟩ : ∃ d, j = i + d := ⟨j - i, by omega⟩
        have hd : (i : Int) - N - (((i + d : Nat) : Int) - N) = -(d : Int) := by omega
        rw [hd]
        have hd0 : (-(d : Int) != 0) = true := by simp; omega
        have hdp : decide ((0 : Int) < -(d : Int)) = false := decide_eq_false (by omega)
        have hdn : decide (-(d : Int) < 0) = true := decide_eq_true (by omega)
        refine RunL.seq (RunL.ite (by simp (disch := first | assumption | omega | rfl) only [ev, evs, nth, t4, b_add, b_sub, b_and, b_xor, b_mul, b_shl, b_shr, b_pow, b_div, b_mod, t_int, t_bool, c_lt, c_gt, c_le, c_ge, Option.bind_some, Option.map_some, if_true, Bool.false_eq_true, if_false] <;> exact rfl) (by simp only [t_int, t_bool] <;> exact rfl) (fun h => ?_) (fun h => by rw [hd0] at h; cases h))
        refine RunL.seq (RunL.ite (by simp (disch := first | assumption | omega | rfl) only [ev, evs, nth, t4, b_add, b_sub, b_and, b_xor, b_mul, b_shl, b_shr, b_pow, b_div, b_mod, t_int, t_bool, c_lt, c_gt, c_le, c_ge, Option.bind_some, Option.map_some, if_true, Bool.false_eq_true, if_false] <;> exact rfl) (by simp only [t_int, t_bool] <;> exact rfl) (fun h => by rw [hdp] at h; cases h) (fun h => ?_))
        refine RunL.seq (RunL.ite (by simp (disch := first | assumption | omega | rfl) only [ev, evs, nth, t4, b_add, b_sub, b_and, b_xor, b_mul, b_shl, b_shr, b_pow, b_div, b_mod, t_int, t_bool, c_lt, c_gt, c_le, c_ge, Option.bind_some, Option.map_some, if_true, Bool.false_eq_true, if_false] <;> exact rfl) (by simp only [t_int, t_bool] <;> exact rfl) (fun h => ?_) (fun h => by rw [hdn] at h; cases h))
        have hres : sv b1 ((a : Int) * 2 ^ i) + sv b3 ((c : Int) * 2 ^ (i + d)) = sv b3 (((c * 2 ^ d : Nat) : Int) * 2 ^ i) + sv b1 ((a : Int) * 2 ^ i) := by
          rw [← cast_shift, Int.mul_assoc, ← Int.pow_add, Nat.add_comm d i, Int.add_comm]
        rw [hres]
        have main : ∀ (st : List CS) x14, RunL F (blk (.loc 6) (.bin .LShift (.loc 10) (.neg (.loc 13))) (.cmp .Eq (.loc 5) (.loc 9)) 9 7 :: st)
            [some (t4 (si b1) a ((i : Int) - N) (bits (a : Int) : Nat)), some (t4 (si b2) c (((i + d : Nat) : Int) - N) (bits (c : Int) : Nat)), some (.int p), some (.str r.s), some (.int (si sub)), some (.int (si b1)), some (.int a), some (.int ((i : Int) - N)), some (.int (bits (a : Int) : Nat)), some (.int (si b3)), some (.int c), some (.int (((i + d : Nat) : Int) - N)), some (.int (bits (c : Int) : Nat)), some (.int (-(d : Int))), x14, none, none]
            (fun d' => d' = fp N (rr r p (sv b3 (((c * 2 ^ d : Nat) : Int) * 2 ^ i) + sv b1 ((a : Int) * 2 ^ i)))) := by
          intro st x14
          refine blk_ok (b1 := b3) (b2 := b1) (A := c * 2 ^ d) (C := a) (j := i) (p := p) (e := (i : Int) - N) (sA := b1) (sC := b3) (fun b m e P he hP => h44 b m i e P he hP) (by omega) (.inl ⟨rfl, rfl⟩) (.inr ⟨rfl, rfl, rfl⟩) (fun x5 x9 q1 q2 => by subst q1; subst q2; rw [hcmp]; congr 2; exact decide_eq_decide.mpr eq_comm) (fun x15 => rfl) (fun x15 => ?_) (fun q => q)
          rw [← cast_shift]
          have hs1 : (0 : Int) ≤ (d : Int) := by omega
          have hs2 : ((bits (c : Int) : Nat) : Int) + (d : Int) ≤ 2 ^ 27 := by omega
          exact (by simp (disch := first | assumption | omega | rfl) only [ev, evs, nth, t4, b_add, b_sub, b_and, b_xor, b_mul, b_shl, b_shr, b_pow, b_div, b_mod, t_int, t_bool, c_lt, c_gt, c_le, c_ge, Option.bind_some, Option.map_some, if_true, Bool.false_eq_true, if_false, Int.toNat_natCast, Int.neg_neg] <;> exact rfl)
        by_cases h100 : -(d : Int) < -100
        · have hq : decide (-(d : Int) < -100) = true := decide_eq_true h100
          by_cases hp : p = 0
          · subst hp
            have hpq : (((0 : Nat) : Int) != 0) = false := rfl
            exact RunL.seq (RunL.ite (by simp (disch := first | assumption | omega | rfl) only [ev, evs, nth, t4, b_add, b_sub, b_and, b_xor, b_mul, b_shl, b_shr, b_pow, b_div, b_mod, t_int, t_bool, c_lt, c_gt, c_le, c_ge, Option.bind_some, Option.map_some, if_true, Bool.false_eq_true, if_false, hq] <;> exact rfl) (by simp only [t_int, t_bool] <;> exact rfl) (fun h => by cases h) (fun h => RunL.skip (main _ _)))
          · have hpq : ((p : Int) != 0) = true := by rw [hpb, decide_eq_true hp]
            refine RunL.seq (RunL.ite (by simp (disch := first | assumption | omega | rfl) only [ev, evs, nth, t4, b_add, b_sub, b_and, b_xor, b_mul, b_shl, b_shr, b_pow, b_div, b_mod, t_int, t_bool, c_lt, c_gt, c_le, c_ge, Option.bind_some, Option.map_some, if_true, Bool.false_eq_true, if_false, hq] <;> exact rfl) (by simp only [t_int, t_bool] <;> exact rfl) (fun h => ?_) (fun h => by rw [hpq] at h; cases h))
            refine RunL.seq (RunL.set (by simp (disch := first | assumption | omega | rfl) only [ev, evs, nth, t4, b_add, b_sub, b_and, b_xor, b_mul, b_shl, b_shr, b_pow, b_div, b_mod, t_int, t_bool, c_lt, c_gt, c_le, c_ge, Option.bind_some, Option.map_some, if_true, Bool.false_eq_true, if_false] <;> exact rfl) (by simp only [put] <;> exact rfl) (RunL.seq (RunL.ite (by simp (disch := first | assumption | omega | rfl) only [ev, evs, nth, t4, b_add, b_sub, b_and, b_xor, b_mul, b_shl, b_shr, b_pow, b_div, b_mod, t_int, t_bool, c_lt, c_gt, c_le, c_ge, Option.bind_some, Option.map_some, if_true, Bool.false_eq_true, if_false] <;> exact rfl) (by simp only [t_int, t_bool] <;> exact rfl) (fun h => ?_) (fun h => RunL.skip (RunL.skip (main _ _))))))
            have h' := of_decide_eq_true h
            omega
        · have hq : decide (-(d : Int) < -100) = false := decide_eq_false h100
          exact RunL.seq (RunL.ite (by simp (disch := first | assumption | omega | rfl) only [ev, evs, nth, t4, b_add, b_sub, b_and, b_xor, b_mul, b_shl, b_shr, b_pow, b_div, b_mod, t_int, t_bool, c_lt, c_gt, c_le, c_ge, Option.bind_some, Option.map_some, if_true, Bool.false_eq_true, if_false, hq] <;> exact rfl) (by simp only [t_int, t_bool] <;> exact rfl) (fun h => by cases h) (fun h => RunL.skip (main _ _)))
end Mine

end

/-! # part AM8 -/
section
open PySem PySem.W
set_option maxRecDepth 100000
set_option linter.unusedSimpArgs false
set_option linter.unusedVariables false
namespace Mine
open Classical
theorem sub_spec (n N p : Nat) (r : Md) (X Y : Int) (hX : bits X ≤ 10000) (hY : bits Y ≤ 10000) (hcond : p = 0 ∨ (bits X ≤ 100 ∧ bits Y ≤ 100) ∨ bits X = bits Y) :
    Fn Tb (n + 6) 111 [fp N X, fp N Y, .int p, .str r.s] = some (fp N (rr r p (X - Y))) := by
  have h := add_spec n N p r X Y true hX hY hcond
  refine Fn_of (fd := fd111) rfl (by simp only [ini, fd111, List.length_cons, List.length_nil, List.map_cons, List.map_nil, List.cons_append, List.nil_append, List.drop_succ_cons, List.drop_zero, List.drop_nil, List.replicate_succ, List.replicate_zero, Nat.reduceAdd, Nat.reduceSub, Nat.reduceLeDiff, and_self, if_true] <;> exact rfl) ?_
  generalize Fn Tb (n + 5) = F at h ⊢
  have h' : F 103 [fp N X, fp N Y, .int p, .str r.s, .int 1] = some (fp N (rr r p (X - Y))) := h
  exact RunL.seq (RunL.ret (by simp (disch := first | assumption | omega | rfl) only [ev, evs, nth, t4, b_add, b_sub, b_and, b_xor, b_mul, b_shl, b_shr, b_pow, b_div, b_mod, t_int, t_bool, c_lt, c_gt, c_le, c_ge, Option.bind_some, Option.map_some, if_true, Bool.false_eq_true, if_false, h'] <;> exact rfl) rfl)
theorem odd_mul {a c : Nat} (ha : a % 2 = 1) (hc : c % 2 = 1) : (a * c) % 2 = 1 := by rw [Nat.mul_mod, ha, hc]
theorem sv_mul2 (b c : Bool) (x y : Int) : sv b x * sv c y = sv (xor b c) (x * y) := by cases b <;> cases c <;> simp [sv, Int.neg_mul, Int.mul_neg]
theorem mul_spec (n N M p : Nat) (r : Md) (X Y : Int) (hX : bits X ≤ 10000) (hY : bits Y ≤ 10000) : Fn Tb (n + 5) 119 [fp N X, fp M Y, .int p, .str r.s] = some (fp (N + M) (rr r p (X * Y))) := by
  by_cases hxy : X * Y = 0
  · rw [hxy, rr_small (by rw [bits_zero]; omega)]
    rw [fp_zero]
    have hb0 : bits (0 : Int) = 0 := rfl
    by_cases hx : X = 0
    · subst hx
      rw [fp_zero]
      by_cases hy : Y = 0
      · subst hy
        rw [fp_zero]
        refine Fn_of (fd := fd119) rfl (by simp only [ini, fd119, List.length_cons, List.length_nil, List.map_cons, List.map_nil, List.cons_append, List.nil_append, List.drop_succ_cons, List.drop_zero, List.drop_nil, List.replicate_succ, List.replicate_zero, Nat.reduceAdd, Nat.reduceSub, Nat.reduceLeDiff, and_self, if_true] <;> exact rfl) ?_
        generalize Fn Tb (n + 4) = F
        have hsz : bits (0 : Int) + bits (0 : Int) ≤ 2 ^ 26 := by decide
        refine RunL.seq (RunL.unp (by simp (disch := first | assumption | omega | rfl) only [ev, evs, nth, t4, b_add, b_sub, b_and, b_xor, b_mul, b_shl, b_shr, b_pow, b_div, b_mod, t_int, t_bool, c_lt, c_gt, c_le, c_ge, Option.bind_some, Option.map_some, if_true, Bool.false_eq_true, if_false] <;> exact rfl) (by simp only [puts, put, List.reverse_cons, List.reverse_nil, List.nil_append, List.cons_append] <;> exact rfl) (RunL.seq (RunL.unp (by simp (disch := first | assumption | omega | rfl) only [ev, evs, nth, t4, b_add, b_sub, b_and, b_xor, b_mul, b_shl, b_shr, b_pow, b_div, b_mod, t_int, t_bool, c_lt, c_gt, c_le, c_ge, Option.bind_some, Option.map_some, if_true, Bool.false_eq_true, if_false] <;> exact rfl) (by simp only [puts, put, List.reverse_cons, List.reverse_nil, List.nil_append, List.cons_append] <;> exact rfl) (RunL.seq (RunL.set (by simp (disch := first | assumption | omega | rfl) only [ev, evs, nth, t4, b_add, b_sub, b_and, b_xor, b_mul, b_shl, b_shr, b_pow, b_div, b_mod, t_int, t_bool, c_lt, c_gt, c_le, c_ge, Option.bind_some, Option.map_some, if_true, Bool.false_eq_true, if_false] <;> exact rfl) (by simp only [put] <;> exact rfl) (RunL.seq (RunL.set (by simp (disch := first | assumption | omega | rfl) only [ev, evs, nth, t4, b_add, b_sub, b_and, b_xor, b_mul, b_shl, b_shr, b_pow, b_div, b_mod, t_int, t_bool, c_lt, c_gt, c_le, c_ge, Option.bind_some, Option.map_some, if_true, Bool.false_eq_true, if_false, Int.zero_mul] <;> exact rfl) (by simp only [put] <;> exact rfl) ?_)))))))
        refine RunL.seq (RunL.ite (by simp (disch := first | assumption | omega | rfl) only [ev, evs, nth, t4, b_add, b_sub, b_and, b_xor, b_mul, b_shl, b_shr, b_pow, b_div, b_mod, t_int, t_bool, c_lt, c_gt, c_le, c_ge, Option.bind_some, Option.map_some, if_true, Bool.false_eq_true, if_false] <;> exact rfl) (by simp only [t_int, t_bool] <;> exact rfl) (fun h => by cases h) (fun h => RunL.skip ?_))
        refine RunL.seq (RunL.set (by simp (disch := first | assumption | omega | rfl) only [ev, evs, nth, t4, b_add, b_sub, b_and, b_xor, b_mul, b_shl, b_shr, b_pow, b_div, b_mod, t_int, t_bool, c_lt, c_gt, c_le, c_ge, Option.bind_some, Option.map_some, if_true, Bool.false_eq_true, if_false] <;> exact rfl) (by simp only [put] <;> exact rfl) (RunL.seq (RunL.set (by simp (disch := first | assumption | omega | rfl) only [ev, evs, nth, t4, b_add, b_sub, b_and, b_xor, b_mul, b_shl, b_shr, b_pow, b_div, b_mod, t_int, t_bool, c_lt, c_gt, c_le, c_ge, Option.bind_some, Option.map_some, if_true, Bool.false_eq_true, if_false] <;> exact rfl) (by simp only [put] <;> exact rfl) ?_)))
        refine RunL.seq (RunL.ite (by simp (disch := first | assumption | omega | rfl) only [ev, evs, nth, t4, b_add, b_sub, b_and, b_xor, b_mul, b_shl, b_shr, b_pow, b_div, b_mod, t_int, t_bool, c_lt, c_gt, c_le, c_ge, Option.bind_some, Option.map_some, if_true, Bool.false_eq_true, if_false] <;> exact rfl) (by simp only [t_int, t_bool] <;> exact rfl) (fun h => ?_) (fun h => by cases h))
        exact RunL.seq (RunL.ret (by simp (disch := first | assumption | omega | rfl) only [ev, evs, nth, t4, b_add, b_sub, b_and, b_xor, b_mul, b_shl, b_shr, b_pow, b_div, b_mod, t_int, t_bool, c_lt, c_gt, c_le, c_ge, Option.bind_some, Option.map_some, if_true, Bool.false_eq_true, if_false] <;> exact rfl) rfl)
      · obtain ⟨b, c, j, hc, rfl⟩ := split_int hy
        have hc0 : ((c : Int) != 0) = true := by simp; omega
        rw [bits_ak hc] at hY
        rw [fp_mk M b hc]
        refine Fn_of (fd := fd119) rfl (by simp only [ini, fd119, List.length_cons, List.length_nil, List.map_cons, List.map_nil, List.cons_append, List.nil_append, List.drop_succ_cons, List.drop_zero, List.drop_nil, List.replicate_succ, List.replicate_zero, Nat.reduceAdd, Nat.reduceSub, Nat.reduceLeDiff, and_self, if_true] <;> exact rfl) ?_
        generalize Fn Tb (n + 4) = F
        have hsz : bits (0 : Int) + bits (c : Int) ≤ 2 ^ 26 := by omega
        refine RunL.seq (RunL.unp (by simp (disch := first | assumption | omega | rfl) only [ev, evs, nth, t4, b_add, b_sub, b_and, b_xor, b_mul, b_shl, b_shr, b_pow, b_div, b_mod, t_int, t_bool, c_lt, c_gt, c_le, c_ge, Option.bind_some, Option.map_some, if_true, Bool.false_eq_true, if_false] <;> exact rfl) (by simp only [puts, put, List.reverse_cons, List.reverse_nil, List.nil_append, List.cons_append] <;> exact rfl) (RunL.seq (RunL.unp (by simp (disch := first | assumption | omega | rfl) only [ev, evs, nth, t4, b_add, b_sub, b_and, b_xor, b_mul, b_shl, b_shr, b_pow, b_div, b_mod, t_int, t_bool, c_lt, c_gt, c_le, c_ge, Option.bind_some, Option.map_some, if_true, Bool.false_eq_true, if_false] <;> exact rfl) (by simp only [puts, put, List.reverse_cons, List.reverse_nil, List.nil_append, List.cons_append] <;> exact rfl) (RunL.seq (RunL.set (by simp (disch := first | assumption | omega | rfl) only [ev, evs, nth, t4, b_add, b_sub, b_and, b_xor, b_mul, b_shl, b_shr, b_pow, b_div, b_mod, t_int, t_bool, c_lt, c_gt, c_le, c_ge, Option.bind_some, Option.map_some, if_true, Bool.false_eq_true, if_false] <;> exact rfl) (by simp only [put] <;> exact rfl) (RunL.seq (RunL.set (by simp (disch := first | assumption | omega | rfl) only [ev, evs, nth, t4, b_add, b_sub, b_and, b_xor, b_mul, b_shl, b_shr, b_pow, b_div, b_mod, t_int, t_bool, c_lt, c_gt, c_le, c_ge, Option.bind_some, Option.map_some, if_true, Bool.false_eq_true, if_false, Int.zero_mul] <;> exact rfl) (by simp only [put] <;> exact rfl) ?_)))))))
        refine RunL.seq (RunL.ite (by simp (disch := first | assumption | omega | rfl) only [ev, evs, nth, t4, b_add, b_sub, b_and, b_xor, b_mul, b_shl, b_shr, b_pow, b_div, b_mod, t_int, t_bool, c_lt, c_gt, c_le, c_ge, Option.bind_some, Option.map_some, if_true, Bool.false_eq_true, if_false] <;> exact rfl) (by simp only [t_int, t_bool] <;> exact rfl) (fun h => by cases h) (fun h => RunL.skip ?_))
        refine RunL.seq (RunL.set (by simp (disch := first | assumption | omega | rfl) only [ev, evs, nth, t4, b_add, b_sub, b_and, b_xor, b_mul, b_shl, b_shr, b_pow, b_div, b_mod, t_int, t_bool, c_lt, c_gt, c_le, c_ge, Option.bind_some, Option.map_some, if_true, Bool.false_eq_true, if_false] <;> exact rfl) (by simp only [put] <;> exact rfl) (RunL.seq (RunL.set (by simp (disch := first | assumption | omega | rfl) only [ev, evs, nth, t4, b_add, b_sub, b_and, b_xor, b_mul, b_shl, b_shr, b_pow, b_div, b_mod, t_int, t_bool, c_lt, c_gt, c_le, c_ge, Option.bind_some, Option.map_some, if_true, Bool.false_eq_true, if_false, hc0, Bool.not_true] <;> exact rfl) (by simp only [put] <;> exact rfl) ?_)))
        refine RunL.seq (RunL.ite (by simp (disch := first | assumption | omega | rfl) only [ev, evs, nth, t4, b_add, b_sub, b_and, b_xor, b_mul, b_shl, b_shr, b_pow, b_div, b_mod, t_int, t_bool, c_lt, c_gt, c_le, c_ge, Option.bind_some, Option.map_some, if_true, Bool.false_eq_true, if_false] <;> exact rfl) (by simp only [t_int, t_bool] <;> exact rfl) (fun h => ?_) (fun h => by cases h))
        exact RunL.seq (RunL.ret (by simp (disch := first | assumption | omega | rfl) only [ev, evs, nth, t4, b_add, b_sub, b_and, b_xor, b_mul, b_shl, b_shr, b_pow, b_div, b_mod, t_int, t_bool, c_lt, c_gt, c_le, c_ge, Option.bind_some, Option.map_some, if_true, Bool.false_eq_true, if_false] <;> exact rfl) rfl)
    · have hy : Y = 0 := (Int.mul_eq_zero.mp hxy).resolve_left hx
      subst hy
      obtain ⟨b, a, i, ha, rfl⟩ := split_int hx
      have ha0 : ((a : Int) != 0) = true := by simp; omega
      rw [bits_ak ha] at hX
      rw [fp_mk N b ha, fp_zero]
      refine Fn_of (fd := fd119) rfl (by simp only [ini, fd119, List.length_cons, List.length_nil, List.map_cons, List.map_nil, List.cons_append, List.nil_append, List.drop_succ_cons, List.drop_zero, List.drop_nil, List.replicate_succ, List.replicate_zero, Nat.reduceAdd, Nat.reduceSub, Nat.reduceLeDiff, and_self, if_true] <;> exact rfl) ?_
      generalize Fn Tb (n + 4) = F
      have hsz : bits (a : Int) + bits (0 : Int) ≤ 2 ^ 26 := by omega
      refine RunL.seq (RunL.unp (by simp (disch := first | assumption | omega | rfl) only [ev, evs, nth, t4, b_add, b_sub, b_and, b_xor, b_mul, b_shl, b_shr, b_pow, b_div, b_mod, t_int, t_bool, c_lt, c_gt, c_le, c_ge, Option.bind_some, Option.map_some, if_true, Bool.false_eq_true, if_false] <;> exact rfl) (by simp only [puts, put, List.reverse_cons, List.reverse_nil, List.nil_append, List.cons_append] <;> exact rfl) (RunL.seq (RunL.unp (by simp (disch := first | assumption | omega | rfl) only [ev, evs, nth, t4, b_add, b_sub, b_and, b_xor, b_mul, b_shl, b_shr, b_pow, b_div, b_mod, t_int, t_bool, c_lt, c_gt, c_le, c_ge, Option.bind_some, Option.map_some, if_true, Bool.false_eq_true, if_false] <;> exact rfl) (by simp only [puts, put, List.reverse_cons, List.reverse_nil, List.nil_append, List.cons_append] <;> exact rfl) (RunL.seq (RunL.set (by simp (disch := first | assumption | omega | rfl) only [ev, evs, nth, t4, b_add, b_sub, b_and, b_xor, b_mul, b_shl, b_shr, b_pow, b_div, b_mod, t_int, t_bool, c_lt, c_gt, c_le, c_ge, Option.bind_some, Option.map_some, if_true, Bool.false_eq_true, if_false] <;> exact rfl) (by simp only [put] <;> exact rfl) (RunL.seq (RunL.set (by simp (disch := first | assumption | omega | rfl) only [ev, evs, nth, t4, b_add, b_sub, b_and, b_xor, b_mul, b_shl, b_shr, b_pow, b_div, b_mod, t_int, t_bool, c_lt, c_gt, c_le, c_ge, Option.bind_some, Option.map_some, if_true, Bool.false_eq_true, if_false, Int.mul_zero] <;> exact rfl) (by simp only [put] <;> exact rfl) ?_)))))))
      refine RunL.seq (RunL.ite (by simp (disch := first | assumption | omega | rfl) only [ev, evs, nth, t4, b_add, b_sub, b_and, b_xor, b_mul, b_shl, b_shr, b_pow, b_div, b_mod, t_int, t_bool, c_lt, c_gt, c_le, c_ge, Option.bind_some, Option.map_some, if_true, Bool.false_eq_true, if_false] <;> exact rfl) (by simp only [t_int, t_bool] <;> exact rfl) (fun h => by cases h) (fun h => RunL.skip ?_))
      refine RunL.seq (RunL.set (by simp (disch := first | assumption | omega | rfl) only [ev, evs, nth, t4, b_add, b_sub, b_and, b_xor, b_mul, b_shl, b_shr, b_pow, b_div, b_mod, t_int, t_bool, c_lt, c_gt, c_le, c_ge, Option.bind_some, Option.map_some, if_true, Bool.false_eq_true, if_false, ha0, Bool.not_true] <;> exact rfl) (by simp only [put] <;> exact rfl) (RunL.seq (RunL.set (by simp (disch := first | assumption | omega | rfl) only [ev, evs, nth, t4, b_add, b_sub, b_and, b_xor, b_mul, b_shl, b_shr, b_pow, b_div, b_mod, t_int, t_bool, c_lt, c_gt, c_le, c_ge, Option.bind_some, Option.map_some, if_true, Bool.false_eq_true, if_false] <;> exact rfl) (by simp only [put] <;> exact rfl) ?_)))
      refine RunL.seq (RunL.ite (by simp (disch := first | assumption | omega | rfl) only [ev, evs, nth, t4, b_add, b_sub, b_and, b_xor, b_mul, b_shl, b_shr, b_pow, b_div, b_mod, t_int, t_bool, c_lt, c_gt, c_le, c_ge, Option.bind_some, Option.map_some, if_true, Bool.false_eq_true, if_false] <;> exact rfl) (by simp only [t_int, t_bool] <;> exact rfl) (fun h => ?_) (fun h => by cases h))
      exact RunL.seq (RunL.ret (by simp (disch := first | assumption | omega | rfl) only [ev, evs, nth, t4, b_add, b_sub, b_and, b_xor, b_mul, b_shl, b_shr, b_pow, b_div, b_mod, t_int, t_bool, c_lt, c_gt, c_le, c_ge, Option.bind_some, Option.map_some, if_true, Bool.false_eq_true, if_false] <;> exact rfl) rfl)
  · have hx : X ≠ 0 := fun e => hxy (by rw [e, Int.zero_mul])
    have hy : Y ≠ 0 := fun e => hxy (by rw [e, Int.mul_zero])
    obtain ⟨b1, a, i, ha, rfl⟩ := split_int hx
    obtain ⟨b2, c, j, hc, rfl⟩ := split_int hy
    rw [bits_ak ha] at hX
    rw [bits_ak hc] at hY
    have hval : sv b1 ((a : Int) * 2 ^ i) * sv b2 ((c : Int) * 2 ^ j) = sv (xor b1 b2) (((a * c : Nat) : Int) * 2 ^ (i + j)) := by
      rw [sv_mul2, Int.natCast_mul, Int.pow_add]
      congr 1
      ac_rfl
    rw [hval, fp_mk N b1 ha, fp_mk M b2 hc]
    refine Fn_of (fd := fd119) rfl (by simp only [ini, fd119, List.length_cons, List.length_nil, List.map_cons, List.map_nil, List.cons_append, List.nil_append, List.drop_succ_cons, List.drop_zero, List.drop_nil, List.replicate_succ, List.replicate_zero, Nat.reduceAdd, Nat.reduceSub, Nat.reduceLeDiff, and_self, if_true] <;> exact rfl) ?_
    have hac0 : ((a : Int) * c != 0) = true := by
      have : (a : Int) * c ≠ 0 := Int.mul_ne_zero (by omega) (by omega)
      simpa using this
    have hxor := xor_si b1 b2
    have hsz : bits (a : Int) + bits (c : Int) ≤ 2 ^ 26 := by omega
    have hcast : ((a * c : Nat) : Int) = (a : Int) * c := Int.natCast_mul _ _
    have hexp : (i : Int) - N + ((j : Int) - M) = ((i + j : Nat) : Int) - ((N + M : Nat) : Int) := by omega
    have h44 := nrm (n + 1) (N := N + M) (xor b1 b2) (a * c) (i + j) p (e := (i : Int) - N + ((j : Int) - M)) (P := p) r (by omega)
    generalize Fn Tb (n + 4) = F at h44 ⊢
    rw [hcast] at h44
    refine RunL.seq (RunL.unp (by simp (disch := first | assumption | omega | rfl) only [ev, evs, nth, t4, b_add, b_sub, b_and, b_xor, b_mul, b_shl, b_shr, b_pow, b_div, b_mod, t_int, t_bool, c_lt, c_gt, c_le, c_ge, Option.bind_some, Option.map_some, if_true, Bool.false_eq_true, if_false] <;> exact rfl) (by simp only [puts, put, List.reverse_cons, List.reverse_nil, List.nil_append, List.cons_append] <;> exact rfl) (RunL.seq (RunL.unp (by simp (disch := first | assumption | omega | rfl) only [ev, evs, nth, t4, b_add, b_sub, b_and, b_xor, b_mul, b_shl, b_shr, b_pow, b_div, b_mod, t_int, t_bool, c_lt, c_gt, c_le, c_ge, Option.bind_some, Option.map_some, if_true, Bool.false_eq_true, if_false] <;> exact rfl) (by simp only [puts, put, List.reverse_cons, List.reverse_nil, List.nil_append, List.cons_append] <;> exact rfl) (RunL.seq (RunL.set (by simp (disch := first | assumption | omega | rfl) only [ev, evs, nth, t4, b_add, b_sub, b_and, b_xor, b_mul, b_shl, b_shr, b_pow, b_div, b_mod, t_int, t_bool, c_lt, c_gt, c_le, c_ge, Option.bind_some, Option.map_some, if_true, Bool.false_eq_true, if_false, hxor] <;> exact rfl) (by simp only [put] <;> exact rfl) (RunL.seq (RunL.set (by simp (disch := first | assumption | omega | rfl) only [ev, evs, nth, t4, b_add, b_sub, b_and, b_xor, b_mul, b_shl, b_shr, b_pow, b_div, b_mod, t_int, t_bool, c_lt, c_gt, c_le, c_ge, Option.bind_some, Option.map_some, if_true, Bool.false_eq_true, if_false] <;> exact rfl) (by simp only [put] <;> exact rfl) ?_)))))))
    refine RunL.seq (RunL.ite (by simp (disch := first | assumption | omega | rfl) only [ev, evs, nth, t4, b_add, b_sub, b_and, b_xor, b_mul, b_shl, b_shr, b_pow, b_div, b_mod, t_int, t_bool, c_lt, c_gt, c_le, c_ge, Option.bind_some, Option.map_some, if_true, Bool.false_eq_true, if_false] <;> exact rfl) (by simp only [t_int, t_bool] <;> exact rfl) (fun h => ?_) (fun h => by rw [hac0] at h; cases h))
    refine RunL.seq (RunL.set (by simp (disch := first | assumption | omega | rfl) only [ev, evs, nth, t4, b_add, b_sub, b_and, b_xor, b_mul, b_shl, b_shr, b_pow, b_div, b_mod, t_int, t_bool, c_lt, c_gt, c_le, c_ge, Option.bind_some, Option.map_some, if_true, Bool.false_eq_true, if_false] <;> exact rfl) (by simp only [put] <;> exact rfl) ?_)
    refine RunL.seq (RunL.ite (by simp (disch := first | assumption | omega | rfl) only [ev, evs, nth, t4, b_add, b_sub, b_and, b_xor, b_mul, b_shl, b_shr, b_pow, b_div, b_mod, t_int, t_bool, c_lt, c_gt, c_le, c_ge, Option.bind_some, Option.map_some, if_true, Bool.false_eq_true, if_false] <;> exact rfl) (by simp only [t_int, t_bool] <;> exact rfl) (fun h => ?_) (fun h => ?_))
    · have hp : p ≠ 0 := by
        have : (p : Int) ≠ 0 := by simpa using h
        omega
      have h44' := h44 (by rw [if_neg hp])
      rw [hcast]
      exact RunL.seq (RunL.ret (by simp (disch := first | assumption | omega | rfl) only [ev, evs, nth, t4, b_add, b_sub, b_and, b_xor, b_mul, b_shl, b_shr, b_pow, b_div, b_mod, t_int, t_bool, c_lt, c_gt, c_le, c_ge, Option.bind_some, Option.map_some, if_true, Bool.false_eq_true, if_false, h44'] <;> exact rfl) rfl)
    · have hp : p = 0 := by
        have : (p : Int) = 0 := by simpa using h
        omega
      subst hp
      have e0 : rr r 0 (sv (xor b1 b2) (((a * c : Nat) : Int) * 2 ^ (i + j))) = sv (xor b1 b2) (((a * c : Nat) : Int) * 2 ^ (i + j)) := rfl
      rw [e0, fp_mk (N + M) (xor b1 b2) (odd_mul ha hc), hcast]
      refine RunL.seq (RunL.ret (by simp (disch := first | assumption | omega | rfl) only [ev, evs, nth, t4, b_add, b_sub, b_and, b_xor, b_mul, b_shl, b_shr, b_pow, b_div, b_mod, t_int, t_bool, c_lt, c_gt, c_le, c_ge, Option.bind_some, Option.map_some, if_true, Bool.false_eq_true, if_false] <;> exact rfl) ?_)
      rw [hexp]; rfl

/-! ## comparisons -/
theorem ok_fp (N : Nat) (X : Int) : kqdOk 8 (fp N X) = true := by unfold fp; split <;> rfl
theorem eq_sp (N : Nat) (X : Int) {a b c d : Int} (hd : d < 0) : evCmp .Eq (fp N X) (.tuple [.int a, .int b, .int c, .int d]) = some (.bool false) := by
  rw [c_eq (ok_fp N X) rfl]
  congr 2
  refine decide_eq_false fun e => ?_
  unfold fp t4 at e
  split at e
  · simp at e; omega
  · simp at e; omega
theorem eq_fp (N : Nat) (X Y : Int) : evCmp .Eq (fp N X) (fp N Y) = some (.bool (decide (X = Y))) := by
  rw [c_eq (ok_fp N X) (ok_fp N Y)]
  congr 2
  exact decide_eq_decide.mpr fp_eq
theorem eq_z (N : Nat) (X : Int) : evCmp .Eq (fp N X) (.tuple [.int 0, .int 0, .int 0, .int 0]) = some (.bool (decide (X = 0))) := by
  have := eq_fp N X 0
  rwa [fp_zero] at this
theorem item0 (N : Nat) (W : Int) : evSub (fp N W) (.int 0) = some (.int (si (decide (W < 0)))) := by
  unfold fp
  split
  · rename_i h; subst h; rfl
  · rfl
theorem rr_f_neg {Z : Int} (h : Z < 0) : rr .f 5 Z < 0 := by
  unfold rr
  rw [if_neg (by decide), if_pos h]
  have : mag .f true 5 Z.natAbs = upN 5 Z.natAbs := rfl
  rw [this]
  have hm : Z.natAbs ≤ upN 5 Z.natAbs := by
    unfold upN
    have hp := Nat.two_pow_pos (bits (Z.natAbs : Int) - 5)
    have h1 := Nat.div_add_mod (Z.natAbs + (2 ^ (bits (Z.natAbs : Int) - 5) - 1)) (2 ^ (bits (Z.natAbs : Int) - 5))
    have h2 := Nat.mod_lt (Z.natAbs + (2 ^ (bits (Z.natAbs : Int) - 5) - 1)) hp
    rw [Nat.mul_comm] at h1
    omega
  omega
theorem rr_f_pos {Z : Int} (h : 0 ≤ Z) : ¬ rr .f 5 Z < 0 := by
  unfold rr
  rw [if_neg (by decide), if_neg (by omega)]
  omega
theorem sv_lt (b : Bool) {x y : Int} (h : x < y) : (sv b x - sv b y).sign = if b then 1 else -1 := by
  cases b
  · exact Int.sign_eq_neg_one_of_neg (by show x - y < 0; omega)
  · exact Int.sign_eq_one_of_pos (by show 0 < -x - -y; omega)
theorem sv_gt (b : Bool) {x y : Int} (h : y < x) : (sv b x - sv b y).sign = if b then -1 else 1 := by
  cases b
  · exact Int.sign_eq_one_of_pos (by show 0 < x - y; omega)
  · exact Int.sign_eq_neg_one_of_neg (by show -x - -y < 0; omega)
theorem lt_of_bits {a c i j : Nat} (hc : c ≠ 0) (h : bits (a : Int) + i < bits (c : Int) + j) : (a : Int) * 2 ^ i < (c : Int) * 2 ^ j := by
  have h1 : a < 2 ^ bits (a : Int) := by have := lt_bits (x := (a : Int)); rwa [Int.natAbs_natCast] at this
  obtain ⟨h2, _, h3⟩ := nat_bits hc
  have h4 : a * 2 ^ i < 2 ^ (bits (a : Int) + i) := by rw [Nat.pow_add]; exact (Nat.mul_lt_mul_right (Nat.two_pow_pos i)).mpr h1
  have h5 : 2 ^ (bits (c : Int) - 1 + j) ≤ c * 2 ^ j := by rw [Nat.pow_add]; exact Nat.mul_le_mul_right _ h2
  have h6 : 2 ^ (bits (a : Int) + i) ≤ 2 ^ (bits (c : Int) - 1 + j) := Nat.pow_le_pow_right (by decide) (by omega)
  rw [cast_shift, cast_shift]
  omega
theorem cmp_spec (n N : Nat) (X Y : Int) (hX : bits X ≤ 10000) (hY : bits Y ≤ 10000) : Fn Tb (n + 7) 51 [fp N X, fp N Y] = some (.int (X - Y).sign) := by
  have hsx := sign_spec (n + 5) N X
  have hsy := sign_spec (n + 5) N Y
  have h111 : bits X = bits Y → Fn Tb (n + 6) 111 [fp N X, fp N Y, .int 5, .str (Str.ofString "f")] = some (fp N (rr .f 5 (X - Y))) := fun e => sub_spec n N 5 .f X Y hX hY (.inr (.inr e))
  refine Fn_of (fd := fd51) rfl (by simp only [ini, fd51, List.length_cons, List.length_nil, List.map_cons, List.map_nil, List.cons_append, List.nil_append, List.drop_succ_cons, List.drop_zero, List.drop_nil, List.replicate_succ, List.replicate_zero, Nat.reduceAdd, Nat.reduceSub, Nat.reduceLeDiff, and_self, if_true] <;> exact rfl) ?_
  generalize Fn Tb (n + 6) = F at hsx hsy h111 ⊢
  have heqx := eq_z N X
  have heqy := eq_z N Y
  by_cases hx : X = 0
  · subst hx
    have hr : ((0 : Int) - Y).sign = -Y.sign := by rw [Int.zero_sub, Int.sign_neg]
    rw [hr]
    have hun : ∃ s a e b, fp N Y = t4 s a e b := by unfold fp; split <;> exact ⟨_, _, _, _, rfl⟩
    obtain ⟨s, a, e, b, hun⟩ := hun
    rw [hun] at hsy ⊢
    rw [fp_zero]
    have hsy' : F 95 [.tuple [.int s, .int a, .int e, .int b]] = some (.int Y.sign) := hsy
    refine RunL.seq (RunL.unp (by simp (disch := first | assumption | omega | rfl) only [ev, evs, nth, t4, b_add, b_sub, b_and, b_xor, b_mul, b_shl, b_shr, b_pow, b_div, b_mod, t_int, t_bool, c_lt, c_gt, c_le, c_ge, Option.bind_some, Option.map_some, if_true, Bool.false_eq_true, if_false] <;> exact rfl) (by simp only [puts, put, List.reverse_cons, List.reverse_nil, List.nil_append, List.cons_append] <;> exact rfl) (RunL.seq (RunL.unp (by simp (disch := first | assumption | omega | rfl) only [ev, evs, nth, t4, b_add, b_sub, b_and, b_xor, b_mul, b_shl, b_shr, b_pow, b_div, b_mod, t_int, t_bool, c_lt, c_gt, c_le, c_ge, Option.bind_some, Option.map_some, if_true, Bool.false_eq_true, if_false] <;> exact rfl) (by simp only [puts, put, List.reverse_cons, List.reverse_nil, List.nil_append, List.cons_append] <;> exact rfl) ?_)))
    refine RunL.seq (RunL.ite (by simp (disch := first | assumption | omega | rfl) only [ev, evs, nth, t4, b_add, b_sub, b_and, b_xor, b_mul, b_shl, b_shr, b_pow, b_div, b_mod, t_int, t_bool, c_lt, c_gt, c_le, c_ge, Option.bind_some, Option.map_some, if_true, Bool.false_eq_true, if_false] <;> exact rfl) (by simp only [t_int, t_bool] <;> exact rfl) (fun h => ?_) (fun h => by cases h))
    refine RunL.seq (RunL.ite (by simp (disch := first | assumption | omega | rfl) only [ev, evs, nth, t4, b_add, b_sub, b_and, b_xor, b_mul, b_shl, b_shr, b_pow, b_div, b_mod, t_int, t_bool, c_lt, c_gt, c_le, c_ge, Option.bind_some, Option.map_some, if_true, Bool.false_eq_true, if_false, c_eq] <;> exact rfl) (by simp only [t_int, t_bool] <;> exact rfl) (fun h => ?_) (fun h => by simp at h))
    exact RunL.seq (RunL.ret (by simp (disch := first | assumption | omega | rfl) only [ev, evs, nth, t4, b_add, b_sub, b_and, b_xor, b_mul, b_shl, b_shr, b_pow, b_div, b_mod, t_int, t_bool, c_lt, c_gt, c_le, c_ge, Option.bind_some, Option.map_some, if_true, Bool.false_eq_true, if_false, hsy'] <;> exact rfl) rfl)
  · by_cases hy : Y = 0
    · subst hy
      rw [Int.sub_zero]
      obtain ⟨b, a, i, ha, rfl⟩ := split_int hx
      have ha0 : ((a : Int) != 0) = true := by simp; omega
      rw [decide_eq_false hx] at heqx
      rw [fp_mk N b ha] at hsx heqx ⊢
      rw [fp_zero]
      have hsx' : F 95 [.tuple [.int (si b), .int a, .int ((i : Int) - N), .int (bits (a : Int) : Nat)]] = some (.int (sv b ((a : Int) * 2 ^ i)).sign) := hsx
      have heqx' : evCmp .Eq (.tuple [.int (si b), .int a, .int ((i : Int) - N), .int (bits (a : Int) : Nat)]) (.tuple [.int 0, .int 0, .int 0, .int 0]) = some (.bool false) := heqx
      refine RunL.seq (RunL.unp (by simp (disch := first | assumption | omega | rfl) only [ev, evs, nth, t4, b_add, b_sub, b_and, b_xor, b_mul, b_shl, b_shr, b_pow, b_div, b_mod, t_int, t_bool, c_lt, c_gt, c_le, c_ge, Option.bind_some, Option.map_some, if_true, Bool.false_eq_true, if_false] <;> exact rfl) (by simp only [puts, put, List.reverse_cons, List.reverse_nil, List.nil_append, List.cons_append] <;> exact rfl) (RunL.seq (RunL.unp (by simp (disch := first | assumption | omega | rfl) only [ev, evs, nth, t4, b_add, b_sub, b_and, b_xor, b_mul, b_shl, b_shr, b_pow, b_div, b_mod, t_int, t_bool, c_lt, c_gt, c_le, c_ge, Option.bind_some, Option.map_some, if_true, Bool.false_eq_true, if_false] <;> exact rfl) (by simp only [puts, put, List.reverse_cons, List.reverse_nil, List.nil_append, List.cons_append] <;> exact rfl) ?_)))
      refine RunL.seq (RunL.ite (by simp (disch := first | assumption | omega | rfl) only [ev, evs, nth, t4, b_add, b_sub, b_and, b_xor, b_mul, b_shl, b_shr, b_pow, b_div, b_mod, t_int, t_bool, c_lt, c_gt, c_le, c_ge, Option.bind_some, Option.map_some, if_true, Bool.false_eq_true, if_false, ha0, Bool.not_true] <;> exact rfl) (by simp only [t_int, t_bool] <;> exact rfl) (fun h => ?_) (fun h => by cases h))
      refine RunL.seq (RunL.ite (by simp (disch := first | assumption | omega | rfl) only [ev, evs, nth, t4, b_add, b_sub, b_and, b_xor, b_mul, b_shl, b_shr, b_pow, b_div, b_mod, t_int, t_bool, c_lt, c_gt, c_le, c_ge, Option.bind_some, Option.map_some, if_true, Bool.false_eq_true, if_false, heqx'] <;> exact rfl) (by simp only [t_int, t_bool] <;> exact rfl) (fun h => by cases h) (fun h => RunL.skip ?_))
      refine RunL.seq (RunL.ite (by simp (disch := first | assumption | omega | rfl) only [ev, evs, nth, t4, b_add, b_sub, b_and, b_xor, b_mul, b_shl, b_shr, b_pow, b_div, b_mod, t_int, t_bool, c_lt, c_gt, c_le, c_ge, Option.bind_some, Option.map_some, if_true, Bool.false_eq_true, if_false, c_eq] <;> exact rfl) (by simp only [t_int, t_bool] <;> exact rfl) (fun h => ?_) (fun h => by simp at h))
      exact RunL.seq (RunL.ret (by simp (disch := first | assumption | omega | rfl) only [ev, evs, nth, t4, b_add, b_sub, b_and, b_xor, b_mul, b_shl, b_shr, b_pow, b_div, b_mod, t_int, t_bool, c_lt, c_gt, c_le, c_ge, Option.bind_some, Option.map_some, if_true, Bool.false_eq_true, if_false, hsx'] <;> exact rfl) rfl)
    · obtain ⟨b1, a, i, ha, rfl⟩ := split_int hx
      obtain ⟨b2, c, j, hc, rfl⟩ := split_int hy
      have ha0 : ((a : Int) != 0) = true := by simp; omega
      have hc0 : ((c : Int) != 0) = true := by simp; omega
      rw [bits_ak ha, bits_ak hc] at h111
      have hpa : 0 < (a : Int) * 2 ^ i := Int.mul_pos (by omega) (Int.pow_pos (by decide))
      have hpc : 0 < (c : Int) * 2 ^ j := Int.mul_pos (by omega) (Int.pow_pos (by decide))
      have h0 := item0 N (rr .f 5 (sv b1 ((a : Int) * 2 ^ i) - sv b2 ((c : Int) * 2 ^ j)))
      rw [fp_mk N b1 ha, fp_mk N b2 hc] at h111 ⊢
      have h111' : bits (a : Int) + i = bits (c : Int) + j → F 111 [.tuple [.int (si b1), .int a, .int ((i : Int) - N), .int (bits (a : Int) : Nat)], .tuple [.int (si b2), .int c, .int ((j : Int) - N), .int (bits (c : Int) : Nat)], .int 5, .str (Str.ofString "f")] = some (fp N (rr .f 5 (sv b1 ((a : Int) * 2 ^ i) - sv b2 ((c : Int) * 2 ^ j)))) := h111
      clear h111 heqx heqy hsx hsy
      have hss : evCmp .NotEq (.int (si b1)) (.int (si b2)) = some (.bool (decide (b1 ≠ b2))) := by
        rw [c_ne rfl rfl]; simp only [eq_si]; congr 2; cases b1 <;> cases b2 <;> rfl
      refine RunL.seq (RunL.unp (by simp (disch := first | assumption | omega | rfl) only [ev, evs, nth, t4, b_add, b_sub, b_and, b_xor, b_mul, b_shl, b_shr, b_pow, b_div, b_mod, t_int, t_bool, c_lt, c_gt, c_le, c_ge, Option.bind_some, Option.map_some, if_true, Bool.false_eq_true, if_false] <;> exact rfl) (by simp only [puts, put, List.reverse_cons, List.reverse_nil, List.nil_append, List.cons_append] <;> exact rfl) (RunL.seq (RunL.unp (by simp (disch := first | assumption | omega | rfl) only [ev, evs, nth, t4, b_add, b_sub, b_and, b_xor, b_mul, b_shl, b_shr, b_pow, b_div, b_mod, t_int, t_bool, c_lt, c_gt, c_le, c_ge, Option.bind_some, Option.map_some, if_true, Bool.false_eq_true, if_false] <;> exact rfl) (by simp only [puts, put, List.reverse_cons, List.reverse_nil, List.nil_append, List.cons_append] <;> exact rfl) ?_)))
      refine RunL.seq (RunL.ite (by simp (disch := first | assumption | omega | rfl) only [ev, evs, nth, t4, b_add, b_sub, b_and, b_xor, b_mul, b_shl, b_shr, b_pow, b_div, b_mod, t_int, t_bool, c_lt, c_gt, c_le, c_ge, Option.bind_some, Option.map_some, if_true, Bool.false_eq_true, if_false, ha0, hc0, Bool.not_true] <;> exact rfl) (by simp only [t_int, t_bool] <;> exact rfl) (fun h => by cases h) (fun h => RunL.skip ?_))
      refine RunL.seq (RunL.ite (by simp (disch := first | assumption | omega | rfl) only [ev, evs, nth, t4, b_add, b_sub, b_and, b_xor, b_mul, b_shl, b_shr, b_pow, b_div, b_mod, t_int, t_bool, c_lt, c_gt, c_le, c_ge, Option.bind_some, Option.map_some, if_true, Bool.false_eq_true, if_false, hss] <;> exact rfl) (by simp only [t_int, t_bool] <;> exact rfl) (fun h => ?_) (fun h => RunL.skip ?_))
      · have hne : b1 ≠ b2 := of_decide_eq_true h
        cases b1 <;> cases b2 <;> first | exact absurd rfl hne | skip
        · refine RunL.seq (RunL.ite (by simp (disch := first | assumption | omega | rfl) only [ev, evs, nth, t4, b_add, b_sub, b_and, b_xor, b_mul, b_shl, b_shr, b_pow, b_div, b_mod, t_int, t_bool, c_lt, c_gt, c_le, c_ge, Option.bind_some, Option.map_some, if_true, Bool.false_eq_true, if_false] <;> exact rfl) (by simp only [t_int, t_bool] <;> exact rfl) (fun h => ?_) (fun h => by cases h))
          refine RunL.seq (RunL.ret (by simp (disch := first | assumption | omega | rfl) only [ev, evs, nth, t4, b_add, b_sub, b_and, b_xor, b_mul, b_shl, b_shr, b_pow, b_div, b_mod, t_int, t_bool, c_lt, c_gt, c_le, c_ge, Option.bind_some, Option.map_some, if_true, Bool.false_eq_true, if_false] <;> exact rfl) ?_)
          rw [Int.sign_eq_one_of_pos (by show 0 < (a : Int) * 2 ^ i - -((c : Int) * 2 ^ j); omega)]
        · refine RunL.seq (RunL.ite (by simp (disch := first | assumption | omega | rfl) only [ev, evs, nth, t4, b_add, b_sub, b_and, b_xor, b_mul, b_shl, b_shr, b_pow, b_div, b_mod, t_int, t_bool, c_lt, c_gt, c_le, c_ge, Option.bind_some, Option.map_some, if_true, Bool.false_eq_true, if_false] <;> exact rfl) (by simp only [t_int, t_bool] <;> exact rfl) (fun h => by cases h) (fun h => RunL.skip ?_))
          refine RunL.seq (RunL.ret (by simp (disch := first | assumption | omega | rfl) only [ev, evs, nth, t4, b_add, b_sub, b_and, b_xor, b_mul, b_shl, b_shr, b_pow, b_div, b_mod, t_int, t_bool, c_lt, c_gt, c_le, c_ge, Option.bind_some, Option.map_some, if_true, Bool.false_eq_true, if_false] <;> exact rfl) ?_)
          rw [Int.sign_eq_neg_one_of_neg (by show -((a : Int) * 2 ^ i) - (c : Int) * 2 ^ j < 0; omega)]
      · have hb : b1 = b2 := Classical.not_not.mp (of_decide_eq_false h)
        subst hb
        refine RunL.seq (RunL.ite (by simp (disch := first | assumption | omega | rfl) only [ev, evs, nth, t4, b_add, b_sub, b_and, b_xor, b_mul, b_shl, b_shr, b_pow, b_div, b_mod, t_int, t_bool, c_lt, c_gt, c_le, c_ge, Option.bind_some, Option.map_some, if_true, Bool.false_eq_true, if_false, c_eq] <;> exact rfl) (by simp only [t_int, t_bool] <;> exact rfl) (fun h => ?_) (fun h => RunL.skip ?_))
        · have hij : i = j := by
            have : (i : Int) - N = (j : Int) - N := by simpa using h
            omega
          subst hij
          refine RunL.seq (RunL.ite (by simp (disch := first | assumption | omega | rfl) only [ev, evs, nth, t4, b_add, b_sub, b_and, b_xor, b_mul, b_shl, b_shr, b_pow, b_div, b_mod, t_int, t_bool, c_lt, c_gt, c_le, c_ge, Option.bind_some, Option.map_some, if_true, Bool.false_eq_true, if_false, c_eq] <;> exact rfl) (by simp only [t_int, t_bool] <;> exact rfl) (fun h => ?_) (fun h => RunL.skip ?_))
          · have hac : a = c := by
              have : (a : Int) = (c : Int) := by simpa using h
              omega
            subst hac
            refine RunL.seq (RunL.ret (by simp (disch := first | assumption | omega | rfl) only [ev, evs, nth, t4, b_add, b_sub, b_and, b_xor, b_mul, b_shl, b_shr, b_pow, b_div, b_mod, t_int, t_bool, c_lt, c_gt, c_le, c_ge, Option.bind_some, Option.map_some, if_true, Bool.false_eq_true, if_false] <;> exact rfl) ?_)
            rw [Int.sub_self]; rfl
          · have hac : a ≠ c := by
              have : ¬ (a : Int) = (c : Int) := by simpa using h
              omega
            refine RunL.seq (RunL.ite (by simp (disch := first | assumption | omega | rfl) only [ev, evs, nth, t4, b_add, b_sub, b_and, b_xor, b_mul, b_shl, b_shr, b_pow, b_div, b_mod, t_int, t_bool, c_lt, c_gt, c_le, c_ge, Option.bind_some, Option.map_some, if_true, Bool.false_eq_true, if_false] <;> exact rfl) (by simp only [t_int, t_bool] <;> exact rfl) (fun h => ?_) (fun h => ?_))
            · have hlt : (c : Int) < a := of_decide_eq_true h
              have hl : (c : Int) * 2 ^ i < (a : Int) * 2 ^ i := Int.mul_lt_mul_of_pos_right hlt (Int.pow_pos (by decide))
              rw [sv_gt b1 hl]
              cases b1
              · refine RunL.seq (RunL.ite (by simp (disch := first | assumption | omega | rfl) only [ev, evs, nth, t4, b_add, b_sub, b_and, b_xor, b_mul, b_shl, b_shr, b_pow, b_div, b_mod, t_int, t_bool, c_lt, c_gt, c_le, c_ge, Option.bind_some, Option.map_some, if_true, Bool.false_eq_true, if_false] <;> exact rfl) (by simp only [t_int, t_bool] <;> exact rfl) (fun h => by cases h) (fun h => ?_))
                exact RunL.seq (RunL.ret (by simp (disch := first | assumption | omega | rfl) only [ev, evs, nth, t4, b_add, b_sub, b_and, b_xor, b_mul, b_shl, b_shr, b_pow, b_div, b_mod, t_int, t_bool, c_lt, c_gt, c_le, c_ge, Option.bind_some, Option.map_some, if_true, Bool.false_eq_true, if_false] <;> exact rfl) rfl)
              · refine RunL.seq (RunL.ite (by simp (disch := first | assumption | omega | rfl) only [ev, evs, nth, t4, b_add, b_sub, b_and, b_xor, b_mul, b_shl, b_shr, b_pow, b_div, b_mod, t_int, t_bool, c_lt, c_gt, c_le, c_ge, Option.bind_some, Option.map_some, if_true, Bool.false_eq_true, if_false] <;> exact rfl) (by simp only [t_int, t_bool] <;> exact rfl) (fun h => ?_) (fun h => by cases h))
                exact RunL.seq (RunL.ret (by simp (disch := first | assumption | omega | rfl) only [ev, evs, nth, t4, b_add, b_sub, b_and, b_xor, b_mul, b_shl, b_shr, b_pow, b_div, b_mod, t_int, t_bool, c_lt, c_gt, c_le, c_ge, Option.bind_some, Option.map_some, if_true, Bool.false_eq_true, if_false] <;> exact rfl) rfl)
            · have hlt : ¬ (c : Int) < a := of_decide_eq_false h
              have hl : (a : Int) * 2 ^ i < (c : Int) * 2 ^ i := Int.mul_lt_mul_of_pos_right (by omega) (Int.pow_pos (by decide))
              rw [sv_lt b1 hl]
              cases b1
              · refine RunL.seq (RunL.ite (by simp (disch := first | assumption | omega | rfl) only [ev, evs, nth, t4, b_add, b_sub, b_and, b_xor, b_mul, b_shl, b_shr, b_pow, b_div, b_mod, t_int, t_bool, c_lt, c_gt, c_le, c_ge, Option.bind_some, Option.map_some, if_true, Bool.false_eq_true, if_false] <;> exact rfl) (by simp only [t_int, t_bool] <;> exact rfl) (fun h => by cases h) (fun h => ?_))
                exact RunL.seq (RunL.ret (by simp (disch := first | assumption | omega | rfl) only [ev, evs, nth, t4, b_add, b_sub, b_and, b_xor, b_mul, b_shl, b_shr, b_pow, b_div, b_mod, t_int, t_bool, c_lt, c_gt, c_le, c_ge, Option.bind_some, Option.map_some, if_true, Bool.false_eq_true, if_false] <;> exact rfl) rfl)
              · refine RunL.seq (RunL.ite (by simp (disch := first | assumption | omega | rfl) only [ev, evs, nth, t4, b_add, b_sub, b_and, b_xor, b_mul, b_shl, b_shr, b_pow, b_div, b_mod, t_int, t_bool, c_lt, c_gt, c_le, c_ge, Option.bind_some, Option.map_some, if_true, Bool.false_eq_true, if_false] <;> exact rfl) (by simp only [t_int, t_bool] <;> exact rfl) (fun h => ?_) (fun h => by cases h))
                exact RunL.seq (RunL.ret (by simp (disch := first | assumption | omega | rfl) only [ev, evs, nth, t4, b_add, b_sub, b_and, b_xor, b_mul, b_shl, b_shr, b_pow, b_div, b_mod, t_int, t_bool, c_lt, c_gt, c_le, c_ge, Option.bind_some, Option.map_some, if_true, Bool.false_eq_true, if_false] <;> exact rfl) rfl)
        · have hij : i ≠ j := by
            have : ¬ (i : Int) - N = (j : Int) - N := by simpa using h
            omega
          refine RunL.seq (RunL.set (by simp (disch := first | assumption | omega | rfl) only [ev, evs, nth, t4, b_add, b_sub, b_and, b_xor, b_mul, b_shl, b_shr, b_pow, b_div, b_mod, t_int, t_bool, c_lt, c_gt, c_le, c_ge, Option.bind_some, Option.map_some, if_true, Bool.false_eq_true, if_false] <;> exact rfl) (by simp only [put] <;> exact rfl) (RunL.seq (RunL.set (by simp (disch := first | assumption | omega | rfl) only [ev, evs, nth, t4, b_add, b_sub, b_and, b_xor, b_mul, b_shl, b_shr, b_pow, b_div, b_mod, t_int, t_bool, c_lt, c_gt, c_le, c_ge, Option.bind_some, Option.map_some, if_true, Bool.false_eq_true, if_false] <;> exact rfl) (by simp only [put] <;> exact rfl) ?_)))
          have fin : ∀ (x10 x11 : Option Dat), bits (a : Int) + i = bits (c : Int) + j → RunL F [.seq (.set 12 (.call 111 (.cons (.loc 0) (.cons (.loc 1) (.cons (.lit (Dat.int 5)) (.cons (.lit (Dat.str (Str.ofString "f"))) .nil)))))) (.seq (.ite (.sub (.loc 12) (.lit (Dat.int 0))) (.seq (.ret (.neg (.lit (Dat.int 1)))) .skip) .skip) (.seq (.ret (.lit (Dat.int 1))) .skip))]
              [some (t4 (si b1) a ((i : Int) - N) (bits (a : Int) : Nat)), some (t4 (si b1) c ((j : Int) - N) (bits (c : Int) : Nat)), some (.int (si b1)), some (.int a), some (.int ((i : Int) - N)), some (.int (bits (a : Int) : Nat)), some (.int (si b1)), some (.int c), some (.int ((j : Int) - N)), some (.int (bits (c : Int) : Nat)), x10, x11, none]
              (fun d => d = .int (sv b1 ((a : Int) * 2 ^ i) - sv b1 ((c : Int) * 2 ^ j)).sign) := by
            intro x10 x11 hbb
            have h1 := h111' hbb
            have hne : sv b1 ((a : Int) * 2 ^ i) - sv b1 ((c : Int) * 2 ^ j) ≠ 0 := by
              intro e
              have e1 : sv b1 ((a : Int) * 2 ^ i) = sv b1 ((c : Int) * 2 ^ j) := by omega
              have e2 := congrArg (fp N) e1
              rw [fp_mk N b1 ha, fp_mk N b1 hc] at e2
              simp [t4] at e2
              omega
            refine RunL.seq (RunL.set (by simp (disch := first | assumption | omega | rfl) only [ev, evs, nth, t4, b_add, b_sub, b_and, b_xor, b_mul, b_shl, b_shr, b_pow, b_div, b_mod, t_int, t_bool, c_lt, c_gt, c_le, c_ge, Option.bind_some, Option.map_some, if_true, Bool.false_eq_true, if_false, h1] <;> exact rfl) (by simp only [put] <;> exact rfl) (RunL.seq (RunL.ite (by simp (disch := first | assumption | omega | rfl) only [ev, evs, nth, t4, b_add, b_sub, b_and, b_xor, b_mul, b_shl, b_shr, b_pow, b_div, b_mod, t_int, t_bool, c_lt, c_gt, c_le, c_ge, Option.bind_some, Option.map_some, if_true, Bool.false_eq_true, if_false, h0] <;> exact rfl) (by simp only [t_int, t_bool] <;> exact rfl) (fun h => ?_) (fun h => RunL.skip ?_))))
            · have hlt : sv b1 ((a : Int) * 2 ^ i) - sv b1 ((c : Int) * 2 ^ j) < 0 := by
                refine Classical.byContradiction fun q => ?_
                rw [decide_eq_false (rr_f_pos (by omega))] at h
                simp [si] at h
              rw [Int.sign_eq_neg_one_of_neg hlt]
              exact RunL.seq (RunL.ret (by simp (disch := first | assumption | omega | rfl) only [ev, evs, nth, t4, b_add, b_sub, b_and, b_xor, b_mul, b_shl, b_shr, b_pow, b_div, b_mod, t_int, t_bool, c_lt, c_gt, c_le, c_ge, Option.bind_some, Option.map_some, if_true, Bool.false_eq_true, if_false] <;> exact rfl) rfl)
            · have hgt : 0 < sv b1 ((a : Int) * 2 ^ i) - sv b1 ((c : Int) * 2 ^ j) := by
                refine Classical.byContradiction fun q => ?_
                rw [decide_eq_true (rr_f_neg (by omega))] at h
                simp [si] at h
              rw [Int.sign_eq_one_of_pos hgt]
              exact RunL.seq (RunL.ret (by simp (disch := first | assumption | omega | rfl) only [ev, evs, nth, t4, b_add, b_sub, b_and, b_xor, b_mul, b_shl, b_shr, b_pow, b_div, b_mod, t_int, t_bool, c_lt, c_gt, c_le, c_ge, Option.bind_some, Option.map_some, if_true, Bool.false_eq_true, if_false] <;> exact rfl) rfl)
          cases b1
          · refine RunL.seq (RunL.ite (by simp (disch := first | assumption | omega | rfl) only [ev, evs, nth, t4, b_add, b_sub, b_and, b_xor, b_mul, b_shl, b_shr, b_pow, b_div, b_mod, t_int, t_bool, c_lt, c_gt, c_le, c_ge, Option.bind_some, Option.map_some, if_true, Bool.false_eq_true, if_false] <;> exact rfl) (by simp only [t_int, t_bool] <;> exact rfl) (fun h => by cases h) (fun h => ?_))
            refine RunL.seq (RunL.ite (by simp (disch := first | assumption | omega | rfl) only [ev, evs, nth, t4, b_add, b_sub, b_and, b_xor, b_mul, b_shl, b_shr, b_pow, b_div, b_mod, t_int, t_bool, c_lt, c_gt, c_le, c_ge, Option.bind_some, Option.map_some, if_true, Bool.false_eq_true, if_false] <;> exact rfl) (by simp only [t_int, t_bool] <;> exact rfl) (fun h => ?_) (fun h => RunL.skip ?_))
            · have h' := of_decide_eq_true h
              rw [sv_lt false (lt_of_bits (by omega) (by omega))]
              exact RunL.seq (RunL.ret (by simp (disch := first | assumption | omega | rfl) only [ev, evs, nth, t4, b_add, b_sub, b_and, b_xor, b_mul, b_shl, b_shr, b_pow, b_div, b_mod, t_int, t_bool, c_lt, c_gt, c_le, c_ge, Option.bind_some, Option.map_some, if_true, Bool.false_eq_true, if_false] <;> exact rfl) rfl)
            · have h' := of_decide_eq_false h
              refine RunL.seq (RunL.ite (by simp (disch := first | assumption | omega | rfl) only [ev, evs, nth, t4, b_add, b_sub, b_and, b_xor, b_mul, b_shl, b_shr, b_pow, b_div, b_mod, t_int, t_bool, c_lt, c_gt, c_le, c_ge, Option.bind_some, Option.map_some, if_true, Bool.false_eq_true, if_false] <;> exact rfl) (by simp only [t_int, t_bool] <;> exact rfl) (fun h => ?_) (fun h => RunL.skip (RunL.skip ?_)))
              · have h'' := of_decide_eq_true h
                rw [sv_gt false (lt_of_bits (by omega) (by omega))]
                exact RunL.seq (RunL.ret (by simp (disch := first | assumption | omega | rfl) only [ev, evs, nth, t4, b_add, b_sub, b_and, b_xor, b_mul, b_shl, b_shr, b_pow, b_div, b_mod, t_int, t_bool, c_lt, c_gt, c_le, c_ge, Option.bind_some, Option.map_some, if_true, Bool.false_eq_true, if_false] <;> exact rfl) rfl)
              · have h'' := of_decide_eq_false h
                exact fin _ _ (by omega)
          · refine RunL.seq (RunL.ite (by simp (disch := first | assumption | omega | rfl) only [ev, evs, nth, t4, b_add, b_sub, b_and, b_xor, b_mul, b_shl, b_shr, b_pow, b_div, b_mod, t_int, t_bool, c_lt, c_gt, c_le, c_ge, Option.bind_some, Option.map_some, if_true, Bool.false_eq_true, if_false] <;> exact rfl) (by simp only [t_int, t_bool] <;> exact rfl) (fun h => ?_) (fun h => by cases h))
            refine RunL.seq (RunL.ite (by simp (disch := first | assumption | omega | rfl) only [ev, evs, nth, t4, b_add, b_sub, b_and, b_xor, b_mul, b_shl, b_shr, b_pow, b_div, b_mod, t_int, t_bool, c_lt, c_gt, c_le, c_ge, Option.bind_some, Option.map_some, if_true, Bool.false_eq_true, if_false] <;> exact rfl) (by simp only [t_int, t_bool] <;> exact rfl) (fun h => ?_) (fun h => RunL.skip ?_))
            · have h' := of_decide_eq_true h
              rw [sv_lt true (lt_of_bits (by omega) (by omega))]
              exact RunL.seq (RunL.ret (by simp (disch := first | assumption | omega | rfl) only [ev, evs, nth, t4, b_add, b_sub, b_and, b_xor, b_mul, b_shl, b_shr, b_pow, b_div, b_mod, t_int, t_bool, c_lt, c_gt, c_le, c_ge, Option.bind_some, Option.map_some, if_true, Bool.false_eq_true, if_false] <;> exact rfl) rfl)
            · have h' := of_decide_eq_false h
              refine RunL.seq (RunL.ite (by simp (disch := first | assumption | omega | rfl) only [ev, evs, nth, t4, b_add, b_sub, b_and, b_xor, b_mul, b_shl, b_shr, b_pow, b_div, b_mod, t_int, t_bool, c_lt, c_gt, c_le, c_ge, Option.bind_some, Option.map_some, if_true, Bool.false_eq_true, if_false] <;> exact rfl) (by simp only [t_int, t_bool] <;> exact rfl) (fun h => ?_) (fun h => RunL.skip (RunL.skip ?_)))
              · have h'' := of_decide_eq_true h
                rw [sv_gt true (lt_of_bits (by omega) (by omega))]
                exact RunL.seq (RunL.ret (by simp (disch := first | assumption | omega | rfl) only [ev, evs, nth, t4, b_add, b_sub, b_and, b_xor, b_mul, b_shl, b_shr, b_pow, b_div, b_mod, t_int, t_bool, c_lt, c_gt, c_le, c_ge, Option.bind_some, Option.map_some, if_true, Bool.false_eq_true, if_false] <;> exact rfl) rfl)
              · have h'' := of_decide_eq_false h
                exact fin _ _ (by omega)
end Mine

end

/-! # part AM9 -/
section
open PySem PySem.W
set_option maxRecDepth 100000
set_option linter.unusedSimpArgs false
set_option linter.unusedVariables false
namespace Mine
open Classical
theorem dec_sub_lt {X Y : Int} : (decide ((X - Y).sign < 0)) = decide (X < Y) := by
  refine decide_eq_decide.mpr ?_
  rw [Int.sign_neg_iff]; omega
theorem dec_sub_gt {X Y : Int} : (decide (0 < (X - Y).sign)) = decide (Y < X) := by
  refine decide_eq_decide.mpr ?_
  rw [Int.sign_pos_iff]; omega
theorem lt_spec (n N : Nat) (X Y : Int) (hX : bits X ≤ 10000) (hY : bits Y ≤ 10000) : Fn Tb (n + 8) 58 [fp N X, fp N Y] = some (.bool (decide (X < Y))) := by
  have h51 := cmp_spec n N X Y hX hY
  refine Fn_of (fd := fd58) rfl (by simp only [ini, fd58, List.length_cons, List.length_nil, List.map_cons, List.map_nil, List.cons_append, List.nil_append, List.drop_succ_cons, List.drop_zero, List.drop_nil, List.replicate_succ, List.replicate_zero, Nat.reduceAdd, Nat.reduceSub, Nat.reduceLeDiff, and_self, if_true] <;> exact rfl) ?_
  generalize Fn Tb (n + 7) = F at h51 ⊢
  refine RunL.seq (RunL.ite (by simp (disch := first | assumption | omega | rfl) only [ev, evs, nth, t4, b_add, b_sub, b_and, b_xor, b_mul, b_shl, b_shr, b_pow, b_div, b_mod, t_int, t_bool, c_lt, c_gt, c_le, c_ge, Option.bind_some, Option.map_some, if_true, Bool.false_eq_true, if_false, eq_sp] <;> exact rfl) (by simp only [t_int, t_bool] <;> exact rfl) (fun h => by cases h) (fun h => RunL.skip ?_))
  exact RunL.seq (RunL.ret (by simp (disch := first | assumption | omega | rfl) only [ev, evs, nth, t4, b_add, b_sub, b_and, b_xor, b_mul, b_shl, b_shr, b_pow, b_div, b_mod, t_int, t_bool, c_lt, c_gt, c_le, c_ge, Option.bind_some, Option.map_some, if_true, Bool.false_eq_true, if_false, h51, dec_sub_lt] <;> exact rfl) rfl)
theorem gt_spec (n N : Nat) (X Y : Int) (hX : bits X ≤ 10000) (hY : bits Y ≤ 10000) : Fn Tb (n + 8) 65 [fp N X, fp N Y] = some (.bool (decide (Y < X))) := by
  have h51 := cmp_spec n N X Y hX hY
  refine Fn_of (fd := fd65) rfl (by simp only [ini, fd65, List.length_cons, List.length_nil, List.map_cons, List.map_nil, List.cons_append, List.nil_append, List.drop_succ_cons, List.drop_zero, List.drop_nil, List.replicate_succ, List.replicate_zero, Nat.reduceAdd, Nat.reduceSub, Nat.reduceLeDiff, and_self, if_true] <;> exact rfl) ?_
  generalize Fn Tb (n + 7) = F at h51 ⊢
  refine RunL.seq (RunL.ite (by simp (disch := first | assumption | omega | rfl) only [ev, evs, nth, t4, b_add, b_sub, b_and, b_xor, b_mul, b_shl, b_shr, b_pow, b_div, b_mod, t_int, t_bool, c_lt, c_gt, c_le, c_ge, Option.bind_some, Option.map_some, if_true, Bool.false_eq_true, if_false, eq_sp] <;> exact rfl) (by simp only [t_int, t_bool] <;> exact rfl) (fun h => by cases h) (fun h => RunL.skip ?_))
  exact RunL.seq (RunL.ret (by simp (disch := first | assumption | omega | rfl) only [ev, evs, nth, t4, b_add, b_sub, b_and, b_xor, b_mul, b_shl, b_shr, b_pow, b_div, b_mod, t_int, t_bool, c_lt, c_gt, c_le, c_ge, Option.bind_some, Option.map_some, if_true, Bool.false_eq_true, if_false, h51, dec_sub_gt] <;> exact rfl) rfl)

/-! ## the least and the greatest of four -/
def mn2 (x y : Int) : Int := if y < x then y else x
def mx2 (x y : Int) : Int := if x < y then y else x
def mmB : CS := (.seq (.ite (.call 58 (.cons (.loc 3) (.cons (.loc 1) .nil))) (.seq (.set 1 (.loc 3)) .skip) .skip) (.seq (.ite (.call 65 (.cons (.loc 3) (.cons (.loc 2) .nil))) (.seq (.set 2 (.loc 3)) .skip) .skip) .skip))
theorem mm_turn {F : Nat → List Dat → Option Dat} {N : Nat} {x0 : Option Dat} {p q z : Int} (h1 : F 58 [fp N z, fp N p] = some (.bool (decide (z < p)))) (h2 : F 65 [fp N z, fp N q] = some (.bool (decide (q < z)))) :
    ex F mmB [x0, some (fp N p), some (fp N q), some (fp N z)] = some (.nxt [x0, some (fp N (mn2 p z)), some (fp N (mx2 q z)), some (fp N z)]) := by
  unfold mn2 mx2
  by_cases h3 : z < p <;> by_cases h4 : q < z <;> simp [mmB, ex, ev, evs, nth, h1, h2, h3, h4, truD, put]
theorem RunL.forS {F : Nat → List Dat → Option Dat} {ρ ρ' : List (Option Dat)} {Q : Dat → Prop} {st : List CS} {i : Nat} {e : CE} {b : CS} {d0 : Dat} {l : List Dat} (h : ev F ρ e = some (.list (d0 :: l))) (hl : l.length ≤ 1000) (ht : turns (ex F b) i l ρ = some (.nxt ρ')) (k : RunL F st ρ' Q) : RunL F (.forS i e b :: st) ρ Q :=
  ⟨.nxt ρ', by simp only [ex, h, Option.bind_some, hl, if_true, ht], k⟩
theorem mm_spec (n N : Nat) (A B C D : Int) (hA : bits A ≤ 10000) (hB : bits B ≤ 10000) (hC : bits C ≤ 10000) (hD : bits D ≤ 10000) :
    Fn Tb (n + 9) 72 [.list [fp N A, fp N B, fp N C, fp N D]] = some (.tuple [fp N (mn2 (mn2 (mn2 A B) C) D), fp N (mx2 (mx2 (mx2 A B) C) D)]) := by
  have hlt := fun X Y hX hY => lt_spec n N X Y hX hY
  have hgt := fun X Y hX hY => gt_spec n N X Y hX hY
  have m2 : ∀ {x y : Int}, bits x ≤ 10000 → bits y ≤ 10000 → bits (mn2 x y) ≤ 10000 := by intro x y hx hy; unfold mn2; split <;> assumption
  have x2 : ∀ {x y : Int}, bits x ≤ 10000 → bits y ≤ 10000 → bits (mx2 x y) ≤ 10000 := by intro x y hx hy; unfold mx2; split <;> assumption
  refine Fn_of (fd := fd72) rfl (by simp only [ini, fd72, List.length_cons, List.length_nil, List.map_cons, List.map_nil, List.cons_append, List.nil_append, List.drop_succ_cons, List.drop_zero, List.drop_nil, List.replicate_succ, List.replicate_zero, Nat.reduceAdd, Nat.reduceSub, Nat.reduceLeDiff, and_self, if_true] <;> exact rfl) ?_
  generalize Fn Tb (n + 8) = F at hlt hgt ⊢
  have t1 : ∀ (x0 : Option Dat) (p q z : Int), bits p ≤ 10000 → bits q ≤ 10000 → bits z ≤ 10000 → ex F mmB [x0, some (fp N p), some (fp N q), some (fp N z)] = some (.nxt [x0, some (fp N (mn2 p z)), some (fp N (mx2 q z)), some (fp N z)]) := fun x0 p q z hp hq hz => mm_turn (hlt _ _ hz hp) (hgt _ _ hz hq)
  have h0 : evSub (.list [fp N A, fp N B, fp N C, fp N D]) (.int 0) = some (fp N A) := s_lst ⟨by decide, by simp, by decide⟩ rfl
  refine RunL.seq (RunL.set2 (by simp (disch := first | assumption | omega | rfl) only [ev, evs, nth, t4, b_add, b_sub, b_and, b_xor, b_mul, b_shl, b_shr, b_pow, b_div, b_mod, t_int, t_bool, c_lt, c_gt, c_le, c_ge, Option.bind_some, Option.map_some, if_true, Bool.false_eq_true, if_false, h0] <;> exact rfl) (by simp only [put] <;> exact rfl) (RunL.seq (RunL.forS (by simp (disch := first | assumption | omega | rfl) only [ev, evs, nth, t4, b_add, b_sub, b_and, b_xor, b_mul, b_shl, b_shr, b_pow, b_div, b_mod, t_int, t_bool, c_lt, c_gt, c_le, c_ge, Option.bind_some, Option.map_some, if_true, Bool.false_eq_true, if_false] <;> exact rfl) (by simp) (ρ' := [some (.list [fp N A, fp N B, fp N C, fp N D]), some (fp N (mn2 (mn2 (mn2 A B) C) D)), some (fp N (mx2 (mx2 (mx2 A B) C) D)), some (fp N D)]) ?_ ?_)))
  · show turns (ex F mmB) 3 _ _ = _
    simp only [turns, put, t1 _ _ _ _ hA hA hB, t1 _ _ _ _ (m2 hA hB) (x2 hA hB) hC, t1 _ _ _ _ (m2 (m2 hA hB) hC) (x2 (x2 hA hB) hC) hD, Option.bind_some]
  · exact RunL.seq (RunL.ret (by simp (disch := first | assumption | omega | rfl) only [ev, evs, nth, t4, b_add, b_sub, b_and, b_xor, b_mul, b_shl, b_shr, b_pow, b_div, b_mod, t_int, t_bool, c_lt, c_gt, c_le, c_ge, Option.bind_some, Option.map_some, if_true, Bool.false_eq_true, if_false] <;> exact rfl) rfl)

/-! ## intervals -/
def iv (N : Nat) (a b : Int) : Dat := .tuple [fp N a, fp N b]
def Sm (p : Nat) (x y : Int) : Prop := p = 0 ∨ (bits x ≤ 100 ∧ bits y ≤ 100) ∨ bits x = bits y
theorem mpi_add_spec (n N p : Nat) (a b c d : Int) (ha : bits a ≤ 10000) (hb : bits b ≤ 10000) (hc : bits c ≤ 10000) (hd : bits d ≤ 10000) (h1 : Sm p a c) (h2 : Sm p b d) :
    Fn Tb (n + 6) 127 [iv N a b, iv N c d, .int p] = some (iv N (rr .f p (a + c)) (rr .c p (b + d))) := by
  have h3 : Fn Tb (n + 5) 103 [fp N a, fp N c, .int p, .str (Str.ofString "f")] = some (fp N (rr .f p (a + c))) := add_spec n N p .f a c false ha hc h1
  have h4 : Fn Tb (n + 5) 103 [fp N b, fp N d, .int p, .str (Str.ofString "c")] = some (fp N (rr .c p (b + d))) := add_spec n N p .c b d false hb hd h2
  refine Fn_of (fd := fd127) rfl (by simp only [ini, fd127, List.length_cons, List.length_nil, List.map_cons, List.map_nil, List.cons_append, List.nil_append, List.drop_succ_cons, List.drop_zero, List.drop_nil, List.replicate_succ, List.replicate_zero, Nat.reduceAdd, Nat.reduceSub, Nat.reduceLeDiff, and_self, if_true] <;> exact rfl) ?_
  generalize Fn Tb (n + 5) = F at h3 h4 ⊢
  refine RunL.seq (RunL.unp (by simp (disch := first | assumption | omega | rfl) only [ev, evs, nth, t4, b_add, b_sub, b_and, b_xor, b_mul, b_shl, b_shr, b_pow, b_div, b_mod, t_int, t_bool, c_lt, c_gt, c_le, c_ge, Option.bind_some, Option.map_some, if_true, Bool.false_eq_true, if_false] <;> exact rfl) (by simp only [puts, put, List.reverse_cons, List.reverse_nil, List.nil_append, List.cons_append] <;> exact rfl) (RunL.seq (RunL.unp (by simp (disch := first | assumption | omega | rfl) only [ev, evs, nth, t4, b_add, b_sub, b_and, b_xor, b_mul, b_shl, b_shr, b_pow, b_div, b_mod, t_int, t_bool, c_lt, c_gt, c_le, c_ge, Option.bind_some, Option.map_some, if_true, Bool.false_eq_true, if_false] <;> exact rfl) (by simp only [puts, put, List.reverse_cons, List.reverse_nil, List.nil_append, List.cons_append] <;> exact rfl) (RunL.seq (RunL.set (by simp (disch := first | assumption | omega | rfl) only [ev, evs, nth, t4, b_add, b_sub, b_and, b_xor, b_mul, b_shl, b_shr, b_pow, b_div, b_mod, t_int, t_bool, c_lt, c_gt, c_le, c_ge, Option.bind_some, Option.map_some, if_true, Bool.false_eq_true, if_false, h3] <;> exact rfl) (by simp only [put] <;> exact rfl) (RunL.seq (RunL.set (by simp (disch := first | assumption | omega | rfl) only [ev, evs, nth, t4, b_add, b_sub, b_and, b_xor, b_mul, b_shl, b_shr, b_pow, b_div, b_mod, t_int, t_bool, c_lt, c_gt, c_le, c_ge, Option.bind_some, Option.map_some, if_true, Bool.false_eq_true, if_false, h4] <;> exact rfl) (by simp only [put] <;> exact rfl) ?_)))))))
  refine RunL.seq (RunL.ite (by simp (disch := first | assumption | omega | rfl) only [ev, evs, nth, t4, b_add, b_sub, b_and, b_xor, b_mul, b_shl, b_shr, b_pow, b_div, b_mod, t_int, t_bool, c_lt, c_gt, c_le, c_ge, Option.bind_some, Option.map_some, if_true, Bool.false_eq_true, if_false, eq_sp] <;> exact rfl) (by simp only [t_int, t_bool] <;> exact rfl) (fun h => by cases h) (fun h => RunL.skip ?_))
  refine RunL.seq (RunL.ite (by simp (disch := first | assumption | omega | rfl) only [ev, evs, nth, t4, b_add, b_sub, b_and, b_xor, b_mul, b_shl, b_shr, b_pow, b_div, b_mod, t_int, t_bool, c_lt, c_gt, c_le, c_ge, Option.bind_some, Option.map_some, if_true, Bool.false_eq_true, if_false, eq_sp] <;> exact rfl) (by simp only [t_int, t_bool] <;> exact rfl) (fun h => by cases h) (fun h => RunL.skip ?_))
  exact RunL.seq (RunL.ret (by simp (disch := first | assumption | omega | rfl) only [ev, evs, nth, t4, b_add, b_sub, b_and, b_xor, b_mul, b_shl, b_shr, b_pow, b_div, b_mod, t_int, t_bool, c_lt, c_gt, c_le, c_ge, Option.bind_some, Option.map_some, if_true, Bool.false_eq_true, if_false] <;> exact rfl) rfl)
theorem mpi_sub_spec (n N p : Nat) (a b c d : Int) (ha : bits a ≤ 10000) (hb : bits b ≤ 10000) (hc : bits c ≤ 10000) (hd : bits d ≤ 10000) (h1 : Sm p a d) (h2 : Sm p b c) :
    Fn Tb (n + 7) 135 [iv N a b, iv N c d, .int p] = some (iv N (rr .f p (a - d)) (rr .c p (b - c))) := by
  have h3 : Fn Tb (n + 6) 111 [fp N a, fp N d, .int p, .str (Str.ofString "f")] = some (fp N (rr .f p (a - d))) := sub_spec n N p .f a d ha hd h1
  have h4 : Fn Tb (n + 6) 111 [fp N b, fp N c, .int p, .str (Str.ofString "c")] = some (fp N (rr .c p (b - c))) := sub_spec n N p .c b c hb hc h2
  refine Fn_of (fd := fd135) rfl (by simp only [ini, fd135, List.length_cons, List.length_nil, List.map_cons, List.map_nil, List.cons_append, List.nil_append, List.drop_succ_cons, List.drop_zero, List.drop_nil, List.replicate_succ, List.replicate_zero, Nat.reduceAdd, Nat.reduceSub, Nat.reduceLeDiff, and_self, if_true] <;> exact rfl) ?_
  generalize Fn Tb (n + 6) = F at h3 h4 ⊢
  refine RunL.seq (RunL.unp (by simp (disch := first | assumption | omega | rfl) only [ev, evs, nth, t4, b_add, b_sub, b_and, b_xor, b_mul, b_shl, b_shr, b_pow, b_div, b_mod, t_int, t_bool, c_lt, c_gt, c_le, c_ge, Option.bind_some, Option.map_some, if_true, Bool.false_eq_true, if_false] <;> exact rfl) (by simp only [puts, put, List.reverse_cons, List.reverse_nil, List.nil_append, List.cons_append] <;> exact rfl) (RunL.seq (RunL.unp (by simp (disch := first | assumption | omega | rfl) only [ev, evs, nth, t4, b_add, b_sub, b_and, b_xor, b_mul, b_shl, b_shr, b_pow, b_div, b_mod, t_int, t_bool, c_lt, c_gt, c_le, c_ge, Option.bind_some, Option.map_some, if_true, Bool.false_eq_true, if_false] <;> exact rfl) (by simp only [puts, put, List.reverse_cons, List.reverse_nil, List.nil_append, List.cons_append] <;> exact rfl) (RunL.seq (RunL.set (by simp (disch := first | assumption | omega | rfl) only [ev, evs, nth, t4, b_add, b_sub, b_and, b_xor, b_mul, b_shl, b_shr, b_pow, b_div, b_mod, t_int, t_bool, c_lt, c_gt, c_le, c_ge, Option.bind_some, Option.map_some, if_true, Bool.false_eq_true, if_false, h3] <;> exact rfl) (by simp only [put] <;> exact rfl) (RunL.seq (RunL.set (by simp (disch := first | assumption | omega | rfl) only [ev, evs, nth, t4, b_add, b_sub, b_and, b_xor, b_mul, b_shl, b_shr, b_pow, b_div, b_mod, t_int, t_bool, c_lt, c_gt, c_le, c_ge, Option.bind_some, Option.map_some, if_true, Bool.false_eq_true, if_false, h4] <;> exact rfl) (by simp only [put] <;> exact rfl) ?_)))))))
  refine RunL.seq (RunL.ite (by simp (disch := first | assumption | omega | rfl) only [ev, evs, nth, t4, b_add, b_sub, b_and, b_xor, b_mul, b_shl, b_shr, b_pow, b_div, b_mod, t_int, t_bool, c_lt, c_gt, c_le, c_ge, Option.bind_some, Option.map_some, if_true, Bool.false_eq_true, if_false, eq_sp] <;> exact rfl) (by simp only [t_int, t_bool] <;> exact rfl) (fun h => by cases h) (fun h => RunL.skip ?_))
  refine RunL.seq (RunL.ite (by simp (disch := first | assumption | omega | rfl) only [ev, evs, nth, t4, b_add, b_sub, b_and, b_xor, b_mul, b_shl, b_shr, b_pow, b_div, b_mod, t_int, t_bool, c_lt, c_gt, c_le, c_ge, Option.bind_some, Option.map_some, if_true, Bool.false_eq_true, if_false, eq_sp] <;> exact rfl) (by simp only [t_int, t_bool] <;> exact rfl) (fun h => by cases h) (fun h => RunL.skip ?_))
  exact RunL.seq (RunL.ret (by simp (disch := first | assumption | omega | rfl) only [ev, evs, nth, t4, b_add, b_sub, b_and, b_xor, b_mul, b_shl, b_shr, b_pow, b_div, b_mod, t_int, t_bool, c_lt, c_gt, c_le, c_ge, Option.bind_some, Option.map_some, if_true, Bool.false_eq_true, if_false] <;> exact rfl) rfl)
theorem mpi_delta_spec (n N : Nat) (a b : Int) (ha : bits a ≤ 100) (hb : bits b ≤ 100) : Fn Tb (n + 7) 142 [iv N a b, .int 400] = some (fp N (b - a)) := by
  have h3 : Fn Tb (n + 6) 111 [fp N b, fp N a, .int 400, .str (Str.ofString "u")] = some (fp N (rr .u 400 (b - a))) := sub_spec n N 400 .u b a (by omega) (by omega) (.inr (.inl ⟨hb, ha⟩))
  have hs : bits (b - a) ≤ 400 := by
    have := bits_add_le (k := 100) hb (by rw [bits_neg]; exact ha : bits (-a) ≤ 100)
    rw [← Int.sub_eq_add_neg] at this; omega
  rw [rr_small hs] at h3
  refine Fn_of (fd := fd142) rfl (by simp only [ini, fd142, List.length_cons, List.length_nil, List.map_cons, List.map_nil, List.cons_append, List.nil_append, List.drop_succ_cons, List.drop_zero, List.drop_nil, List.replicate_succ, List.replicate_zero, Nat.reduceAdd, Nat.reduceSub, Nat.reduceLeDiff, and_self, if_true] <;> exact rfl) ?_
  generalize Fn Tb (n + 6) = F at h3 ⊢
  exact RunL.seq (RunL.unp (by simp (disch := first | assumption | omega | rfl) only [ev, evs, nth, t4, b_add, b_sub, b_and, b_xor, b_mul, b_shl, b_shr, b_pow, b_div, b_mod, t_int, t_bool, c_lt, c_gt, c_le, c_ge, Option.bind_some, Option.map_some, if_true, Bool.false_eq_true, if_false] <;> exact rfl) (by simp only [puts, put, List.reverse_cons, List.reverse_nil, List.nil_append, List.cons_append] <;> exact rfl) (RunL.seq (RunL.ret (by simp (disch := first | assumption | omega | rfl) only [ev, evs, nth, t4, b_add, b_sub, b_and, b_xor, b_mul, b_shl, b_shr, b_pow, b_div, b_mod, t_int, t_bool, c_lt, c_gt, c_le, c_ge, Option.bind_some, Option.map_some, if_true, Bool.false_eq_true, if_false, h3] <;> exact rfl) rfl)))
theorem mpi_neg_spec (n N : Nat) (a b : Int) : Fn Tb (n + 5) 150 [iv N a b] = some (iv N (-b) (-a)) := by
  have h3 : Fn Tb (n + 4) 88 [fp N b, .int 0, .str (Str.ofString "f")] = some (fp N (-b)) := neg_spec n N 0 .f b
  have h4 : Fn Tb (n + 4) 88 [fp N a, .int 0, .str (Str.ofString "c")] = some (fp N (-a)) := neg_spec n N 0 .c a
  refine Fn_of (fd := fd150) rfl (by simp only [ini, fd150, List.length_cons, List.length_nil, List.map_cons, List.map_nil, List.cons_append, List.nil_append, List.drop_succ_cons, List.drop_zero, List.drop_nil, List.replicate_succ, List.replicate_zero, Nat.reduceAdd, Nat.reduceSub, Nat.reduceLeDiff, and_self, if_true] <;> exact rfl) ?_
  generalize Fn Tb (n + 4) = F at h3 h4 ⊢
  refine RunL.seq (RunL.unp (by simp (disch := first | assumption | omega | rfl) only [ev, evs, nth, t4, b_add, b_sub, b_and, b_xor, b_mul, b_shl, b_shr, b_pow, b_div, b_mod, t_int, t_bool, c_lt, c_gt, c_le, c_ge, Option.bind_some, Option.map_some, if_true, Bool.false_eq_true, if_false] <;> exact rfl) (by simp only [puts, put, List.reverse_cons, List.reverse_nil, List.nil_append, List.cons_append] <;> exact rfl) (RunL.seq (RunL.set (by simp (disch := first | assumption | omega | rfl) only [ev, evs, nth, t4, b_add, b_sub, b_and, b_xor, b_mul, b_shl, b_shr, b_pow, b_div, b_mod, t_int, t_bool, c_lt, c_gt, c_le, c_ge, Option.bind_some, Option.map_some, if_true, Bool.false_eq_true, if_false, h3] <;> exact rfl) (by simp only [put] <;> exact rfl) (RunL.seq (RunL.set (by simp (disch := first | assumption | omega | rfl) only [ev, evs, nth, t4, b_add, b_sub, b_and, b_xor, b_mul, b_shl, b_shr, b_pow, b_div, b_mod, t_int, t_bool, c_lt, c_gt, c_le, c_ge, Option.bind_some, Option.map_some, if_true, Bool.false_eq_true, if_false, h4] <;> exact rfl) (by simp only [put] <;> exact rfl) ?_)))))
  exact RunL.seq (RunL.ret (by simp (disch := first | assumption | omega | rfl) only [ev, evs, nth, t4, b_add, b_sub, b_and, b_xor, b_mul, b_shl, b_shr, b_pow, b_div, b_mod, t_int, t_bool, c_lt, c_gt, c_le, c_ge, Option.bind_some, Option.map_some, if_true, Bool.false_eq_true, if_false] <;> exact rfl) rfl)
/-- the greatest size -/
def mg (a b : Int) : Int := if -a < b then b else -a
theorem sg_ge {x : Int} : decide (0 ≤ x.sign) = decide (0 ≤ x) := decide_eq_decide.mpr Int.sign_nonneg_iff
theorem mpi_abs_spec (n N : Nat) (a b : Int) (hab : a ≤ b) (ha : bits a ≤ 10000) (hb : bits b ≤ 10000) : ∃ z, Fn Tb (n + 9) 158 [iv N a b] = some (.tuple [z, fp N (mg a b)]) := by
  have hsa := sign_spec (n + 7) N a
  have hsb := sign_spec (n + 7) N b
  have hpf := fun X => pos_spec (n + 4) N 0 .f X
  have hpc := fun X => pos_spec (n + 4) N 0 .c X
  have hnf := fun X => neg_spec (n + 4) N 0 .f X
  have hnc := fun X => neg_spec (n + 4) N 0 .c X
  have hn1 := neg1_spec (n + 4) N a
  have hlt := lt_spec n N (-a) b (by rw [bits_neg]; exact ha) hb
  have e0 : ∀ r X, rr r 0 X = X := fun _ _ => rfl
  simp only [e0, Nat.add_assoc, Nat.reduceAdd] at hsa hsb hpf hpc hnf hnc hn1
  have f1 : Md.f.s = Str.ofString "f" := rfl
  have f2 : Md.c.s = Str.ofString "c" := rfl
  have f3 : ((0 : Nat) : Int) = 0 := rfl
  rw [f1, f3] at hpf hnf
  rw [f2, f3] at hpc hnc
  by_cases h1 : 0 ≤ a
  · refine ⟨fp N a, Fn_of (fd := fd158) rfl (by simp only [ini, fd158, List.length_cons, List.length_nil, List.map_cons, List.map_nil, List.cons_append, List.nil_append, List.drop_succ_cons, List.drop_zero, List.drop_nil, List.replicate_succ, List.replicate_zero, Nat.reduceAdd, Nat.reduceSub, Nat.reduceLeDiff, and_self, if_true] <;> exact rfl) ?_⟩
    generalize Fn Tb (n + 8) = F at hsa hsb hpf hpc hnf hnc hn1 hlt ⊢
    refine RunL.seq (RunL.unp (by simp (disch := first | assumption | omega | rfl) only [ev, evs, nth, t4, b_add, b_sub, b_and, b_xor, b_mul, b_shl, b_shr, b_pow, b_div, b_mod, t_int, t_bool, c_lt, c_gt, c_le, c_ge, Option.bind_some, Option.map_some, if_true, Bool.false_eq_true, if_false] <;> exact rfl) (by simp only [puts, put, List.reverse_cons, List.reverse_nil, List.nil_append, List.cons_append] <;> exact rfl) (RunL.seq (RunL.set (by simp (disch := first | assumption | omega | rfl) only [ev, evs, nth, t4, b_add, b_sub, b_and, b_xor, b_mul, b_shl, b_shr, b_pow, b_div, b_mod, t_int, t_bool, c_lt, c_gt, c_le, c_ge, Option.bind_some, Option.map_some, if_true, Bool.false_eq_true, if_false, hsa] <;> exact rfl) (by simp only [put] <;> exact rfl) (RunL.seq (RunL.set (by simp (disch := first | assumption | omega | rfl) only [ev, evs, nth, t4, b_add, b_sub, b_and, b_xor, b_mul, b_shl, b_shr, b_pow, b_div, b_mod, t_int, t_bool, c_lt, c_gt, c_le, c_ge, Option.bind_some, Option.map_some, if_true, Bool.false_eq_true, if_false, hsb] <;> exact rfl) (by simp only [put] <;> exact rfl) ?_)))))
    refine RunL.seq (RunL.ite (by simp (disch := first | assumption | omega | rfl) only [ev, evs, nth, t4, b_add, b_sub, b_and, b_xor, b_mul, b_shl, b_shr, b_pow, b_div, b_mod, t_int, t_bool, c_lt, c_gt, c_le, c_ge, Option.bind_some, Option.map_some, if_true, Bool.false_eq_true, if_false, sg_ge] <;> exact rfl) (by simp only [t_int, t_bool] <;> exact rfl) (fun h => ?_) (fun h => absurd h1 (of_decide_eq_false h)))
    refine RunL.seq (RunL.set (by simp (disch := first | assumption | omega | rfl) only [ev, evs, nth, t4, b_add, b_sub, b_and, b_xor, b_mul, b_shl, b_shr, b_pow, b_div, b_mod, t_int, t_bool, c_lt, c_gt, c_le, c_ge, Option.bind_some, Option.map_some, if_true, Bool.false_eq_true, if_false, hpf] <;> exact rfl) (by simp only [put] <;> exact rfl) (RunL.seq (RunL.set (by simp (disch := first | assumption | omega | rfl) only [ev, evs, nth, t4, b_add, b_sub, b_and, b_xor, b_mul, b_shl, b_shr, b_pow, b_div, b_mod, t_int, t_bool, c_lt, c_gt, c_le, c_ge, Option.bind_some, Option.map_some, if_true, Bool.false_eq_true, if_false, hpc] <;> exact rfl) (by simp only [put] <;> exact rfl) (RunL.skip ?_))))
    refine RunL.seq (RunL.ret (by simp (disch := first | assumption | omega | rfl) only [ev, evs, nth, t4, b_add, b_sub, b_and, b_xor, b_mul, b_shl, b_shr, b_pow, b_div, b_mod, t_int, t_bool, c_lt, c_gt, c_le, c_ge, Option.bind_some, Option.map_some, if_true, Bool.false_eq_true, if_false] <;> exact rfl) ?_)
    have : mg a b = b := by unfold mg; split <;> omega
    rw [this]
  by_cases h2 : 0 ≤ b
  · refine ⟨fp N 0, Fn_of (fd := fd158) rfl (by simp only [ini, fd158, List.length_cons, List.length_nil, List.map_cons, List.map_nil, List.cons_append, List.nil_append, List.drop_succ_cons, List.drop_zero, List.drop_nil, List.replicate_succ, List.replicate_zero, Nat.reduceAdd, Nat.reduceSub, Nat.reduceLeDiff, and_self, if_true] <;> exact rfl) ?_⟩
    generalize Fn Tb (n + 8) = F at hsa hsb hpf hpc hnf hnc hn1 hlt ⊢
    refine RunL.seq (RunL.unp (by simp (disch := first | assumption | omega | rfl) only [ev, evs, nth, t4, b_add, b_sub, b_and, b_xor, b_mul, b_shl, b_shr, b_pow, b_div, b_mod, t_int, t_bool, c_lt, c_gt, c_le, c_ge, Option.bind_some, Option.map_some, if_true, Bool.false_eq_true, if_false] <;> exact rfl) (by simp only [puts, put, List.reverse_cons, List.reverse_nil, List.nil_append, List.cons_append] <;> exact rfl) (RunL.seq (RunL.set (by simp (disch := first | assumption | omega | rfl) only [ev, evs, nth, t4, b_add, b_sub, b_and, b_xor, b_mul, b_shl, b_shr, b_pow, b_div, b_mod, t_int, t_bool, c_lt, c_gt, c_le, c_ge, Option.bind_some, Option.map_some, if_true, Bool.false_eq_true, if_false, hsa] <;> exact rfl) (by simp only [put] <;> exact rfl) (RunL.seq (RunL.set (by simp (disch := first | assumption | omega | rfl) only [ev, evs, nth, t4, b_add, b_sub, b_and, b_xor, b_mul, b_shl, b_shr, b_pow, b_div, b_mod, t_int, t_bool, c_lt, c_gt, c_le, c_ge, Option.bind_some, Option.map_some, if_true, Bool.false_eq_true, if_false, hsb] <;> exact rfl) (by simp only [put] <;> exact rfl) ?_)))))
    refine RunL.seq (RunL.ite (by simp (disch := first | assumption | omega | rfl) only [ev, evs, nth, t4, b_add, b_sub, b_and, b_xor, b_mul, b_shl, b_shr, b_pow, b_div, b_mod, t_int, t_bool, c_lt, c_gt, c_le, c_ge, Option.bind_some, Option.map_some, if_true, Bool.false_eq_true, if_false, sg_ge] <;> exact rfl) (by simp only [t_int, t_bool] <;> exact rfl) (fun h => absurd (of_decide_eq_true h) h1) (fun h => ?_))
    refine RunL.seq (RunL.ite (by simp (disch := first | assumption | omega | rfl) only [ev, evs, nth, t4, b_add, b_sub, b_and, b_xor, b_mul, b_shl, b_shr, b_pow, b_div, b_mod, t_int, t_bool, c_lt, c_gt, c_le, c_ge, Option.bind_some, Option.map_some, if_true, Bool.false_eq_true, if_false, sg_ge] <;> exact rfl) (by simp only [t_int, t_bool] <;> exact rfl) (fun h => ?_) (fun h => absurd h2 (of_decide_eq_false h)))
    refine RunL.seq (RunL.set (by simp (disch := first | assumption | omega | rfl) only [ev, evs, nth, t4, b_add, b_sub, b_and, b_xor, b_mul, b_shl, b_shr, b_pow, b_div, b_mod, t_int, t_bool, c_lt, c_gt, c_le, c_ge, Option.bind_some, Option.map_some, if_true, Bool.false_eq_true, if_false] <;> exact rfl) (by simp only [put] <;> exact rfl) (RunL.seq (RunL.set (by simp (disch := first | assumption | omega | rfl) only [ev, evs, nth, t4, b_add, b_sub, b_and, b_xor, b_mul, b_shl, b_shr, b_pow, b_div, b_mod, t_int, t_bool, c_lt, c_gt, c_le, c_ge, Option.bind_some, Option.map_some, if_true, Bool.false_eq_true, if_false, hn1] <;> exact rfl) (by simp only [put] <;> exact rfl) ?_)))
    refine RunL.seq (RunL.ite (by simp (disch := first | assumption | omega | rfl) only [ev, evs, nth, t4, b_add, b_sub, b_and, b_xor, b_mul, b_shl, b_shr, b_pow, b_div, b_mod, t_int, t_bool, c_lt, c_gt, c_le, c_ge, Option.bind_some, Option.map_some, if_true, Bool.false_eq_true, if_false, hlt] <;> exact rfl) (by simp only [t_int, t_bool] <;> exact rfl) (fun h => ?_) (fun h => ?_))
    · have h' := of_decide_eq_true h
      refine RunL.seq (RunL.set (by simp (disch := first | assumption | omega | rfl) only [ev, evs, nth, t4, b_add, b_sub, b_and, b_xor, b_mul, b_shl, b_shr, b_pow, b_div, b_mod, t_int, t_bool, c_lt, c_gt, c_le, c_ge, Option.bind_some, Option.map_some, if_true, Bool.false_eq_true, if_false, hpc] <;> exact rfl) (by simp only [put] <;> exact rfl) (RunL.skip (RunL.skip (RunL.skip (RunL.seq (RunL.ret (by simp (disch := first | assumption | omega | rfl) only [ev, evs, nth, t4, b_add, b_sub, b_and, b_xor, b_mul, b_shl, b_shr, b_pow, b_div, b_mod, t_int, t_bool, c_lt, c_gt, c_le, c_ge, Option.bind_some, Option.map_some, if_true, Bool.false_eq_true, if_false] <;> exact rfl) ?_))))))
      rw [fp_zero]
      unfold mg; rw [if_pos h']; rfl
    · have h' := of_decide_eq_false h
      refine RunL.seq (RunL.set (by simp (disch := first | assumption | omega | rfl) only [ev, evs, nth, t4, b_add, b_sub, b_and, b_xor, b_mul, b_shl, b_shr, b_pow, b_div, b_mod, t_int, t_bool, c_lt, c_gt, c_le, c_ge, Option.bind_some, Option.map_some, if_true, Bool.false_eq_true, if_false, hpc] <;> exact rfl) (by simp only [put] <;> exact rfl) (RunL.skip (RunL.skip (RunL.skip (RunL.seq (RunL.ret (by simp (disch := first | assumption | omega | rfl) only [ev, evs, nth, t4, b_add, b_sub, b_and, b_xor, b_mul, b_shl, b_shr, b_pow, b_div, b_mod, t_int, t_bool, c_lt, c_gt, c_le, c_ge, Option.bind_some, Option.map_some, if_true, Bool.false_eq_true, if_false] <;> exact rfl) ?_))))))
      rw [fp_zero]
      unfold mg; rw [if_neg h']; rfl
  · refine ⟨fp N (-b), Fn_of (fd := fd158) rfl (by simp only [ini, fd158, List.length_cons, List.length_nil, List.map_cons, List.map_nil, List.cons_append, List.nil_append, List.drop_succ_cons, List.drop_zero, List.drop_nil, List.replicate_succ, List.replicate_zero, Nat.reduceAdd, Nat.reduceSub, Nat.reduceLeDiff, and_self, if_true] <;> exact rfl) ?_⟩
    generalize Fn Tb (n + 8) = F at hsa hsb hpf hpc hnf hnc hn1 hlt ⊢
    refine RunL.seq (RunL.unp (by simp (disch := first | assumption | omega | rfl) only [ev, evs, nth, t4, b_add, b_sub, b_and, b_xor, b_mul, b_shl, b_shr, b_pow, b_div, b_mod, t_int, t_bool, c_lt, c_gt, c_le, c_ge, Option.bind_some, Option.map_some, if_true, Bool.false_eq_true, if_false] <;> exact rfl) (by simp only [puts, put, List.reverse_cons, List.reverse_nil, List.nil_append, List.cons_append] <;> exact rfl) (RunL.seq (RunL.set (by simp (disch := first | assumption | omega | rfl) only [ev, evs, nth, t4, b_add, b_sub, b_and, b_xor, b_mul, b_shl, b_shr, b_pow, b_div, b_mod, t_int, t_bool, c_lt, c_gt, c_le, c_ge, Option.bind_some, Option.map_some, if_true, Bool.false_eq_true, if_false, hsa] <;> exact rfl) (by simp only [put] <;> exact rfl) (RunL.seq (RunL.set (by simp (disch := first | assumption | omega | rfl) only [ev, evs, nth, t4, b_add, b_sub, b_and, b_xor, b_mul, b_shl, b_shr, b_pow, b_div, b_mod, t_int, t_bool, c_lt, c_gt, c_le, c_ge, Option.bind_some, Option.map_some, if_true, Bool.false_eq_true, if_false, hsb] <;> exact rfl) (by simp only [put] <;> exact rfl) ?_)))))
    refine RunL.seq (RunL.ite (by simp (disch := first | assumption | omega | rfl) only [ev, evs, nth, t4, b_add, b_sub, b_and, b_xor, b_mul, b_shl, b_shr, b_pow, b_div, b_mod, t_int, t_bool, c_lt, c_gt, c_le, c_ge, Option.bind_some, Option.map_some, if_true, Bool.false_eq_true, if_false, sg_ge] <;> exact rfl) (by simp only [t_int, t_bool] <;> exact rfl) (fun h => absurd (of_decide_eq_true h) h1) (fun h => ?_))
    refine RunL.seq (RunL.ite (by simp (disch := first | assumption | omega | rfl) only [ev, evs, nth, t4, b_add, b_sub, b_and, b_xor, b_mul, b_shl, b_shr, b_pow, b_div, b_mod, t_int, t_bool, c_lt, c_gt, c_le, c_ge, Option.bind_some, Option.map_some, if_true, Bool.false_eq_true, if_false, sg_ge] <;> exact rfl) (by simp only [t_int, t_bool] <;> exact rfl) (fun h => absurd (of_decide_eq_true h) h2) (fun h => ?_))
    refine RunL.seq (RunL.set (by simp (disch := first | assumption | omega | rfl) only [ev, evs, nth, t4, b_add, b_sub, b_and, b_xor, b_mul, b_shl, b_shr, b_pow, b_div, b_mod, t_int, t_bool, c_lt, c_gt, c_le, c_ge, Option.bind_some, Option.map_some, if_true, Bool.false_eq_true, if_false, hnf] <;> exact rfl) (by simp only [put] <;> exact rfl) (RunL.seq (RunL.set (by simp (disch := first | assumption | omega | rfl) only [ev, evs, nth, t4, b_add, b_sub, b_and, b_xor, b_mul, b_shl, b_shr, b_pow, b_div, b_mod, t_int, t_bool, c_lt, c_gt, c_le, c_ge, Option.bind_some, Option.map_some, if_true, Bool.false_eq_true, if_false, hnc] <;> exact rfl) (by simp only [put] <;> exact rfl) (RunL.skip (RunL.skip (RunL.seq (RunL.ret (by simp (disch := first | assumption | omega | rfl) only [ev, evs, nth, t4, b_add, b_sub, b_and, b_xor, b_mul, b_shl, b_shr, b_pow, b_div, b_mod, t_int, t_bool, c_lt, c_gt, c_le, c_ge, Option.bind_some, Option.map_some, if_true, Bool.false_eq_true, if_false] <;> exact rfl) ?_)))))))
    unfold mg; rw [if_neg (by omega)]
end Mine

end

/-! # part AM10 -/
section
open PySem PySem.W
set_option maxRecDepth 100000
set_option linter.unusedSimpArgs false
set_option linter.unusedVariables false
namespace Mine
open Classical
/-! ## products of intervals, in plain integers -/
def lo4 (a b c d : Int) : Int := mn2 (mn2 (mn2 (a * c) (a * d)) (b * c)) (b * d)
def hi4 (a b c d : Int) : Int := mx2 (mx2 (mx2 (a * c) (a * d)) (b * c)) (b * d)
theorem lo4_eq {a b c d v : Int} (h1 : v ≤ a * c) (h2 : v ≤ a * d) (h3 : v ≤ b * c) (h4 : v ≤ b * d) (he : v = a * c ∨ v = a * d ∨ v = b * c ∨ v = b * d) : lo4 a b c d = v := by
  unfold lo4 mn2
  generalize a * c = x1 at *; generalize a * d = x2 at *; generalize b * c = x3 at *; generalize b * d = x4 at *
  repeat' split
  all_goals omega
theorem hi4_eq {a b c d v : Int} (h1 : a * c ≤ v) (h2 : a * d ≤ v) (h3 : b * c ≤ v) (h4 : b * d ≤ v) (he : v = a * c ∨ v = a * d ∨ v = b * c ∨ v = b * d) : hi4 a b c d = v := by
  unfold hi4 mx2
  generalize a * c = x1 at *; generalize a * d = x2 at *; generalize b * c = x3 at *; generalize b * d = x4 at *
  repeat' split
  all_goals omega
theorem lo4_all (a b c d : Int) : lo4 a b c d ≤ a * c ∧ lo4 a b c d ≤ a * d ∧ lo4 a b c d ≤ b * c ∧ lo4 a b c d ≤ b * d := by
  unfold lo4 mn2
  generalize a * c = x1 at *; generalize a * d = x2 at *; generalize b * c = x3 at *; generalize b * d = x4 at *
  repeat' split
  all_goals omega
theorem hi4_all (a b c d : Int) : a * c ≤ hi4 a b c d ∧ a * d ≤ hi4 a b c d ∧ b * c ≤ hi4 a b c d ∧ b * d ≤ hi4 a b c d := by
  unfold hi4 mx2
  generalize a * c = x1 at *; generalize a * d = x2 at *; generalize b * c = x3 at *; generalize b * d = x4 at *
  repeat' split
  all_goals omega
theorem lo4_one (a b c d : Int) : lo4 a b c d = a * c ∨ lo4 a b c d = a * d ∨ lo4 a b c d = b * c ∨ lo4 a b c d = b * d := by
  unfold lo4 mn2
  generalize a * c = x1 at *; generalize a * d = x2 at *; generalize b * c = x3 at *; generalize b * d = x4 at *
  repeat' split
  all_goals omega
theorem hi4_one (a b c d : Int) : hi4 a b c d = a * c ∨ hi4 a b c d = a * d ∨ hi4 a b c d = b * c ∨ hi4 a b c d = b * d := by
  unfold hi4 mx2
  generalize a * c = x1 at *; generalize a * d = x2 at *; generalize b * c = x3 at *; generalize b * d = x4 at *
  repeat' split
  all_goals omega
theorem lo4_mem (a b c d : Int) : ∃ x y, (x = a ∨ x = b) ∧ (y = c ∨ y = d) ∧ lo4 a b c d = x * y := by
  rcases lo4_one a b c d with h | h | h | h
  · exact ⟨a, c, .inl rfl, .inl rfl, h⟩
  · exact ⟨a, d, .inl rfl, .inr rfl, h⟩
  · exact ⟨b, c, .inr rfl, .inl rfl, h⟩
  · exact ⟨b, d, .inr rfl, .inr rfl, h⟩
theorem hi4_mem (a b c d : Int) : ∃ x y, (x = a ∨ x = b) ∧ (y = c ∨ y = d) ∧ hi4 a b c d = x * y := by
  rcases hi4_one a b c d with h | h | h | h
  · exact ⟨a, c, .inl rfl, .inl rfl, h⟩
  · exact ⟨a, d, .inl rfl, .inr rfl, h⟩
  · exact ⟨b, c, .inr rfl, .inl rfl, h⟩
  · exact ⟨b, d, .inr rfl, .inr rfl, h⟩
theorem mr {x y z : Int} (h : x ≤ y) (hz : 0 ≤ z) : x * z ≤ y * z := Int.mul_le_mul_of_nonneg_right h hz
theorem ml {x y z : Int} (h : x ≤ y) (hz : 0 ≤ z) : z * x ≤ z * y := Int.mul_le_mul_of_nonneg_left h hz
theorem nr {x y z : Int} (h : x ≤ y) (hz : z ≤ 0) : y * z ≤ x * z := Int.mul_le_mul_of_nonpos_right h hz
theorem nl {x y z : Int} (h : x ≤ y) (hz : z ≤ 0) : z * y ≤ z * x := Int.mul_le_mul_of_nonpos_left hz h
theorem lo4_le {a b c d x y : Int} (h1 : a ≤ x) (h2 : x ≤ b) (h3 : c ≤ y) (h4 : y ≤ d) : lo4 a b c d ≤ x * y := by
  obtain ⟨p1, p2, p3, p4⟩ := lo4_all a b c d
  have ha : lo4 a b c d ≤ a * y := by
    rcases Int.le_total 0 a with h | h
    · exact Int.le_trans p1 (ml h3 h)
    · exact Int.le_trans p2 (nl h4 h)
  have hb : lo4 a b c d ≤ b * y := by
    rcases Int.le_total 0 b with h | h
    · exact Int.le_trans p3 (ml h3 h)
    · exact Int.le_trans p4 (nl h4 h)
  rcases Int.le_total 0 y with h | h
  · exact Int.le_trans ha (mr h1 h)
  · exact Int.le_trans hb (nr h2 h)
theorem le_hi4 {a b c d x y : Int} (h1 : a ≤ x) (h2 : x ≤ b) (h3 : c ≤ y) (h4 : y ≤ d) : x * y ≤ hi4 a b c d := by
  obtain ⟨p1, p2, p3, p4⟩ := hi4_all a b c d
  have ha : a * y ≤ hi4 a b c d := by
    rcases Int.le_total 0 a with h | h
    · exact Int.le_trans (ml h4 h) p2
    · exact Int.le_trans (nl h3 h) p1
  have hb : b * y ≤ hi4 a b c d := by
    rcases Int.le_total 0 b with h | h
    · exact Int.le_trans (ml h4 h) p4
    · exact Int.le_trans (nl h3 h) p3
  rcases Int.le_total 0 y with h | h
  · exact Int.le_trans (mr h2 h) hb
  · exact Int.le_trans (nr h1 h) ha
theorem lo4_bits {a b c d : Int} {k l : Nat} (ha : bits a ≤ k) (hb : bits b ≤ k) (hc : bits c ≤ l) (hd : bits d ≤ l) : bits (lo4 a b c d) ≤ k + l := by
  obtain ⟨x, y, hx, hy, e⟩ := lo4_mem a b c d
  rw [e]
  refine Nat.le_trans (bits_mul_le _ _) (Nat.add_le_add ?_ ?_)
  · rcases hx with rfl | rfl <;> assumption
  · rcases hy with rfl | rfl <;> assumption
theorem hi4_bits {a b c d : Int} {k l : Nat} (ha : bits a ≤ k) (hb : bits b ≤ k) (hc : bits c ≤ l) (hd : bits d ≤ l) : bits (hi4 a b c d) ≤ k + l := by
  obtain ⟨x, y, hx, hy, e⟩ := hi4_mem a b c d
  rw [e]
  refine Nat.le_trans (bits_mul_le _ _) (Nat.add_le_add ?_ ?_)
  · rcases hx with rfl | rfl <;> assumption
  · rcases hy with rfl | rfl <;> assumption

/-! ## mpi_mul -/
theorem cmp2_spec {F : Nat → List Dat → Option Dat} {ρ : List (Option Dat)} {i j : Nat} {a b : Int} (h1 : nth ρ i = some (.int a.sign)) (h2 : nth ρ j = some (.int b.sign)) :
    ev F ρ (.cmp2 .Eq .Eq (.loc i) (.loc j) (.lit (Dat.int 0))) = some (.bool (decide (a = 0 ∧ b = 0))) := by
  simp only [ev, h1, h2, Option.bind_some]
  rw [c_eq rfl rfl, c_eq rfl rfl]
  simp only [Option.bind_some, truD]
  have hA := @Int.sign_eq_zero_iff_zero a
  have hB := @Int.sign_eq_zero_iff_zero b
  by_cases h : a.sign = b.sign
  · by_cases h' : b.sign = 0
    · rw [decide_eq_true (by rw [h]), if_pos rfl, decide_eq_true (by rw [h']), decide_eq_true ⟨hA.mp (by rw [h, h']), hB.mp h'⟩]
    · rw [decide_eq_true (by rw [h]), if_pos rfl, decide_eq_false (fun e => h' (Dat.int.inj e)), decide_eq_false (fun e => h' (hB.mpr e.2))]
  · rw [decide_eq_false (fun e => h (Dat.int.inj e)), if_neg (by decide), decide_eq_false (fun e => h (by rw [e.1, e.2]))]
theorem in_sp {N : Nat} {A B C D a b c d : Int} (hd : d < 0) : evCmp .In (.tuple [.int a, .int b, .int c, .int d]) (.list [fp N A, fp N B, fp N C, fp N D]) = some (.bool false) := by
  have hne : ∀ X, Dat.tuple [.int a, .int b, .int c, .int d] ≠ fp N X := by
    intro X e
    unfold fp t4 at e
    split at e <;> (simp at e; omega)
  refine (if_pos ?_).trans ?_
  · refine ⟨fun x hx => ?_, rfl⟩
    simp only [List.mem_cons, List.not_mem_nil, or_false] at hx
    rcases hx with rfl | rfl | rfl | rfl <;> exact ok_fp _ _
  · congr 2
    refine decide_eq_false fun e => ?_
    simp only [List.mem_cons, List.not_mem_nil, or_false] at e
    rcases e with e | e | e | e <;> exact hne _ e
theorem sg_le {x : Int} : decide (x.sign ≤ 0) = decide (x ≤ 0) := decide_eq_decide.mpr (by
  rcases Int.lt_trichotomy x 0 with h | h | h
  · rw [Int.sign_eq_neg_one_of_neg h]; omega
  · subst h; simp
  · rw [Int.sign_eq_one_of_pos h]; omega)
theorem mpi_mul_spec (n N M p : Nat) (a b c d : Int) (hab : a ≤ b) (hcd : c ≤ d) (ha : bits a ≤ 4000) (hb : bits b ≤ 4000) (hc : bits c ≤ 4000) (hd : bits d ≤ 4000) :
    Fn Tb (n + 10) 166 [iv N a b, iv M c d, .int p] = some (iv (N + M) (rr .f p (lo4 a b c d)) (rr .c p (hi4 a b c d))) := by
  have sa := sign_spec (n + 8) N a
  have sb := sign_spec (n + 8) N b
  have sc := sign_spec (n + 8) M c
  have sd := sign_spec (n + 8) M d
  have mf : ∀ x y, bits x ≤ 4000 → bits y ≤ 4000 → Fn Tb (n + 9) 119 [fp N x, fp M y, .int p, .str (Str.ofString "f")] = some (fp (N + M) (rr .f p (x * y))) := fun x y hx hy => mul_spec (n + 4) N M p .f x y (by omega) (by omega)
  have mc : ∀ x y, bits x ≤ 4000 → bits y ≤ 4000 → Fn Tb (n + 9) 119 [fp N x, fp M y, .int p, .str (Str.ofString "c")] = some (fp (N + M) (rr .c p (x * y))) := fun x y hx hy => mul_spec (n + 4) N M p .c x y (by omega) (by omega)
  have m1 : ∀ x y, bits x ≤ 4000 → bits y ≤ 4000 → Fn Tb (n + 9) 119 [fp N x, fp M y] = some (fp (N + M) (x * y)) := fun x y hx hy => mul_spec (n + 4) N M 0 .d x y (by omega) (by omega)
  have hm := fun A B C D h1 h2 h3 h4 => mm_spec n (N + M) A B C D h1 h2 h3 h4
  have pf : ∀ x, Fn Tb (n + 9) 80 [fp (N + M) x, .int p, .str (Str.ofString "f")] = some (fp (N + M) (rr .f p x)) := fun x => pos_spec (n + 5) (N + M) p .f x
  have pc : ∀ x, Fn Tb (n + 9) 80 [fp (N + M) x, .int p, .str (Str.ofString "c")] = some (fp (N + M) (rr .c p x)) := fun x => pos_spec (n + 5) (N + M) p .c x
  have mb : ∀ {x y : Int}, bits x ≤ 4000 → bits y ≤ 4000 → bits (x * y) ≤ 10000 := fun hx hy => Nat.le_trans (bits_mul_le _ _) (by omega)
  have hz : ∀ (r : Md), rr r p 0 = 0 := fun r => rr_small (by rw [bits_zero]; omega)
  refine Fn_of (fd := fd166) rfl (by simp only [ini, fd166, List.length_cons, List.length_nil, List.map_cons, List.map_nil, List.cons_append, List.nil_append, List.drop_succ_cons, List.drop_zero, List.drop_nil, List.replicate_succ, List.replicate_zero, Nat.reduceAdd, Nat.reduceSub, Nat.reduceLeDiff, and_self, if_true] <;> exact rfl) ?_
  generalize Fn Tb (n + 9) = F at sa sb sc sd mf mc m1 hm pf pc ⊢
  refine RunL.seq (RunL.unp (by simp (disch := first | assumption | omega | rfl) only [ev, evs, nth, t4, b_add, b_sub, b_and, b_xor, b_mul, b_shl, b_shr, b_pow, b_div, b_mod, t_int, t_bool, c_lt, c_gt, c_le, c_ge, Option.bind_some, Option.map_some, if_true, Bool.false_eq_true, if_false] <;> exact rfl) (by simp only [puts, put, List.reverse_cons, List.reverse_nil, List.nil_append, List.cons_append] <;> exact rfl) (RunL.seq (RunL.unp (by simp (disch := first | assumption | omega | rfl) only [ev, evs, nth, t4, b_add, b_sub, b_and, b_xor, b_mul, b_shl, b_shr, b_pow, b_div, b_mod, t_int, t_bool, c_lt, c_gt, c_le, c_ge, Option.bind_some, Option.map_some, if_true, Bool.false_eq_true, if_false] <;> exact rfl) (by simp only [puts, put, List.reverse_cons, List.reverse_nil, List.nil_append, List.cons_append] <;> exact rfl) ?_)))
  refine RunL.seq (RunL.set (by simp (disch := first | assumption | omega | rfl) only [ev, evs, nth, t4, b_add, b_sub, b_and, b_xor, b_mul, b_shl, b_shr, b_pow, b_div, b_mod, t_int, t_bool, c_lt, c_gt, c_le, c_ge, Option.bind_some, Option.map_some, if_true, Bool.false_eq_true, if_false, sa] <;> exact rfl) (by simp only [put] <;> exact rfl) (RunL.seq (RunL.set (by simp (disch := first | assumption | omega | rfl) only [ev, evs, nth, t4, b_add, b_sub, b_and, b_xor, b_mul, b_shl, b_shr, b_pow, b_div, b_mod, t_int, t_bool, c_lt, c_gt, c_le, c_ge, Option.bind_some, Option.map_some, if_true, Bool.false_eq_true, if_false, sb] <;> exact rfl) (by simp only [put] <;> exact rfl) (RunL.seq (RunL.set (by simp (disch := first | assumption | omega | rfl) only [ev, evs, nth, t4, b_add, b_sub, b_and, b_xor, b_mul, b_shl, b_shr, b_pow, b_div, b_mod, t_int, t_bool, c_lt, c_gt, c_le, c_ge, Option.bind_some, Option.map_some, if_true, Bool.false_eq_true, if_false, sc] <;> exact rfl) (by simp only [put] <;> exact rfl) (RunL.seq (RunL.set (by simp (disch := first | assumption | omega | rfl) only [ev, evs, nth, t4, b_add, b_sub, b_and, b_xor, b_mul, b_shl, b_shr, b_pow, b_div, b_mod, t_int, t_bool, c_lt, c_gt, c_le, c_ge, Option.bind_some, Option.map_some, if_true, Bool.false_eq_true, if_false, sd] <;> exact rfl) (by simp only [put] <;> exact rfl) ?_)))))))
  refine RunL.seq (RunL.ite (cmp2_spec (a := a) (b := b) rfl rfl) (by simp only [t_int, t_bool] <;> exact rfl) (fun h => ?_) (fun h => RunL.skip ?_))
  · obtain ⟨rfl, rfl⟩ := of_decide_eq_true h
    refine RunL.seq (RunL.ite (by simp (disch := first | assumption | omega | rfl) only [ev, evs, nth, t4, b_add, b_sub, b_and, b_xor, b_mul, b_shl, b_shr, b_pow, b_div, b_mod, t_int, t_bool, c_lt, c_gt, c_le, c_ge, Option.bind_some, Option.map_some, if_true, Bool.false_eq_true, if_false, eq_sp] <;> exact rfl) (by simp only [t_int, t_bool] <;> exact rfl) (fun h => by cases h) (fun h => RunL.skip ?_))
    refine RunL.seq (RunL.ret (by simp (disch := first | assumption | omega | rfl) only [ev, evs, nth, t4, b_add, b_sub, b_and, b_xor, b_mul, b_shl, b_shr, b_pow, b_div, b_mod, t_int, t_bool, c_lt, c_gt, c_le, c_ge, Option.bind_some, Option.map_some, if_true, Bool.false_eq_true, if_false] <;> exact rfl) ?_)
    have e1 : lo4 0 0 c d = 0 := by simp [lo4, mn2]
    have e2 : hi4 0 0 c d = 0 := by simp [hi4, mx2]
    rw [e1, e2, hz, hz, iv, fp_zero]; rfl
  refine RunL.seq (RunL.ite (cmp2_spec (a := c) (b := d) rfl rfl) (by simp only [t_int, t_bool] <;> exact rfl) (fun h => ?_) (fun h => RunL.skip ?_))
  · obtain ⟨rfl, rfl⟩ := of_decide_eq_true h
    refine RunL.seq (RunL.ite (by simp (disch := first | assumption | omega | rfl) only [ev, evs, nth, t4, b_add, b_sub, b_and, b_xor, b_mul, b_shl, b_shr, b_pow, b_div, b_mod, t_int, t_bool, c_lt, c_gt, c_le, c_ge, Option.bind_some, Option.map_some, if_true, Bool.false_eq_true, if_false, eq_sp] <;> exact rfl) (by simp only [t_int, t_bool] <;> exact rfl) (fun h => by cases h) (fun h => RunL.skip ?_))
    refine RunL.seq (RunL.ret (by simp (disch := first | assumption | omega | rfl) only [ev, evs, nth, t4, b_add, b_sub, b_and, b_xor, b_mul, b_shl, b_shr, b_pow, b_div, b_mod, t_int, t_bool, c_lt, c_gt, c_le, c_ge, Option.bind_some, Option.map_some, if_true, Bool.false_eq_true, if_false] <;> exact rfl) ?_)
    have e1 : lo4 a b 0 0 = 0 := by simp [lo4, mn2]
    have e2 : hi4 a b 0 0 = 0 := by simp [hi4, mx2]
    rw [e1, e2, hz, hz, iv, fp_zero]; rfl
  refine RunL.seq (RunL.ite (by simp (disch := first | assumption | omega | rfl) only [ev, evs, nth, t4, b_add, b_sub, b_and, b_xor, b_mul, b_shl, b_shr, b_pow, b_div, b_mod, t_int, t_bool, c_lt, c_gt, c_le, c_ge, Option.bind_some, Option.map_some, if_true, Bool.false_eq_true, if_false, sg_ge] <;> exact rfl) (by simp only [t_int, t_bool] <;> exact rfl) (fun h => ?_) (fun h => ?_))
  · have ha0 : 0 ≤ a := of_decide_eq_true h
    have hb0 : 0 ≤ b := by omega
    refine RunL.seq (RunL.ite (by simp (disch := first | assumption | omega | rfl) only [ev, evs, nth, t4, b_add, b_sub, b_and, b_xor, b_mul, b_shl, b_shr, b_pow, b_div, b_mod, t_int, t_bool, c_lt, c_gt, c_le, c_ge, Option.bind_some, Option.map_some, if_true, Bool.false_eq_true, if_false, sg_ge] <;> exact rfl) (by simp only [t_int, t_bool] <;> exact rfl) (fun h => ?_) (fun h => ?_))
    · have hc0 : 0 ≤ c := of_decide_eq_true h
      have hd0 : 0 ≤ d := by omega
      have q1 := ml hcd ha0; have q2 := mr hab hc0; have q3 := ml hcd hb0; have q4 := mr hab hd0
      have e1 : lo4 a b c d = a * c := lo4_eq (by omega) (by omega) (by omega) (by omega) (by simp)
      have e2 : hi4 a b c d = b * d := hi4_eq (by omega) (by omega) (by omega) (by omega) (by simp)
      rw [e1, e2]
      have k1 := mf a c ha hc; have k2 := mc b d hb hd
      refine RunL.seq (RunL.set (by simp (disch := first | assumption | omega | rfl) only [ev, evs, nth, t4, b_add, b_sub, b_and, b_xor, b_mul, b_shl, b_shr, b_pow, b_div, b_mod, t_int, t_bool, c_lt, c_gt, c_le, c_ge, Option.bind_some, Option.map_some, if_true, Bool.false_eq_true, if_false, k1] <;> exact rfl) (by simp only [put] <;> exact rfl) (RunL.seq (RunL.set (by simp (disch := first | assumption | omega | rfl) only [ev, evs, nth, t4, b_add, b_sub, b_and, b_xor, b_mul, b_shl, b_shr, b_pow, b_div, b_mod, t_int, t_bool, c_lt, c_gt, c_le, c_ge, Option.bind_some, Option.map_some, if_true, Bool.false_eq_true, if_false, k2] <;> exact rfl) (by simp only [put] <;> exact rfl) ?_)))
      refine RunL.seq (RunL.ite (by simp (disch := first | assumption | omega | rfl) only [ev, evs, nth, t4, b_add, b_sub, b_and, b_xor, b_mul, b_shl, b_shr, b_pow, b_div, b_mod, t_int, t_bool, c_lt, c_gt, c_le, c_ge, Option.bind_some, Option.map_some, if_true, Bool.false_eq_true, if_false, eq_sp] <;> exact rfl) (by simp only [t_int, t_bool] <;> exact rfl) (fun h => by cases h) (fun h => RunL.skip ?_))
      refine RunL.seq (RunL.ite (by simp (disch := first | assumption | omega | rfl) only [ev, evs, nth, t4, b_add, b_sub, b_and, b_xor, b_mul, b_shl, b_shr, b_pow, b_div, b_mod, t_int, t_bool, c_lt, c_gt, c_le, c_ge, Option.bind_some, Option.map_some, if_true, Bool.false_eq_true, if_false, eq_sp] <;> exact rfl) (by simp only [t_int, t_bool] <;> exact rfl) (fun h => by cases h) (fun h => RunL.skip ?_))
      exact RunL.skip (RunL.skip (RunL.seq (RunL.ret (by simp (disch := first | assumption | omega | rfl) only [ev, evs, nth, t4, b_add, b_sub, b_and, b_xor, b_mul, b_shl, b_shr, b_pow, b_div, b_mod, t_int, t_bool, c_lt, c_gt, c_le, c_ge, Option.bind_some, Option.map_some, if_true, Bool.false_eq_true, if_false] <;> exact rfl) rfl)))
    · have hc0 : ¬ 0 ≤ c := of_decide_eq_false h
      refine RunL.seq (RunL.ite (by simp (disch := first | assumption | omega | rfl) only [ev, evs, nth, t4, b_add, b_sub, b_and, b_xor, b_mul, b_shl, b_shr, b_pow, b_div, b_mod, t_int, t_bool, c_lt, c_gt, c_le, c_ge, Option.bind_some, Option.map_some, if_true, Bool.false_eq_true, if_false, sg_le] <;> exact rfl) (by simp only [t_int, t_bool] <;> exact rfl) (fun h => ?_) (fun h => ?_))
      · have hd0 : d ≤ 0 := of_decide_eq_true h
        have q1 := ml hcd ha0; have q2 := nr hab (show c ≤ 0 by omega); have q3 := ml hcd hb0; have q4 := nr hab hd0
        have e1 : lo4 a b c d = b * c := lo4_eq (by omega) (by omega) (by omega) (by omega) (by simp)
        have e2 : hi4 a b c d = a * d := hi4_eq (by omega) (by omega) (by omega) (by omega) (by simp)
        rw [e1, e2]
        have k1 := mf b c hb hc; have k2 := mc a d ha hd
        refine RunL.seq (RunL.set (by simp (disch := first | assumption | omega | rfl) only [ev, evs, nth, t4, b_add, b_sub, b_and, b_xor, b_mul, b_shl, b_shr, b_pow, b_div, b_mod, t_int, t_bool, c_lt, c_gt, c_le, c_ge, Option.bind_some, Option.map_some, if_true, Bool.false_eq_true, if_false, k1] <;> exact rfl) (by simp only [put] <;> exact rfl) (RunL.seq (RunL.set (by simp (disch := first | assumption | omega | rfl) only [ev, evs, nth, t4, b_add, b_sub, b_and, b_xor, b_mul, b_shl, b_shr, b_pow, b_div, b_mod, t_int, t_bool, c_lt, c_gt, c_le, c_ge, Option.bind_some, Option.map_some, if_true, Bool.false_eq_true, if_false, k2] <;> exact rfl) (by simp only [put] <;> exact rfl) ?_)))
        refine RunL.seq (RunL.ite (by simp (disch := first | assumption | omega | rfl) only [ev, evs, nth, t4, b_add, b_sub, b_and, b_xor, b_mul, b_shl, b_shr, b_pow, b_div, b_mod, t_int, t_bool, c_lt, c_gt, c_le, c_ge, Option.bind_some, Option.map_some, if_true, Bool.false_eq_true, if_false, eq_sp] <;> exact rfl) (by simp only [t_int, t_bool] <;> exact rfl) (fun h => by cases h) (fun h => RunL.skip ?_))
        refine RunL.seq (RunL.ite (by simp (disch := first | assumption | omega | rfl) only [ev, evs, nth, t4, b_add, b_sub, b_and, b_xor, b_mul, b_shl, b_shr, b_pow, b_div, b_mod, t_int, t_bool, c_lt, c_gt, c_le, c_ge, Option.bind_some, Option.map_some, if_true, Bool.false_eq_true, if_false, eq_sp] <;> exact rfl) (by simp only [t_int, t_bool] <;> exact rfl) (fun h => by cases h) (fun h => RunL.skip ?_))
        exact RunL.skip (RunL.skip (RunL.skip (RunL.seq (RunL.ret (by simp (disch := first | assumption | omega | rfl) only [ev, evs, nth, t4, b_add, b_sub, b_and, b_xor, b_mul, b_shl, b_shr, b_pow, b_div, b_mod, t_int, t_bool, c_lt, c_gt, c_le, c_ge, Option.bind_some, Option.map_some, if_true, Bool.false_eq_true, if_false] <;> exact rfl) rfl))))
      · have hd0 : ¬ d ≤ 0 := of_decide_eq_false h
        have q1 := ml hcd ha0; have q2 := nr hab (show c ≤ 0 by omega); have q3 := ml hcd hb0; have q4 := mr hab (show 0 ≤ d by omega)
        have e1 : lo4 a b c d = b * c := lo4_eq (by omega) (by omega) (by omega) (by omega) (by simp)
        have e2 : hi4 a b c d = b * d := hi4_eq (by omega) (by omega) (by omega) (by omega) (by simp)
        rw [e1, e2]
        have k1 := mf b c hb hc; have k2 := mc b d hb hd
        refine RunL.seq (RunL.set (by simp (disch := first | assumption | omega | rfl) only [ev, evs, nth, t4, b_add, b_sub, b_and, b_xor, b_mul, b_shl, b_shr, b_pow, b_div, b_mod, t_int, t_bool, c_lt, c_gt, c_le, c_ge, Option.bind_some, Option.map_some, if_true, Bool.false_eq_true, if_false, k1] <;> exact rfl) (by simp only [put] <;> exact rfl) (RunL.seq (RunL.set (by simp (disch := first | assumption | omega | rfl) only [ev, evs, nth, t4, b_add, b_sub, b_and, b_xor, b_mul, b_shl, b_shr, b_pow, b_div, b_mod, t_int, t_bool, c_lt, c_gt, c_le, c_ge, Option.bind_some, Option.map_some, if_true, Bool.false_eq_true, if_false, k2] <;> exact rfl) (by simp only [put] <;> exact rfl) ?_)))
        refine RunL.seq (RunL.ite (by simp (disch := first | assumption | omega | rfl) only [ev, evs, nth, t4, b_add, b_sub, b_and, b_xor, b_mul, b_shl, b_shr, b_pow, b_div, b_mod, t_int, t_bool, c_lt, c_gt, c_le, c_ge, Option.bind_some, Option.map_some, if_true, Bool.false_eq_true, if_false, eq_sp] <;> exact rfl) (by simp only [t_int, t_bool] <;> exact rfl) (fun h => by cases h) (fun h => RunL.skip ?_))
        refine RunL.seq (RunL.ite (by simp (disch := first | assumption | omega | rfl) only [ev, evs, nth, t4, b_add, b_sub, b_and, b_xor, b_mul, b_shl, b_shr, b_pow, b_div, b_mod, t_int, t_bool, c_lt, c_gt, c_le, c_ge, Option.bind_some, Option.map_some, if_true, Bool.false_eq_true, if_false, eq_sp] <;> exact rfl) (by simp only [t_int, t_bool] <;> exact rfl) (fun h => by cases h) (fun h => RunL.skip ?_))
        exact RunL.skip (RunL.skip (RunL.skip (RunL.seq (RunL.ret (by simp (disch := first | assumption | omega | rfl) only [ev, evs, nth, t4, b_add, b_sub, b_and, b_xor, b_mul, b_shl, b_shr, b_pow, b_div, b_mod, t_int, t_bool, c_lt, c_gt, c_le, c_ge, Option.bind_some, Option.map_some, if_true, Bool.false_eq_true, if_false] <;> exact rfl) rfl))))
  · have ha0 : ¬ 0 ≤ a := of_decide_eq_false h
    refine RunL.seq (RunL.ite (by simp (disch := first | assumption | omega | rfl) only [ev, evs, nth, t4, b_add, b_sub, b_and, b_xor, b_mul, b_shl, b_shr, b_pow, b_div, b_mod, t_int, t_bool, c_lt, c_gt, c_le, c_ge, Option.bind_some, Option.map_some, if_true, Bool.false_eq_true, if_false, sg_le] <;> exact rfl) (by simp only [t_int, t_bool] <;> exact rfl) (fun h => ?_) (fun h => ?_))
    · have hb0 : b ≤ 0 := of_decide_eq_true h
      refine RunL.seq (RunL.ite (by simp (disch := first | assumption | omega | rfl) only [ev, evs, nth, t4, b_add, b_sub, b_and, b_xor, b_mul, b_shl, b_shr, b_pow, b_div, b_mod, t_int, t_bool, c_lt, c_gt, c_le, c_ge, Option.bind_some, Option.map_some, if_true, Bool.false_eq_true, if_false, sg_ge] <;> exact rfl) (by simp only [t_int, t_bool] <;> exact rfl) (fun h => ?_) (fun h => ?_))
      · have hc0 : 0 ≤ c := of_decide_eq_true h
        have hd0 : 0 ≤ d := by omega
        have q1 := nl hcd (show a ≤ 0 by omega); have q2 := mr hab hc0; have q3 := nl hcd hb0; have q4 := mr hab hd0
        have e1 : lo4 a b c d = a * d := lo4_eq (by omega) (by omega) (by omega) (by omega) (by simp)
        have e2 : hi4 a b c d = b * c := hi4_eq (by omega) (by omega) (by omega) (by omega) (by simp)
        rw [e1, e2]
        have k1 := mf a d ha hd; have k2 := mc b c hb hc
        refine RunL.seq (RunL.set (by simp (disch := first | assumption | omega | rfl) only [ev, evs, nth, t4, b_add, b_sub, b_and, b_xor, b_mul, b_shl, b_shr, b_pow, b_div, b_mod, t_int, t_bool, c_lt, c_gt, c_le, c_ge, Option.bind_some, Option.map_some, if_true, Bool.false_eq_true, if_false, k1] <;> exact rfl) (by simp only [put] <;> exact rfl) (RunL.seq (RunL.set (by simp (disch := first | assumption | omega | rfl) only [ev, evs, nth, t4, b_add, b_sub, b_and, b_xor, b_mul, b_shl, b_shr, b_pow, b_div, b_mod, t_int, t_bool, c_lt, c_gt, c_le, c_ge, Option.bind_some, Option.map_some, if_true, Bool.false_eq_true, if_false, k2] <;> exact rfl) (by simp only [put] <;> exact rfl) ?_)))
        refine RunL.seq (RunL.ite (by simp (disch := first | assumption | omega | rfl) only [ev, evs, nth, t4, b_add, b_sub, b_and, b_xor, b_mul, b_shl, b_shr, b_pow, b_div, b_mod, t_int, t_bool, c_lt, c_gt, c_le, c_ge, Option.bind_some, Option.map_some, if_true, Bool.false_eq_true, if_false, eq_sp] <;> exact rfl) (by simp only [t_int, t_bool] <;> exact rfl) (fun h => by cases h) (fun h => RunL.skip ?_))
        refine RunL.seq (RunL.ite (by simp (disch := first | assumption | omega | rfl) only [ev, evs, nth, t4, b_add, b_sub, b_and, b_xor, b_mul, b_shl, b_shr, b_pow, b_div, b_mod, t_int, t_bool, c_lt, c_gt, c_le, c_ge, Option.bind_some, Option.map_some, if_true, Bool.false_eq_true, if_false, eq_sp] <;> exact rfl) (by simp only [t_int, t_bool] <;> exact rfl) (fun h => by cases h) (fun h => RunL.skip ?_))
        exact RunL.skip (RunL.skip (RunL.skip (RunL.seq (RunL.ret (by simp (disch := first | assumption | omega | rfl) only [ev, evs, nth, t4, b_add, b_sub, b_and, b_xor, b_mul, b_shl, b_shr, b_pow, b_div, b_mod, t_int, t_bool, c_lt, c_gt, c_le, c_ge, Option.bind_some, Option.map_some, if_true, Bool.false_eq_true, if_false] <;> exact rfl) rfl))))
      · have hc0 : ¬ 0 ≤ c := of_decide_eq_false h
        refine RunL.seq (RunL.ite (by simp (disch := first | assumption | omega | rfl) only [ev, evs, nth, t4, b_add, b_sub, b_and, b_xor, b_mul, b_shl, b_shr, b_pow, b_div, b_mod, t_int, t_bool, c_lt, c_gt, c_le, c_ge, Option.bind_some, Option.map_some, if_true, Bool.false_eq_true, if_false, sg_le] <;> exact rfl) (by simp only [t_int, t_bool] <;> exact rfl) (fun h => ?_) (fun h => ?_))
        · have hd0 : d ≤ 0 := of_decide_eq_true h
          have q1 := nl hcd (show a ≤ 0 by omega); have q2 := nr hab (show c ≤ 0 by omega); have q3 := nl hcd hb0; have q4 := nr hab hd0
          have e1 : lo4 a b c d = b * d := lo4_eq (by omega) (by omega) (by omega) (by omega) (by simp)
          have e2 : hi4 a b c d = a * c := hi4_eq (by omega) (by omega) (by omega) (by omega) (by simp)
          rw [e1, e2]
          have k1 := mf b d hb hd; have k2 := mc a c ha hc
          refine RunL.seq (RunL.set (by simp (disch := first | assumption | omega | rfl) only [ev, evs, nth, t4, b_add, b_sub, b_and, b_xor, b_mul, b_shl, b_shr, b_pow, b_div, b_mod, t_int, t_bool, c_lt, c_gt, c_le, c_ge, Option.bind_some, Option.map_some, if_true, Bool.false_eq_true, if_false, k1] <;> exact rfl) (by simp only [put] <;> exact rfl) (RunL.seq (RunL.set (by simp (disch := first | assumption | omega | rfl) only [ev, evs, nth, t4, b_add, b_sub, b_and, b_xor, b_mul, b_shl, b_shr, b_pow, b_div, b_mod, t_int, t_bool, c_lt, c_gt, c_le, c_ge, Option.bind_some, Option.map_some, if_true, Bool.false_eq_true, if_false, k2] <;> exact rfl) (by simp only [put] <;> exact rfl) ?_)))
          refine RunL.seq (RunL.ite (by simp (disch := first | assumption | omega | rfl) only [ev, evs, nth, t4, b_add, b_sub, b_and, b_xor, b_mul, b_shl, b_shr, b_pow, b_div, b_mod, t_int, t_bool, c_lt, c_gt, c_le, c_ge, Option.bind_some, Option.map_some, if_true, Bool.false_eq_true, if_false, eq_sp] <;> exact rfl) (by simp only [t_int, t_bool] <;> exact rfl) (fun h => by cases h) (fun h => RunL.skip ?_))
          refine RunL.seq (RunL.ite (by simp (disch := first | assumption | omega | rfl) only [ev, evs, nth, t4, b_add, b_sub, b_and, b_xor, b_mul, b_shl, b_shr, b_pow, b_div, b_mod, t_int, t_bool, c_lt, c_gt, c_le, c_ge, Option.bind_some, Option.map_some, if_true, Bool.false_eq_true, if_false, eq_sp] <;> exact rfl) (by simp only [t_int, t_bool] <;> exact rfl) (fun h => by cases h) (fun h => RunL.skip ?_))
          exact RunL.skip (RunL.skip (RunL.skip (RunL.skip (RunL.seq (RunL.ret (by simp (disch := first | assumption | omega | rfl) only [ev, evs, nth, t4, b_add, b_sub, b_and, b_xor, b_mul, b_shl, b_shr, b_pow, b_div, b_mod, t_int, t_bool, c_lt, c_gt, c_le, c_ge, Option.bind_some, Option.map_some, if_true, Bool.false_eq_true, if_false] <;> exact rfl) rfl)))))
        · have hd0 : ¬ d ≤ 0 := of_decide_eq_false h
          have q1 := nl hcd (show a ≤ 0 by omega); have q2 := nr hab (show c ≤ 0 by omega); have q3 := nl hcd hb0; have q4 := mr hab (show 0 ≤ d by omega)
          have e1 : lo4 a b c d = a * d := lo4_eq (by omega) (by omega) (by omega) (by omega) (by simp)
          have e2 : hi4 a b c d = a * c := hi4_eq (by omega) (by omega) (by omega) (by omega) (by simp)
          rw [e1, e2]
          have k1 := mf a d ha hd; have k2 := mc a c ha hc
          refine RunL.seq (RunL.set (by simp (disch := first | assumption | omega | rfl) only [ev, evs, nth, t4, b_add, b_sub, b_and, b_xor, b_mul, b_shl, b_shr, b_pow, b_div, b_mod, t_int, t_bool, c_lt, c_gt, c_le, c_ge, Option.bind_some, Option.map_some, if_true, Bool.false_eq_true, if_false, k1] <;> exact rfl) (by simp only [put] <;> exact rfl) (RunL.seq (RunL.set (by simp (disch := first | assumption | omega | rfl) only [ev, evs, nth, t4, b_add, b_sub, b_and, b_xor, b_mul, b_shl, b_shr, b_pow, b_div, b_mod, t_int, t_bool, c_lt, c_gt, c_le, c_ge, Option.bind_some, Option.map_some, if_true, Bool.false_eq_true, if_false, k2] <;> exact rfl) (by simp only [put] <;> exact rfl) ?_)))
          refine RunL.seq (RunL.ite (by simp (disch := first | assumption | omega | rfl) only [ev, evs, nth, t4, b_add, b_sub, b_and, b_xor, b_mul, b_shl, b_shr, b_pow, b_div, b_mod, t_int, t_bool, c_lt, c_gt, c_le, c_ge, Option.bind_some, Option.map_some, if_true, Bool.false_eq_true, if_false, eq_sp] <;> exact rfl) (by simp only [t_int, t_bool] <;> exact rfl) (fun h => by cases h) (fun h => RunL.skip ?_))
          refine RunL.seq (RunL.ite (by simp (disch := first | assumption | omega | rfl) only [ev, evs, nth, t4, b_add, b_sub, b_and, b_xor, b_mul, b_shl, b_shr, b_pow, b_div, b_mod, t_int, t_bool, c_lt, c_gt, c_le, c_ge, Option.bind_some, Option.map_some, if_true, Bool.false_eq_true, if_false, eq_sp] <;> exact rfl) (by simp only [t_int, t_bool] <;> exact rfl) (fun h => by cases h) (fun h => RunL.skip ?_))
          exact RunL.skip (RunL.skip (RunL.skip (RunL.skip (RunL.seq (RunL.ret (by simp (disch := first | assumption | omega | rfl) only [ev, evs, nth, t4, b_add, b_sub, b_and, b_xor, b_mul, b_shl, b_shr, b_pow, b_div, b_mod, t_int, t_bool, c_lt, c_gt, c_le, c_ge, Option.bind_some, Option.map_some, if_true, Bool.false_eq_true, if_false] <;> exact rfl) rfl)))))
    · have k1 := m1 a c ha hc; have k2 := m1 a d ha hd; have k3 := m1 b c hb hc; have k4 := m1 b d hb hd
      have hmm : F 72 [.list [fp (N + M) (a * c), fp (N + M) (a * d), fp (N + M) (b * c), fp (N + M) (b * d)]] = some (.tuple [fp (N + M) (lo4 a b c d), fp (N + M) (hi4 a b c d)]) := hm _ _ _ _ (mb ha hc) (mb ha hd) (mb hb hc) (mb hb hd)
      refine RunL.seq (RunL.set (by simp (disch := first | assumption | omega | rfl) only [ev, evs, nth, t4, b_add, b_sub, b_and, b_xor, b_mul, b_shl, b_shr, b_pow, b_div, b_mod, t_int, t_bool, c_lt, c_gt, c_le, c_ge, Option.bind_some, Option.map_some, if_true, Bool.false_eq_true, if_false, k1, k2, k3, k4] <;> exact rfl) (by simp only [put] <;> exact rfl) ?_)
      refine RunL.seq (RunL.ite (by simp (disch := first | assumption | omega | rfl) only [ev, evs, nth, t4, b_add, b_sub, b_and, b_xor, b_mul, b_shl, b_shr, b_pow, b_div, b_mod, t_int, t_bool, c_lt, c_gt, c_le, c_ge, Option.bind_some, Option.map_some, if_true, Bool.false_eq_true, if_false, in_sp] <;> exact rfl) (by simp only [t_int, t_bool] <;> exact rfl) (fun h => by cases h) (fun h => ?_))
      refine RunL.seq (RunL.unp (by simp (disch := first | assumption | omega | rfl) only [ev, evs, nth, t4, b_add, b_sub, b_and, b_xor, b_mul, b_shl, b_shr, b_pow, b_div, b_mod, t_int, t_bool, c_lt, c_gt, c_le, c_ge, Option.bind_some, Option.map_some, if_true, Bool.false_eq_true, if_false, hmm] <;> exact rfl) (by simp only [puts, put, List.reverse_cons, List.reverse_nil, List.nil_append, List.cons_append] <;> exact rfl) (RunL.seq (RunL.set (by simp (disch := first | assumption | omega | rfl) only [ev, evs, nth, t4, b_add, b_sub, b_and, b_xor, b_mul, b_shl, b_shr, b_pow, b_div, b_mod, t_int, t_bool, c_lt, c_gt, c_le, c_ge, Option.bind_some, Option.map_some, if_true, Bool.false_eq_true, if_false, pf] <;> exact rfl) (by simp only [put] <;> exact rfl) (RunL.seq (RunL.set (by simp (disch := first | assumption | omega | rfl) only [ev, evs, nth, t4, b_add, b_sub, b_and, b_xor, b_mul, b_shl, b_shr, b_pow, b_div, b_mod, t_int, t_bool, c_lt, c_gt, c_le, c_ge, Option.bind_some, Option.map_some, if_true, Bool.false_eq_true, if_false, pc] <;> exact rfl) (by simp only [put] <;> exact rfl) ?_)))))
      exact RunL.skip (RunL.skip (RunL.skip (RunL.seq (RunL.ret (by simp (disch := first | assumption | omega | rfl) only [ev, evs, nth, t4, b_add, b_sub, b_and, b_xor, b_mul, b_shl, b_shr, b_pow, b_div, b_mod, t_int, t_bool, c_lt, c_gt, c_le, c_ge, Option.bind_some, Option.map_some, if_true, Bool.false_eq_true, if_false] <;> exact rfl) rfl))))
end Mine

end

/-! # part AM11 -/
section
open PySem PySem.W
set_option maxRecDepth 100000
set_option linter.unusedSimpArgs false
set_option linter.unusedVariables false
namespace Mine
open Classical
theorem lo4_comm (a b c d : Int) : lo4 a b c d = lo4 c d a b := by
  obtain ⟨p1, p2, p3, p4⟩ := lo4_all c d a b
  have h := lo4_one c d a b
  simp only [Int.mul_comm c, Int.mul_comm d] at p1 p2 p3 p4 h
  exact lo4_eq (by omega) (by omega) (by omega) (by omega) (by omega)
theorem hi4_comm (a b c d : Int) : hi4 a b c d = hi4 c d a b := by
  obtain ⟨p1, p2, p3, p4⟩ := hi4_all c d a b
  have h := hi4_one c d a b
  simp only [Int.mul_comm c, Int.mul_comm d] at p1 p2 p3 p4 h
  exact hi4_eq (by omega) (by omega) (by omega) (by omega) (by omega)
theorem lo_le_hi (a b c d : Int) : lo4 a b c d ≤ hi4 a b c d := Int.le_trans (lo4_all a b c d).1 (hi4_all a b c d).1
theorem in_ab {a b x : Int} (hab : a ≤ b) (h : x = a ∨ x = b) : a ≤ x ∧ x ≤ b := by omega
theorem pq_mem (a b c d P : Int) (h : P = lo4 a b c d ∨ P = hi4 a b c d) : ∃ x y, (x = a ∨ x = b) ∧ (y = c ∨ y = d) ∧ P = x * y := by
  rcases h with rfl | rfl
  · exact lo4_mem a b c d
  · exact hi4_mem a b c d
section
variable {a b c d e f : Int} (hab : a ≤ b) (hcd : c ≤ d) (hef : e ≤ f)
include hab hcd hef
theorem lo_assoc1 : lo4 a b (lo4 c d e f) (hi4 c d e f) ≤ lo4 (lo4 a b c d) (hi4 a b c d) e f := by
  obtain ⟨P, z, hP, hz, h⟩ := lo4_mem (lo4 a b c d) (hi4 a b c d) e f
  obtain ⟨x, y, hx, hy, h'⟩ := pq_mem a b c d P hP
  rw [h, h', Int.mul_assoc]
  have hx := in_ab hab hx; have hy := in_ab hcd hy; have hz := in_ab hef hz
  exact lo4_le hx.1 hx.2 (lo4_le hy.1 hy.2 hz.1 hz.2) (le_hi4 hy.1 hy.2 hz.1 hz.2)
theorem hi_assoc1 : hi4 (lo4 a b c d) (hi4 a b c d) e f ≤ hi4 a b (lo4 c d e f) (hi4 c d e f) := by
  obtain ⟨P, z, hP, hz, h⟩ := hi4_mem (lo4 a b c d) (hi4 a b c d) e f
  obtain ⟨x, y, hx, hy, h'⟩ := pq_mem a b c d P hP
  rw [h, h', Int.mul_assoc]
  have hx := in_ab hab hx; have hy := in_ab hcd hy; have hz := in_ab hef hz
  exact le_hi4 hx.1 hx.2 (lo4_le hy.1 hy.2 hz.1 hz.2) (le_hi4 hy.1 hy.2 hz.1 hz.2)
theorem lo_assoc2 : lo4 (lo4 a b c d) (hi4 a b c d) e f ≤ lo4 a b (lo4 c d e f) (hi4 c d e f) := by
  obtain ⟨x, P, hx, hP, h⟩ := lo4_mem a b (lo4 c d e f) (hi4 c d e f)
  obtain ⟨y, z, hy, hz, h'⟩ := pq_mem c d e f P hP
  rw [h, h', ← Int.mul_assoc]
  have hx := in_ab hab hx; have hy := in_ab hcd hy; have hz := in_ab hef hz
  exact lo4_le (lo4_le hx.1 hx.2 hy.1 hy.2) (le_hi4 hx.1 hx.2 hy.1 hy.2) hz.1 hz.2
theorem hi_assoc2 : hi4 a b (lo4 c d e f) (hi4 c d e f) ≤ hi4 (lo4 a b c d) (hi4 a b c d) e f := by
  obtain ⟨x, P, hx, hP, h⟩ := hi4_mem a b (lo4 c d e f) (hi4 c d e f)
  obtain ⟨y, z, hy, hz, h'⟩ := pq_mem c d e f P hP
  rw [h, h', ← Int.mul_assoc]
  have hx := in_ab hab hx; have hy := in_ab hcd hy; have hz := in_ab hef hz
  exact le_hi4 (lo4_le hx.1 hx.2 hy.1 hy.2) (le_hi4 hx.1 hx.2 hy.1 hy.2) hz.1 hz.2
theorem lo_assoc : lo4 (lo4 a b c d) (hi4 a b c d) e f = lo4 a b (lo4 c d e f) (hi4 c d e f) := Int.le_antisymm (lo_assoc2 hab hcd hef) (lo_assoc1 hab hcd hef)
theorem hi_assoc : hi4 (lo4 a b c d) (hi4 a b c d) e f = hi4 a b (lo4 c d e f) (hi4 c d e f) := Int.le_antisymm (hi_assoc1 hab hcd hef) (hi_assoc2 hab hcd hef)
theorem lo_dist : lo4 a b c d + lo4 a b e f ≤ lo4 a b (c + e) (d + f) := by
  obtain ⟨p1, p2, p3, p4⟩ := lo4_all a b c d
  obtain ⟨q1, q2, q3, q4⟩ := lo4_all a b e f
  have h := lo4_one a b (c + e) (d + f)
  simp only [Int.mul_add] at h
  omega
theorem hi_dist : hi4 a b (c + e) (d + f) ≤ hi4 a b c d + hi4 a b e f := by
  obtain ⟨p1, p2, p3, p4⟩ := hi4_all a b c d
  obtain ⟨q1, q2, q3, q4⟩ := hi4_all a b e f
  have h := hi4_one a b (c + e) (d + f)
  simp only [Int.mul_add] at h
  omega
end
theorem lo_pt (a : Int) {c d : Int} (hcd : c ≤ d) : lo4 a a c d = if 0 ≤ a then a * c else a * d := by
  split
  · have := ml hcd (by assumption : 0 ≤ a); exact lo4_eq (by omega) (by omega) (by omega) (by omega) (by simp)
  · have := nl hcd (show a ≤ 0 by omega); exact lo4_eq (by omega) (by omega) (by omega) (by omega) (by simp)
theorem hi_pt (a : Int) {c d : Int} (hcd : c ≤ d) : hi4 a a c d = if 0 ≤ a then a * d else a * c := by
  split
  · have := ml hcd (by assumption : 0 ≤ a); exact hi4_eq (by omega) (by omega) (by omega) (by omega) (by simp)
  · have := nl hcd (show a ≤ 0 by omega); exact hi4_eq (by omega) (by omega) (by omega) (by omega) (by simp)
theorem lo_pos {a b c d : Int} (hab : a ≤ b) (hcd : c ≤ d) (h0 : 0 ≤ c) : lo4 a b c d = if 0 ≤ a then a * c else a * d := by
  have q1 := mr hab h0; have q2 := mr hab (show 0 ≤ d by omega)
  split
  · have := ml hcd (by assumption : 0 ≤ a); exact lo4_eq (by omega) (by omega) (by omega) (by omega) (by simp)
  · have := nl hcd (show a ≤ 0 by omega); exact lo4_eq (by omega) (by omega) (by omega) (by omega) (by simp)
theorem hi_pos {a b c d : Int} (hab : a ≤ b) (hcd : c ≤ d) (h0 : 0 ≤ c) : hi4 a b c d = if 0 ≤ b then b * d else b * c := by
  have q1 := mr hab h0; have q2 := mr hab (show 0 ≤ d by omega)
  split
  · have := ml hcd (by assumption : 0 ≤ b); exact hi4_eq (by omega) (by omega) (by omega) (by omega) (by simp)
  · have := nl hcd (show b ≤ 0 by omega); exact hi4_eq (by omega) (by omega) (by omega) (by omega) (by simp)
theorem lo_neg {a b c d : Int} (hab : a ≤ b) (hcd : c ≤ d) (h0 : d ≤ 0) : lo4 a b c d = if 0 ≤ b then b * c else b * d := by
  have q1 := nr hab h0; have q2 := nr hab (show c ≤ 0 by omega)
  split
  · have := ml hcd (by assumption : 0 ≤ b); exact lo4_eq (by omega) (by omega) (by omega) (by omega) (by simp)
  · have := nl hcd (show b ≤ 0 by omega); exact lo4_eq (by omega) (by omega) (by omega) (by omega) (by simp)
theorem hi_neg {a b c d : Int} (hab : a ≤ b) (hcd : c ≤ d) (h0 : d ≤ 0) : hi4 a b c d = if 0 ≤ a then a * d else a * c := by
  have q1 := nr hab h0; have q2 := nr hab (show c ≤ 0 by omega)
  split
  · have := ml hcd (by assumption : 0 ≤ a); exact hi4_eq (by omega) (by omega) (by omega) (by omega) (by simp)
  · have := nl hcd (show a ≤ 0 by omega); exact hi4_eq (by omega) (by omega) (by omega) (by omega) (by simp)
theorem dist_eq {a b c d e f : Int} (hab : a ≤ b) (hcd : c ≤ d) (hef : e ≤ f) (h : a = b ∨ (0 ≤ c ∧ 0 ≤ e) ∨ (d ≤ 0 ∧ f ≤ 0)) :
    lo4 a b (c + e) (d + f) = lo4 a b c d + lo4 a b e f ∧ hi4 a b (c + e) (d + f) = hi4 a b c d + hi4 a b e f := by
  have hs : c + e ≤ d + f := by omega
  rcases h with rfl | ⟨h1, h2⟩ | ⟨h1, h2⟩
  · rw [lo_pt a hcd, lo_pt a hef, lo_pt a hs, hi_pt a hcd, hi_pt a hef, hi_pt a hs]
    split <;> simp only [Int.mul_add, and_self]
  · rw [lo_pos hab hcd h1, lo_pos hab hef h2, lo_pos hab hs (by omega), hi_pos hab hcd h1, hi_pos hab hef h2, hi_pos hab hs (by omega)]
    constructor <;> split <;> simp only [Int.mul_add]
  · rw [lo_neg hab hcd h1, lo_neg hab hef h2, lo_neg hab hs (by omega), hi_neg hab hcd h1, hi_neg hab hef h2, hi_neg hab hs (by omega)]
    constructor <;> split <;> simp only [Int.mul_add]
/-! ## widths -/
theorem wid_lo {a b c d : Int} (hcd : c ≤ d) : mg a b * (d - c) ≤ hi4 a b c d - lo4 a b c d := by
  obtain ⟨p1, p2, p3, p4⟩ := lo4_all a b c d
  obtain ⟨q1, q2, q3, q4⟩ := hi4_all a b c d
  unfold mg
  split
  · rw [Int.mul_sub]; omega
  · rw [Int.mul_sub, Int.neg_mul, Int.neg_mul]; omega
theorem mg_ge {a b x : Int} (h : x = a ∨ x = b) (hab : a ≤ b) : x ≤ mg a b ∧ -x ≤ mg a b := by
  unfold mg; split <;> omega
theorem prod_le {x m w W : Int} (h1 : x ≤ m) (h2 : -x ≤ m) (h3 : w ≤ W) (h4 : -w ≤ W) : x * w ≤ m * W := by
  have hm : 0 ≤ m := by omega
  have hW : 0 ≤ W := by omega
  rcases Int.le_total 0 w with h | h
  · exact Int.le_trans (mr h1 h) (ml h3 hm)
  · have e : x * w = (-x) * (-w) := by rw [Int.neg_mul_neg]
    rw [e]
    exact Int.le_trans (mr h2 (by omega)) (ml h4 hm)
theorem wid_hi {a b c d : Int} (hab : a ≤ b) (hcd : c ≤ d) : hi4 a b c d - lo4 a b c d ≤ mg a b * (d - c) + mg c d * (b - a) := by
  obtain ⟨x, y, hx, hy, h⟩ := hi4_mem a b c d
  obtain ⟨x', y', hx', hy', h'⟩ := lo4_mem a b c d
  rw [h, h']
  have e : x * y - x' * y' = x * (y - y') + y' * (x - x') := by
    rw [Int.mul_sub, Int.mul_sub, Int.mul_comm y' x, Int.mul_comm y' x']; omega
  rw [e]
  have k1 := mg_ge hx hab
  have k2 := mg_ge hy' hcd
  exact Int.add_le_add (prod_le k1.1 k1.2 (by omega) (by omega)) (prod_le k2.1 k2.2 (by omega) (by omega))
/-! ## rounding and signs -/
theorem rr_neg_f (p : Nat) (X : Int) : rr .f p (-X) = -rr .c p X := by
  unfold rr
  rw [Int.natAbs_neg]
  by_cases hp : p = 0
  · rw [if_pos hp, if_pos hp]
  rw [if_neg hp, if_neg hp]
  rcases Int.lt_trichotomy X 0 with h | h | h
  · rw [if_neg (by omega), if_pos h, Int.neg_neg]; rfl
  · subst h
    rw [if_neg (by omega), if_neg (by omega)]
    have z : ∀ r b, mag r b p (0 : Int).natAbs = 0 := fun r b => mag_small (show bits (0 : Int) ≤ p by rw [bits_zero]; omega)
    rw [z, z]; rfl
  · rw [if_pos (by omega), if_neg (by omega)]; rfl
theorem rr_neg_c (p : Nat) (X : Int) : rr .c p (-X) = -rr .f p X := by
  have := rr_neg_f p (-X)
  rw [Int.neg_neg] at this
  omega
end Mine

end

/-! # part AM12 -/
section
open PySem PySem.W
set_option maxRecDepth 100000
set_option linter.unusedSimpArgs false
set_option linter.unusedVariables false
namespace Mine
open Classical
/-! ## the law's own numbers -/
theorem e_int {a b : Int} : evCmp .Eq (.int a) (.int b) = some (.bool (decide (a = b))) := by
  rw [c_eq rfl rfl]; congr 2; exact decide_eq_decide.mpr ⟨fun h => Dat.int.inj h, fun h => by rw [h]⟩
section
variable {x0 x1 x2 x3 : Dat}
theorem s40 : evSub (.tuple [x0, x1, x2, x3]) (.int 0) = some x0 := rfl
theorem s41 : evSub (.tuple [x0, x1, x2, x3]) (.int 1) = some x1 := rfl
theorem s42 : evSub (.tuple [x0, x1, x2, x3]) (.int 2) = some x2 := rfl
theorem s30 : evSub (.tuple [x0, x1, x2]) (.int 0) = some x0 := rfl
theorem s31 : evSub (.tuple [x0, x1, x2]) (.int 1) = some x1 := rfl
theorem s32 : evSub (.tuple [x0, x1, x2]) (.int 2) = some x2 := rfl
theorem s20 : evSub (.tuple [x0, x1]) (.int 0) = some x0 := rfl
theorem s21 : evSub (.tuple [x0, x1]) (.int 1) = some x1 := rfl
theorem l20 : evSub (.list [x0, x1]) (.int 0) = some x0 := rfl
theorem l21 : evSub (.list [x0, x1]) (.int 1) = some x1 := rfl
end
theorem b_pow2 {n : Int} (h0 : 0 ≤ n) (h : n ≤ 1000000) : evBin .Pow (.int 2) (.int n) = some (.int (2 ^ n.toNat)) := b_pow h0 (by
  have : (bits 2 : Int) = 2 := rfl
  rw [this]; omega)
/-- the pair d is the number X at the scale N -/
def VP (K N : Nat) (X : Int) (d : Dat) : Prop := ∃ (m e : Int) (k : Nat), d = .tuple [.int m, .int e] ∧ e + N = k ∧ k ≤ K ∧ m * 2 ^ k = X
theorem fp_parts (N : Nat) (X : Int) : ∃ (b : Bool) (a : Nat) (e : Int) (c : Int) (k : Nat), fp N X = .tuple [.int (si b), .int a, .int e, .int c] ∧ e + N = k ∧ (k ≤ N ∨ k ≤ bits X) ∧ sv b a * 2 ^ k = X := by
  by_cases h : X = 0
  · subst h
    exact ⟨false, 0, 0, 0, N, fp_zero N, by omega, .inl (Nat.le_refl _), by simp [sv]⟩
  · obtain ⟨b, a, k, ha, rfl⟩ := split_int h
    refine ⟨b, a, (k : Int) - N, (bits (a : Int) : Nat), k, fp_mk N b ha, by omega, .inr ?_, ?_⟩
    · rw [bits_ak ha]; omega
    · cases b <;> simp [sv, Int.neg_mul]
theorem value_spec (n N K : Nat) (X : Int) (hN : N ≤ K) (hX : bits X ≤ K) : ∃ d, Fn Tb (n + 1) 187 [fp N X] = some d ∧ VP K N X d := by
  obtain ⟨b, a, e, c, k, h1, h2, h3, h4⟩ := fp_parts N X
  refine ⟨_, Fn_of (fd := fd187) (r := .tuple [.int (sv b a), .int e]) rfl (by simp only [ini, fd187, List.length_cons, List.length_nil, List.map_cons, List.map_nil, List.cons_append, List.nil_append, List.drop_succ_cons, List.drop_zero, List.drop_nil, List.replicate_succ, List.replicate_zero, Nat.reduceAdd, Nat.reduceSub, Nat.reduceLeDiff, and_self, if_true] <;> exact rfl) ?_, sv b a, e, k, rfl, h2, by omega, h4⟩
  generalize Fn Tb n = F
  rw [h1]
  cases b
  · exact RunL.seq (RunL.ret (by simp (disch := first | assumption | omega | rfl) only [ev, evs, nth, t4, b_add, b_sub, b_and, b_xor, b_mul, b_shl, b_shr, b_pow, b_div, b_mod, t_int, t_bool, c_lt, c_gt, c_le, c_ge, Option.bind_some, Option.map_some, if_true, Bool.false_eq_true, if_false, s40, s41, s42, e_int] <;> exact rfl) rfl)
  · exact RunL.seq (RunL.ret (by simp (disch := first | assumption | omega | rfl) only [ev, evs, nth, t4, b_add, b_sub, b_and, b_xor, b_mul, b_shl, b_shr, b_pow, b_div, b_mod, t_int, t_bool, c_lt, c_gt, c_le, c_ge, Option.bind_some, Option.map_some, if_true, Bool.false_eq_true, if_false, s40, s41, s42, e_int] <;> exact rfl) rfl)
theorem le_of_shift {m X : Int} {k : Nat} (h : m * 2 ^ k = X) : bits m ≤ bits X := by
  refine bits_mono ?_
  rw [← h, Int.natAbs_mul, Int.natAbs_pow]
  exact Nat.le_mul_of_pos_right _ (Nat.two_pow_pos k)
/-- two numbers at their lower scale -/
theorem two_at {m1 e1 m2 e2 L : Int} {N k1 k2 : Nat} {X Y : Int} (h1 : e1 + N = k1) (h2 : m1 * 2 ^ k1 = X) (h3 : e2 + N = k2) (h4 : m2 * 2 ^ k2 = Y) (hL : L ≤ e1 ∧ L ≤ e2 ∧ (L = e1 ∨ L = e2)) :
    ∃ k : Nat, L + N = k ∧ k ≤ k1 ∧ m1 * 2 ^ (e1 - L).toNat * 2 ^ k = X ∧ m2 * 2 ^ (e2 - L).toNat * 2 ^ k = Y := by
  obtain ⟨k, hk⟩ : ∃ k : Nat, L + N = k := ⟨(L + N).toNat, by omega⟩
  refine ⟨k, hk, by omega, ?_, ?_⟩
  · rw [Int.mul_assoc, ← Int.pow_add, show (e1 - L).toNat + k = k1 by omega, h2]
  · rw [Int.mul_assoc, ← Int.pow_add, show (e2 - L).toNat + k = k2 by omega, h4]
theorem m_sh {m e : Int} {X : Int} {k : Nat} (h : m * 2 ^ k = X) (hX : bits X ≤ 2000) (h0 : 0 ≤ e) (he : e ≤ 2000) : evBin .Mult (.int m) (.int (2 ^ e.toNat)) = some (.int (m * 2 ^ e.toNat)) := b_mul (by
  have := le_of_shift h
  rw [bits_pow]; omega)
section
variable {N : Nat} {X Y : Int} {x y : Dat} (hX : bits X ≤ 1000) (hY : bits Y ≤ 1000) (hx : VP 1000 N X x) (hy : VP 1000 N Y y)
include hX hY hx hy
theorem sum_spec (n : Nat) : ∃ d, Fn Tb (n + 1) 194 [x, y] = some d ∧ VP 1000 N (X + Y) d := by
  obtain ⟨m1, e1, k1, rfl, a1, a2, a3⟩ := hx
  obtain ⟨m2, e2, k2, rfl, b1, b2, b3⟩ := hy
  obtain ⟨L, hLd⟩ : ∃ L, L = if e2 < e1 then e2 else e1 := ⟨_, rfl⟩
  have hL : L ≤ e1 ∧ L ≤ e2 ∧ (L = e1 ∨ L = e2) := by rw [hLd]; split <;> omega
  obtain ⟨k, c1, c2, c3, c4⟩ := two_at a1 a3 b1 b3 hL
  have q1 := m_sh (e := e1 - L) a3 (by omega) (by omega) (by omega)
  have q2 := m_sh (e := e2 - L) b3 (by omega) (by omega) (by omega)
  refine ⟨_, Fn_of (fd := fd194) (r := .tuple [.int (m1 * 2 ^ (e1 - L).toNat + m2 * 2 ^ (e2 - L).toNat), .int L]) rfl (by simp only [ini, fd194, List.length_cons, List.length_nil, List.map_cons, List.map_nil, List.cons_append, List.nil_append, List.drop_succ_cons, List.drop_zero, List.drop_nil, List.replicate_succ, List.replicate_zero, Nat.reduceAdd, Nat.reduceSub, Nat.reduceLeDiff, and_self, if_true] <;> exact rfl) ?_, _, _, k, rfl, c1, by omega, ?_⟩
  · generalize Fn Tb n = F
    refine RunL.seq (RunL.set (d := .int L) (by rw [hLd]; exact rfl) (by simp only [put] <;> exact rfl) ?_)
    exact RunL.seq (RunL.ret (by simp (disch := first | assumption | omega | rfl) only [ev, evs, nth, t4, b_add, b_sub, b_and, b_xor, b_mul, b_shl, b_shr, b_pow, b_div, b_mod, t_int, t_bool, c_lt, c_gt, c_le, c_ge, Option.bind_some, Option.map_some, if_true, Bool.false_eq_true, if_false, s20, s21, b_pow2, q1, q2] <;> exact rfl) rfl)
  · rw [Int.add_mul, c3, c4]
theorem less_spec (n : Nat) : Fn Tb (n + 1) 208 [x, y] = some (.bool (decide (X < Y))) := by
  obtain ⟨m1, e1, k1, rfl, a1, a2, a3⟩ := hx
  obtain ⟨m2, e2, k2, rfl, b1, b2, b3⟩ := hy
  obtain ⟨L, hLd⟩ : ∃ L, L = if e2 < e1 then e2 else e1 := ⟨_, rfl⟩
  have hL : L ≤ e1 ∧ L ≤ e2 ∧ (L = e1 ∨ L = e2) := by rw [hLd]; split <;> omega
  obtain ⟨k, c1, c2, c3, c4⟩ := two_at a1 a3 b1 b3 hL
  have q1 := m_sh (e := e1 - L) a3 (by omega) (by omega) (by omega)
  have q2 := m_sh (e := e2 - L) b3 (by omega) (by omega) (by omega)
  have hd : decide (X < Y) = decide (m1 * 2 ^ (e1 - L).toNat < m2 * 2 ^ (e2 - L).toNat) := by
    refine decide_eq_decide.mpr ?_
    rw [← c3, ← c4]
    exact Int.mul_lt_mul_right (Int.pow_pos (by decide))
  rw [hd]
  refine Fn_of (fd := fd208) rfl (by simp only [ini, fd208, List.length_cons, List.length_nil, List.map_cons, List.map_nil, List.cons_append, List.nil_append, List.drop_succ_cons, List.drop_zero, List.drop_nil, List.replicate_succ, List.replicate_zero, Nat.reduceAdd, Nat.reduceSub, Nat.reduceLeDiff, and_self, if_true] <;> exact rfl) ?_
  generalize Fn Tb n = F
  refine RunL.seq (RunL.set (d := .int L) (by rw [hLd]; exact rfl) (by simp only [put] <;> exact rfl) ?_)
  exact RunL.seq (RunL.ret (by simp (disch := first | assumption | omega | rfl) only [ev, evs, nth, t4, b_add, b_sub, b_and, b_xor, b_mul, b_shl, b_shr, b_pow, b_div, b_mod, t_int, t_bool, c_lt, c_gt, c_le, c_ge, Option.bind_some, Option.map_some, if_true, Bool.false_eq_true, if_false, s20, s21, b_pow2, q1, q2] <;> exact rfl) rfl)
theorem same_spec (n : Nat) : Fn Tb (n + 2) 215 [x, y] = some (.bool (decide (X = Y))) := by
  obtain ⟨m2, e2, k2, rfl, b1, b2, b3⟩ := hy
  have hy' : VP 1000 N (-Y) (.tuple [.int (-m2), .int e2]) := ⟨-m2, e2, k2, rfl, b1, b2, by rw [Int.neg_mul, b3]⟩
  obtain ⟨d, h1, m, e, k, rfl, h3, h4, h5⟩ := sum_spec hX (by rw [bits_neg]; exact hY : bits (-Y) ≤ 1000) hx hy' n
  have hd : decide (X = Y) = decide (m = 0) := by
    refine decide_eq_decide.mpr ?_
    have hp : (2 : Int) ^ k ≠ 0 := by have : (0 : Int) < 2 ^ k := Int.pow_pos (by decide); omega
    constructor
    · intro e
      have : m * 2 ^ k = 0 := by omega
      exact (Int.mul_eq_zero.mp this).resolve_right hp
    · intro e; subst e; omega
  rw [hd]
  refine Fn_of (fd := fd215) rfl (by simp only [ini, fd215, List.length_cons, List.length_nil, List.map_cons, List.map_nil, List.cons_append, List.nil_append, List.drop_succ_cons, List.drop_zero, List.drop_nil, List.replicate_succ, List.replicate_zero, Nat.reduceAdd, Nat.reduceSub, Nat.reduceLeDiff, and_self, if_true] <;> exact rfl) ?_
  generalize Fn Tb (n + 1) = F at h1 ⊢
  exact RunL.seq (RunL.ret (by simp (disch := first | assumption | omega | rfl) only [ev, evs, nth, t4, b_add, b_sub, b_and, b_xor, b_mul, b_shl, b_shr, b_pow, b_div, b_mod, t_int, t_bool, c_lt, c_gt, c_le, c_ge, Option.bind_some, Option.map_some, if_true, Bool.false_eq_true, if_false, s20, s21, h1, e_int] <;> exact rfl) rfl)
end
theorem times_spec {N M : Nat} {X Y : Int} {x y : Dat} (hX : bits X ≤ 1000) (hY : bits Y ≤ 1000) (hx : VP 500 N X x) (hy : VP 500 M Y y) (n : Nat) : ∃ d, Fn Tb (n + 1) 201 [x, y] = some d ∧ VP 1000 (N + M) (X * Y) d := by
  obtain ⟨m1, e1, k1, rfl, a1, a2, a3⟩ := hx
  obtain ⟨m2, e2, k2, rfl, b1, b2, b3⟩ := hy
  have q1 := le_of_shift a3
  have q2 := le_of_shift b3
  have q : bits m1 + bits m2 ≤ 2 ^ 26 := by omega
  refine ⟨_, Fn_of (fd := fd201) (r := .tuple [.int (m1 * m2), .int (e1 + e2)]) rfl (by simp only [ini, fd201, List.length_cons, List.length_nil, List.map_cons, List.map_nil, List.cons_append, List.nil_append, List.drop_succ_cons, List.drop_zero, List.drop_nil, List.replicate_succ, List.replicate_zero, Nat.reduceAdd, Nat.reduceSub, Nat.reduceLeDiff, and_self, if_true] <;> exact rfl) ?_, _, _, k1 + k2, rfl, by omega, by omega, ?_⟩
  · generalize Fn Tb n = F
    exact RunL.seq (RunL.ret (by simp (disch := first | assumption | omega | rfl) only [ev, evs, nth, t4, b_add, b_sub, b_and, b_xor, b_mul, b_shl, b_shr, b_pow, b_div, b_mod, t_int, t_bool, c_lt, c_gt, c_le, c_ge, Option.bind_some, Option.map_some, if_true, Bool.false_eq_true, if_false, s20, s21] <;> exact rfl) rfl)
  · rw [← a3, ← b3, Int.pow_add]; ac_rfl
theorem VP.mono {K K' N : Nat} {X : Int} {d : Dat} (h : VP K N X d) (hk : K ≤ K') : VP K' N X d := by
  obtain ⟨m, e, k, h1, h2, h3, h4⟩ := h
  exact ⟨m, e, k, h1, h2, by omega, h4⟩
theorem wide_spec (n N : Nat) (a b : Int) (hN : N ≤ 200) (ha : bits a ≤ 100) (hb : bits b ≤ 100) : ∃ d, Fn Tb (n + 8) 248 [iv N a b] = some d ∧ VP 200 N (b - a) d := by
  have h1 := mpi_delta_spec n N a b ha hb
  have hs : bits (b - a) ≤ 101 := by
    have := bits_add_le (k := 100) hb (by rw [bits_neg]; exact ha : bits (-a) ≤ 100)
    rwa [← Int.sub_eq_add_neg] at this
  obtain ⟨d, h2, h3⟩ := value_spec (n + 6) N 200 (b - a) hN (by omega)
  refine ⟨d, Fn_of (fd := fd248) rfl (by simp only [ini, fd248, List.length_cons, List.length_nil, List.map_cons, List.map_nil, List.cons_append, List.nil_append, List.drop_succ_cons, List.drop_zero, List.drop_nil, List.replicate_succ, List.replicate_zero, Nat.reduceAdd, Nat.reduceSub, Nat.reduceLeDiff, and_self, if_true] <;> exact rfl) ?_, h3⟩
  have h2' : Fn Tb (n + 7) 187 [fp N (b - a)] = some d := h2
  generalize Fn Tb (n + 7) = F at h1 h2' ⊢
  exact RunL.seq (RunL.ret (by simp (disch := first | assumption | omega | rfl) only [ev, evs, nth, t4, b_add, b_sub, b_and, b_xor, b_mul, b_shl, b_shr, b_pow, b_div, b_mod, t_int, t_bool, c_lt, c_gt, c_le, c_ge, Option.bind_some, Option.map_some, if_true, Bool.false_eq_true, if_false, h1, h2'] <;> exact rfl) rfl)
/-- a side of 0 -/
def sd (c d : Int) : Int := if c = 0 ∧ d = 0 then 2 else if 0 ≤ c then 1 else if d ≤ 0 then -1 else 0
theorem sgn_shift {m X : Int} {k : Nat} (h : m * 2 ^ k = X) : (m = 0 ↔ X = 0) ∧ (0 ≤ m ↔ 0 ≤ X) ∧ (m ≤ 0 ↔ X ≤ 0) := by
  have hp : (0 : Int) < 2 ^ k := Int.pow_pos (by decide)
  have hlt : 0 < m → 0 < X := fun hm => by rw [← h]; exact Int.mul_pos hm hp
  have hgt : m < 0 → X < 0 := fun hm => by rw [← h]; exact Int.mul_neg_of_neg_of_pos hm hp
  have h0 : m = 0 → X = 0 := fun hm => by rw [← h, hm, Int.zero_mul]
  omega
theorem side_spec (n N : Nat) (c d : Int) (hN : N ≤ 200) (hc : bits c ≤ 100) (hd : bits d ≤ 100) : Fn Tb (n + 2) 255 [iv N c d] = some (.int (sd c d)) := by
  obtain ⟨x, h1, m1, e1, k1, rfl, a1, a2, a3⟩ := value_spec n N 200 c hN (by omega)
  obtain ⟨y, h2, m2, e2, k2, rfl, b1, b2, b3⟩ := value_spec n N 200 d hN (by omega)
  obtain ⟨p1, p2, p3⟩ := sgn_shift a3
  obtain ⟨q1, q2, q3⟩ := sgn_shift b3
  have hsd : sd c d = sd m1 m2 := by
    unfold sd; repeat' split
    all_goals omega
  rw [hsd]
  refine Fn_of (fd := fd255) rfl (by simp only [ini, fd255, List.length_cons, List.length_nil, List.map_cons, List.map_nil, List.cons_append, List.nil_append, List.drop_succ_cons, List.drop_zero, List.drop_nil, List.replicate_succ, List.replicate_zero, Nat.reduceAdd, Nat.reduceSub, Nat.reduceLeDiff, and_self, if_true] <;> exact rfl) ?_
  generalize Fn Tb (n + 1) = F at h1 h2 ⊢
  have s0 : evSub (iv N c d) (.int 0) = some (fp N c) := rfl
  have s1 : evSub (iv N c d) (.int 1) = some (fp N d) := rfl
  refine RunL.seq (RunL.unpR (by simp (disch := first | assumption | omega | rfl) only [ev, evs, nth, t4, b_add, b_sub, b_and, b_xor, b_mul, b_shl, b_shr, b_pow, b_div, b_mod, t_int, t_bool, c_lt, c_gt, c_le, c_ge, Option.bind_some, Option.map_some, if_true, Bool.false_eq_true, if_false, s0, s1, h1, h2, s20] <;> exact rfl) (by simp only [puts, put, List.reverse_cons, List.reverse_nil, List.nil_append, List.cons_append] <;> exact rfl) ?_)
  have g1 := @e_int m1 0
  have g2 := @e_int m2 0
  have g3 := @c_ge m1 0
  have g4 := @c_le m2 0
  have fin : ∀ r : Int, (sd m1 m2 = r) → Dat.int r = Dat.int (sd m1 m2) := fun r h => by rw [h]
  by_cases z1 : m1 = 0 <;> by_cases z2 : m2 = 0 <;> by_cases z3 : 0 ≤ m1 <;> by_cases z4 : m2 ≤ 0 <;> first | omega | skip
  all_goals
    first | rw [decide_eq_true z1] at g1 | rw [decide_eq_false z1] at g1
    first | rw [decide_eq_true z2] at g2 | rw [decide_eq_false z2] at g2
    first | rw [decide_eq_true z3] at g3 | rw [decide_eq_false z3] at g3
    first | rw [decide_eq_true z4] at g4 | rw [decide_eq_false z4] at g4
    refine RunL.seq (RunL.ite (by simp only [ev, nth, Option.bind_some, g1, g2, t_bool] <;> exact rfl) (by simp only [t_int, t_bool] <;> exact rfl) (fun h => ?_) (fun h => ?_))
    all_goals first
      | (cases h; done)
      | exact RunL.seq (RunL.ret (by simp (disch := first | assumption | omega | rfl) only [ev, evs, nth, t4, b_add, b_sub, b_and, b_xor, b_mul, b_shl, b_shr, b_pow, b_div, b_mod, t_int, t_bool, c_lt, c_gt, c_le, c_ge, Option.bind_some, Option.map_some, if_true, Bool.false_eq_true, if_false] <;> exact rfl) (fin _ (by unfold sd; (repeat' split) <;> omega)))
      | exact RunL.skip (RunL.seq (RunL.ret (by simp only [ev, nth, Option.bind_some, g3, g4, t_bool] <;> exact rfl) (fin _ (by unfold sd; (repeat' split) <;> omega))))
end Mine

end

/-! # part AM13 -/
section
open PySem PySem.W
set_option maxRecDepth 100000
set_option linter.unusedSimpArgs false
set_option linter.unusedVariables false
namespace Mine
open Classical
theorem Fn_ofQ {ρ : List (Option Dat)} {T : Nat → Option Fd} {n f : Nat} {args : List Dat} {fd : Fd} {Q : Dat → Prop} (ht : T f = some fd) (hi : ini fd args = some ρ) (h : RunL (Fn T n) [fd.body] ρ Q) : ∃ d, Fn T (n + 1) f args = some d ∧ Q d := by
  obtain ⟨o, h1, h2⟩ := h
  cases o with
  | nxt ρ' => exact ⟨.none, by simp only [Fn, ht, runD, hi, h1, Option.bind_some], h2⟩
  | ret d => exact ⟨d, by simp only [Fn, ht, runD, hi, h1, Option.bind_some], h2⟩
theorem RunL.unpC {F : Nat → List Dat → Option Dat} {ρ ρ' : List (Option Dat)} {Q : Dat → Prop} {st : List CS} {is : List Nat} {it el : CE} {l es : List Dat} (h : ev F ρ it = some (.tuple l) ∨ ev F ρ it = some (.list l)) (hl : l.length ≤ 1000) (he : elMap (fun d => ev F [some d] el) l = some es) (hp : puts ρ is es = some ρ') (k : RunL F st ρ' Q) : RunL F (.unpC is it el :: st) ρ Q :=
  ⟨.nxt ρ', by rcases h with h | h <;> simp only [ex, h, Option.bind_some, hl, if_true, he, hp, Option.map_some], k⟩
theorem made_spec (n N k : Nat) (X e : Int) (he : e + N = k) (hX : bits X ≤ 1000) : Fn Tb (n + 1) 180 [.int X, .int e] = some (fp N (X * 2 ^ k)) := by
  by_cases h : X = 0
  · subst h
    rw [Int.zero_mul, fp_zero]
    refine Fn_of (fd := fd180) rfl (by simp only [ini, fd180, List.length_cons, List.length_nil, List.map_cons, List.map_nil, List.cons_append, List.nil_append, List.drop_succ_cons, List.drop_zero, List.drop_nil, List.replicate_succ, List.replicate_zero, Nat.reduceAdd, Nat.reduceSub, Nat.reduceLeDiff, and_self, if_true] <;> exact rfl) ?_
    generalize Fn Tb n = F
    refine RunL.seq (RunL.unp (by simp (disch := first | assumption | omega | rfl) only [ev, evs, nth, t4, b_add, b_sub, b_and, b_xor, b_mul, b_shl, b_shr, b_pow, b_div, b_mod, t_int, t_bool, c_lt, c_gt, c_le, c_ge, Option.bind_some, Option.map_some, if_true, Bool.false_eq_true, if_false] <;> exact rfl) (by simp only [puts, put, List.reverse_cons, List.reverse_nil, List.nil_append, List.cons_append] <;> exact rfl) (RunL.seq (RunL.ite (by simp (disch := first | assumption | omega | rfl) only [ev, evs, nth, t4, b_add, b_sub, b_and, b_xor, b_mul, b_shl, b_shr, b_pow, b_div, b_mod, t_int, t_bool, c_lt, c_gt, c_le, c_ge, Option.bind_some, Option.map_some, if_true, Bool.false_eq_true, if_false, e_int] <;> exact rfl) (by simp only [t_int, t_bool] <;> exact rfl) (fun h => ?_) (fun h => by cases h))))
    exact RunL.seq (RunL.ret (by simp (disch := first | assumption | omega | rfl) only [ev, evs, nth, t4, b_add, b_sub, b_and, b_xor, b_mul, b_shl, b_shr, b_pow, b_div, b_mod, t_int, t_bool, c_lt, c_gt, c_le, c_ge, Option.bind_some, Option.map_some, if_true, Bool.false_eq_true, if_false] <;> exact rfl) rfl)
  · obtain ⟨b, a, i, ha, rfl⟩ := split_int h
    rw [bits_ak ha] at hX
    have hx : sv b ((a : Int) * 2 ^ i) * 2 ^ k = sv b ((a : Int) * 2 ^ (i + k)) := by
      cases b
      · show (a : Int) * 2 ^ i * 2 ^ k = _
        rw [Int.mul_assoc, ← Int.pow_add]; rfl
      · show -((a : Int) * 2 ^ i) * 2 ^ k = -((a : Int) * 2 ^ (i + k))
        rw [Int.neg_mul, Int.mul_assoc, ← Int.pow_add]
    rw [hx, fp_mk N b ha]
    obtain ⟨S, hS⟩ : ∃ S : Nat, S = a * 2 ^ i := ⟨_, rfl⟩
    have hSp : 0 < S := by rw [hS]; exact Nat.mul_pos (by omega) (Nat.two_pow_pos i)
    have hSc : (a : Int) * 2 ^ i = (S : Int) := by rw [hS, Int.natCast_mul, Int.natCast_pow]; rfl
    rw [hSc]
    have htz : tz S = i := by rw [hS]; exact tz_shift ha i
    have hand : Builtin.bitAnd (S : Int) (-(S : Int)) = 2 ^ i := by rw [and_neg (by omega), htz, Int.natCast_pow]; rfl
    have hbl : ((bits (2 ^ i) : Nat) : Int) - 1 = i := by rw [bits_pow]; omega
    have hdiv : evBin .FloorDiv (.int (S : Int)) (.int (2 ^ i)) = some (.int (a : Int)) := by
      rw [b_div (Int.pow_pos (by decide)) (by rw [bits_pow]; omega), fdiv_nat, hS, Nat.mul_div_cancel _ (Nat.two_pow_pos i)]
    have hpw : evBin .Pow (.int 2) (.int (i : Int)) = some (.int (2 ^ i)) := by
      rw [b_pow2 (by omega) (by omega), Int.toNat_natCast]
    have hS0 : decide ((S : Int) = 0) = false := decide_eq_false (by omega)
    have hlt : decide ((S : Int) < 0) = false := decide_eq_false (by omega)
    have hlt' : decide (-(S : Int) < 0) = true := decide_eq_true (by omega)
    have hex : e + (i : Int) = ((i + k : Nat) : Int) - N := by omega
    refine Fn_of (fd := fd180) rfl (by simp only [ini, fd180, List.length_cons, List.length_nil, List.map_cons, List.map_nil, List.cons_append, List.nil_append, List.drop_succ_cons, List.drop_zero, List.drop_nil, List.replicate_succ, List.replicate_zero, Nat.reduceAdd, Nat.reduceSub, Nat.reduceLeDiff, and_self, if_true] <;> exact rfl) ?_
    generalize Fn Tb n = F
    cases b
    · show RunL F _ [some (.int (S : Int)), _, _, _, _] _
      refine RunL.seq (RunL.unp (by simp (disch := first | assumption | omega | rfl) only [ev, evs, nth, t4, b_add, b_sub, b_and, b_xor, b_mul, b_shl, b_shr, b_pow, b_div, b_mod, t_int, t_bool, c_lt, c_gt, c_le, c_ge, Option.bind_some, Option.map_some, if_true, Bool.false_eq_true, if_false, hlt] <;> exact rfl) (by simp only [puts, put, List.reverse_cons, List.reverse_nil, List.nil_append, List.cons_append] <;> exact rfl) (RunL.seq (RunL.ite (by simp (disch := first | assumption | omega | rfl) only [ev, evs, nth, t4, b_add, b_sub, b_and, b_xor, b_mul, b_shl, b_shr, b_pow, b_div, b_mod, t_int, t_bool, c_lt, c_gt, c_le, c_ge, Option.bind_some, Option.map_some, if_true, Bool.false_eq_true, if_false, e_int, hS0] <;> exact rfl) (by simp only [t_int, t_bool] <;> exact rfl) (fun h => by cases h) (fun h => RunL.skip ?_))))
      refine RunL.seq (RunL.set (by simp (disch := first | assumption | omega | rfl) only [ev, evs, nth, t4, b_add, b_sub, b_and, b_xor, b_mul, b_shl, b_shr, b_pow, b_div, b_mod, t_int, t_bool, c_lt, c_gt, c_le, c_ge, Option.bind_some, Option.map_some, if_true, Bool.false_eq_true, if_false, hand, hbl] <;> exact rfl) (by simp only [put] <;> exact rfl) (RunL.seq (RunL.set (by simp (disch := first | assumption | omega | rfl) only [ev, evs, nth, t4, b_add, b_sub, b_and, b_xor, b_mul, b_shl, b_shr, b_pow, b_div, b_mod, t_int, t_bool, c_lt, c_gt, c_le, c_ge, Option.bind_some, Option.map_some, if_true, Bool.false_eq_true, if_false, hpw, hdiv] <;> exact rfl) (by simp only [put] <;> exact rfl) ?_)))
      exact RunL.seq (RunL.ret (by simp (disch := first | assumption | omega | rfl) only [ev, evs, nth, t4, b_add, b_sub, b_and, b_xor, b_mul, b_shl, b_shr, b_pow, b_div, b_mod, t_int, t_bool, c_lt, c_gt, c_le, c_ge, Option.bind_some, Option.map_some, if_true, Bool.false_eq_true, if_false, hex] <;> exact rfl) rfl)
    · show RunL F _ [some (.int (-(S : Int))), _, _, _, _] _
      refine RunL.seq (RunL.unp (ds := [.int 1, .int (S : Int)]) (by simp only [ev, evs, nth, c_lt, t_bool, Option.bind_some, Option.map_some, hlt', if_true, Int.neg_neg]) (by simp only [puts, put, List.reverse_cons, List.reverse_nil, List.nil_append, List.cons_append] <;> exact rfl) (RunL.seq (RunL.ite (by simp (disch := first | assumption | omega | rfl) only [ev, evs, nth, t4, b_add, b_sub, b_and, b_xor, b_mul, b_shl, b_shr, b_pow, b_div, b_mod, t_int, t_bool, c_lt, c_gt, c_le, c_ge, Option.bind_some, Option.map_some, if_true, Bool.false_eq_true, if_false, e_int, hS0] <;> exact rfl) (by simp only [t_int, t_bool] <;> exact rfl) (fun h => by cases h) (fun h => RunL.skip ?_))))
      refine RunL.seq (RunL.set (by simp (disch := first | assumption | omega | rfl) only [ev, evs, nth, t4, b_add, b_sub, b_and, b_xor, b_mul, b_shl, b_shr, b_pow, b_div, b_mod, t_int, t_bool, c_lt, c_gt, c_le, c_ge, Option.bind_some, Option.map_some, if_true, Bool.false_eq_true, if_false, hand, hbl] <;> exact rfl) (by simp only [put] <;> exact rfl) (RunL.seq (RunL.set (by simp (disch := first | assumption | omega | rfl) only [ev, evs, nth, t4, b_add, b_sub, b_and, b_xor, b_mul, b_shl, b_shr, b_pow, b_div, b_mod, t_int, t_bool, c_lt, c_gt, c_le, c_ge, Option.bind_some, Option.map_some, if_true, Bool.false_eq_true, if_false, hpw, hdiv] <;> exact rfl) (by simp only [put] <;> exact rfl) ?_)))
      exact RunL.seq (RunL.ret (by simp (disch := first | assumption | omega | rfl) only [ev, evs, nth, t4, b_add, b_sub, b_and, b_xor, b_mul, b_shl, b_shr, b_pow, b_div, b_mod, t_int, t_bool, c_lt, c_gt, c_le, c_ge, Option.bind_some, Option.map_some, if_true, Bool.false_eq_true, if_false, hex] <;> exact rfl) rfl)
theorem span_spec (n k : Nat) (lo hi e : Int) (he : e + 12 = k) (hl : bits lo ≤ 1000) (hh : bits hi ≤ 1000) : Fn Tb (n + 2) 236 [.tuple [.int lo, .int hi, .int e]] = some (iv 12 (lo * 2 ^ k) (hi * 2 ^ k)) := by
  have h1 := made_spec n 12 k lo e he hl
  have h2 := made_spec n 12 k hi e he hh
  refine Fn_of (fd := fd236) rfl (by simp only [ini, fd236, List.length_cons, List.length_nil, List.map_cons, List.map_nil, List.cons_append, List.nil_append, List.drop_succ_cons, List.drop_zero, List.drop_nil, List.replicate_succ, List.replicate_zero, Nat.reduceAdd, Nat.reduceSub, Nat.reduceLeDiff, and_self, if_true] <;> exact rfl) ?_
  generalize Fn Tb (n + 1) = F at h1 h2 ⊢
  exact RunL.seq (RunL.ret (by simp (disch := first | assumption | omega | rfl) only [ev, evs, nth, t4, b_add, b_sub, b_and, b_xor, b_mul, b_shl, b_shr, b_pow, b_div, b_mod, t_int, t_bool, c_lt, c_gt, c_le, c_ge, Option.bind_some, Option.map_some, if_true, Bool.false_eq_true, if_false, s30, s31, s32, h1, h2] <;> exact rfl) rfl)
/-- what a grid is -/
def GR (d : Dat) : Prop := ∃ lo hi e : Int, d = .tuple [.int lo, .int hi, .int e] ∧ -16777216 ≤ lo ∧ lo ≤ 16777216 ∧ lo ≤ hi ∧ hi - lo < 16777216 ∧ -12 ≤ e ∧ e ≤ 12
theorem fm {x y : Int} (h : 0 < y) : 0 ≤ x.fmod y ∧ x.fmod y < y := ⟨Int.fmod_nonneg_of_pos x h, Int.fmod_lt_of_pos x h⟩
theorem pow_le24 {j : Int} (h0 : 0 ≤ j) (h : j ≤ 24) : (2 : Int) ^ j.toNat ≤ 16777216 ∧ (0 : Int) < 2 ^ j.toNat := by
  refine ⟨?_, Int.pow_pos (by decide)⟩
  have : (2 : Nat) ^ j.toNat ≤ 2 ^ 24 := Nat.pow_le_pow_right (by decide) (by omega)
  have e : ((2 ^ j.toNat : Nat) : Int) = 2 ^ j.toNat := by rw [Int.natCast_pow]; rfl
  omega
theorem d_lit (x : Int) {y : Int} (h : 0 < y ∧ bits y ≤ 8000 := by decide) : evBin .FloorDiv (.int x) (.int y) = some (.int (x.fdiv y)) := b_div h.1 h.2
theorem grid_spec (n : Nat) (r : Int) : ∃ d, Fn Tb (n + 1) 222 [.int r] = some d ∧ GR d := by
  refine Fn_ofQ (fd := fd222) rfl (by simp only [ini, fd222, List.length_cons, List.length_nil, List.map_cons, List.map_nil, List.cons_append, List.nil_append, List.drop_succ_cons, List.drop_zero, List.drop_nil, List.replicate_succ, List.replicate_zero, Nat.reduceAdd, Nat.reduceSub, Nat.reduceLeDiff, and_self, if_true] <;> exact rfl) ?_
  generalize Fn Tb n = F
  have d1 := @d_lit r 6
  have d2 := @d_lit r 150
  have dp : ∀ (j : Int), 0 ≤ j → j ≤ 100 → evBin .FloorDiv (.int r) (.int (2 ^ j.toNat)) = some (.int (r.fdiv (2 ^ j.toNat))) := fun j h0 h => b_div (Int.pow_pos (by decide)) (by rw [bits_pow]; omega)
  have mp : ∀ (x j : Int), evBin .Mod (.int x) (.int (2 ^ j.toNat)) = some (.int (x.fmod (2 ^ j.toNat))) := fun x j => b_mod (Int.pow_pos (by decide))
  refine RunL.seq (RunL.unpR (by simp (disch := first | assumption | omega | rfl) only [ev, evs, nth, t4, b_add, b_sub, b_and, b_xor, b_mul, b_shl, b_shr, b_pow, b_div, b_mod, t_int, t_bool, c_lt, c_gt, c_le, c_ge, Option.bind_some, Option.map_some, if_true, Bool.false_eq_true, if_false, d1, d2] <;> exact rfl) (by simp only [puts, put, List.reverse_cons, List.reverse_nil, List.nil_append, List.cons_append] <;> exact rfl) ?_)
  have k1 := fm (x := r) (y := 6) (by decide)
  have k2 := fm (x := r.fdiv 6) (y := 25) (by decide)
  have k3 := fm (x := r.fdiv 150) (y := 24) (by decide)
  have k4 := fm (x := r.fdiv (2 ^ (66 : Int).toNat)) (y := 24) (by decide)
  generalize hK : r.fmod 6 = K at k1 ⊢
  generalize hE : (r.fdiv 6).fmod 25 - 12 = E at ⊢
  generalize hB : 1 + (r.fdiv 150).fmod 24 = B at ⊢
  generalize hC : (r.fdiv (2 ^ (66 : Int).toNat)).fmod 24 = C at k4
  have hE' : -12 ≤ E ∧ E ≤ 12 := by omega
  have hB' : 1 ≤ B ∧ B ≤ 24 := by omega
  have p1 := pow_le24 (j := B) (by omega) (by omega)
  have p2 := pow_le24 (j := B - 1) (by omega) (by omega)
  have p3 := pow_le24 (j := 1 + C) (by omega) (by omega)
  have m1 := fm (x := r.fdiv (2 ^ (13 : Int).toNat)) p1.2
  have m2 := fm (x := r.fdiv (2 ^ (40 : Int).toNat)) p3.2
  refine RunL.seq (RunL.unpR (ds := [.int ((r.fdiv (2 ^ (13 : Int).toNat)).fmod (2 ^ B.toNat) - 2 ^ (B - 1).toNat), .int ((r.fdiv (2 ^ (40 : Int).toNat)).fmod (2 ^ (1 + C).toNat))]) (by
    rw [← hC]
    simp (disch := first | omega) only [ev, evs, nth, b_pow2, b_sub, b_add, dp, mp, b_mod, Option.bind_some, Option.map_some]) (by simp only [puts, put, List.reverse_cons, List.reverse_nil, List.nil_append, List.cons_append] <;> exact rfl) ?_)
  have hL : -16777216 ≤ (r.fdiv (2 ^ (13 : Int).toNat)).fmod (2 ^ B.toNat) - 2 ^ (B - 1).toNat ∧ (r.fdiv (2 ^ (13 : Int).toNat)).fmod (2 ^ B.toNat) - 2 ^ (B - 1).toNat ≤ 16777216 := by omega
  have hW : 0 ≤ (r.fdiv (2 ^ (40 : Int).toNat)).fmod (2 ^ (1 + C).toNat) ∧ (r.fdiv (2 ^ (40 : Int).toNat)).fmod (2 ^ (1 + C).toNat) < 16777216 := by omega
  clear m1 m2 dp mp d1 d2 hC hK hE hB
  generalize (r.fdiv (2 ^ (13 : Int).toNat)).fmod (2 ^ B.toNat) - 2 ^ (B - 1).toNat = L at hL ⊢
  generalize (r.fdiv (2 ^ (40 : Int).toNat)).fmod (2 ^ (1 + C).toNat) = W at hW ⊢
  have fin : ∀ L W : Int, -16777216 ≤ L ∧ L ≤ 16777216 → 0 ≤ W ∧ W < 16777216 → GR (.tuple [.int L, .int (L + W), .int E]) := fun L W h1 h2 => ⟨L, L + W, E, rfl, h1.1, h1.2, by omega, by omega, hE'.1, hE'.2⟩
  refine RunL.seq (RunL.ite (by simp (disch := first | assumption | omega | rfl) only [ev, evs, nth, t4, b_add, b_sub, b_and, b_xor, b_mul, b_shl, b_shr, b_pow, b_div, b_mod, t_int, t_bool, c_lt, c_gt, c_le, c_ge, Option.bind_some, Option.map_some, if_true, Bool.false_eq_true, if_false, e_int] <;> exact rfl) (by simp only [t_int, t_bool] <;> exact rfl) (fun h => ?_) (fun h => ?_))
  · refine RunL.seq (RunL.set (by simp (disch := first | assumption | omega | rfl) only [ev, evs, nth, t4, b_add, b_sub, b_and, b_xor, b_mul, b_shl, b_shr, b_pow, b_div, b_mod, t_int, t_bool, c_lt, c_gt, c_le, c_ge, Option.bind_some, Option.map_some, if_true, Bool.false_eq_true, if_false] <;> exact rfl) (by simp only [put] <;> exact rfl) (RunL.skip ?_))
    exact RunL.seq (RunL.ret (by simp (disch := first | assumption | omega | rfl) only [ev, evs, nth, t4, b_add, b_sub, b_and, b_xor, b_mul, b_shl, b_shr, b_pow, b_div, b_mod, t_int, t_bool, c_lt, c_gt, c_le, c_ge, Option.bind_some, Option.map_some, if_true, Bool.false_eq_true, if_false] <;> exact rfl) (fin _ _ hL (by omega)))
  refine RunL.seq (RunL.ite (by simp (disch := first | assumption | omega | rfl) only [ev, evs, nth, t4, b_add, b_sub, b_and, b_xor, b_mul, b_shl, b_shr, b_pow, b_div, b_mod, t_int, t_bool, c_lt, c_gt, c_le, c_ge, Option.bind_some, Option.map_some, if_true, Bool.false_eq_true, if_false, e_int] <;> exact rfl) (by simp only [t_int, t_bool] <;> exact rfl) (fun h => ?_) (fun h => ?_))
  · refine RunL.seq (RunL.set (by simp (disch := first | assumption | omega | rfl) only [ev, evs, nth, t4, b_add, b_sub, b_and, b_xor, b_mul, b_shl, b_shr, b_pow, b_div, b_mod, t_int, t_bool, c_lt, c_gt, c_le, c_ge, Option.bind_some, Option.map_some, if_true, Bool.false_eq_true, if_false] <;> exact rfl) (by simp only [put] <;> exact rfl) (RunL.skip (RunL.skip ?_)))
    exact RunL.seq (RunL.ret (by simp (disch := first | assumption | omega | rfl) only [ev, evs, nth, t4, b_add, b_sub, b_and, b_xor, b_mul, b_shl, b_shr, b_pow, b_div, b_mod, t_int, t_bool, c_lt, c_gt, c_le, c_ge, Option.bind_some, Option.map_some, if_true, Bool.false_eq_true, if_false] <;> exact rfl) (fin _ _ (by omega) hW))
  refine RunL.seq (RunL.ite (by simp (disch := first | assumption | omega | rfl) only [ev, evs, nth, t4, b_add, b_sub, b_and, b_xor, b_mul, b_shl, b_shr, b_pow, b_div, b_mod, t_int, t_bool, c_lt, c_gt, c_le, c_ge, Option.bind_some, Option.map_some, if_true, Bool.false_eq_true, if_false, e_int] <;> exact rfl) (by simp only [t_int, t_bool] <;> exact rfl) (fun h => ?_) (fun h => ?_))
  · refine RunL.seq (RunL.set (by simp (disch := first | assumption | omega | rfl) only [ev, evs, nth, t4, b_add, b_sub, b_and, b_xor, b_mul, b_shl, b_shr, b_pow, b_div, b_mod, t_int, t_bool, c_lt, c_gt, c_le, c_ge, Option.bind_some, Option.map_some, if_true, Bool.false_eq_true, if_false] <;> exact rfl) (by simp only [put] <;> exact rfl) (RunL.skip (RunL.skip (RunL.skip ?_))))
    exact RunL.seq (RunL.ret (by simp (disch := first | assumption | omega | rfl) only [ev, evs, nth, t4, b_add, b_sub, b_and, b_xor, b_mul, b_shl, b_shr, b_pow, b_div, b_mod, t_int, t_bool, c_lt, c_gt, c_le, c_ge, Option.bind_some, Option.map_some, if_true, Bool.false_eq_true, if_false] <;> exact rfl) (fin _ _ (by omega) hW))
  · refine RunL.skip (RunL.skip (RunL.skip ?_))
    exact RunL.seq (RunL.ret (by simp (disch := first | assumption | omega | rfl) only [ev, evs, nth, t4, b_add, b_sub, b_and, b_xor, b_mul, b_shl, b_shr, b_pow, b_div, b_mod, t_int, t_bool, c_lt, c_gt, c_le, c_ge, Option.bind_some, Option.map_some, if_true, Bool.false_eq_true, if_false] <;> exact rfl) (fin _ _ hL hW))
theorem up_spec (n : Nat) (r : Int) : ∃ d, Fn Tb (n + 2) 229 [.int r] = some d ∧ GR d := by
  obtain ⟨d, h1, lo, hi, e, rfl, h2, h3, h4, h5, h6, h7⟩ := grid_spec n r
  refine Fn_ofQ (fd := fd229) rfl (by simp only [ini, fd229, List.length_cons, List.length_nil, List.map_cons, List.map_nil, List.cons_append, List.nil_append, List.drop_succ_cons, List.drop_zero, List.drop_nil, List.replicate_succ, List.replicate_zero, Nat.reduceAdd, Nat.reduceSub, Nat.reduceLeDiff, and_self, if_true] <;> exact rfl) ?_
  generalize Fn Tb (n + 1) = F at h1 ⊢
  refine RunL.seq (RunL.unp (by simp (disch := first | assumption | omega | rfl) only [ev, evs, nth, t4, b_add, b_sub, b_and, b_xor, b_mul, b_shl, b_shr, b_pow, b_div, b_mod, t_int, t_bool, c_lt, c_gt, c_le, c_ge, Option.bind_some, Option.map_some, if_true, Bool.false_eq_true, if_false, h1] <;> exact rfl) (by simp only [puts, put, List.reverse_cons, List.reverse_nil, List.nil_append, List.cons_append] <;> exact rfl) (RunL.seq (RunL.ret (by simp (disch := first | assumption | omega | rfl) only [ev, evs, nth, t4, b_add, b_sub, b_and, b_xor, b_mul, b_shl, b_shr, b_pow, b_div, b_mod, t_int, t_bool, c_lt, c_gt, c_le, c_ge, Option.bind_some, Option.map_some, if_true, Bool.false_eq_true, if_false] <;> exact rfl) ?_)))
  refine ⟨_, _, e, rfl, ?_, ?_, ?_, ?_, h6, h7⟩
  all_goals split <;> omega
theorem mixed_main {F : Nat → List Dat → Option Dat} (x0 : Option Dat) (k : Nat) (hk : k ≤ 3) (v : Int) (hv : bits v ≤ 1048576) : RunL F [.seq (.ite (.cmp .GtE (.loc 2) (.bin .Pow (.lit (Dat.int (2))) (.lit (Dat.int (64))))) (.seq (.ret (.loc 2)) .skip) .skip) (.seq (.ret (.bin .Mod (.bin .FloorDiv (.bin .Pow (.bin .Add (.bin .Mult (.loc 2) (.lit (Dat.int (6364136223846793005)))) (.bin .Mult (.bin .Add (.loc 1) (.lit (Dat.int (1)))) (.lit (Dat.int (1442695040888963407))))) (.lit (Dat.int (3)))) (.bin .Pow (.lit (Dat.int (2))) (.lit (Dat.int (40))))) (.bin .Pow (.lit (Dat.int (2))) (.lit (Dat.int (190)))))) .skip)]
    [x0, some (.int k), some (.int v)] (fun d => ∃ r : Int, d = .int r) := by
  have c1 : bits 6364136223846793005 = 63 := by decide
  have c2 : bits 1442695040888963407 = 61 := by decide
  have c3 : bits ((k : Int) + 1) ≤ 3 := bits_le.mpr (by omega)
  have q1 : evBin .Mult (.int v) (.int 6364136223846793005) = some (.int (v * 6364136223846793005)) := b_mul (by omega)
  have q2 : evBin .Mult (.int ((k : Int) + 1)) (.int 1442695040888963407) = some (.int (((k : Int) + 1) * 1442695040888963407)) := b_mul (by omega)
  have z1 := bits_mul_le v 6364136223846793005
  have z2 := bits_mul_le ((k : Int) + 1) 1442695040888963407
  have z3 := bits_add_le (x := v * 6364136223846793005) (y := ((k : Int) + 1) * 1442695040888963407) (k := 1048576 + 63) (by omega) (by omega)
  generalize v * 6364136223846793005 = A at *
  generalize ((k : Int) + 1) * 1442695040888963407 = B at *
  have q3 : evBin .Pow (.int (A + B)) (.int 3) = some (.int ((A + B) ^ (3 : Int).toNat)) := b_pow (by decide) (by omega)
  generalize (A + B) ^ (3 : Int).toNat = C at *
  have q4 : evBin .FloorDiv (.int C) (.int (2 ^ (40 : Int).toNat)) = some (.int (C.fdiv (2 ^ (40 : Int).toNat))) := b_div (Int.pow_pos (by decide)) (by rw [bits_pow]; omega)
  have q5 : ∀ x, evBin .Mod (.int x) (.int (2 ^ (190 : Int).toNat)) = some (.int (x.fmod (2 ^ (190 : Int).toNat))) := fun x => b_mod (Int.pow_pos (by decide))
  have t1 := @b_pow2 64 (by decide) (by decide)
  have t2 := @b_pow2 40 (by decide) (by decide)
  have t3 := @b_pow2 190 (by decide) (by decide)
  refine RunL.seq (RunL.ite (by simp only [ev, nth, Option.bind_some, t1, c_ge] <;> exact rfl) (by simp only [t_int, t_bool] <;> exact rfl) (fun h => ?_) (fun h => RunL.skip ?_))
  · exact RunL.seq (RunL.ret (by simp (disch := first | assumption | omega | rfl) only [ev, evs, nth, t4, b_add, b_sub, b_and, b_xor, b_mul, b_shl, b_shr, b_pow, b_div, b_mod, t_int, t_bool, c_lt, c_gt, c_le, c_ge, Option.bind_some, Option.map_some, if_true, Bool.false_eq_true, if_false] <;> exact rfl) ⟨_, rfl⟩)
  · exact RunL.seq (RunL.ret (d := .int ((C.fdiv (2 ^ (40 : Int).toNat)).fmod (2 ^ (190 : Int).toNat))) (by simp only [ev, nth, Option.bind_some, q1, q2, b_add, q3, t2, t3, q4, q5]) ⟨_, rfl⟩)
theorem ev_clen {F : Nat → List Dat → Option Dat} {ρ : List (Option Dat)} {a : CE} {l : List Dat} (h : ev F ρ a = some (.list l)) (hl : (l.length : Int) < 2 ^ 63) : ev F ρ (.clen a) = some (.int l.length) := by
  rw [ev, h, Option.bind_some]
  show (if (l.length : Int) < 2 ^ 63 then some (Dat.int l.length) else none) = _
  rw [if_pos hl]
theorem mixed_spec (n : Nat) (ns : List Int) (k : Nat) (hk : k ≤ 3) (hl : ns.length ≤ 1000) (hb : ∀ x ∈ ns, bits x ≤ 1048576) : ∃ r : Int, Fn Tb (n + 1) 173 [.list (ns.map .int), .int k] = some (.int r) := by
  suffices h : ∃ d, Fn Tb (n + 1) 173 [.list (ns.map .int), .int k] = some d ∧ ∃ r : Int, d = .int r by
    obtain ⟨d, h1, r, rfl⟩ := h; exact ⟨r, h1⟩
  refine Fn_ofQ (fd := fd173) rfl (by simp only [ini, fd173, List.length_cons, List.length_nil, List.map_cons, List.map_nil, List.cons_append, List.nil_append, List.drop_succ_cons, List.drop_zero, List.drop_nil, List.replicate_succ, List.replicate_zero, Nat.reduceAdd, Nat.reduceSub, Nat.reduceLeDiff, and_self, if_true] <;> exact rfl) ?_
  generalize Fn Tb n = F
  have hlen : ((ns.map Dat.int).length : Int) < 2 ^ 63 := by rw [List.length_map]; omega
  have hclen : ∀ x1 x2, ev F [some (.list (ns.map .int)), x1, x2] (.clen (.loc 0)) = some (.int ns.length) := by
    intro x1 x2
    rw [ev_clen (l := ns.map .int) (by rw [ev]; rfl) hlen, List.length_map]
  have hcmp : ev F [some (.list (ns.map .int)), some (.int k), none] (.cmp .Lt (.loc 1) (.clen (.loc 0))) = some (.bool (decide ((k : Int) < ns.length))) := by
    show (Option.bind _ fun x => Option.bind _ fun y => _) = _
    rw [hclen]; rfl
  by_cases hkl : k < ns.length
  · have hv := hb _ (List.getElem_mem hkl)
    have hs : evSub (.list (ns.map .int)) (.int k) = some (.int ns[k]) := s_lst ⟨by omega, by rw [List.length_map]; omega, by omega⟩ (by rw [Int.toNat_natCast, List.getElem?_map, List.getElem?_eq_getElem hkl]; rfl)
    refine RunL.seq (RunL.set (d := .int ns[k]) ?_ (by simp only [put] <;> exact rfl) (mixed_main _ k hk _ hv))
    simp only [ev] at hcmp ⊢
    rw [hcmp, decide_eq_true (by omega)]
    simp only [nth, Option.bind_some, truD, if_true, hs]
  · refine RunL.seq (RunL.set (d := .int 0) ?_ (by simp only [put] <;> exact rfl) (mixed_main _ k hk _ (by rw [bits_zero]; omega)))
    simp only [ev] at hcmp ⊢
    rw [hcmp, decide_eq_false (by omega)]
    simp only [nth, Option.bind_some, truD, Bool.false_eq_true, if_false]
theorem within_spec (n N : Nat) (a b c d : Int) (hN : N ≤ 200) (ha : bits a ≤ 200) (hb : bits b ≤ 200) (hc : bits c ≤ 200) (hd : bits d ≤ 200) (h1 : c ≤ a) (h2 : b ≤ d) (h3 : a ≤ b) :
    Fn Tb (n + 2) 241 [iv N a b, iv N c d] = some (.bool true) := by
  obtain ⟨x1, v1, r1⟩ := value_spec n N 1000 a (by omega) (by omega)
  obtain ⟨x2, v2, r2⟩ := value_spec n N 1000 b (by omega) (by omega)
  obtain ⟨x3, v3, r3⟩ := value_spec n N 1000 c (by omega) (by omega)
  obtain ⟨x4, v4, r4⟩ := value_spec n N 1000 d (by omega) (by omega)
  have l1 := less_spec (X := a) (Y := c) (by omega) (by omega) r1 r3 n
  have l2 := less_spec (X := d) (Y := b) (by omega) (by omega) r4 r2 n
  have l3 := less_spec (X := b) (Y := a) (by omega) (by omega) r2 r1 n
  rw [decide_eq_false (by omega)] at l1 l2 l3
  refine Fn_of (fd := fd241) rfl (by simp only [ini, fd241, List.length_cons, List.length_nil, List.map_cons, List.map_nil, List.cons_append, List.nil_append, List.drop_succ_cons, List.drop_zero, List.drop_nil, List.replicate_succ, List.replicate_zero, Nat.reduceAdd, Nat.reduceSub, Nat.reduceLeDiff, and_self, if_true] <;> exact rfl) ?_
  generalize Fn Tb (n + 1) = F at v1 v2 v3 v4 l1 l2 l3 ⊢
  refine RunL.seq (RunL.unpC (l := [fp N a, fp N b, fp N c, fp N d]) (es := [x1, x2, x3, x4]) (.inl ?_) (by simp) ?_ (by simp only [puts, put, List.reverse_cons, List.reverse_nil, List.nil_append, List.cons_append] <;> exact rfl) ?_)
  · exact rfl
  · simp only [elMap, ev, evs, nth, Option.bind_some, v1, v2, v3, v4]
  · exact RunL.seq (RunL.ret (by simp (disch := first | assumption | omega | rfl) only [ev, evs, nth, t4, b_add, b_sub, b_and, b_xor, b_mul, b_shl, b_shr, b_pow, b_div, b_mod, t_int, t_bool, c_lt, c_gt, c_le, c_ge, Option.bind_some, Option.map_some, if_true, Bool.false_eq_true, if_false, l1, l2, l3] <;> exact rfl) rfl)
theorem bits_lin {x y : Int} {k : Nat} (hx : bits x ≤ k) (hy : bits y ≤ k) : bits (x - y) ≤ k + 1 := by
  rw [Int.sub_eq_add_neg]; exact bits_add_le hx (by rw [bits_neg]; exact hy)
theorem widths_spec (n : Nat) (a b c d : Int) (hab : a ≤ b) (hcd : c ≤ d) (ha : bits a ≤ 50) (hb : bits b ≤ 50) (hc : bits c ≤ 50) (hd : bits d ≤ 50) :
    Fn Tb (n + 11) 262 [iv 12 a b, iv 12 c d] = some (.bool true) := by
  have z1 := bits_add_le ha hc
  have z2 := bits_add_le hb hd
  have z3 := bits_lin ha hd
  have z4 := bits_lin hb hc
  have z5 := bits_lin hb ha
  have z6 := bits_lin hd hc
  have z7 := bits_add_le z5 z6
  have z8 : bits (mg a b) ≤ 50 := by unfold mg; split; exact hb; rw [bits_neg]; exact ha
  have z9 : bits (mg c d) ≤ 50 := by unfold mg; split; exact hd; rw [bits_neg]; exact hc
  have y1 := lo4_bits ha hb hc hd
  have y2 := hi4_bits ha hb hc hd
  have y3 := bits_lin y2 y1
  have y4 := bits_mul_le (mg a b) (d - c)
  have y5 := bits_mul_le (mg c d) (b - a)
  have y6 := bits_add_le (x := mg a b * (d - c)) (y := mg c d * (b - a)) (k := 102) (by omega) (by omega)
  obtain ⟨one, e1, r1⟩ := wide_spec (n + 2) 12 a b (by omega) (by omega) (by omega)
  obtain ⟨other, e2, r2⟩ := wide_spec (n + 2) 12 c d (by omega) (by omega) (by omega)
  obtain ⟨both, e3, r3⟩ := sum_spec (by omega) (by omega) (r1.mono (by omega)) (r2.mono (by omega)) (n + 9)
  have e4 : Fn Tb (n + 10) 166 [iv 12 a b, iv 12 c d] = some (iv 24 (lo4 a b c d) (hi4 a b c d)) := mpi_mul_spec n 12 12 0 a b c d hab hcd (by omega) (by omega) (by omega) (by omega)
  have e5 : Fn Tb (n + 10) 127 [iv 12 a b, iv 12 c d] = some (iv 12 (a + c) (b + d)) := mpi_add_spec (n + 4) 12 0 a b c d (by omega) (by omega) (by omega) (by omega) (.inl rfl) (.inl rfl)
  have e6 : Fn Tb (n + 10) 135 [iv 12 a b, iv 12 c d] = some (iv 12 (a - d) (b - c)) := mpi_sub_spec (n + 3) 12 0 a b c d (by omega) (by omega) (by omega) (by omega) (.inl rfl) (.inl rfl)
  obtain ⟨w1, e7, r7⟩ := wide_spec (n + 2) 12 (a + c) (b + d) (by omega) (by omega) (by omega)
  obtain ⟨w2, e8, r8⟩ := wide_spec (n + 2) 12 (a - d) (b - c) (by omega) (by omega) (by omega)
  have y7 : (b + d) - (a + c) = (b - a) + (d - c) := by omega
  have y8 : (b - c) - (a - d) = (b - a) + (d - c) := by omega
  rw [y7] at r7
  rw [y8] at r8
  have e9 := same_spec (by omega) (by omega) (r7.mono (by omega)) r3 (n + 8)
  have e10 := same_spec (by omega) (by omega) (r8.mono (by omega)) r3 (n + 8)
  rw [decide_eq_true rfl] at e9 e10
  obtain ⟨u1, e11⟩ := mpi_abs_spec (n + 1) 12 a b hab (by omega) (by omega)
  obtain ⟨u2, e12⟩ := mpi_abs_spec (n + 1) 12 c d hcd (by omega) (by omega)
  obtain ⟨g1, e13, r13⟩ := value_spec (n + 9) 12 500 (mg a b) (by omega) (by omega)
  obtain ⟨g2, e14, r14⟩ := value_spec (n + 9) 12 500 (mg c d) (by omega) (by omega)
  obtain ⟨t1, e15, r15⟩ := times_spec (by omega) (by omega) r13 (r2.mono (by omega)) (n + 9)
  obtain ⟨t2, e16, r16⟩ := times_spec (by omega) (by omega) r14 (r1.mono (by omega)) (n + 9)
  obtain ⟨most, e17, r17⟩ := sum_spec (by omega) (by omega) r15 r16 (n + 9)
  obtain ⟨wm, e18, r18⟩ := wide_spec (n + 2) 24 (lo4 a b c d) (hi4 a b c d) (by omega) (by omega) (by omega)
  have l1 := less_spec (by omega) (by omega) (r18.mono (by omega)) r15 (n + 9)
  have l2 := less_spec (by omega) (by omega) (r18.mono (by omega)) r16 (n + 9)
  have l3 := less_spec (by omega) (by omega) r17 (r18.mono (by omega)) (n + 9)
  have k1 := wid_lo (a := a) (b := b) hcd
  have k2 := wid_lo (a := c) (b := d) hab
  rw [← lo4_comm, ← hi4_comm] at k2
  have k3 := wid_hi hab hcd
  rw [decide_eq_false (by omega)] at l1 l2 l3
  simp only [Nat.add_assoc, Nat.reduceAdd] at e1 e2 e3 e7 e8 e9 e10 e11 e12 e13 e14 e15 e16 e17 e18 l1 l2 l3
  refine Fn_of (fd := fd262) rfl (by simp only [ini, fd262, List.length_cons, List.length_nil, List.map_cons, List.map_nil, List.cons_append, List.nil_append, List.drop_succ_cons, List.drop_zero, List.drop_nil, List.replicate_succ, List.replicate_zero, Nat.reduceAdd, Nat.reduceSub, Nat.reduceLeDiff, and_self, if_true] <;> exact rfl) ?_
  generalize Fn Tb (n + 10) = F at *
  refine RunL.seq (RunL.unpR (by simp (disch := first | assumption | omega | rfl) only [ev, evs, nth, t4, b_add, b_sub, b_and, b_xor, b_mul, b_shl, b_shr, b_pow, b_div, b_mod, t_int, t_bool, c_lt, c_gt, c_le, c_ge, Option.bind_some, Option.map_some, if_true, Bool.false_eq_true, if_false, e1, e2] <;> exact rfl) (by simp only [puts, put, List.reverse_cons, List.reverse_nil, List.nil_append, List.cons_append] <;> exact rfl) (RunL.seq (RunL.unpR (by simp (disch := first | assumption | omega | rfl) only [ev, evs, nth, t4, b_add, b_sub, b_and, b_xor, b_mul, b_shl, b_shr, b_pow, b_div, b_mod, t_int, t_bool, c_lt, c_gt, c_le, c_ge, Option.bind_some, Option.map_some, if_true, Bool.false_eq_true, if_false, e3, e4] <;> exact rfl) (by simp only [puts, put, List.reverse_cons, List.reverse_nil, List.nil_append, List.cons_append] <;> exact rfl) ?_)))
  refine RunL.seq (RunL.ite (by simp (disch := first | assumption | omega | rfl) only [ev, evs, nth, t4, b_add, b_sub, b_and, b_xor, b_mul, b_shl, b_shr, b_pow, b_div, b_mod, t_int, t_bool, c_lt, c_gt, c_le, c_ge, Option.bind_some, Option.map_some, if_true, Bool.false_eq_true, if_false, e5, e6, e7, e8, e9, e10, Bool.not_true] <;> exact rfl) (by simp only [t_int, t_bool] <;> exact rfl) (fun h => by cases h) (fun h => RunL.skip ?_))
  refine RunL.seq (RunL.set (by simp (disch := first | assumption | omega | rfl) only [ev, evs, nth, t4, b_add, b_sub, b_and, b_xor, b_mul, b_shl, b_shr, b_pow, b_div, b_mod, t_int, t_bool, c_lt, c_gt, c_le, c_ge, Option.bind_some, Option.map_some, if_true, Bool.false_eq_true, if_false, e11, e12, s21, e13, e14, e15, e16] <;> exact rfl) (by simp only [put] <;> exact rfl) (RunL.seq (RunL.set (by simp (disch := first | assumption | omega | rfl) only [ev, evs, nth, t4, b_add, b_sub, b_and, b_xor, b_mul, b_shl, b_shr, b_pow, b_div, b_mod, t_int, t_bool, c_lt, c_gt, c_le, c_ge, Option.bind_some, Option.map_some, if_true, Bool.false_eq_true, if_false, l20, l21, e17] <;> exact rfl) (by simp only [put] <;> exact rfl) ?_)))
  exact RunL.seq (RunL.ret (by simp (disch := first | assumption | omega | rfl) only [ev, evs, nth, t4, b_add, b_sub, b_and, b_xor, b_mul, b_shl, b_shr, b_pow, b_div, b_mod, t_int, t_bool, c_lt, c_gt, c_le, c_ge, Option.bind_some, Option.map_some, if_true, Bool.false_eq_true, if_false, l20, l21, e18, l1, l2, l3] <;> exact rfl) rfl)
end Mine

end

/-! # part AM14 -/
section
open PySem PySem.W
set_option maxRecDepth 100000
set_option linter.unusedSimpArgs false
set_option linter.unusedVariables false
namespace Mine
open Classical
def cLawCond : CE := (.and (.or (.cmp .Eq (.sub (.loc 5) (.lit (Dat.int (0)))) (.sub (.loc 5) (.lit (Dat.int (1))))) (.or (.and (.cmp .Eq (.loc 13) (.loc 14)) (.cmp .NotEq (.loc 13) (.lit (Dat.int (0))))) (.or (.cmp .Eq (.bin .Mult (.loc 13) (.loc 14)) (.lit (Dat.int (2)))) (.cmp .Eq (.bin .Mult (.loc 13) (.loc 14)) (.neg (.lit (Dat.int (2)))))))) (.cmp .NotEq (.loc 11) (.loc 12)))
def cLawRest : CS := (.seq (.ite (.or (.cmp .NotEq (.call 127 (.cons (.call 127 (.cons (.loc 5) (.cons (.loc 6) .nil))) (.cons (.loc 7) .nil))) (.call 127 (.cons (.loc 5) (.cons (.call 127 (.cons (.loc 6) (.cons (.loc 7) .nil))) .nil)))) (.cmp .NotEq (.call 127 (.cons (.loc 5) (.cons (.loc 6) (.cons (.loc 2) .nil)))) (.call 127 (.cons (.loc 6) (.cons (.loc 5) (.cons (.loc 2) .nil)))))) (.seq (.ret (.lit (Dat.bool false))) .skip) .skip) (.seq (.ite (.or (.cmp .NotEq (.call 166 (.cons (.call 166 (.cons (.loc 5) (.cons (.loc 6) .nil))) (.cons (.loc 7) .nil))) (.call 166 (.cons (.loc 5) (.cons (.call 166 (.cons (.loc 6) (.cons (.loc 7) .nil))) .nil)))) (.cmp .NotEq (.call 166 (.cons (.loc 5) (.cons (.loc 6) (.cons (.loc 2) .nil)))) (.call 166 (.cons (.loc 6) (.cons (.loc 5) (.cons (.loc 2) .nil)))))) (.seq (.ret (.lit (Dat.bool false))) .skip) .skip) (.seq (.set 8 (.call 135 (.cons (.loc 5) (.cons (.loc 6) (.cons (.loc 2) .nil))))) (.seq (.ite (.or (.cmp .NotEq (.loc 8) (.call 127 (.cons (.loc 5) (.cons (.call 150 (.cons (.loc 6) .nil)) (.cons (.loc 2) .nil))))) (.cmp .NotEq (.loc 8) (.call 150 (.cons (.call 135 (.cons (.loc 6) (.cons (.loc 5) (.cons (.loc 2) .nil)))) .nil)))) (.seq (.ret (.lit (Dat.bool false))) .skip) .skip) (.seq (.unp [9, 10] true (.tup (.cons (.call 248 (.cons (.loc 6) .nil)) (.cons (.call 135 (.cons (.loc 6) (.cons (.loc 6) .nil))) .nil)))) (.seq (.ite (.or (.nt (.call 215 (.cons (.call 187 (.cons (.sub (.loc 10) (.lit (Dat.int (1)))) .nil)) (.cons (.loc 9) .nil)))) (.cmp .NotEq (.loc 10) (.call 150 (.cons (.loc 10) .nil)))) (.seq (.ret (.lit (Dat.bool false))) .skip) .skip) (.seq (.unp [11, 12] true (.tup (.cons (.call 166 (.cons (.loc 5) (.cons (.call 127 (.cons (.loc 6) (.cons (.loc 7) .nil))) .nil))) (.cons (.call 127 (.cons (.call 166 (.cons (.loc 5) (.cons (.loc 6) .nil))) (.cons (.call 166 (.cons (.loc 5) (.cons (.loc 7) .nil))) .nil))) .nil)))) (.seq (.unp [13, 14] true (.tup (.cons (.call 255 (.cons (.loc 6) .nil)) (.cons (.call 255 (.cons (.loc 7) .nil)) .nil)))) (.seq (.ite cLawCond (.seq (.ret (.lit (Dat.bool false))) .skip) .skip) (.seq (.ret (.and (.call 241 (.cons (.loc 11) (.cons (.loc 12) .nil))) (.call 262 (.cons (.loc 5) (.cons (.loc 6) .nil))))) .skip))))))))))
def cLaw : CS := (.seq (.unpC [5, 6, 7] (.loc 4) (.call 236 (.cons (.loc 0) .nil))) (.seq (.ite (.cmp .Eq (.loc 3) (.lit (Dat.int (0)))) (.seq (.set 5 (.tup (.cons (.sub (.loc 5) (.lit (Dat.int (0)))) (.cons (.sub (.loc 5) (.lit (Dat.int (0)))) .nil)))) .skip) .skip) cLawRest))

theorem ok_iv (N : Nat) (a b : Int) : kqdOk 8 (iv N a b) = true := by
  unfold iv fp; split <;> split <;> rfl
theorem ne_iv (N M : Nat) {a b c d : Int} (h0 : N = M) (h1 : a = c) (h2 : b = d) : evCmp .NotEq (iv N a b) (iv M c d) = some (.bool false) := by
  subst h0 h1 h2
  rw [c_ne (ok_iv _ _ _) (ok_iv _ _ _), decide_eq_true rfl]; rfl
theorem n_int {a b : Int} : evCmp .NotEq (.int a) (.int b) = some (.bool (!decide (a = b))) := by
  rw [c_ne rfl rfl]; congr 3; exact decide_eq_decide.mpr ⟨fun h => Dat.int.inj h, fun h => by rw [h]⟩
theorem cond_spec {F : Nat → List Dat → Option Dat} {x0 x1 x2 x3 x4 x6 x7 x8 x9 x10 : Option Dat} {a b o1 o2 : Int} {L R : Dat} (hm : bits o1 + bits o2 ≤ 2 ^ 26)
    (h : (a = b ∨ (o1 = o2 ∧ o1 ≠ 0) ∨ o1 * o2 = 2 ∨ o1 * o2 = -2) → evCmp .NotEq L R = some (.bool false)) :
    ev F [x0, x1, x2, x3, x4, some (iv 12 a b), x6, x7, x8, x9, x10, some L, some R, some (.int o1), some (.int o2)] cLawCond = some (.bool false) := by
  have g1 := eq_fp 12 a b
  have g2 := @e_int o1 o2
  have g3 := @n_int o1 0
  have g4 := b_mul hm
  have g5 := @e_int (o1 * o2) 2
  have g6 := @e_int (o1 * o2) (-2)
  have s0 : evSub (iv 12 a b) (.int 0) = some (fp 12 a) := rfl
  have s1 : evSub (iv 12 a b) (.int 1) = some (fp 12 b) := rfl
  by_cases hc : a = b ∨ (o1 = o2 ∧ o1 ≠ 0) ∨ o1 * o2 = 2 ∨ o1 * o2 = -2
  · have hn := h hc
    by_cases z1 : a = b
    · rw [decide_eq_true z1] at g1
      simp only [cLawCond, ev, nth, Option.bind_some, s0, s1, g1, truD, if_true, hn]
    rw [decide_eq_false z1] at g1
    by_cases z2 : o1 = o2 ∧ o1 ≠ 0
    · rw [decide_eq_true z2.1] at g2
      rw [decide_eq_false z2.2] at g3
      simp only [cLawCond, ev, nth, Option.bind_some, s0, s1, g1, g2, g3, truD, if_true, Bool.false_eq_true, if_false, Bool.not_false, hn]
    have hor : ∀ X : CE, ev F [x0, x1, x2, x3, x4, some (iv 12 a b), x6, x7, x8, x9, x10, some L, some R, some (.int o1), some (.int o2)] (.or (.and (.cmp .Eq (.loc 13) (.loc 14)) (.cmp .NotEq (.loc 13) (.lit (Dat.int (0))))) X) = ev F [x0, x1, x2, x3, x4, some (iv 12 a b), x6, x7, x8, x9, x10, some L, some R, some (.int o1), some (.int o2)] X := by
      intro X
      by_cases z3 : o1 = o2
      · have z4 : o1 = 0 := Classical.byContradiction fun q => z2 ⟨z3, q⟩
        rw [decide_eq_true z3] at g2
        rw [decide_eq_true z4] at g3
        simp only [ev, nth, Option.bind_some, g2, g3, truD, if_true, Bool.not_true, Bool.false_eq_true, if_false]
      · rw [decide_eq_false z3] at g2
        simp only [ev, nth, Option.bind_some, g2, truD, Bool.false_eq_true, if_false]
    have hor' : ∀ A B C : CE, ev F [x0, x1, x2, x3, x4, some (iv 12 a b), x6, x7, x8, x9, x10, some L, some R, some (.int o1), some (.int o2)] (.and (.or (.cmp .Eq (.sub (.loc 5) (.lit (Dat.int (0)))) (.sub (.loc 5) (.lit (Dat.int (1))))) A) C) = (ev F [x0, x1, x2, x3, x4, some (iv 12 a b), x6, x7, x8, x9, x10, some L, some R, some (.int o1), some (.int o2)] A).bind fun x => (truD x).bind fun t => if t then ev F [x0, x1, x2, x3, x4, some (iv 12 a b), x6, x7, x8, x9, x10, some L, some R, some (.int o1), some (.int o2)] C else some x := by
      intro A B C
      simp only [ev, nth, Option.bind_some, s0, s1, g1, truD, Bool.false_eq_true, if_false]
    rw [cLawCond, hor' _ .nil, hor]
    by_cases z5 : o1 * o2 = 2
    · rw [decide_eq_true z5] at g5
      simp only [ev, nth, Option.bind_some, g4, g5, truD, if_true, hn]
    · have z6 : o1 * o2 = -2 := by
        rcases hc with q | q | q | q
        · exact absurd q z1
        · exact absurd q z2
        · exact absurd q z5
        · exact q
      rw [decide_eq_false z5] at g5
      rw [decide_eq_true z6] at g6
      simp only [ev, nth, Option.bind_some, g4, g5, g6, truD, if_true, Bool.false_eq_true, if_false, hn]
  · have z1 : ¬ a = b := fun q => hc (.inl q)
    have z2 : ¬ (o1 = o2 ∧ o1 ≠ 0) := fun q => hc (.inr (.inl q))
    have z5 : ¬ o1 * o2 = 2 := fun q => hc (.inr (.inr (.inl q)))
    have z6 : ¬ o1 * o2 = -2 := fun q => hc (.inr (.inr (.inr q)))
    rw [decide_eq_false z1] at g1
    rw [decide_eq_false z5] at g5
    rw [decide_eq_false z6] at g6
    by_cases z3 : o1 = o2
    · have z4 : o1 = 0 := Classical.byContradiction fun q => z2 ⟨z3, q⟩
      rw [decide_eq_true z3] at g2
      rw [decide_eq_true z4] at g3
      simp only [cLawCond, ev, nth, Option.bind_some, s0, s1, g1, g2, g3, g4, g5, g6, truD, if_true, Bool.not_true, Bool.false_eq_true, if_false]
    · rw [decide_eq_false z3] at g2
      simp only [cLawCond, ev, nth, Option.bind_some, s0, s1, g1, g2, g3, g4, g5, g6, truD, Bool.false_eq_true, if_false]
theorem sd_bits (c d : Int) : bits (sd c d) ≤ 2 := by
  unfold sd; repeat' split
  all_goals decide
theorem sd_side {c d e f : Int} (hcd : c ≤ d) (hef : e ≤ f) (h : (sd c d = sd e f ∧ sd c d ≠ 0) ∨ sd c d * sd e f = 2 ∨ sd c d * sd e f = -2) : (0 ≤ c ∧ 0 ≤ e) ∨ (d ≤ 0 ∧ f ≤ 0) := by
  unfold sd at h
  repeat' split at h
  all_goals omega
theorem law_rest (n : Nat) (a b c d e f : Int) (p : Nat) (hab : a ≤ b) (hcd : c ≤ d) (hef : e ≤ f) (ha : bits a ≤ 50) (hb : bits b ≤ 50) (hc : bits c ≤ 50) (hd : bits d ≤ 50) (he : bits e ≤ 50) (hf : bits f ≤ 50) (x0 x1 x3 x4 : Option Dat) :
    RunL (Fn Tb (n + 11)) [cLawRest] [x0, x1, some (.int p), x3, x4, some (iv 12 a b), some (iv 12 c d), some (iv 12 e f), none, none, none, none, none, none, none] (fun r => r = .bool true) := by
  have z1 := bits_add_le ha hc
  have z2 := bits_add_le hb hd
  have z3 := bits_add_le hc he
  have z4 := bits_add_le hd hf
  have z5 := bits_lin hc hd
  have z6 := bits_lin hd hc
  have y1 := lo4_bits ha hb hc hd
  have y2 := hi4_bits ha hb hc hd
  have y3 := lo4_bits hc hd he hf
  have y4 := hi4_bits hc hd he hf
  have y5 := lo4_bits ha hb z3 z4
  have y6 := hi4_bits ha hb z3 z4
  have y7 := lo4_bits ha hb he hf
  have y8 := hi4_bits ha hb he hf
  have y9 := bits_add_le (x := lo4 a b c d) (y := lo4 a b e f) (k := 100) (by omega) (by omega)
  have y10 := bits_add_le (x := hi4 a b c d) (y := hi4 a b e f) (k := 100) (by omega) (by omega)
  have hL := lo_le_hi a b c d
  have hL' := lo_le_hi c d e f
  have sm : ∀ {x y : Int}, bits x ≤ 50 → bits y ≤ 50 → Sm p x y := fun hx hy => .inr (.inl ⟨by omega, by omega⟩)
  -- sums
  have a1 : Fn Tb (n + 11) 127 [iv 12 a b, iv 12 c d] = some (iv 12 (a + c) (b + d)) := mpi_add_spec (n + 5) 12 0 a b c d (by omega) (by omega) (by omega) (by omega) (.inl rfl) (.inl rfl)
  have a2 : Fn Tb (n + 11) 127 [iv 12 (a + c) (b + d), iv 12 e f] = some (iv 12 (a + c + e) (b + d + f)) := mpi_add_spec (n + 5) 12 0 (a + c) (b + d) e f (by omega) (by omega) (by omega) (by omega) (.inl rfl) (.inl rfl)
  have a3 : Fn Tb (n + 11) 127 [iv 12 c d, iv 12 e f] = some (iv 12 (c + e) (d + f)) := mpi_add_spec (n + 5) 12 0 c d e f (by omega) (by omega) (by omega) (by omega) (.inl rfl) (.inl rfl)
  have a4 : Fn Tb (n + 11) 127 [iv 12 a b, iv 12 (c + e) (d + f)] = some (iv 12 (a + (c + e)) (b + (d + f))) := mpi_add_spec (n + 5) 12 0 a b (c + e) (d + f) (by omega) (by omega) (by omega) (by omega) (.inl rfl) (.inl rfl)
  have a5 : Fn Tb (n + 11) 127 [iv 12 a b, iv 12 c d, .int p] = some (iv 12 (rr .f p (a + c)) (rr .c p (b + d))) := mpi_add_spec (n + 5) 12 p a b c d (by omega) (by omega) (by omega) (by omega) (sm ha hc) (sm hb hd)
  have a6 : Fn Tb (n + 11) 127 [iv 12 c d, iv 12 a b, .int p] = some (iv 12 (rr .f p (c + a)) (rr .c p (d + b))) := mpi_add_spec (n + 5) 12 p c d a b (by omega) (by omega) (by omega) (by omega) (sm hc ha) (sm hd hb)
  have q1 := ne_iv 12 12 rfl (Int.add_assoc a c e) (Int.add_assoc b d f)
  have q2 := ne_iv 12 12 rfl (show rr .f p (a + c) = rr .f p (c + a) by rw [Int.add_comm]) (show rr .c p (b + d) = rr .c p (d + b) by rw [Int.add_comm])
  -- products
  have m1 : Fn Tb (n + 11) 166 [iv 12 a b, iv 12 c d] = some (iv 24 (lo4 a b c d) (hi4 a b c d)) := mpi_mul_spec (n + 1) 12 12 0 a b c d hab hcd (by omega) (by omega) (by omega) (by omega)
  have m2 : Fn Tb (n + 11) 166 [iv 24 (lo4 a b c d) (hi4 a b c d), iv 12 e f] = some (iv 36 (lo4 (lo4 a b c d) (hi4 a b c d) e f) (hi4 (lo4 a b c d) (hi4 a b c d) e f)) := mpi_mul_spec (n + 1) 24 12 0 _ _ e f hL hef (by omega) (by omega) (by omega) (by omega)
  have m3 : Fn Tb (n + 11) 166 [iv 12 c d, iv 12 e f] = some (iv 24 (lo4 c d e f) (hi4 c d e f)) := mpi_mul_spec (n + 1) 12 12 0 c d e f hcd hef (by omega) (by omega) (by omega) (by omega)
  have m4 : Fn Tb (n + 11) 166 [iv 12 a b, iv 24 (lo4 c d e f) (hi4 c d e f)] = some (iv 36 (lo4 a b (lo4 c d e f) (hi4 c d e f)) (hi4 a b (lo4 c d e f) (hi4 c d e f))) := mpi_mul_spec (n + 1) 12 24 0 a b _ _ hab hL' (by omega) (by omega) (by omega) (by omega)
  have m5 : Fn Tb (n + 11) 166 [iv 12 a b, iv 12 c d, .int p] = some (iv 24 (rr .f p (lo4 a b c d)) (rr .c p (hi4 a b c d))) := mpi_mul_spec (n + 1) 12 12 p a b c d hab hcd (by omega) (by omega) (by omega) (by omega)
  have m6 : Fn Tb (n + 11) 166 [iv 12 c d, iv 12 a b, .int p] = some (iv 24 (rr .f p (lo4 c d a b)) (rr .c p (hi4 c d a b))) := mpi_mul_spec (n + 1) 12 12 p c d a b hcd hab (by omega) (by omega) (by omega) (by omega)
  have m7 : Fn Tb (n + 11) 166 [iv 12 a b, iv 12 e f] = some (iv 24 (lo4 a b e f) (hi4 a b e f)) := mpi_mul_spec (n + 1) 12 12 0 a b e f hab hef (by omega) (by omega) (by omega) (by omega)
  have m8 : Fn Tb (n + 11) 166 [iv 12 a b, iv 12 (c + e) (d + f)] = some (iv 24 (lo4 a b (c + e) (d + f)) (hi4 a b (c + e) (d + f))) := mpi_mul_spec (n + 1) 12 12 0 a b (c + e) (d + f) hab (by omega) (by omega) (by omega) (by omega) (by omega)
  have q3 := ne_iv 36 36 rfl (lo_assoc hab hcd hef) (hi_assoc hab hcd hef)
  have q4 := ne_iv 24 24 rfl (show rr .f p (lo4 a b c d) = rr .f p (lo4 c d a b) by rw [lo4_comm]) (show rr .c p (hi4 a b c d) = rr .c p (hi4 c d a b) by rw [hi4_comm])
  -- differences
  have b1 : Fn Tb (n + 11) 135 [iv 12 a b, iv 12 c d, .int p] = some (iv 12 (rr .f p (a - d)) (rr .c p (b - c))) := mpi_sub_spec (n + 4) 12 p a b c d (by omega) (by omega) (by omega) (by omega) (sm ha hd) (sm hb hc)
  have b2 : Fn Tb (n + 11) 150 [iv 12 c d] = some (iv 12 (-d) (-c)) := mpi_neg_spec (n + 6) 12 c d
  have hnd : bits (-d) ≤ 50 := by rw [bits_neg]; exact hd
  have hnc : bits (-c) ≤ 50 := by rw [bits_neg]; exact hc
  have b3 : Fn Tb (n + 11) 127 [iv 12 a b, iv 12 (-d) (-c), .int p] = some (iv 12 (rr .f p (a + -d)) (rr .c p (b + -c))) := mpi_add_spec (n + 5) 12 p a b (-d) (-c) (by omega) (by omega) (by omega) (by omega) (sm ha hnd) (sm hb hnc)
  have b4 : Fn Tb (n + 11) 135 [iv 12 c d, iv 12 a b, .int p] = some (iv 12 (rr .f p (c - b)) (rr .c p (d - a))) := mpi_sub_spec (n + 4) 12 p c d a b (by omega) (by omega) (by omega) (by omega) (sm hc hb) (sm hd ha)
  have b5 : Fn Tb (n + 11) 150 [iv 12 (rr .f p (c - b)) (rr .c p (d - a))] = some (iv 12 (-rr .c p (d - a)) (-rr .f p (c - b))) := mpi_neg_spec (n + 6) 12 _ _
  have q5 := ne_iv 12 12 rfl (show rr .f p (a - d) = rr .f p (a + -d) by rw [Int.sub_eq_add_neg]) (show rr .c p (b - c) = rr .c p (b + -c) by rw [Int.sub_eq_add_neg])
  have q6 := ne_iv 12 12 rfl (show rr .f p (a - d) = -rr .c p (d - a) by rw [← rr_neg_f, Int.neg_sub]) (show rr .c p (b - c) = -rr .f p (c - b) by rw [← rr_neg_c, Int.neg_sub])
  -- an interval less itself
  obtain ⟨wide, w1, r1⟩ := wide_spec (n + 3) 12 c d (by omega) (by omega) (by omega)
  have w2 : Fn Tb (n + 11) 135 [iv 12 c d, iv 12 c d] = some (iv 12 (c - d) (d - c)) := mpi_sub_spec (n + 4) 12 0 c d c d (by omega) (by omega) (by omega) (by omega) (.inl rfl) (.inl rfl)
  obtain ⟨v, w3, r3⟩ := value_spec (n + 10) 12 1000 (d - c) (by omega) (by omega)
  have w4 := same_spec (by omega) (by omega) r3 (r1.mono (by omega)) (n + 9)
  rw [decide_eq_true rfl] at w4
  have w5 : Fn Tb (n + 11) 150 [iv 12 (c - d) (d - c)] = some (iv 12 (-(d - c)) (-(c - d))) := mpi_neg_spec (n + 6) 12 _ _
  have q7 := ne_iv 12 12 rfl (show c - d = -(d - c) by omega) (show d - c = -(c - d) by omega)
  have s1 : evSub (iv 12 (c - d) (d - c)) (.int 1) = some (fp 12 (d - c)) := rfl
  -- the product with the sum
  have m9 : Fn Tb (n + 11) 127 [iv 24 (lo4 a b c d) (hi4 a b c d), iv 24 (lo4 a b e f) (hi4 a b e f)] = some (iv 24 (lo4 a b c d + lo4 a b e f) (hi4 a b c d + hi4 a b e f)) := mpi_add_spec (n + 5) 24 0 _ _ _ _ (by omega) (by omega) (by omega) (by omega) (.inl rfl) (.inl rfl)
  have t1 := side_spec (n + 9) 12 c d (by omega) (by omega) (by omega)
  have t2 := side_spec (n + 9) 12 e f (by omega) (by omega) (by omega)
  have v1 := within_spec (n + 9) 24 (lo4 a b (c + e) (d + f)) (hi4 a b (c + e) (d + f)) (lo4 a b c d + lo4 a b e f) (hi4 a b c d + hi4 a b e f) (by omega) (by omega) (by omega) (by omega) (by omega) (lo_dist hab hcd hef) (hi_dist hab hcd hef) (lo_le_hi _ _ _ _)
  have v2 := widths_spec n a b c d hab hcd ha hb hc hd
  simp only [Nat.add_assoc, Nat.reduceAdd] at w1 w3 w4 t1 t2 v1 v2
  have o1 := sd_bits c d
  have o2 := sd_bits e f
  generalize Fn Tb (n + 11) = F at *
  refine RunL.seq (RunL.ite (by simp (disch := first | assumption | omega | rfl) only [ev, evs, nth, t4, b_add, b_sub, b_and, b_xor, b_mul, b_shl, b_shr, b_pow, b_div, b_mod, t_int, t_bool, c_lt, c_gt, c_le, c_ge, Option.bind_some, Option.map_some, if_true, Bool.false_eq_true, if_false, a1, a2, a3, a4, a5, a6, q1, q2] <;> exact rfl) (by simp only [t_int, t_bool] <;> exact rfl) (fun h => by cases h) (fun h => RunL.skip ?_))
  refine RunL.seq (RunL.ite (by simp (disch := first | assumption | omega | rfl) only [ev, evs, nth, t4, b_add, b_sub, b_and, b_xor, b_mul, b_shl, b_shr, b_pow, b_div, b_mod, t_int, t_bool, c_lt, c_gt, c_le, c_ge, Option.bind_some, Option.map_some, if_true, Bool.false_eq_true, if_false, m1, m2, m3, m4, m5, m6, q3, q4] <;> exact rfl) (by simp only [t_int, t_bool] <;> exact rfl) (fun h => by cases h) (fun h => RunL.skip ?_))
  refine RunL.seq (RunL.set (by simp (disch := first | assumption | omega | rfl) only [ev, evs, nth, t4, b_add, b_sub, b_and, b_xor, b_mul, b_shl, b_shr, b_pow, b_div, b_mod, t_int, t_bool, c_lt, c_gt, c_le, c_ge, Option.bind_some, Option.map_some, if_true, Bool.false_eq_true, if_false, b1] <;> exact rfl) (by simp only [put] <;> exact rfl) ?_)
  refine RunL.seq (RunL.ite (by simp (disch := first | assumption | omega | rfl) only [ev, evs, nth, t4, b_add, b_sub, b_and, b_xor, b_mul, b_shl, b_shr, b_pow, b_div, b_mod, t_int, t_bool, c_lt, c_gt, c_le, c_ge, Option.bind_some, Option.map_some, if_true, Bool.false_eq_true, if_false, b2, b3, b4, b5, q5, q6] <;> exact rfl) (by simp only [t_int, t_bool] <;> exact rfl) (fun h => by cases h) (fun h => RunL.skip ?_))
  refine RunL.seq (RunL.unpR (by simp (disch := first | assumption | omega | rfl) only [ev, evs, nth, t4, b_add, b_sub, b_and, b_xor, b_mul, b_shl, b_shr, b_pow, b_div, b_mod, t_int, t_bool, c_lt, c_gt, c_le, c_ge, Option.bind_some, Option.map_some, if_true, Bool.false_eq_true, if_false, w1, w2] <;> exact rfl) (by simp only [puts, put, List.reverse_cons, List.reverse_nil, List.nil_append, List.cons_append] <;> exact rfl) ?_)
  refine RunL.seq (RunL.ite (by simp (disch := first | assumption | omega | rfl) only [ev, evs, nth, t4, b_add, b_sub, b_and, b_xor, b_mul, b_shl, b_shr, b_pow, b_div, b_mod, t_int, t_bool, c_lt, c_gt, c_le, c_ge, Option.bind_some, Option.map_some, if_true, Bool.false_eq_true, if_false, s1, w3, w4, w5, q7, Bool.not_true] <;> exact rfl) (by simp only [t_int, t_bool] <;> exact rfl) (fun h => by cases h) (fun h => RunL.skip ?_))
  refine RunL.seq (RunL.unpR (by simp (disch := first | assumption | omega | rfl) only [ev, evs, nth, t4, b_add, b_sub, b_and, b_xor, b_mul, b_shl, b_shr, b_pow, b_div, b_mod, t_int, t_bool, c_lt, c_gt, c_le, c_ge, Option.bind_some, Option.map_some, if_true, Bool.false_eq_true, if_false, a3, m8, m1, m7, m9] <;> exact rfl) (by simp only [puts, put, List.reverse_cons, List.reverse_nil, List.nil_append, List.cons_append] <;> exact rfl) ?_)
  refine RunL.seq (RunL.unpR (by simp (disch := first | assumption | omega | rfl) only [ev, evs, nth, t4, b_add, b_sub, b_and, b_xor, b_mul, b_shl, b_shr, b_pow, b_div, b_mod, t_int, t_bool, c_lt, c_gt, c_le, c_ge, Option.bind_some, Option.map_some, if_true, Bool.false_eq_true, if_false, t1, t2] <;> exact rfl) (by simp only [puts, put, List.reverse_cons, List.reverse_nil, List.nil_append, List.cons_append] <;> exact rfl) ?_)
  refine RunL.seq (RunL.ite (cond_spec (by omega) (fun hc => ?_)) (by simp only [t_int, t_bool] <;> exact rfl) (fun h => by cases h) (fun h => RunL.skip ?_))
  · have hc' : a = b ∨ (0 ≤ c ∧ 0 ≤ e) ∨ (d ≤ 0 ∧ f ≤ 0) := hc.imp id (sd_side hcd hef)
    obtain ⟨g1, g2⟩ := dist_eq hab hcd hef hc'
    exact ne_iv 24 24 rfl g1 g2
  · exact RunL.seq (RunL.ret (by simp (disch := first | assumption | omega | rfl) only [ev, evs, nth, t4, b_add, b_sub, b_and, b_xor, b_mul, b_shl, b_shr, b_pow, b_div, b_mod, t_int, t_bool, c_lt, c_gt, c_le, c_ge, Option.bind_some, Option.map_some, if_true, Bool.false_eq_true, if_false, v1, v2] <;> exact rfl) rfl)
theorem bits50 {x : Int} (h1 : -33554432 ≤ x) (h2 : x ≤ 33554432) {k : Nat} (hk : k ≤ 24) : bits (x * 2 ^ k) ≤ 50 := by
  have q1 : bits x ≤ 26 := bits_le.mpr (by omega)
  by_cases h : x = 0
  · subst h; rw [Int.zero_mul, bits_zero]; omega
  · rw [bits_shift h]; omega
theorem law_all (n p : Nat) (kd : Int) (g1 g2 g3 : Dat) (h1 : GR g1) (h2 : GR g2) (h3 : GR g3) (x0 x1 : Option Dat) :
    RunL (Fn Tb (n + 11)) [cLaw] [x0, x1, some (.int p), some (.int kd), some (.list [g1, g2, g3]), none, none, none, none, none, none, none, none, none, none] (fun r => r = .bool true) := by
  obtain ⟨l1, u1, e1, rfl, a1, a2, a3, a4, a5, a6⟩ := h1
  obtain ⟨l2, u2, e2, rfl, b1, b2, b3, b4, b5, b6⟩ := h2
  obtain ⟨l3, u3, e3, rfl, c1, c2, c3, c4, c5, c6⟩ := h3
  have sp : ∀ {l u e : Int}, -16777216 ≤ l → l ≤ 16777216 → l ≤ u → u - l < 16777216 → -12 ≤ e → e ≤ 12 → Fn Tb (n + 11) 236 [.tuple [.int l, .int u, .int e]] = some (iv 12 (l * 2 ^ (e + 12).toNat) (u * 2 ^ (e + 12).toNat)) := fun h1 h2 h3 h4 h5 h6 =>
    span_spec (n + 9) _ _ _ _ (by omega) (Nat.le_trans (bits_le.mpr (show _ < 2 ^ 26 by omega)) (by decide)) (Nat.le_trans (bits_le.mpr (show _ < 2 ^ 26 by omega)) (by decide))
  have s1 := sp a1 a2 a3 a4 a5 a6
  have s2 := sp b1 b2 b3 b4 b5 b6
  have s3 := sp c1 c2 c3 c4 c5 c6
  have le : ∀ {l u : Int} (k : Nat), l ≤ u → l * 2 ^ k ≤ u * 2 ^ k := fun k h => mr h (Int.le_of_lt (Int.pow_pos (by decide)))
  have B1 := bits50 (x := l1) (by omega) (by omega) (k := (e1 + 12).toNat) (by omega)
  have B2 := bits50 (x := u1) (by omega) (by omega) (k := (e1 + 12).toNat) (by omega)
  have B3 := bits50 (x := l2) (by omega) (by omega) (k := (e2 + 12).toNat) (by omega)
  have B4 := bits50 (x := u2) (by omega) (by omega) (k := (e2 + 12).toNat) (by omega)
  have B5 := bits50 (x := l3) (by omega) (by omega) (k := (e3 + 12).toNat) (by omega)
  have B6 := bits50 (x := u3) (by omega) (by omega) (k := (e3 + 12).toNat) (by omega)
  have i1 := le (e1 + 12).toNat a3
  have i2 := le (e2 + 12).toNat b3
  have i3 := le (e3 + 12).toNat c3
  have rest := fun (A B C D E F' : Int) => law_rest n A B C D E F' p
  have hs0 : ∀ a b, evSub (iv 12 a b) (.int 0) = some (fp 12 a) := fun a b => rfl
  generalize Fn Tb (n + 11) = F at *
  generalize l1 * 2 ^ (e1 + 12).toNat = A at *; generalize u1 * 2 ^ (e1 + 12).toNat = B at *
  generalize l2 * 2 ^ (e2 + 12).toNat = C at *; generalize u2 * 2 ^ (e2 + 12).toNat = D at *
  generalize l3 * 2 ^ (e3 + 12).toNat = E at *; generalize u3 * 2 ^ (e3 + 12).toNat = G at *
  refine RunL.seq (RunL.unpC (es := [iv 12 A B, iv 12 C D, iv 12 E G]) (.inr (by simp (disch := first | assumption | omega | rfl) only [ev, evs, nth, t4, b_add, b_sub, b_and, b_xor, b_mul, b_shl, b_shr, b_pow, b_div, b_mod, t_int, t_bool, c_lt, c_gt, c_le, c_ge, Option.bind_some, Option.map_some, if_true, Bool.false_eq_true, if_false] <;> exact rfl)) (by simp) ?_ (by simp only [puts, put, List.reverse_cons, List.reverse_nil, List.nil_append, List.cons_append] <;> exact rfl) ?_)
  · simp only [elMap, ev, evs, nth, Option.bind_some, s1, s2, s3]
  refine RunL.seq (RunL.ite (by simp (disch := first | assumption | omega | rfl) only [ev, evs, nth, t4, b_add, b_sub, b_and, b_xor, b_mul, b_shl, b_shr, b_pow, b_div, b_mod, t_int, t_bool, c_lt, c_gt, c_le, c_ge, Option.bind_some, Option.map_some, if_true, Bool.false_eq_true, if_false, e_int] <;> exact rfl) (by simp only [t_int, t_bool] <;> exact rfl) (fun h => ?_) (fun h => RunL.skip ?_))
  · refine RunL.seq (RunL.set (d := iv 12 A A) (by simp only [ev, evs, nth, Option.bind_some, Option.map_some, hs0] <;> exact rfl) (by simp only [put] <;> exact rfl) (RunL.skip ?_))
    exact rest A A C D E G (Int.le_refl _) i2 i3 B1 B1 B3 B4 B5 B6 _ _ _ _
  · exact rest A B C D E G i1 i2 i3 B1 B2 B3 B4 B5 B6 _ _ _ _
theorem runL_ret {F : Nat → List Dat → Option Dat} {C : CS} {ρ : List (Option Dat)} (h : RunL F [C] ρ (fun r => r = .bool true)) : ex F C ρ = some (.ret (.bool true)) := by
  obtain ⟨o, h1, h2⟩ := h
  cases o with
  | nxt ρ' => cases h2
  | ret d => cases h2; exact h1
end Mine

end

/-! # part AT1 -/
section
open PySem PySem.W PyProof.Rows PySem.Calls PySem.Spec
set_option maxRecDepth 100000
set_option linter.unusedVariables false
namespace Mine
open Classical
/-! ## The law's first three statements, and the whole walk -/
def nsL : List Str := [Str.ofString "script", Str.ofString "first", Str.ofString "prec", Str.ofString "kind", Str.ofString "grids", Str.ofString "s", Str.ofString "t", Str.ofString "u", Str.ofString "less", Str.ofString "wide", Str.ofString "none", Str.ofString "left", Str.ofString "right", Str.ofString "one", Str.ofString "other"]
def nmB : List (Str × NameKind) := [(Str.ofString ".0", .local), (Str.ofString "k", .local), (Str.ofString "_law_up", .globalImplicit), (Str.ofString "_law_mixed", .globalImplicit), (Str.ofString "_law_grid", .globalImplicit), (Str.ofString "kind", .cell), (Str.ofString "script", .cell)]
def cElt : CE := .ite (.and (.cmp .Eq (.loc 1) (.lit (Dat.int 1))) (.cmp .Gt (.loc 0) (.lit (Dat.int 1)))) (.call 229 (.cons (.call 173 (.cons (.loc 2) (.cons (.loc 0) .nil))) .nil)) (.call 222 (.cons (.call 173 (.cons (.loc 2) (.cons (.loc 0) .nil))) .nil))
theorem elt_ev {F : Nat → List Dat → Option Dat} {L d1 d2 : Dat} {r kd k : Int} (h1 : F 173 [L, .int k] = some (.int r)) (h2 : F 229 [.int r] = some d1) (h3 : F 222 [.int r] = some d2) : ev F [some (.int k), some (.int kd), some L] cElt = some (if kd = 1 ∧ 1 < k then d1 else d2) := by
  have g1 := @e_int kd 1
  have g2 := @c_gt k 1
  by_cases z1 : kd = 1
  · rw [decide_eq_true z1] at g1
    by_cases z2 : 1 < k
    · rw [decide_eq_true z2] at g2
      rw [if_pos ⟨z1, z2⟩]
      simp only [cElt, ev, evs, nth, Option.bind_some, g1, g2, truD, if_true, h1, h2]
    · rw [decide_eq_false z2] at g2
      rw [if_neg fun q => z2 q.2]
      simp only [cElt, ev, evs, nth, Option.bind_some, g1, g2, truD, if_true, Bool.false_eq_true, if_false, h1, h3]
  · rw [decide_eq_false z1] at g1
    rw [if_neg fun q => z1 q.1]
    simp only [cElt, ev, evs, nth, Option.bind_some, g1, truD, Bool.false_eq_true, if_false, h1, h3]
theorem elt_spec (n : Nat) (ns : List Int) (kd : Int) (k : Nat) (hk : k ≤ 3) (hl : ns.length ≤ 1000) (hb : ∀ x ∈ ns, bits x ≤ 1048576) : ∃ d, ev (Fn Tb (n + 3)) [some (.int k), some (.int kd), some (.list (ns.map .int))] cElt = some d ∧ GR d := by
  obtain ⟨r, h1⟩ := mixed_spec (n + 2) ns k hk hl hb
  obtain ⟨d1, h2, g2⟩ := up_spec (n + 1) r
  obtain ⟨d2, h3, g3⟩ := grid_spec (n + 2) r
  refine ⟨_, elt_ev h1 h2 h3, ?_⟩
  split
  · exact g2
  · exact g3

structure LawC (c : Ct) (sa ka : Addr) : Prop where
  fn : c.cs.kind = .function
  n0 : c.nm.lookup (Str.ofString "script") = some .cell
  n1 : c.nm.lookup (Str.ofString "first") = some .local
  n2 : c.nm.lookup (Str.ofString "prec") = some .local
  n3 : c.nm.lookup (Str.ofString "kind") = some .cell
  n4 : c.nm.lookup (Str.ofString "grids") = some .local
  nr : c.nm.lookup (Str.ofString "range") = some .globalImplicit
  c0 : c.cl.lookup (Str.ofString "script") = some sa
  c3 : c.cl.lookup (Str.ofString "kind") = some ka
  ne : sa ≠ ka

section
variable {X : Wd} {c : Ct} {k : Nat} {F : Nat → List Dat → Option Dat} {sa ka : Addr} {m : Str → Option Value} {news : Led} {ds : List Dat}
abbrev CellAt (B : Heap) (news : Led) (a : Addr) (d : Dat) : Prop := ∃ o v, (a, o) ∈ news ∧ o.data = .cell (some v) ∧ In B news v d
theorem loc_law (H : LawC c sa ka) {f i j : Int} {t t' : Tok} (h0 : CellAt c.B news sa (.list ds)) (h1 : m (Str.ofString "first") = some (.int f t)) (h2 : m (Str.ofString "prec") = some (.int i t')) (h3 : CellAt c.B news ka (.int j)) :
    Loc c m news nsL [some (.list ds), some (.int f), some (.int i), some (.int j), none, none, none, none, none, none, none, none, none, none, none] := by
  intro x n d hx hd
  have hx' := ix_get hx
  match n, hx', hd with
  | 0, hx', hd =>
    have e : Str.ofString "script" = x := by simpa [nsL] using hx'
    subst e
    simp only [nth, Option.some.injEq] at hd
    subst hd
    obtain ⟨o, v, q1, q2, q3⟩ := h0
    exact ⟨fun h => (by rw [H.n0] at h; cases h), fun _ => ⟨sa, o, v, H.c0, q1, q2, q3⟩⟩
  | 1, hx', hd =>
    have e : Str.ofString "first" = x := by simpa [nsL] using hx'
    subst e
    simp only [nth, Option.some.injEq] at hd
    subst hd
    exact ⟨fun _ => ⟨_, h1, .int _ _⟩, fun h => (by rw [H.n1] at h; cases h)⟩
  | 2, hx', hd =>
    have e : Str.ofString "prec" = x := by simpa [nsL] using hx'
    subst e
    simp only [nth, Option.some.injEq] at hd
    subst hd
    exact ⟨fun _ => ⟨_, h2, .int _ _⟩, fun h => (by rw [H.n2] at h; cases h)⟩
  | 3, hx', hd =>
    have e : Str.ofString "kind" = x := by simpa [nsL] using hx'
    subst e
    simp only [nth, Option.some.injEq] at hd
    subst hd
    obtain ⟨o, v, q1, q2, q3⟩ := h3
    exact ⟨fun h => (by rw [H.n3] at h; cases h), fun _ => ⟨ka, o, v, H.c3, q1, q2, q3⟩⟩
  | 4, _, hd | 5, _, hd | 6, _, hd | 7, _, hd | 8, _, hd | 9, _, hd | 10, _, hd | 11, _, hd | 12, _, hd | 13, _, hd | 14, _, hd => simp [nth] at hd
  | n + 15, _, hd => simp [nth] at hd
theorem loc_start (H : LawC c sa ka) (h0 : CellAt c.B news sa (.list ds)) :
    Loc c m news nsL [some (.list ds), none, none, none, none, none, none, none, none, none, none, none, none, none, none] := by
  intro x n d hx hd
  have hx' := ix_get hx
  match n, hx', hd with
  | 0, hx', hd =>
    have e : Str.ofString "script" = x := by simpa [nsL] using hx'
    subst e
    simp only [nth, Option.some.injEq] at hd
    subst hd
    obtain ⟨o, v, q1, q2, q3⟩ := h0
    exact ⟨fun h => (by rw [H.n0] at h; cases h), fun _ => ⟨sa, o, v, H.c0, q1, q2, q3⟩⟩
  | 1, _, hd | 2, _, hd | 3, _, hd | 4, _, hd | 5, _, hd | 6, _, hd | 7, _, hd | 8, _, hd | 9, _, hd | 10, _, hd | 11, _, hd | 12, _, hd | 13, _, hd | 14, _, hd => simp [nth] at hd
  | n + 15, _, hd => simp [nth] at hd

/-- the second statement: one local, one cell -/
theorem st2 (H : LawC c sa ka) {kk k2 : Nat} {p1 p2 p3 p4 pos : Pos} {e1 e2 : Expr} {ρ : List (Option Dat)} {i j : Int} (h : ET X c c.en c.nm nsL ρ (.Tuple [e1, e2] k2 p4) (.tuple [.int i, .int j])) {oK oS : Obj} {tl : Led} {v₀ : Option Value} {s : Shared} {Q : Flow → Shared → Prop} {E : Value → Shared → Prop}
    (hw : swappedStores [.Tuple [.Name (Str.ofString "prec") p1, .Name (Str.ofString "kind") p2] kk p3] (.Tuple [e1, e2] k2 p4) c.en = pure none)
    (S : SX X c [] m ((ka, oK) :: (sa, oS) :: tl) s.heap) (l : Loc c m ((ka, oK) :: (sa, oS) :: tl) nsL ρ) (hK : oK.data = .cell v₀) (htl : ∀ p ∈ tl, ka < p.1)
    (P : ∀ (t t' : Tok) oK' tl' h' tk', oK'.data = .cell (some (.int j t')) → Fr c.h₀ c.L h' (fun y => if y = Str.ofString "prec" then some (.int i t) else m y) → News c.h₀ c.L h' ((ka, oK') :: (sa, oS) :: tl') → Q .next { s with heap := h', toks := tk' }) :
    wpAny (model X.prog X.w) c.A (exec (.Assign [.Tuple [.Name (Str.ofString "prec") p1, .Name (Str.ofString "kind") p2] kk p3] (.Tuple [e1, e2] k2 p4) pos) c.en) Q E s := by
  refine PyProof.Rows.Assign_Tuple (h [] m _ s _ _ S (nm_of S l) fun v n1 g1 tk1 x1 F1 N1 I1 => ?_) (swaps_none (e := .Tuple [e1, e2] k2 p4) rfl (some (.Tuple [.Name (Str.ofString "prec") p1, .Name (Str.ofString "kind") p2] kk p3)) pos.line c.en) hw
  obtain ⟨tl1, rfl, ord⟩ := x1
  obtain ⟨a, vs, o, kk', rfl, hk, hcl, hd, hi⟩ := tup_len I1
  have S1 := S.go F1 N1
  cases hi with
  | cons I1' Ir =>
    cases Ir with
    | cons I2' Ir' =>
      cases Ir'
      cases I1' with
      | int _ t =>
        cases I2' with
        | int _ t' =>
          refine unpackN_ F1 N1 ⟨_, hk.get (news_r N1) S1.stB, hcl, _, hd⟩ rfl rfl rfl fun h' F' N' => ?_
          refine assignInOrder_cons (assign_Name (storeX_L F' N' (fun h2 F2 N2 => ?_) H.fn H.n2))
          have hU : UpdF ka oK ((ka, oK) :: (sa, oS) :: (tl ++ tl1)) (fun o' => (ka, o') :: (sa, oS) :: (tl ++ tl1)) := .head fun p hp => by
            rcases List.mem_cons.mp hp with rfl | hp
            · exact H.ne
            · rcases List.mem_append.mp hp with hp | hp
              · exact Nat.ne_of_gt (htl p hp)
              · exact Nat.ne_of_gt (ord (ka, oK) (.head _) p hp)
          refine assignInOrder_cons (assign_Name (storeX_C F2 N2 H.c3 hU hK (fun h3 o' F3 N3 d3 => ?_) H.fn H.n3))
          refine assignInOrder_nil ?_
          exact P t t' o' (tl ++ tl1) h3 _ d3 F3 N3

/-- the third statement: the grids -/
theorem st3 (H : LawC c sa ka) (hF : ∀ f args r, F f args = some r → FOk X k f args r) (hG : GOk X.w X.K GT) (hr : nsIn X.K mainGlobals (Str.ofString "range") = some none) (hroom : Room c k)
    {elt : Expr} {px py fp cp lp pos q1 q2 : Pos} {scope : Scope} {cl : List (Str × Addr)} {ρ : List (Option Dat)} {j : Int} {es : List Dat} {u1 u2 : Nat}
    (hsw : swapsWith (.ListComp elt [⟨.Name (Str.ofString "k") px, .Call (.Name (Str.ofString "range") fp) [.Constant (.int 1) u1 q1, .Constant (.int 4) u2 q2] [] cp, [], 0⟩] scope lp) (some (.Name (Str.ofString "grids") py)) pos.line c.en = pure true)
    (ok : CompOk c scope cl (Str.ofString "k")) (hnm : (relabel scope c.en).names = nmB) (hcl0 : cl.lookup (Str.ofString "script") = some sa) (hcl3 : cl.lookup (Str.ofString "kind") = some ka)
    (hc : compE nmB [Str.ofString "k", Str.ofString "kind", Str.ofString "script"] GT 30 elt = cElt)
    (he : elMap (fun d => ev F [some d, some (.int j), some (.list ds)] cElt) [.int 1, .int 2, .int 3] = some es)
    {s : Shared} {Q : Flow → Shared → Prop} {E : Value → Shared → Prop} (S : SX X c [] m news s.heap) (l : Loc c m news nsL ρ) (h0 : CellAt c.B news sa (.list ds)) (h3 : CellAt c.B news ka (.int j))
    (P : ∀ m' news' h' tk', Fr c.h₀ c.L h' m' → News c.h₀ c.L h' news' → Loc c m' news' nsL (put ρ 4 (.list es)) → Q .next { s with heap := h', toks := tk' }) :
    wpAny (model X.prog X.w) c.A (exec (.Assign [.Name (Str.ofString "grids") py] (.ListComp elt [⟨.Name (Str.ofString "k") px, .Call (.Name (Str.ofString "range") fp) [.Constant (.int 1) u1 q1, .Constant (.int 4) u2 q2] [] cp, [], 0⟩] scope lp) pos) c.en) Q E s := by
  refine LCg.Assign_ListComp_U S.frm rfl hsw ok.clos ok.cell ok.kind ok.names ok.hx H.n4 (by show (c.cs.kind == .class || (c.cs.kind == .module && _)) = false; rw [H.fn]; rfl) ?_ (fun _ => rfl)
  refine Call_ ((nm_of S l).blt _ (.type "range") H.nr hr (by boot_by_name) (by decide) (by decide) s _ _ fp S.frm ?_)
  refine PyProof.Rows.callWith_type1 ?_ rfl rfl
  have hets : ETs X c c.en c.nm nsL ρ cp [.Constant (.int 1) u1 q1, .Constant (.int 4) u2 q2] [.int 1, .int 4] :=
    ets_cons rfl ((sound_E (F := F) (G := GT) hF hG hroom 1).1 (.Constant (.int 1) u1 q1) (.int 1) rfl) (ets_cons rfl ((sound_E (F := F) (G := GT) hF hG hroom 1).1 (.Constant (.int 4) u2 q2) (.int 4) rfl) ets_nil)
  refine hets [] m news s _ E S (nm_of S l) fun vs n1 g1 tk1 x1 F1 N1 I1 => ?_
  cases I1 with
  | cons Ia Ir =>
    cases Ir with
    | cons Ib Ir' =>
      cases Ir'
      cases Ia
      cases Ib
      refine range2_rows (s := { s with heap := g1, toks := tk1 }) F1 N1 fun h2 tk2 t1 u1 v1 hr2 F2 N2 _ => ?_
      have S2 : SX X c [] m n1 h2 := S.go F2 N2
      refine LCg.CompSrc.range rfl F2 N2 hr2 (by decide) (n := 3) (by decide) (by decide) fun g => ?_
      have h0' : CellAt c.B n1 sa (.list ds) := let ⟨o, v, a, b, d⟩ := h0; ⟨o, v, x1.sub _ a, b, d.mono x1.sub⟩
      have h3' : CellAt c.B n1 ka (.int j) := let ⟨o, v, a, b, d⟩ := h3; ⟨o, v, x1.sub _ a, b, d.mono x1.sub⟩
      refine crest (el := fun d => ev F [some d, some (.int j), some (.list ds)] cElt) (ys := [Str.ofString "kind", Str.ofString "script"]) (ρr := [some (.int j), some (.list ds)]) (nm' := nmB) (news := n1) (fr := []) S2
        (fun d e hde C => (sound_E hF hG hroom 30).1 _ _ (by rw [hc]; exact hde)) ok.kind hnm rfl (fun _ _ _ => trivial) [.int 1, .int 2, .int 3] 0 [] es [] n1 he .nil (fun i v hi hv => ?_) trivial (fun y i e hy hi hne => ?_) fun vs' news' x2 I2 _ => ?_
      · obtain ⟨t, rfl⟩ := hv
        match i, hi with
        | 0, _ => exact ⟨.int 1, rfl, .int _ _⟩
        | 1, _ => exact ⟨.int 2, rfl, .int _ _⟩
        | 2, _ => exact ⟨.int 3, rfl, .int _ _⟩
        | i + 3, hi => exact absurd hi (by simp)
      · have hy' := ix_get hy
        match i, hy', hi with
        | 0, hy', hi =>
          have q : Str.ofString "kind" = y := by simpa using hy'
          subst q
          simp only [nth, Option.some.injEq] at hi
          subst hi
          obtain ⟨o, v, a, b, d⟩ := h3'
          exact ⟨rfl, ka, o, v, hcl3, a, b, d⟩
        | 1, hy', hi =>
          have q : Str.ofString "script" = y := by simpa using hy'
          subst q
          simp only [nth, Option.some.injEq] at hi
          subst hi
          obtain ⟨o, v, a, b, d⟩ := h0'
          exact ⟨rfl, sa, o, v, hcl0, a, b, d⟩
        | i + 2, hy', hi => simp [nth] at hi
      · intro D h4 tk4 F4 N4 o4
        have x3 : Ext [] news news' := x1.trans x2
        refine P _ ((D, LCg.lst vs') :: news') h4 tk4 F4 N4 ?_
        refine Loc.put (l.mono fun p hp => List.mem_cons_of_mem _ (x3.sub p hp)) rfl H.n4 ?_
        exact .list (.inl (.head _)) rfl rfl (I2.mono fun p hp => List.mem_cons_of_mem _ hp)
end
end Mine

end

/-! # part AT2 -/
section
open PySem PySem.W PyProof.Rows PySem.Calls PySem.Spec
set_option maxRecDepth 100000
set_option linter.unusedVariables false
namespace Mine
open Classical
def cTup : CE := .tup (.cons (.bin .Add (.lit (Dat.int 1)) (.bin .Mod (.loc 1) (.lit (Dat.int 60)))) (.cons (.bin .Mod (.bin .FloorDiv (.loc 1) (.lit (Dat.int 60))) (.lit (Dat.int 3))) .nil))
theorem tup_ev {F : Nat → List Dat → Option Dat} {x0 : Option Dat} {r : Int} {st : List (Option Dat)} : ev F (x0 :: some (.int r) :: st) cTup = some (.tuple [.int (1 + r.fmod 60), .int ((r.fdiv 60).fmod 3)]) := by
  have m1 : ∀ x, evBin .Mod (.int x) (.int 60) = some (.int (x.fmod 60)) := fun x => b_mod (by decide)
  have m2 : ∀ x, evBin .Mod (.int x) (.int 3) = some (.int (x.fmod 3)) := fun x => b_mod (by decide)
  have d1 : evBin .FloorDiv (.int r) (.int 60) = some (.int (r.fdiv 60)) := d_lit r
  simp only [cTup, ev, evs, nth, Option.bind_some, Option.map_some, b_add, m1, m2, d1]
theorem s1_ex {F : Nat → List Dat → Option Dat} {L : Dat} {r : Int} {st : List (Option Dat)} (h : F 173 [L, .int 0] = some (.int r)) : ex F (.set 1 (.call 173 (.cons (.loc 0) (.cons (.lit (Dat.int 0)) .nil)))) (some L :: none :: st) = some (.nxt (some L :: some (.int r) :: st)) := by
  simp only [ex, ev, evs, nth, Option.bind_some, h, put]
theorem el3 {f : Dat → Option Dat} {a b c x y z : Dat} (h1 : f a = some x) (h2 : f b = some y) (h3 : f c = some z) : elMap f [a, b, c] = some [x, y, z] := by
  simp only [elMap, h1, h2, h3, Option.bind_some]
theorem mixed0 (n : Nat) {ns : List Int} (hl : ns.length ≤ 1000) (hb : ∀ x ∈ ns, bits x ≤ 1048576) : ∃ r : Int, Fn Tb (n + 1) 173 [.list (ns.map .int), .int 0] = some (.int r) := mixed_spec n ns 0 (by omega) hl hb
theorem elt1 (n : Nat) {ns : List Int} (kd : Int) (hl : ns.length ≤ 1000) (hb : ∀ x ∈ ns, bits x ≤ 1048576) : ∃ d, ev (Fn Tb (n + 3)) [some (.int 1), some (.int kd), some (.list (ns.map .int))] cElt = some d ∧ GR d := elt_spec n ns kd 1 (by omega) hl hb
theorem elt2 (n : Nat) {ns : List Int} (kd : Int) (hl : ns.length ≤ 1000) (hb : ∀ x ∈ ns, bits x ≤ 1048576) : ∃ d, ev (Fn Tb (n + 3)) [some (.int 2), some (.int kd), some (.list (ns.map .int))] cElt = some d ∧ GR d := elt_spec n ns kd 2 (by omega) hl hb
theorem elt3 (n : Nat) {ns : List Int} (kd : Int) (hl : ns.length ≤ 1000) (hb : ∀ x ∈ ns, bits x ≤ 1048576) : ∃ d, ev (Fn Tb (n + 3)) [some (.int 3), some (.int kd), some (.list (ns.map .int))] cElt = some d ∧ GR d := elt_spec n ns kd 3 (by omega) hl hb
/-- what the interpreter is given for the law -/
theorem law_pure {ns : List Int} (hl : ns.length ≤ 1000) (hb : ∀ x ∈ ns, bits x ≤ 1048576) : ∃ (r : Int) (g1 g2 g3 : Dat) (p : Nat), Fn Tb 11 173 [.list (ns.map .int), .int 0] = some (.int r) ∧ 1 + r.fmod 60 = (p : Int) ∧
    elMap (fun d => ev (Fn Tb 11) [some d, some (.int ((r.fdiv 60).fmod 3)), some (.list (ns.map .int))] cElt) [.int 1, .int 2, .int 3] = some [g1, g2, g3] ∧
    ex (Fn Tb 11) cLaw [some (.list (ns.map .int)), some (.int r), some (.int p), some (.int ((r.fdiv 60).fmod 3)), some (.list [g1, g2, g3]), none, none, none, none, none, none, none, none, none, none] = some (.ret (.bool true)) := by
  obtain ⟨r, hr1⟩ := mixed0 10 hl hb
  obtain ⟨g1, ge1, G1⟩ := elt1 8 ((r.fdiv 60).fmod 3) hl hb
  obtain ⟨g2, ge2, G2⟩ := elt2 8 ((r.fdiv 60).fmod 3) hl hb
  obtain ⟨g3, ge3, G3⟩ := elt3 8 ((r.fdiv 60).fmod 3) hl hb
  have hk := fm (x := r) (y := 60) (by decide)
  obtain ⟨p, hp⟩ : ∃ p : Nat, 1 + r.fmod 60 = (p : Int) := ⟨(1 + r.fmod 60).toNat, by omega⟩
  exact ⟨r, g1, g2, g3, p, hr1, hp, el3 ge1 ge2 ge3, runL_ret (law_all 0 p _ g1 g2 g3 G1 G2 G3 _ _)⟩
section
variable {X : Wd} {c : Ct} {sa ka : Addr} {m : Str → Option Value}
theorem law_walk (H : LawC c sa ka) (hG : GOk X.w X.K GT) (hT : ∀ f fd, Tb f = some fd → DefOk X.K GT f fd) (hr : nsIn X.K mainGlobals (Str.ofString "range") = some none) (hroom : Room c 11)
    {ns : List Int} (hl : ns.length ≤ 1000) (hb : ∀ x ∈ ns, bits x ≤ 1048576) {s1 : Stmt} {e1 e2 elt : Expr} {rest : List Stmt} {kk k2 u1 u2 : Nat} {p1 p2 p3 p4 p5 px py fp cp lp p6 q1 q2 : Pos} {scope : Scope} {cl : List (Str × Addr)}
    (h1 : compS c.nm nsL GT 30 s1 = .set 1 (.call 173 (.cons (.loc 0) (.cons (.lit (Dat.int 0)) .nil))))
    (h2 : compE c.nm nsL GT 30 (.Tuple [e1, e2] k2 p4) = cTup)
    (hw : swappedStores [.Tuple [.Name (Str.ofString "prec") p1, .Name (Str.ofString "kind") p2] kk p3] (.Tuple [e1, e2] k2 p4) c.en = pure none)
    (hsw : swapsWith (.ListComp elt [⟨.Name (Str.ofString "k") px, .Call (.Name (Str.ofString "range") fp) [.Constant (.int 1) u1 q1, .Constant (.int 4) u2 q2] [] cp, [], 0⟩] scope lp) (some (.Name (Str.ofString "grids") py)) p6.line c.en = pure true)
    (ok : CompOk c scope cl (Str.ofString "k")) (hnm : (relabel scope c.en).names = nmB) (hcl0 : cl.lookup (Str.ofString "script") = some sa) (hcl3 : cl.lookup (Str.ofString "kind") = some ka)
    (hc : compE nmB [Str.ofString "k", Str.ofString "kind", Str.ofString "script"] GT 30 elt = cElt)
    (hrest : seqC (compS c.nm nsL GT 30) rest = cLaw)
    {oK oS : Obj} {v : Value} {s : Shared} {Q : Flow → Shared → Prop} {E : Value → Shared → Prop} (S : SX X c [] m [(ka, oK), (sa, oS)] s.heap) (hK : oK.data = .cell none) (hS : oS.data = .cell (some v)) (hv : In c.B [] v (.list (ns.map .int)))
    (P : ∀ m' news' h' tk', Fr c.h₀ c.L h' m' → News c.h₀ c.L h' news' → Q (.ret (.bool true)) { s with heap := h', toks := tk' }) :
    wpAny (model X.prog X.w) c.A (execs (s1 :: .Assign [.Tuple [.Name (Str.ofString "prec") p1, .Name (Str.ofString "kind") p2] kk p3] (.Tuple [e1, e2] k2 p4) p5 ::
      .Assign [.Name (Str.ofString "grids") py] (.ListComp elt [⟨.Name (Str.ofString "k") px, .Call (.Name (Str.ofString "range") fp) [.Constant (.int 1) u1 q1, .Constant (.int 4) u2 q2] [] cp, [], 0⟩] scope lp) p6 :: rest) c.en) Q E s := by
  have hF := sound_def hG hT 11
  obtain ⟨r, g1, g2, g3, p, hr1, hp, hel, hlaw⟩ := law_pure hl hb
  have hsv : ∀ {news : Led}, (sa, oS) ∈ news → CellAt c.B news sa (.list (ns.map .int)) := fun hm => ⟨oS, v, hm, hS, hv.mono fun p hp => by cases hp⟩
  generalize hFn : Fn Tb 11 = F at hF hr1 hel hlaw
  have hex1 : ex F (compS c.nm nsL GT 30 s1) [some (.list (ns.map .int)), none, none, none, none, none, none, none, none, none, none, none, none, none, none] = some (.nxt [some (.list (ns.map .int)), some (.int r), none, none, none, none, none, none, none, none, none, none, none, none, none]) := by
    rw [h1]; exact s1_ex hr1
  refine wpAny_execs_cons (sound_S hF hG hroom H.fn 30 s1 _ _ hex1 [] m _ s _ _ S (loc_start H (hsv (.tail _ (.head _)))) fun f m1 n1 g1' tk1 x1 F1 N1 O1 => ?_)
  obtain ⟨rfl, l1⟩ := O1
  obtain ⟨tl1, rfl, ord⟩ := x1
  have N1' : News c.h₀ c.L g1' ((ka, oK) :: (sa, oS) :: tl1) := N1
  have S1 : SX X c [] m1 ((ka, oK) :: (sa, oS) :: tl1) g1' := S.go F1 N1'
  obtain ⟨vf, hvf, Ivf⟩ := (l1 (Str.ofString "first") 1 (.int r) rfl rfl).1 H.n1
  cases Ivf with
  | int _ tf =>
    refine wpAny_execs_cons (st2 (s := { s with heap := g1', toks := tk1 }) H (i := 1 + r.fmod 60) (j := (r.fdiv 60).fmod 3) ((sound_E hF hG hroom 30).1 _ _ (by rw [h2]; exact tup_ev)) hw S1 l1 hK (fun p hp => ord (ka, oK) (.head _) p hp) fun t t' oK' tl' h' tk' hK' F2 N2 => ?_)
    have l2 := loc_law (c := c) (news := (ka, oK') :: (sa, oS) :: tl') (m := fun y => if y = Str.ofString "prec" then some (.int (1 + r.fmod 60) t) else m1 y) H (ds := ns.map .int) (f := r) (i := 1 + r.fmod 60) (j := (r.fdiv 60).fmod 3) (t := tf) (t' := t) (hsv (.tail _ (.head _))) (by rw [if_neg (by decide)]; exact hvf) (if_pos rfl) ⟨oK', _, .head _, hK', .int _ _⟩
    have S2 : SX X c [] _ ((ka, oK') :: (sa, oS) :: tl') h' := S1.go F2 (fr' := []) N2
    refine wpAny_execs_cons (st3 (s := { s with heap := h', toks := tk' }) H hF hG hr hroom (j := (r.fdiv 60).fmod 3) (es := [g1, g2, g3]) hsw ok hnm hcl0 hcl3 hc ?_ S2 l2 (hsv (.tail _ (.head _))) ⟨oK', _, .head _, hK', .int _ _⟩ fun m3 n3 h3 tk3 F3 N3 l3 => ?_)
    · exact hel
    · have S3 : SX X c [] m3 n3 h3 := S2.go F3 (fr' := []) N3
      rw [hp] at l3
      refine xts_of (F := F) (C := compS c.nm nsL GT 30) (fun st ρ o h => sound_S hF hG hroom H.fn 30 st ρ o h) rest _ _ (by rw [hrest]; exact hlaw) [] m3 n3 { s with heap := h3, toks := tk3 } _ _ S3 l3 fun f m4 n4 h4 tk4 x4 F4 N4 O4 => ?_
      obtain ⟨v4, rfl, I4⟩ := O4
      cases I4
      exact P m4 n4 h4 tk4 F4 N4
end
end Mine

end

/-! # part AT3 -/
section
open PySem PySem.W PyProof.Rows
namespace Mine
theorem ins_ints {B : Heap} {news : Led} : ∀ {vs : List Value} {ns : List Int}, IntsAre vs ns → Ins B news vs (ns.map .int)
  | _, _, .nil => .nil
  | _, _, .cons n t h => .cons (.int n t) (ins_ints h)
end Mine
set_option maxRecDepth 100000 in
set_option maxHeartbeats 8000000 in
theorem PySem.Challenge.cw_aj5004_01_holds : PySem.Challenge.rw_aj5004_01.Holds := by
  refine Mine.hd ?_
  k_go0
  rename_i w s₀ s₁ mg mb G Y fa o pm doc ho hg KX X V GL T B TE TW w11 w10 M w9 w8 hcd ns hs hlay0 hLay hr1 hl2 la lb la4 vs lc hL ra wl r0 hI hr hc1 hc2 K0 hD h1 tk1 F oK oS dK dS N0 X0
  have hb : ∀ x ∈ ns, Mine.bits x ≤ 1048576 := fun x hx => PyData.bits_item_of_ints hLay hx
  have hl : ns.length ≤ 1000 := by omega
  refine Mine.law_walk (X := ⟨_, w, Mine.hd.heap_39 w.params, _, _, _, mg, mb⟩) (c := ⟨302, 7, some [], _, _, _, _, _, [], callerA, s₁.heap, s₁.heap, s₁.heap, _⟩) (sa := s₁.heap.objs.size + 1) (ka := s₁.heap.objs.size + 1 + 1) (ns := ns) (cl := [(Str.ofString "script", s₁.heap.objs.size + 1), (Str.ofString "kind", s₁.heap.objs.size + 1 + 1)])
    ?H (Mine.gok w) (Mine.tok w.params) ?hr ?room hl hb ?h1 ?h2 ?hw ?hsw ?ok ?hnm ?c0 ?c3 ?hc ?hrest (S := ⟨K0, F, KX, fun b o e => e, N0, T, rfl⟩) (hK := dK) (hS := dS) ?hv ?P
  case H => exact ⟨rfl, rfl, rfl, rfl, rfl, rfl, rfl, rfl, rfl, Nat.ne_of_lt (Nat.lt_succ_self _)⟩
  case hr => show nsIn (Mine.hd.heap_39 w.params) mainGlobals (Str.ofString "range") = some none; k_is
  case room => exact ⟨by show 302 + 11 < recursionLimit; decide, by show 7 + 8 * 11 + 100 < cLine; decide⟩
  case h1 => rfl
  case h2 => rfl
  case hw => rfl
  case hsw => rfl
  case ok => exact ⟨rfl, by decide, rfl, by decide, rfl⟩
  case hnm => rfl
  case c0 => rfl
  case c3 => rfl
  case hc => rfl
  case hrest => rfl
  case hv =>
    obtain ⟨ob, e1, e2, k, e3⟩ := hL
    exact .list (.inr e1) e2 e3 (Mine.ins_ints hI)
  case P =>
    intro m' news' h' tk' F' N'
    refine goodW_bool F' hg (raisesW_false ?_) ?_
    · wrow_none_raised
    · kc_post

end
