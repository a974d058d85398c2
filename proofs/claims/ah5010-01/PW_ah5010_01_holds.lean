import PyProof.Rows.All
import Wide.All
import OpenK.AllK
import Wide.FinOn
import PySem.Challenge.RW_ah5010_01
open PySem PySem.W PyProof.Rows
set_option Elab.async false
section
open PySem PySem.W PyProof.Rows
namespace Mine
set_option maxRecDepth 100000 in
set_option maxHeartbeats 8000000 in
open_top hd for PySem.Challenge.rw_ah5010_01
end Mine

end
section
open PySem PySem.W PyProof.Rows
namespace Mine

/- a small language of my own: expressions and statements over slots -/
mutual
inductive X where
  | lit (d : PyData)
  | var (i : Nat)
  | bin (op : Operator) (a b : X)
  | neg (a : X)
  | not (a : X)
  | cmp (op : CmpOp) (a b : X)
  | cmp2 (p q : CmpOp) (a b c : X)
  | and (a b : X)
  | or (a b : X)
  | ite (c a b : X)
  | tup (l : XL)
  | lst (l : XL)
  | idx (a b : X)
  | sd (a b : X)
  | tail (a : X)
  | call (f : Nat) (l : XL)
  | bitlen (a : X)
  | len (a : X)
  | abs (a : X)
  | divmod (a b : X)
  | comp1 (elt src : X)
  | comp2 (elt src : X)
  | stuck
inductive XL where
  | nil
  | cons (x : X) (r : XL)
end
mutual
inductive S where
  | asg (i : Nat) (x : X)
  | asg2 (i j : Nat) (x : X)
  | unp (l : List Nat) (x : X)
  | aug (i : Nat) (op : Operator) (x : X)
  | ifs (c : X) (b o : SL)
  | whl (c : X) (b : SL)
  | for1 (i : Nat) (src : X) (b : SL)
  | ret (x : X)
  | asrt (x : X)
  | stuck
inductive SL where
  | nil
  | cons (s : S) (r : SL)
end

abbrev En := List (Option PyData)
abbrev Sp := List PyData → (PyData → Prop) → Prop

def truthD : PyData → (Bool → Prop) → Prop
  | .int i, K => K (i != 0)
  | .bool b, K => K b
  | .none, K => K false
  | _, _ => False

def bits (a : Int) : Nat := Builtin.Int.intBits a

def binD : Operator → PyData → PyData → (PyData → Prop) → Prop
  | .Add, .int a, .int b, K => K (.int (a + b))
  | .Add, .list a, .list b, K => a.length + b.length ≤ 1000 ∧ K (.list (a ++ b))
  | .Sub, .int a, .int b, K => K (.int (a - b))
  | .Mult, .int a, .int b, K => IntMulOk a b ∧ K (.int (a * b))
  | .FloorDiv, .int a, .int b, K => b ≠ 0 ∧ b.natAbs < 1073741824 ∧ K (.int (a.fdiv b))
  | .Mod, .int a, .int b, K => b ≠ 0 ∧ K (.int (a.fmod b))
  | .Pow, .int a, .int n, K => 0 ≤ n ∧ (Builtin.Int.intBits a : Int) * n ≤ 2 ^ 27 ∧ K (.int (a ^ n.toNat))
  | .LShift, .int a, .int n, K => 0 ≤ n ∧ (Builtin.Int.intBits a : Int) + n ≤ 2 ^ 27 ∧ K (.int (a * 2 ^ n.toNat))
  | .RShift, .int a, .int n, K => 0 ≤ n ∧ K (.int (a.fdiv (2 ^ n.toNat)))
  | .BitAnd, .int a, .int b, K => K (.int (Builtin.bitAnd a b))
  | .BitXor, .int a, .int b, K => K (.int (Builtin.bitXor a b))
  | _, _, _, _ => False

def cmpD : CmpOp → PyData → PyData → (PyData → Prop) → Prop
  | .Lt, .int a, .int b, K => K (.bool (decide (a < b)))
  | .LtE, .int a, .int b, K => K (.bool (decide (a ≤ b)))
  | .Gt, .int a, .int b, K => K (.bool (decide (b < a)))
  | .GtE, .int a, .int b, K => K (.bool (decide (b ≤ a)))
  | .Eq, a, b, K => SeqAt.shaped a = true ∧ SeqAt.shaped b = true ∧ K (.bool (PyData.eqv a b))
  | .NotEq, a, b, K => SeqAt.shaped a = true ∧ SeqAt.shaped b = true ∧ K (.bool (!PyData.eqv a b))
  | .In, a, .list l, K => PyData.canLayAll0 l = true ∧ a.canLay0 = true ∧ a.depth ≤ 8 ∧ K (.bool (l.any fun y => PyData.eqv y a))
  | _, _, _, _ => False

/-- item i of a sequence -/
def itemD (l : List PyData) (i : Int) (K : PyData → Prop) : Prop :=
  0 ≤ i ∧ i < 2 ^ 62 ∧ match l[i.toNat]? with
    | some d => K d
    | none => False
def idxD : PyData → PyData → (PyData → Prop) → Prop
  | .tuple l, .int i, K => itemD l i K
  | .list l, .int i, K => itemD l i K
  | _, _, _ => False

/-- shifts_down[rnd][sign] -/
def sdD : PyData → (Int → Int → Prop) → Prop
  | .str r, K => (r = Str.ofString "f" ∧ K 1 0) ∨ (r = Str.ofString "c" ∧ K 0 1) ∨ (r = Str.ofString "d" ∧ K 1 1) ∨ (r = Str.ofString "u" ∧ K 0 0)
  | _, _ => False
def pickD (i j : Int) : PyData → (PyData → Prop) → Prop
  | .int q, K => (q = 0 ∧ K (.int i)) ∨ (q = 1 ∧ K (.int j))
  | _, _ => False

def negD : PyData → (PyData → Prop) → Prop
  | .int a, K => K (.int (-a))
  | _, _ => False
def tailD : PyData → (PyData → Prop) → Prop
  | .list (_ :: r), K => r.length ≤ 1000 ∧ K (.list r)
  | _, _ => False
def bitlenD : PyData → (PyData → Prop) → Prop
  | .int a, K => K (.int (Builtin.Int.intBits a))
  | _, _ => False
def lenD : PyData → (PyData → Prop) → Prop
  | .list l, K => l.length ≤ 1000 ∧ K (.int l.length)
  | _, _ => False
def absD : PyData → (PyData → Prop) → Prop
  | .int a, K => K (.int (if a < 0 then -a else a))
  | _, _ => False
def divmodD : PyData → PyData → (PyData → Prop) → Prop
  | .int a, .int b, K => b ≠ 0 ∧ Builtin.divisionGoesByPylong a b = false ∧ K (.tuple [.int (a.fdiv b), .int (a.fmod b)])
  | _, _, _ => False
/-- the items of a list or tuple, one by one, through a transformer -/
def mapD (f : PyData → (PyData → Prop) → Prop) : List PyData → List PyData → (List PyData → Prop) → Prop
  | [], acc, K => K acc
  | d :: r, acc, K => f d fun y => mapD f r (acc ++ [y]) K
def itemsD : PyData → (List PyData → Prop) → Prop
  | .tuple l, K => l.length ≤ 1000 ∧ K l
  | .list l, K => l.length ≤ 1000 ∧ K l
  | _, _ => False
def listD : PyData → (List PyData → Prop) → Prop
  | .list l, K => l.length ≤ 1000 ∧ K l
  | _, _ => False
def pairD : PyData → (PyData → PyData → Prop) → Prop
  | .tuple [a, b], K => K a b
  | _, _ => False

/-- a slot's value -/
def varD (ρ : En) (i : Nat) (K : PyData → Prop) : Prop := match ρ[i]? with
  | some (some d) => K d
  | _ => False
def augD (op : Operator) : PyData → PyData → (PyData → Prop) → Prop
  | .int a, .int b, K => binD op (.int a) (.int b) K
  | _, _, _ => False

mutual
def vc (Γ : Nat → Sp) : X → En → ((PyData → Prop) → Prop) × ((Bool → Prop) → Prop)
  | .lit d, _ => (fun K => K d, fun K => truthD d K)
  | .var i, ρ => (fun K => varD ρ i K, fun K => varD ρ i fun d => truthD d K)
  | .bin op a b, ρ =>
    let e : (PyData → Prop) → Prop := fun K => (vc Γ a ρ).1 fun x => (vc Γ b ρ).1 fun y => binD op x y K
    (e, fun K => e fun d => truthD d K)
  | .neg a, ρ =>
    let e : (PyData → Prop) → Prop := fun K => (vc Γ a ρ).1 fun x => negD x K
    (e, fun K => e fun d => truthD d K)
  | .not a, ρ => (fun K => (vc Γ a ρ).1 fun x => truthD x fun t => K (.bool (!t)), fun K => (vc Γ a ρ).2 fun t => K (!t))
  | .cmp op a b, ρ =>
    let e : (PyData → Prop) → Prop := fun K => (vc Γ a ρ).1 fun x => (vc Γ b ρ).1 fun y => cmpD op x y K
    (e, fun K => e fun d => truthD d K)
  | .cmp2 p q a b c, ρ =>
    let e : (PyData → Prop) → Prop := fun K => (vc Γ a ρ).1 fun x => (vc Γ b ρ).1 fun y => cmpD p x y fun r => truthD r fun t => if t = true then (vc Γ c ρ).1 fun z => cmpD q y z K else K r
    (e, fun K => e fun d => truthD d K)
  | .and a b, ρ => (fun K => (vc Γ a ρ).1 fun x => truthD x fun t => if t = true then (vc Γ b ρ).1 K else K x, fun K => (vc Γ a ρ).2 fun t => if t = true then (vc Γ b ρ).2 K else K false)
  | .or a b, ρ => (fun K => (vc Γ a ρ).1 fun x => truthD x fun t => if t = true then K x else (vc Γ b ρ).1 K, fun K => (vc Γ a ρ).2 fun t => if t = true then K true else (vc Γ b ρ).2 K)
  | .ite c a b, ρ => (fun K => (vc Γ c ρ).2 fun t => if t = true then (vc Γ a ρ).1 K else (vc Γ b ρ).1 K, fun K => (vc Γ c ρ).2 fun t => if t = true then (vc Γ a ρ).2 K else (vc Γ b ρ).2 K)
  | .tup l, ρ =>
    let e : (PyData → Prop) → Prop := fun K => vcL Γ l ρ [] fun ds => ds.length ≤ 1000 ∧ K (.tuple ds)
    (e, fun K => e fun d => truthD d K)
  | .lst l, ρ =>
    let e : (PyData → Prop) → Prop := fun K => vcL Γ l ρ [] fun ds => ds.length ≤ 1000 ∧ K (.list ds)
    (e, fun K => e fun d => truthD d K)
  | .idx a b, ρ =>
    let e : (PyData → Prop) → Prop := fun K => (vc Γ a ρ).1 fun x => (vc Γ b ρ).1 fun y => idxD x y K
    (e, fun K => e fun d => truthD d K)
  | .sd a b, ρ =>
    let e : (PyData → Prop) → Prop := fun K => (vc Γ a ρ).1 fun x => sdD x fun i j => (vc Γ b ρ).1 fun y => pickD i j y K
    (e, fun K => e fun d => truthD d K)
  | .tail a, ρ =>
    let e : (PyData → Prop) → Prop := fun K => (vc Γ a ρ).1 fun x => tailD x K
    (e, fun K => e fun d => truthD d K)
  | .call f l, ρ =>
    let e : (PyData → Prop) → Prop := fun K => vcL Γ l ρ [] fun ds => Γ f ds K
    (e, fun K => e fun d => truthD d K)
  | .bitlen a, ρ =>
    let e : (PyData → Prop) → Prop := fun K => (vc Γ a ρ).1 fun x => bitlenD x K
    (e, fun K => e fun d => truthD d K)
  | .len a, ρ =>
    let e : (PyData → Prop) → Prop := fun K => (vc Γ a ρ).1 fun x => lenD x K
    (e, fun K => e fun d => truthD d K)
  | .abs a, ρ =>
    let e : (PyData → Prop) → Prop := fun K => (vc Γ a ρ).1 fun x => absD x K
    (e, fun K => e fun d => truthD d K)
  | .divmod a b, ρ =>
    let e : (PyData → Prop) → Prop := fun K => (vc Γ a ρ).1 fun x => (vc Γ b ρ).1 fun y => divmodD x y K
    (e, fun K => e fun d => truthD d K)
  | .comp1 elt src, ρ =>
    let e : (PyData → Prop) → Prop := fun K => (vc Γ src ρ).1 fun x => itemsD x fun l => mapD (fun d K' => (vc Γ elt [some d]).1 K') l [] fun r => K (.list r)
    (e, fun K => e fun d => truthD d K)
  | .comp2 elt src, ρ =>
    let e : (PyData → Prop) → Prop := fun K => (vc Γ src ρ).1 fun x => listD x fun l => mapD (fun d K' => pairD d fun u v => (vc Γ elt [some u, some v]).1 K') l [] fun r => K (.list r)
    (e, fun K => e fun d => truthD d K)
  | .stuck, _ => (fun _ => False, fun _ => False)
def vcL (Γ : Nat → Sp) : XL → En → List PyData → (List PyData → Prop) → Prop
  | .nil, _, acc, K => K acc
  | .cons x r, ρ, acc, K => (vc Γ x ρ).1 fun d => vcL Γ r ρ (acc ++ [d]) K
end

def setAll : List Nat → List PyData → En → En
  | i :: is, d :: ds, ρ => setAll is ds (ρ.set i (some d))
  | _, _, ρ => ρ

def forD (f : PyData → En → (En → Prop) → Prop) : List PyData → En → (En → Prop) → Prop
  | [], ρ, K => K ρ
  | d :: r, ρ, K => f d ρ fun ρ' => forD f r ρ' K

mutual
def vs (Γ : Nat → Sp) : S → En → (En → Prop) → (PyData → Prop) → Prop
  | .asg i x, ρ, K, _ => (vc Γ x ρ).1 fun d => K (ρ.set i (some d))
  | .asg2 i j x, ρ, K, _ => (vc Γ x ρ).1 fun d => K ((ρ.set i (some d)).set j (some d))
  | .unp l x, ρ, K, _ => (vc Γ x ρ).1 fun d => match d with
    | .tuple ds => ds.length = l.length ∧ K (setAll l ds ρ)
    | _ => False
  | .aug i op x, ρ, K, _ => varD ρ i fun d => (vc Γ x ρ).1 fun e => augD op d e fun r => K (ρ.set i (some r))
  | .ifs c b o, ρ, K, R => (vc Γ c ρ).2 fun t => if t = true then vsL Γ b ρ K R else vsL Γ o ρ K R
  | .whl c b, ρ, K, R => ∃ (I : En → Prop) (μ : En → Nat), I ρ ∧ ∀ ρ', I ρ' → (vc Γ c ρ').2 fun t => if t = true then vsL Γ b ρ' (fun ρ'' => I ρ'' ∧ μ ρ'' < μ ρ') R else K ρ'
  | .for1 i src b, ρ, K, R => (vc Γ src ρ).1 fun d => match d with
    | .list ds => ds.length ≤ 1000 ∧ forD (fun d ρ' K' => vsL Γ b (ρ'.set i (some d)) K' R) ds ρ K
    | _ => False
  | .ret x, ρ, _, R => (vc Γ x ρ).1 R
  | .asrt x, ρ, K, _ => (vc Γ x ρ).2 fun t => t = true ∧ K ρ
  | .stuck, _, _, _ => False
def vsL (Γ : Nat → Sp) : SL → En → (En → Prop) → (PyData → Prop) → Prop
  | .nil, ρ, K, _ => K ρ
  | .cons s r, ρ, K, R => vs Γ s ρ (fun ρ' => vsL Γ r ρ' K R) R
end
end Mine

end
section
open PySem PySem.W PySem.Calls PyProof.Rows
namespace Mine

abbrev Ext (h h' : Heap) : Prop := ∀ b o, h.get? b = some o → h'.get? b = some o
theorem Ext.trans {a b c : Heap} (x : Ext a b) (y : Ext b c) : Ext a c := fun p o e => y _ _ (x p o e)
theorem Ext.refl {a : Heap} : Ext a a := fun _ _ e => e
theorem Ext.push {a : Heap} (o : Obj) : Ext a (a.push o) := fun _ _ e => Heap.get?_push_of_some _ e

/-- all stays, dicts up to their slots (the namespaces of frames that an exception has met) -/
def Keep (h h' : Heap) : Prop := ∀ b o, h.get? b = some o → ∃ sl, h'.get? b = some { o with slots := sl } ∧ ((∀ es ep, o.data ≠ .dict es ep) → sl = o.slots)
theorem Keep.of {h h' : Heap} (k : Ext h h') : Keep h h' := fun b o e => ⟨o.slots, k b o e, fun _ => rfl⟩
theorem Keep.refl {h : Heap} : Keep h h := .of Ext.refl
theorem Keep.trans {a b c : Heap} (x : Keep a b) (y : Keep b c) : Keep a c := fun p o e => by
  obtain ⟨s1, e1, c1⟩ := x p o e
  obtain ⟨s2, e2, c2⟩ := y p _ e1
  exact ⟨s2, e2, fun n => (c2 n).trans (c1 n)⟩
theorem Keep.live {h h' : Heap} (k : Keep h h') {b : Addr} {o : Obj} (e : h.get? b = some o) : ∃ o', h'.get? b = some o' := let ⟨_, x, _⟩ := k b o e; ⟨_, x⟩
theorem Keep.exact {h h' : Heap} (k : Keep h h') {b : Addr} {o : Obj} (e : h.get? b = some o) (n : ∀ es ep, o.data ≠ .dict es ep) : h'.get? b = some o := by
  obtain ⟨sl, x, c⟩ := k b o e
  rw [c n] at x; exact x
theorem Keep.ns {h h' : Heap} (k : Keep h h') {L : Addr} {m : Str → Option Value} (x : h.Ns L m) : h'.Ns L m := by
  obtain ⟨o, es, ep, e, r⟩ := x
  obtain ⟨sl, x, _⟩ := k _ _ e
  exact ⟨_, es, ep, x, r⟩

/-- a view: the part of the heap that stands for good -/
abbrev Vw := Addr → Option Obj
def Sub (g : Vw) (h : Heap) : Prop := ∀ a o, g a = some o → h.get? a = some o
def put (g : Vw) (a : Addr) (o : Obj) : Vw := fun b => if b = a then some o else g b

mutual
inductive Rd (g : Vw) : Value → PyData → Prop
  | none : Rd g .none .none
  | bool (b : Bool) : Rd g (.bool b) (.bool b)
  | int (i : Int) (t : Tok) : Rd g (.int i t) (.int i)
  | str (x : Str) (t : Tok) : Rd g (.str x t) (.str x)
  | list {a : Addr} {o : Obj} {vs : Array Value} {n : Nat} {xs : List PyData} : g a = some o → o.cls = .type "list" → o.data = .seq vs n → RdL g vs.toList xs → Rd g (.ref a) (.list xs)
  | tuple {a : Addr} {o : Obj} {vs : Array Value} {n : Nat} {xs : List PyData} : g a = some o → o.cls = .type "tuple" → o.data = .seq vs n → RdL g vs.toList xs → Rd g (.ref a) (.tuple xs)
inductive RdL (g : Vw) : List Value → List PyData → Prop
  | nil : RdL g [] []
  | cons {v : Value} {vs : List Value} {d : PyData} {ds : List PyData} : Rd g v d → RdL g vs ds → RdL g (v :: vs) (d :: ds)
end
mutual
theorem Rd.up {g g' : Vw} (k : ∀ a o, g a = some o → g' a = some o) : ∀ {v : Value} {d : PyData}, Rd g v d → Rd g' v d
  | _, _, .none => .none
  | _, _, .bool b => .bool b
  | _, _, .int i t => .int i t
  | _, _, .str x t => .str x t
  | _, _, .list a b c r => .list (k _ _ a) b c (RdL.up k r)
  | _, _, .tuple a b c r => .tuple (k _ _ a) b c (RdL.up k r)
theorem RdL.up {g g' : Vw} (k : ∀ a o, g a = some o → g' a = some o) : ∀ {vs : List Value} {ds : List PyData}, RdL g vs ds → RdL g' vs ds
  | _, _, .nil => .nil
  | _, _, .cons a r => .cons (Rd.up k a) (RdL.up k r)
end
mutual
theorem Rd.reads {g : Vw} {h : Heap} (k : Sub g h) : ∀ {v : Value} {d : PyData}, Rd g v d → ∃ as, Reads h v d as
  | _, _, .none => ⟨_, .none⟩
  | _, _, .bool b => ⟨_, .bool b⟩
  | _, _, .int i t => ⟨_, .int i t⟩
  | _, _, .str x t => ⟨_, .str x t⟩
  | _, _, .list a b c r => let ⟨_, x⟩ := RdL.reads k r; ⟨_, .list (k _ _ a) b c x⟩
  | _, _, .tuple a b c r => let ⟨_, x⟩ := RdL.reads k r; ⟨_, .tuple (k _ _ a) b c x⟩
theorem RdL.reads {g : Vw} {h : Heap} (k : Sub g h) : ∀ {vs : List Value} {ds : List PyData}, RdL g vs ds → ∃ as, ReadsAll h vs ds as
  | _, _, .nil => ⟨_, .nil⟩
  | _, _, .cons a r => let ⟨_, x⟩ := Rd.reads k a; let ⟨_, y⟩ := RdL.reads k r; ⟨_, .cons x y⟩
end

theorem RdL.length {g : Vw} {vs : List Value} : ∀ {ds : List PyData}, RdL g vs ds → vs.length = ds.length := by
  induction vs with
  | nil => intro ds x; cases x; rfl
  | cons v vs ih => intro ds x; cases x with | cons a b => rw [List.length_cons, List.length_cons, ih b]
theorem RdL.get {g : Vw} {vs : List Value} : ∀ {ds : List PyData} {i : Nat} {d : PyData}, RdL g vs ds → ds[i]? = some d → ∃ v, vs[i]? = some v ∧ Rd g v d := by
  induction vs with
  | nil => intro ds i d x e; cases x; simp at e
  | cons v vs ih =>
    intro ds i d x e
    cases x with
    | cons a b =>
      cases i with
      | zero => simp at e; subst e; exact ⟨v, rfl, a⟩
      | succ i => exact ih b (by simpa using e)
theorem RdL.get' {g : Vw} {vs : List Value} : ∀ {ds : List PyData} {i : Nat} {v : Value}, RdL g vs ds → vs[i]? = some v → ∃ d, ds[i]? = some d ∧ Rd g v d := by
  induction vs with
  | nil => intro ds i d x e; simp at e
  | cons v vs ih =>
    intro ds i d x e
    cases x with
    | cons a b =>
      cases i with
      | zero => simp at e; subst e; exact ⟨_, rfl, a⟩
      | succ i => simpa using ih b (by simpa using e)
theorem RdL.append {g : Vw} {vs : List Value} : ∀ {ds : List PyData} {us : List Value} {es : List PyData}, RdL g vs ds → RdL g us es → RdL g (vs ++ us) (ds ++ es) := by
  induction vs with
  | nil => intro ds us es x r; cases x; exact r
  | cons u vs ih =>
    intro ds us es x r
    cases x with
    | cons a b => exact .cons a (ih b r)
theorem RdL.snoc {g : Vw} {v : Value} {d : PyData} {vs : List Value} {ds : List PyData} (a : RdL g vs ds) (b : Rd g v d) : RdL g (vs ++ [v]) (ds ++ [d]) := a.append (.cons b .nil)

theorem Rd.int_inv {g : Vw} {v : Value} {i : Int} (r : Rd g v (.int i)) : ∃ t, v = .int i t := by cases r; exact ⟨_, rfl⟩
theorem Rd.str_inv {g : Vw} {v : Value} {i : Str} (r : Rd g v (.str i)) : ∃ t, v = .str i t := by cases r; exact ⟨_, rfl⟩
theorem Rd.bool_inv {g : Vw} {v : Value} {i : Bool} (r : Rd g v (.bool i)) : v = .bool i := by cases r; rfl
theorem Rd.none_inv {g : Vw} {v : Value} (r : Rd g v .none) : v = .none := by cases r; rfl
theorem Rd.tup_inv {g : Vw} {h : Heap} (k : Sub g h) {v : Value} {ds : List PyData} (r : Rd g v (.tuple ds)) : ∃ a vs, v = .ref a ∧ IsTup h a vs ∧ RdL g vs.toList ds ∧ ∃ o, g a = some o := by
  cases r with | tuple a b c d => exact ⟨_, _, rfl, ⟨_, k _ _ a, b, _, c⟩, d, _, a⟩
theorem Rd.lst_inv {g : Vw} {h : Heap} (k : Sub g h) {v : Value} {ds : List PyData} (r : Rd g v (.list ds)) : ∃ a vs, v = .ref a ∧ h.IsList a vs ∧ RdL g vs.toList ds ∧ ∃ o, g a = some o := by
  cases r with | list a b c d => exact ⟨_, _, rfl, ⟨_, k _ _ a, b, _, c⟩, d, _, a⟩

/-- what holds of the ground at every heap -/
structure GrH (K : Frag) (mg mb : Str → Option Value) (h : Heap) : Prop where
  X : K.In h
  g : h.Ns mainGlobals mg
  b : h.Ns builtinsNs mb
  bt : ∀ x : Str, x ≠ "__name__" → mb x = bootBuiltins x
  nolimit : h.NoLimit
theorem GrH.ext {K : Frag} {mg mb : Str → Option Value} {h h' : Heap} (x : GrH K mg mb h) (k : Ext h h') : GrH K mg mb h' :=
  ⟨x.X.keeps k, x.g.keeps k, x.b.keeps k, x.bt, x.nolimit.keeps k⟩
structure Gr (K : Frag) (mg mb : Str → Option Value) (g : Vw) : Prop where
  hold : ∀ h, Sub g h → GrH K mg mb h
  frag : ∀ a o, K.lookup a = some o → g a = some o
theorem Gr.up {K : Frag} {mg mb : Str → Option Value} {g g' : Vw} (x : Gr K mg mb g) (k : ∀ a o, g a = some o → g' a = some o) : Gr K mg mb g' :=
  ⟨fun h s => x.hold h fun a o e => s a o (k a o e), fun a o e => k _ _ (x.frag a o e)⟩

structure Rm (A : Around) (n : Nat) : Prop where
  hh : A.handled = none
  hd : A.depth + 5 * n ≤ 900
  hu : A.units + 40 * n ≤ 9000

/-- heap and view grow -/
structure GX (h : Heap) (g : Vw) (h' : Heap) (g' : Vw) : Prop where
  keep : Keep h h'
  grow : ∀ a o, g a = some o → g' a = some o
  sub : Sub g' h'
  new : ∀ a o, g' a = some o → g a = some o ∨ h.get? a = none
theorem GX.refl {h : Heap} {g : Vw} (s : Sub g h) : GX h g h g := ⟨Keep.refl, fun _ _ e => e, s, fun _ _ e => .inl e⟩
theorem GX.trans {h1 h2 h3 : Heap} {g1 g2 g3 : Vw} (x : GX h1 g1 h2 g2) (y : GX h2 g2 h3 g3) : GX h1 g1 h3 g3 :=
  ⟨x.keep.trans y.keep, fun a o e => y.grow _ _ (x.grow _ _ e), y.sub, fun a o e => (y.new a o e).elim (x.new a o) fun z => .inr (by
    cases q : h1.get? a with
    | none => rfl
    | some o' => obtain ⟨_, y⟩ := x.keep.live q; rw [z] at y; cases y)⟩
theorem GX.push {h : Heap} {g : Vw} (s : Sub g h) {o : Obj} (hf : o.isFreed = false) : GX h g (h.push o) (put g h.objs.size o) := by
  have hne : ∀ a p, g a = some p → a ≠ h.objs.size := fun a p e => Nat.ne_of_lt (Heap.lt_size (s _ _ e))
  refine ⟨.of (Ext.push _), fun a p e => by unfold put; rw [if_neg (hne a p e)]; exact e, fun a p e => ?_, fun a p e => ?_⟩
  · unfold put at e
    split at e
    · rename_i q; subst q; cases e; exact Heap.get?_push_size _ hf
    · exact Heap.get?_push_of_some _ (s _ _ e)
  · unfold put at e
    split at e
    · rename_i q; subst q
      right
      cases q : h.get? h.objs.size with
      | none => rfl
      | some o' => exact absurd (Heap.lt_size q) (Nat.lt_irrefl _)
    · exact .inl e

theorem GX.fresh {h h' : Heap} {g g' : Vw} (x : GX h g h' g') {b : Addr} {o : Obj} (hb : h.get? b = some o) (hg : g b = none) : g' b = none := by
  cases q : g' b with
  | none => rfl
  | some o' => rcases x.new _ _ q with e | e
               · rw [hg] at e; cases e
               · rw [hb] at e; cases e

/-- the frames that stand: their namespaces are dicts, and no part of the view -/
def FrOK (h : Heap) (g : Vw) (env : Env) : Prop := env.scope.kind ≠ .module ∧ ∃ L o es ep, env.frame = some L ∧ h.get? L = some o ∧ o.data = .dict es ep ∧ g L = none
def Fro (A : Around) (h : Heap) (g : Vw) : Prop := ∃ outer, A.frames = some outer ∧ ∀ env ∈ outer, FrOK h g env
theorem FrOK.ext {h h' : Heap} {g g' : Vw} {env : Env} (x : FrOK h g env) (k : GX h g h' g') : FrOK h' g' env := by
  obtain ⟨a, L, o, es, ep, b, c, d, e⟩ := x
  obtain ⟨sl, y, _⟩ := k.keep _ _ c
  exact ⟨a, L, _, es, ep, b, y, d, k.fresh c e⟩
theorem Fro.ext {A : Around} {h h' : Heap} {g g' : Vw} (x : Fro A h g) (k : GX h g h' g') : Fro A h' g' := let ⟨o, a, b⟩ := x; ⟨o, a, fun e m => (b e m).ext k⟩

def Post (g : Vw) (s : Shared) (Kp : PyData → Prop) (Q : Value → Shared → Prop) : Prop :=
  ∀ v h' tk d g', Kp d → GX s.heap g h' g' → Rd g' v d → Q v { s with heap := h', toks := tk }

def CallOK (prog : Program) (w : World) (K : Frag) (mg mb : Str → Option Value) (n : Nat) (f : Addr) (sp : Sp) : Prop :=
  ∀ (A : Around) (s : Shared) (g : Vw) (vs : List Value) (ds : List PyData) (Kp : PyData → Prop) (Q E : Value → Shared → Prop),
    Rm A n → Fro A s.heap g → Sub g s.heap → Gr K mg mb g → RdL g vs ds → sp ds Kp → Post g s Kp Q → wpAny (model prog w) A (call (.ref f) vs) Q E s

inductive GI where
  | const (d : PyData)
  | fn (a : Nat)
  | bt (x : String)

def SdOK (w : World) (K : Frag) : Prop :=
  ∃ (a : Addr) (es : Array DictEntry) (n : Nat), nsIn K mainGlobals (Str.ofString "shifts_down") = some (some (.ref a)) ∧ K.lookup a = some ⟨.type "dict", none, .dict es n, #[]⟩ ∧ KeysLit w.params es.toList ∧
    ∀ (r : String) (i j : Int), (r, i, j) ∈ ([("f", 1, 0), ("c", 0, 1), ("d", 1, 1), ("u", 0, 0)] : List (String × Int × Int)) →
      ∃ b dd m sl t u, nsIn K a (Str.ofString r) = some (some (.ref b)) ∧ K.lookup b = some ⟨.type "tuple", dd, .seq [Value.int i t, Value.int j u].toArray m, sl⟩

/-- the table of globals is right -/
structure TbOK (prog : Program) (w : World) (K : Frag) (mg mb : Str → Option Value) (n : Nat) (Γ : Nat → Sp) (tb : List (Str × GI)) : Prop where
  const : ∀ x d, tb.lookup x = some (.const d) → ∃ v, nsIn K mainGlobals x = some (some v) ∧ ∀ g : Vw, (∀ a o, K.lookup a = some o → g a = some o) → Rd g v d
  fn : ∀ x a, tb.lookup x = some (.fn a) → nsIn K mainGlobals x = some (some (.ref a)) ∧ (∃ c dd fd sl, K.lookup a = some ⟨c, dd, .func fd, sl⟩)
  bt : ∀ x b, tb.lookup x = some (.bt b) → nsIn K mainGlobals x = some none ∧ bootBuiltins x = some (.builtin b) ∧ x ≠ "__name__"
  sd : SdOK w K
  ok : ∀ a, CallOK prog w K mg mb n a (Γ a)

structure Ev (scn : List (Str × NameKind)) (env : Env) : Prop where
  hn : env.scope.names = scn
  hk : env.scope.kind = .function
  hg : env.globals = mainGlobals
  hb : env.builtins = builtinsNs

def Lc (names : List Str) (h : Heap) (g : Vw) (L : Addr) (ρ : En) : Prop :=
  ∃ m, h.Ns L m ∧ ∀ (i : Nat) (x : Str) (d : PyData), names[i]? = some x → ρ[i]? = some (some d) → ∃ v, m x = some v ∧ Rd g v d
theorem Lc.ext {names : List Str} {h h' : Heap} {g g' : Vw} {L : Addr} {ρ : En} (x : Lc names h g L ρ) (k : GX h g h' g') : Lc names h' g' L ρ :=
  let ⟨m, a, b⟩ := x; ⟨m, k.keep.ns a, fun i x d e1 e2 => let ⟨v, p, q⟩ := b i x d e1 e2; ⟨v, p, q.up k.grow⟩⟩

section
variable (prog : Program) (w : World) (K : Frag) (mg mb : Str → Option Value) (n : Nat) (Γ : Nat → Sp) (scn : List (Str × NameKind)) (names : List Str)

structure Fm (A : Around) (env : Env) (g : Vw) (s : Shared) (ρ : En) : Prop where
  rm : Rm A n
  fro : Fro A s.heap g
  ev : Ev scn env
  sub : Sub g s.heap
  gr : Gr K mg mb g
  lc : Lc names s.heap g env.locals ρ

def OkE (e : Expr) (x : X) : Prop :=
  ∀ (A : Around) (env : Env) (g : Vw) (s : Shared) (ρ : En) (Kp : PyData → Prop) (Q E : Value → Shared → Prop),
    Fm K mg mb n scn names A env g s ρ → (vc Γ x ρ).1 Kp → Post g s Kp Q → wpAny (model prog w) A (eval e env) Q E s
def PostT (g : Vw) (s : Shared) (Kp : Bool → Prop) (Q : Bool → Shared → Prop) : Prop :=
  ∀ b h' tk g', Kp b → GX s.heap g h' g' → Q b { s with heap := h', toks := tk }
def OkT (e : Expr) (x : X) : Prop :=
  ∀ (A : Around) (env : Env) (g : Vw) (s : Shared) (ρ : En) (Kp : Bool → Prop) (Q : Bool → Shared → Prop) (E : Value → Shared → Prop),
    Fm K mg mb n scn names A env g s ρ → (vc Γ x ρ).2 Kp → PostT g s Kp Q → wpAny (model prog w) A (isTrue e env (eval e env)) Q E s
def OkL (es : List Expr) (l : XL) : Prop :=
  ∀ (A : Around) (env : Env) (g : Vw) (s : Shared) (ρ : En) (pos : Pos) (acc : List PyData) (Kp : List PyData → Prop) (Q : List Value → Shared → Prop) (E : Value → Shared → Prop),
    Fm K mg mb n scn names A env g s ρ → vcL Γ l ρ acc Kp → (∀ vs ds h' tk g', Kp (acc ++ ds) → GX s.heap g h' g' → RdL g' vs ds → Q vs { s with heap := h', toks := tk }) →
    wpAny (model prog w) A (spliced (backTo pos (starEach es env))) Q E s
end

section
variable {prog : Program} {w : World} {K : Frag} {mg mb : Str → Option Value} {n : Nat} {Γ : Nat → Sp} {scn : List (Str × NameKind)} {names : List Str} {tb : List (Str × GI)}

theorem Fm.ext {A : Around} {env : Env} {g g' : Vw} {s : Shared} {ρ : En} (f : Fm K mg mb n scn names A env g s ρ) {h' : Heap} (k : GX s.heap g h' g') (tk : Nat) : Fm K mg mb n scn names A env g' { s with heap := h', toks := tk } ρ :=
  ⟨f.rm, f.fro.ext k, f.ev, k.sub, f.gr.up k.grow, f.lc.ext k⟩

theorem Post.here {g : Vw} {s : Shared} {Kp : PyData → Prop} {Q : Value → Shared → Prop} (p : Post g s Kp Q) (hs : Sub g s.heap) {v : Value} {d : PyData} (k : Kp d) (r : Rd g v d) : Q v s := p v s.heap s.toks d g k (.refl hs) r
theorem Post.tok {g : Vw} {s : Shared} {Kp : PyData → Prop} {Q : Value → Shared → Prop} (p : Post g s Kp Q) (hs : Sub g s.heap) {v : Value} {d : PyData} {tk : Nat} (k : Kp d) (r : Rd g v d) : Q v { s with toks := tk } := p v s.heap tk d g k (.refl hs) r
theorem Post.ext {g g' : Vw} {s : Shared} {Kp : PyData → Prop} {Q : Value → Shared → Prop} (p : Post g s Kp Q) {h' : Heap} (k : GX s.heap g h' g') (tk : Nat) : Post g' { s with heap := h', toks := tk } Kp Q :=
  fun v h'' tk' d g'' kd e r => p v h'' tk' d g'' kd (k.trans e) r
theorem PostT.ext {g g' : Vw} {s : Shared} {Kp : Bool → Prop} {Q : Bool → Shared → Prop} (p : PostT g s Kp Q) {h' : Heap} (k : GX s.heap g h' g') (tk : Nat) : PostT g' { s with heap := h', toks := tk } Kp Q :=
  fun v h'' tk' g'' kd e => p v h'' tk' g'' kd (k.trans e)
theorem PostT.here {g : Vw} {s : Shared} {Kp : Bool → Prop} {Q : Bool → Shared → Prop} (p : PostT g s Kp Q) (hs : Sub g s.heap) {b : Bool} (k : Kp b) : Q b s := p b s.heap s.toks g k (.refl hs)

theorem truth_ok {A : Around} {E : Value → Shared → Prop} {g : Vw} {s : Shared} {v : Value} {d : PyData} {Kp : Bool → Prop} {Q : Bool → Shared → Prop} (r : Rd g v d) (h : truthD d Kp) (k : ∀ b, Kp b → Q b s) :
    wpAny (model prog w) A (truthy v) Q E s := by
  cases d with
  | int i => obtain ⟨t, rfl⟩ := r.int_inv; exact truthy_int (k _ h)
  | bool b => obtain rfl := r.bool_inv; exact wpAny_truthy_bool (k _ h)
  | none => obtain rfl := r.none_inv; exact truthy_none (k _ h)
  | _ => exact h.elim

theorem OkT.plain {e : Expr} {x : X} (hE : OkE prog w K mg mb n Γ scn names e x) (h2 : ∀ ρ Kp, (vc Γ x ρ).2 Kp = (vc Γ x ρ).1 fun d => truthD d Kp)
    (he : ∀ env, isTrue e env (eval e env) = (do let v ← eval e env; standAt e.pos; holding [v] (truthy v))) : OkT prog w K mg mb n Γ scn names e x := by
  intro A env g s ρ Kp Q E f h k
  rw [h2] at h
  exact isTrue_plain (hE A env g s ρ _ _ E f h (fun v h' tk d g' hd e r => truth_ok r hd fun b hb => k b h' tk g' hb e)) (he env)

theorem OkE.lit_int {i : Int} {k pos} : OkE prog w K mg mb n Γ scn names (.Constant (.int i) k pos) (.lit (.int i)) :=
  fun _ _ _ _ _ _ _ _ f h p => wpAny_Constant_int (p.tok f.sub h (.int _ _))
theorem OkE.lit_str {i : Str} {k pos} : OkE prog w K mg mb n Γ scn names (.Constant (.str i) k pos) (.lit (.str i)) :=
  fun _ _ _ _ _ _ _ _ f h p => wpAny_Constant_str (p.tok f.sub h (.str _ _))
theorem OkE.lit_bool {i : Bool} {k pos} : OkE prog w K mg mb n Γ scn names (.Constant (.bool i) k pos) (.lit (.bool i)) :=
  fun _ _ _ _ _ _ _ _ f h p => wpAny_Constant_bool (p.here f.sub h (.bool _))

theorem OkE.var {x : Str} {pos : Pos} {i : Nat} (hl : scn.lookup x = some .local) (hd : (x == ("__debug__" : Str)) = false) (hi : names[i]? = some x) : OkE prog w K mg mb n Γ scn names (.Name x pos) (.var i) := by
  intro A env g s ρ Kp Q E f h p
  obtain ⟨m, hn, hm⟩ := f.lc
  have h' : varD ρ i Kp := h
  unfold varD at h'
  split at h'
  · rename_i d hd'
    obtain ⟨v, hv, r⟩ := hm i x d hi hd'
    exact wpAny_Name (wpAny_loadName_local f.ev.hk (by unfold Env.kindOf; rw [f.ev.hn]; exact hl) hn hv (p.here f.sub h' r)) hd
  · exact h'.elim

theorem OkE.glob (T : TbOK prog w K mg mb n Γ tb) {x : Str} {pos : Pos} {d : PyData} (hl : scn.lookup x = some .globalImplicit) (hd : (x == ("__debug__" : Str)) = false) (hi : tb.lookup x = some (.const d)) :
    OkE prog w K mg mb n Γ scn names (.Name x pos) (.lit d) := by
  intro A env g s ρ Kp Q E f h p
  obtain ⟨v, hv, r⟩ := T.const x d hi
  have G := f.gr.hold _ f.sub
  exact Name_function_global f.ev.hk (by unfold Env.kindOf; rw [f.ev.hn]; exact hl) (loadGlobal_global (by rw [f.ev.hg]; exact G.g) (mg_of G.X G.g hv) (p.here f.sub h (r _ f.gr.frag))) hd

theorem sizeLine_big {n : Nat} (h : n ≤ 1000) : n ≤ sizeLine := Nat.le_trans h (by decide)

theorem lists_ok {A : Around} {E : Value → Shared → Prop} {g : Vw} {s : Shared} {l b : Addr} {va vb : Array Value} {da db : List PyData} {Kp : PyData → Prop} {Q : Value → Shared → Prop} (hs : Sub g s.heap) (hl : s.heap.IsList l va) (hb : s.heap.IsList b vb)
    (xa : RdL g va.toList da) (xb : RdL g vb.toList db) (hsz : da.length + db.length ≤ 1000) (p : Post g s Kp Q) (hk : Kp (.list (da ++ db))) : wpAny (model prog w) A (binaryOp .Add (.ref l) (.ref b)) Q E s := by
  obtain ⟨⟨cls, dd, data, sl⟩, ho, hc, n, hd⟩ := id hl
  obtain ⟨⟨cls2, dd2, data2, sl2⟩, ho2, hc2, n2, hd2⟩ := id hb
  simp only at hc hd hc2 hd2
  subst hc hd hc2 hd2
  have hz : va.size + vb.size ≤ sizeLine := by
    have h1 := xa.length; have h2 := xb.length
    rw [Array.length_toList] at h1 h2
    exact sizeLine_big (by omega)
  refine concat_meets ⟨_, ho, rfl⟩ ⟨_, ho2, rfl⟩ noFill_list_add seq_list_add PySem.F.slot_list_add PySem.F.entry_list_add (PySem.F.args_list_add_2 _ _) (list_addW l b va vb n n2 dd dd2 sl sl2 hz) ⟨ho, ho2, ?_⟩
  have X := GX.push hs (o := { cls := .type "list", data := .seq (va ++ vb) }) rfl
  refine p _ _ s.toks _ _ hk X (.list (vs := va ++ vb) (by unfold put; rw [if_pos rfl]) rfl rfl ?_)
  rw [Array.toList_append]
  exact (xa.up X.grow).append (xb.up X.grow)

theorem bin_ok {A : Around} {E : Value → Shared → Prop} {g : Vw} {s : Shared} {op : Operator} {u v : Value} {a b : PyData} {Kp : PyData → Prop} {Q : Value → Shared → Prop} (hs : Sub g s.heap) (ra : Rd g u a) (rb : Rd g v b) (h : binD op a b Kp) (p : Post g s Kp Q) :
    wpAny (model prog w) A (binaryOp op u v) Q E s := by
  unfold binD at h
  split at h
  · obtain ⟨t, rfl⟩ := ra.int_inv; obtain ⟨t', rfl⟩ := rb.int_inv; exact add_int (p.tok hs h (.int _ _))
  · obtain ⟨la, va, rfl, ha, xa, _⟩ := ra.lst_inv hs; obtain ⟨lb, vb, rfl, hb, xb, _⟩ := rb.lst_inv hs
    exact lists_ok hs ha hb xa xb h.1 (p := p) h.2
  · obtain ⟨t, rfl⟩ := ra.int_inv; obtain ⟨t', rfl⟩ := rb.int_inv; exact sub_int (p.tok hs h (.int _ _))
  · obtain ⟨t, rfl⟩ := ra.int_inv; obtain ⟨t', rfl⟩ := rb.int_inv; exact mul_int (p.tok hs h.2 (.int _ _)) h.1
  · obtain ⟨t, rfl⟩ := ra.int_inv; obtain ⟨t', rfl⟩ := rb.int_inv; exact floordiv_int h.1 (p.tok hs h.2.2 (.int _ _)) (.inl (PyProof.noPylong_small h.2.1))
  · obtain ⟨t, rfl⟩ := ra.int_inv; obtain ⟨t', rfl⟩ := rb.int_inv; exact mod_int h.1 (p.tok hs h.2 (.int _ _))
  · obtain ⟨t, rfl⟩ := ra.int_inv; obtain ⟨t', rfl⟩ := rb.int_inv; exact pow_int h.1 h.2.1 (p.tok hs h.2.2 (.int _ _))
  · obtain ⟨t, rfl⟩ := ra.int_inv; obtain ⟨t', rfl⟩ := rb.int_inv; exact lshift_int h.1 h.2.1 (p.tok hs h.2.2 (.int _ _))
  · obtain ⟨t, rfl⟩ := ra.int_inv; obtain ⟨t', rfl⟩ := rb.int_inv; exact rshift_int h.1 (p.tok hs h.2 (.int _ _))
  · obtain ⟨t, rfl⟩ := ra.int_inv; obtain ⟨t', rfl⟩ := rb.int_inv; exact and_int (p.tok hs h (.int _ _))
  · obtain ⟨t, rfl⟩ := ra.int_inv; obtain ⟨t', rfl⟩ := rb.int_inv; exact xor_int (p.tok hs h (.int _ _))
  · exact h.elim

theorem OkE.bin {op : Operator} {l r : Expr} {pos : Pos} {a b : X} (ha : OkE prog w K mg mb n Γ scn names l a) (hb : OkE prog w K mg mb n Γ scn names r b) : OkE prog w K mg mb n Γ scn names (.BinOp l op r pos) (.bin op a b) := by
  intro A env g s ρ Kp Q E f h p
  refine wpAny_BinOp (ha A env g s ρ _ _ E f h fun u h1 t1 d1 g1 k1 e1 r1 => ?_)
  refine hb A env _ _ ρ _ _ E (f.ext e1 t1) k1 fun v h2 t2 d2 g2 k2 e2 r2 => ?_
  exact bin_ok e2.sub (r1.up e2.grow) r2 k2 ((p.ext e1 t1).ext e2 t2)
end
end Mine

end
section
open PySem PySem.W PySem.Calls PyProof.Rows
namespace Mine

section
variable {prog : Program} {w : World} {K : Frag} {mg mb : Str → Option Value} {n : Nat} {Γ : Nat → Sp} {scn : List (Str × NameKind)} {names : List Str} {tb : List (Str × GI)}

theorem cmp_ok {A : Around} {E : Value → Shared → Prop} {g : Vw} {s : Shared} {op : CmpOp} {u v : Value} {a b : PyData} {Kp : PyData → Prop} {Q : Value → Shared → Prop} (hs : Sub g s.heap) (hu : A.units ≤ 9000) (ra : Rd g u a) (rb : Rd g v b) (h : cmpD op a b Kp) (p : Post g s Kp Q) :
    wpAny (model prog w) A (compareOp op u v) Q E s := by
  have hc : cLine = 9900 := rfl
  unfold cmpD at h
  split at h
  · obtain ⟨t, rfl⟩ := ra.int_inv; obtain ⟨t', rfl⟩ := rb.int_inv; exact lt_int (p.here hs h (.bool _))
  · obtain ⟨t, rfl⟩ := ra.int_inv; obtain ⟨t', rfl⟩ := rb.int_inv; exact le_int (p.here hs h (.bool _))
  · obtain ⟨t, rfl⟩ := ra.int_inv; obtain ⟨t', rfl⟩ := rb.int_inv; exact gt_int (p.here hs h (.bool _))
  · obtain ⟨t, rfl⟩ := ra.int_inv; obtain ⟨t', rfl⟩ := rb.int_inv; exact ge_int (p.here hs h (.bool _))
  · obtain ⟨as, ra⟩ := ra.reads hs
    obtain ⟨bs, rb⟩ := rb.reads hs
    exact eq_dataH ra rb h.1 h.2.1 (by omega) (p.here hs h.2.2 (.bool _))
  · obtain ⟨as, ra⟩ := ra.reads hs
    obtain ⟨bs, rb⟩ := rb.reads hs
    exact SeqAt.compareNe_reads ra rb (SeqAt.canLay_of_shaped h.1) (SeqAt.canLay_of_shaped h.2.1) (SeqAt.room_of_shaped h.1 (by omega)) (p.here hs h.2.2 (.bool _))
  · obtain ⟨as, ra⟩ := ra.reads hs
    obtain ⟨bs, rb⟩ := rb.reads hs
    refine SeqAt.in_list_reads rb ra h.1 h.2.1 ?_ (p.here hs h.2.2.2 (.bool _))
    have h1 := h.2.2.1
    have h2 := Nat.min_le_right (PyData.depthAll ‹List PyData›) (PyData.depth a)
    omega
  · exact h.elim

theorem cmpD_bool {op : CmpOp} {a b : PyData} {Kp : PyData → Prop} (h : cmpD op a b Kp) : cmpD op a b fun d => (∃ t, d = .bool t) ∧ Kp d := by
  unfold cmpD at h ⊢
  split at h
  · exact ⟨⟨_, rfl⟩, h⟩
  · exact ⟨⟨_, rfl⟩, h⟩
  · exact ⟨⟨_, rfl⟩, h⟩
  · exact ⟨⟨_, rfl⟩, h⟩
  · exact ⟨h.1, h.2.1, ⟨_, rfl⟩, h.2.2⟩
  · exact ⟨h.1, h.2.1, ⟨_, rfl⟩, h.2.2⟩
  · exact ⟨h.1, h.2.1, h.2.2.1, ⟨_, rfl⟩, h.2.2.2⟩
  · exact h.elim

theorem Fm.un {A : Around} {env : Env} {g : Vw} {s : Shared} {ρ : En} (f : Fm K mg mb n scn names A env g s ρ) : A.units ≤ 9000 := by have := f.rm.hu; omega

theorem OkE.neg {x : Expr} {pos : Pos} {a : X} (ha : OkE prog w K mg mb n Γ scn names x a) : OkE prog w K mg mb n Γ scn names (.UnaryOp .USub x pos) (.neg a) := by
  intro A env g s ρ Kp Q E f h p
  refine UnaryOp_ (ha A env g s ρ _ _ E f h fun u h1 t1 d1 g1 k1 e1 r1 => ?_)
  cases d1 with
  | int i => obtain ⟨t, rfl⟩ := r1.int_inv; exact neg_int ((p.ext e1 t1).tok e1.sub k1 (.int _ _))
  | _ => exact k1.elim
theorem OkE.not {x : Expr} {pos : Pos} {a : X} (ha : OkE prog w K mg mb n Γ scn names x a) : OkE prog w K mg mb n Γ scn names (.UnaryOp .Not x pos) (.not a) := by
  intro A env g s ρ Kp Q E f h p
  refine UnaryOp_ (ha A env g s ρ _ _ E f h fun u h1 t1 d1 g1 k1 e1 r1 => ?_)
  exact not_of (truth_ok r1 k1 fun b hb => (p.ext e1 t1).here e1.sub hb (.bool _))
theorem OkT.not {x : Expr} {pos : Pos} {a : X} (ha : OkT prog w K mg mb n Γ scn names x a) : OkT prog w K mg mb n Γ scn names (.UnaryOp .Not x pos) (.not a) := by
  intro A env g s ρ Kp Q E f h k
  exact isTrue_not (ha A env g s ρ _ _ E f h fun b h' tk g' hb e => k _ h' tk g' hb e)

theorem OkE.cmp {op : CmpOp} {l r : Expr} {pos : Pos} {a b : X} (ha : OkE prog w K mg mb n Γ scn names l a) (hb : OkE prog w K mg mb n Γ scn names r b) (hm : behindInMarks op r = false) :
    OkE prog w K mg mb n Γ scn names (.Compare l [op] [r] pos) (.cmp op a b) := by
  intro A env g s ρ Kp Q E f h p
  refine wpAny_Compare1 (ha A env g s ρ _ _ E f h fun u h1 t1 d1 g1 k1 e1 r1 => ?_) hm
  refine hb A env _ _ ρ _ _ E (f.ext e1 t1) k1 fun v h2 t2 d2 g2 k2 e2 r2 => ?_
  exact cmp_ok e2.sub f.un (r1.up e2.grow) r2 k2 ((p.ext e1 t1).ext e2 t2)
theorem OkT.cmp {op : CmpOp} {l r : Expr} {pos : Pos} {a b : X} (ha : OkE prog w K mg mb n Γ scn names l a) (hb : OkE prog w K mg mb n Γ scn names r b) (hm : behindInMarks op r = false) :
    OkT prog w K mg mb n Γ scn names (.Compare l [op] [r] pos) (.cmp op a b) := by
  intro A env g s ρ Kp Q E f h k
  refine wpAny_isTrue_Compare1 (ha A env g s ρ _ _ E f h fun u h1 t1 d1 g1 k1 e1 r1 => ?_) hm
  refine hb A env _ _ ρ _ _ E (f.ext e1 t1) k1 fun v h2 t2 d2 g2 k2 e2 r2 => ?_
  refine cmp_ok e2.sub f.un (r1.up e2.grow) r2 k2 fun v3 h3 t3 d3 g3 k3 e3 r3 => ?_
  exact truth_ok r3 k3 fun c hc => k c _ _ _ hc ((e1.trans e2).trans e3)

theorem OkE.cmp2 {o1 o2 : CmpOp} {l r1 r2 : Expr} {pos : Pos} {a b c : X} (ha : OkE prog w K mg mb n Γ scn names l a) (hb : OkE prog w K mg mb n Γ scn names r1 b) (hc : OkE prog w K mg mb n Γ scn names r2 c) (hm : lastMarks [o1, o2] [r1, r2] = false) :
    OkE prog w K mg mb n Γ scn names (.Compare l [o1, o2] [r1, r2] pos) (.cmp2 o1 o2 a b c) := by
  intro A env g s ρ Kp Q E f h p
  refine Compare_chain (ha A env g s ρ _ _ E f h fun u h1 t1 d1 g1 k1 e1 x1 => ?_) hm
  refine chain_link (hb A env _ _ ρ _ _ E (f.ext e1 t1) k1 fun v h2 t2 d2 g2 k2 e2 x2 => ?_)
  refine cmp_ok e2.sub f.un (x1.up e2.grow) x2 k2 fun v3 h3 t3 d3 g3 k3 e3 x3 => ?_
  refine truth_ok x3 k3 fun t ht => ?_
  cases t with
  | false => exact (((p.ext e1 t1).ext e2 t2).ext e3 t3).here e3.sub ht x3
  | true =>
    refine chain_last (hc A env _ _ ρ _ _ E (((f.ext e1 t1).ext e2 t2).ext e3 t3) ht fun v4 h4 t4 d4 g4 k4 e4 x4 => ?_)
    exact cmp_ok e4.sub f.un ((x2.up e3.grow).up e4.grow) x4 k4 ((((p.ext e1 t1).ext e2 t2).ext e3 t3).ext e4 t4)
theorem OkT.cmp2 {o1 o2 : CmpOp} {l r1 r2 : Expr} {pos : Pos} {a b c : X} (ha : OkE prog w K mg mb n Γ scn names l a) (hb : OkE prog w K mg mb n Γ scn names r1 b) (hc : OkE prog w K mg mb n Γ scn names r2 c) (hm : lastMarks [o1, o2] [r1, r2] = false) :
    OkT prog w K mg mb n Γ scn names (.Compare l [o1, o2] [r1, r2] pos) (.cmp2 o1 o2 a b c) := by
  intro A env g s ρ Kp Q E f h k
  refine isTrue_chain (ha A env g s ρ _ _ E f h fun u h1 t1 d1 g1 k1 e1 x1 => ?_) hm
  refine test_link (hb A env _ _ ρ _ _ E (f.ext e1 t1) k1 fun v h2 t2 d2 g2 k2 e2 x2 => ?_)
  refine cmp_ok e2.sub f.un (x1.up e2.grow) x2 (cmpD_bool k2) fun v3 h3 t3 d3 g3 k3 e3 x3 => ?_
  obtain ⟨⟨b3, rfl⟩, k3⟩ := k3
  obtain rfl := x3.bool_inv
  refine wpAny_truthy_bool ?_
  cases b3 with
  | false => exact k _ _ _ _ k3 ((e1.trans e2).trans e3)
  | true =>
    refine test_last (hc A env _ _ ρ _ _ E (((f.ext e1 t1).ext e2 t2).ext e3 t3) k3 fun v4 h4 t4 d4 g4 k4 e4 x4 => ?_)
    refine cmp_ok e4.sub f.un ((x2.up e3.grow).up e4.grow) x4 k4 fun v5 h5 t5 d5 g5 k5 e5 x5 => ?_
    exact truth_ok x5 k5 fun c hc => k c _ _ _ hc ((((e1.trans e2).trans e3).trans e4).trans e5)

theorem OkE.one {op e pos} {a : X} (ha : OkE prog w K mg mb n Γ scn names e a) : OkE prog w K mg mb n Γ scn names (.BoolOp op [e] pos) a :=
  fun A env g s ρ Kp Q E f h p => BoolOp_one (ha A env g s ρ Kp Q E f h p)
theorem OkE.and {e e2 rest pos} {a b : X} (ha : OkE prog w K mg mb n Γ scn names e a) (hb : OkE prog w K mg mb n Γ scn names (.BoolOp .And (e2 :: rest) pos) b) :
    OkE prog w K mg mb n Γ scn names (.BoolOp .And (e :: e2 :: rest) pos) (.and a b) := by
  intro A env g s ρ Kp Q E f h p
  refine BoolOp_and (ha A env g s ρ _ _ E f h fun u h1 t1 d1 g1 k1 e1 x1 => truth_ok x1 k1 fun t ht => ?_)
  cases t with
  | false => exact (p.ext e1 t1).here e1.sub ht x1
  | true => exact hb A env _ _ ρ _ _ E (f.ext e1 t1) ht (p.ext e1 t1)
theorem OkE.or {e e2 rest pos} {a b : X} (ha : OkE prog w K mg mb n Γ scn names e a) (hb : OkE prog w K mg mb n Γ scn names (.BoolOp .Or (e2 :: rest) pos) b) :
    OkE prog w K mg mb n Γ scn names (.BoolOp .Or (e :: e2 :: rest) pos) (.or a b) := by
  intro A env g s ρ Kp Q E f h p
  refine BoolOp_or (ha A env g s ρ _ _ E f h fun u h1 t1 d1 g1 k1 e1 x1 => truth_ok x1 k1 fun t ht => ?_)
  cases t with
  | true => exact (p.ext e1 t1).here e1.sub ht x1
  | false => exact hb A env _ _ ρ _ _ E (f.ext e1 t1) ht (p.ext e1 t1)

/-- a test whatever the whole is -/
def OkTW (prog : Program) (w : World) (K : Frag) (mg mb : Str → Option Value) (n : Nat) (Γ : Nat → Sp) (scn : List (Str × NameKind)) (names : List Str) (e : Expr) (x : X) : Prop :=
  ∀ (whole : Sem Value) (A : Around) (env : Env) (g : Vw) (s : Shared) (ρ : En) (Kp : Bool → Prop) (Q : Bool → Shared → Prop) (E : Value → Shared → Prop),
    Fm K mg mb n scn names A env g s ρ → (vc Γ x ρ).2 Kp → PostT g s Kp Q → wpAny (model prog w) A (isTrue e env whole) Q E s
theorem OkTW.at {e : Expr} {x : X} (h : OkTW prog w K mg mb n Γ scn names e x) : OkT prog w K mg mb n Γ scn names e x := fun A env => h (eval e env) A env
theorem OkTW.and1 {e pos} {a : X} (ha : OkT prog w K mg mb n Γ scn names e a) : OkTW prog w K mg mb n Γ scn names (.BoolOp .And [e] pos) a := by
  intro whole A env g s ρ Kp Q E f h k
  refine isTrue_and (ha A env g s ρ _ _ E f h fun b h' tk g' hb e => ?_)
  cases b with
  | false => exact k _ _ _ _ hb e
  | true => exact isTrue_and_nil (k _ _ _ _ hb e)
theorem OkTW.or1 {e pos} {a : X} (ha : OkT prog w K mg mb n Γ scn names e a) : OkTW prog w K mg mb n Γ scn names (.BoolOp .Or [e] pos) a := by
  intro whole A env g s ρ Kp Q E f h k
  refine isTrue_or (ha A env g s ρ _ _ E f h fun b h' tk g' hb e => ?_)
  cases b with
  | true => exact k _ _ _ _ hb e
  | false => exact isTrue_or_nil (k _ _ _ _ hb e)
theorem OkTW.and {e rest pos} {a b : X} (ha : OkT prog w K mg mb n Γ scn names e a) (hb : OkTW prog w K mg mb n Γ scn names (.BoolOp .And rest pos) b) : OkTW prog w K mg mb n Γ scn names (.BoolOp .And (e :: rest) pos) (.and a b) := by
  intro whole A env g s ρ Kp Q E f h k
  refine isTrue_and (ha A env g s ρ _ _ E f h fun c h' tk g' hc e1 => ?_)
  cases c with
  | false => exact k _ _ _ _ hc e1
  | true => exact hb whole A env _ _ ρ _ _ E (f.ext e1 tk) hc (PostT.ext k e1 tk)
theorem OkTW.or {e rest pos} {a b : X} (ha : OkT prog w K mg mb n Γ scn names e a) (hb : OkTW prog w K mg mb n Γ scn names (.BoolOp .Or rest pos) b) : OkTW prog w K mg mb n Γ scn names (.BoolOp .Or (e :: rest) pos) (.or a b) := by
  intro whole A env g s ρ Kp Q E f h k
  refine isTrue_or (ha A env g s ρ _ _ E f h fun c h' tk g' hc e1 => ?_)
  cases c with
  | true => exact k _ _ _ _ hc e1
  | false => exact hb whole A env _ _ ρ _ _ E (f.ext e1 tk) hc (PostT.ext k e1 tk)

theorem OkE.ite {t a b : Expr} {pos : Pos} {c x y : X} (hc : OkT prog w K mg mb n Γ scn names t c) (ha : OkE prog w K mg mb n Γ scn names a x) (hb : OkE prog w K mg mb n Γ scn names b y) :
    OkE prog w K mg mb n Γ scn names (.IfExp t a b pos) (.ite c x y) := by
  intro A env g s ρ Kp Q E f h p
  refine IfExp_ (hc A env g s ρ _ _ E f h fun c h' tk g' hc e1 => ?_)
  cases c with
  | true => exact ha A env _ _ ρ _ _ E (f.ext e1 tk) hc (p.ext e1 tk)
  | false => exact hb A env _ _ ρ _ _ E (f.ext e1 tk) hc (p.ext e1 tk)
theorem OkT.ite {t a b : Expr} {pos : Pos} {c x y : X} (hc : OkT prog w K mg mb n Γ scn names t c) (ha : OkT prog w K mg mb n Γ scn names a x) (hb : OkT prog w K mg mb n Γ scn names b y) :
    OkT prog w K mg mb n Γ scn names (.IfExp t a b pos) (.ite c x y) := by
  intro A env g s ρ Kp Q E f h k
  refine isTrue_IfExp (hc A env g s ρ _ _ E f h fun c h' tk g' hc e1 => ?_)
  cases c with
  | true => exact ha A env _ _ ρ _ _ E (f.ext e1 tk) hc (PostT.ext k e1 tk)
  | false => exact hb A env _ _ ρ _ _ E (f.ext e1 tk) hc (PostT.ext k e1 tk)

/- lists of expressions -/
def starred : Expr → Bool
  | .Starred _ _ => true
  | _ => false
theorem starEach_of {e : Expr} {rest : List Expr} {env : Env} (h : starred e = false) : starEach (e :: rest) env = (false, eval e env) :: starEach rest env := by
  cases e <;> first | rfl | cases h
theorem OkL.nil : OkL prog w K mg mb n Γ scn names [] .nil := by
  intro A env g s ρ pos acc Kp Q E f h k
  refine args_nil (k [] [] s.heap s.toks g ?_ (.refl f.sub) .nil)
  rw [List.append_nil]; exact h
theorem OkL.cons {e : Expr} {rest : List Expr} {x : X} {l : XL} (hs : starred e = false) (he : OkE prog w K mg mb n Γ scn names e x) (hl : OkL prog w K mg mb n Γ scn names rest l) : OkL prog w K mg mb n Γ scn names (e :: rest) (.cons x l) := by
  intro A env g s ρ pos acc Kp Q E f h k
  refine args_cons (he A env g s ρ _ _ E f h fun v h1 t1 d1 g1 k1 e1 r1 => ?_) (starEach_of hs)
  refine hl A env _ _ ρ pos _ _ _ E (f.ext e1 t1) k1 fun vs ds h2 t2 g2 k2 e2 r2 => ?_
  rw [List.append_assoc] at k2
  exact k _ _ h2 t2 g2 k2 (e1.trans e2) (.cons (r1.up e2.grow) r2)

theorem put_self {g : Vw} {a : Addr} {o : Obj} : put g a o a = some o := by unfold put; rw [if_pos rfl]

theorem OkE.tup {es : List Expr} {k : Nat} {pos : Pos} {l : XL} (hl : OkL prog w K mg mb n Γ scn names es l) : OkE prog w K mg mb n Γ scn names (.Tuple es k pos) (.tup l) := by
  intro A env g s ρ Kp Q E f h p
  refine Tuple_ (hl A env g s ρ pos [] _ _ E f h fun vs ds h1 t1 g1 k1 e1 r1 => ?_)
  rw [List.nil_append] at k1
  have X := GX.push e1.sub (o := { cls := .type "tuple", data := .seq vs.toArray }) rfl
  refine wpAny_newObj_type (p _ _ _ _ _ k1.2 (e1.trans X) (.tuple (vs := vs.toArray) put_self rfl rfl (r1.up X.grow))) ?_
  show vs.toArray.size ≤ sizeLine
  rw [List.size_toArray, r1.length]
  exact sizeLine_big k1.1
theorem OkE.lst {es : List Expr} {pos : Pos} {l : XL} (hl : OkL prog w K mg mb n Γ scn names es l) : OkE prog w K mg mb n Γ scn names (.List es pos) (.lst l) := by
  intro A env g s ρ Kp Q E f h p
  refine List_ (hl A env g s ρ pos [] _ _ E f h fun vs ds h1 t1 g1 k1 e1 r1 => ?_)
  rw [List.nil_append] at k1
  have X := GX.push e1.sub (o := { cls := .type "list", data := .seq vs.toArray }) rfl
  refine wpAny_newObj_type (p _ _ _ _ _ k1.2 (e1.trans X) (.list (vs := vs.toArray) put_self rfl rfl (r1.up X.grow))) ?_
  show vs.toArray.size ≤ sizeLine
  rw [List.size_toArray, r1.length]
  exact sizeLine_big k1.1

def sliced : Expr → Bool
  | .Slice _ _ _ _ => true
  | _ => false
theorem sub_plain {e : Expr} {o i : Value} (h : sliced e = false) : subscripted e false o i = operate [o, i] (getItem o i) := by
  cases e <;> first | rfl | cases h
theorem seqIdx {i : Int} {len : Nat} (h0 : 0 ≤ i) (h : i.toNat < len) : seqIndex? i len = some i.toNat := by
  unfold seqIndex?
  have h1 : ¬ i < 0 := by omega
  simp only [h1, if_false]
  rw [if_pos]
  rw [Bool.and_eq_true]
  exact ⟨decide_eq_true h0, decide_eq_true (by omega)⟩

theorem OkE.idx {v e : Expr} {pos : Pos} {a b : X} (hs : sliced e = false) (ha : OkE prog w K mg mb n Γ scn names v a) (hb : OkE prog w K mg mb n Γ scn names e b) : OkE prog w K mg mb n Γ scn names (.Subscript v e pos) (.idx a b) := by
  intro A env g s ρ Kp Q E f h p
  refine Subscript_ (ha A env g s ρ _ _ E f h fun u h1 t1 d1 g1 k1 e1 r1 => ?_)
  refine hb A env _ _ ρ _ _ E (f.ext e1 t1) k1 fun v h2 t2 d2 g2 k2 e2 r2 => ?_
  have p2 := (p.ext e1 t1).ext e2 t2
  have r1 := r1.up e2.grow
  have s2 := e2.sub
  unfold idxD at k2
  split at k2
  · obtain ⟨t, rfl⟩ := r2.int_inv
    obtain ⟨h0, hhi, hk⟩ := k2
    split at hk
    · rename_i d hd
      obtain ⟨ta, vs, rfl, ht, rl, _⟩ := r1.tup_inv s2
      obtain ⟨x, hx, rx⟩ := rl.get hd
      have hlen := (List.getElem?_eq_some_iff.mp hx).1
      rw [Array.length_toList] at hlen
      exact tail_any (s := { s with heap := h2, toks := t2 }) ht.typeIs PyProof.Rows.slot_tuple_getitem.lookup (PyProof.Rows.getItem_tuple ht (by omega) (by omega) (seqIdx h0 hlen) (by simpa using hx) (p2.here s2 hk rx)) (sub_plain hs)
    · exact hk.elim
  · obtain ⟨t, rfl⟩ := r2.int_inv
    obtain ⟨h0, hhi, hk⟩ := k2
    split at hk
    · rename_i d hd
      obtain ⟨ta, vs, rfl, ht, rl, _⟩ := r1.lst_inv s2
      obtain ⟨x, hx, rx⟩ := rl.get hd
      exact tail_any (s := { s with heap := h2, toks := t2 }) ht.typeIs slot_list_getitem.lookup (wpAny_getItem_list ht h0 (by omega) (by simpa using hx) (p2.here s2 hk rx)) (sub_plain hs)
    · exact hk.elim
  · exact k2.elim

theorem GX.skip {h : Heap} {g : Vw} (s : Sub g h) (o : Obj) : GX h g (h.push o) g :=
  ⟨.of (Ext.push _), fun _ _ e => e, fun a p e => Heap.get?_push_of_some _ (s _ _ e), fun _ _ e => .inl e⟩

theorem OkE.tail {v : Expr} {k : Nat} {p1 p2 pos : Pos} {a : X} (ha : OkE prog w K mg mb n Γ scn names v a) (ht : ∀ o r, letTemporaryGo v o r = pure ()) :
    OkE prog w K mg mb n Γ scn names (.Subscript v (.Slice (some (.Constant (.int 1) k p1)) none none p2) pos) (.tail a) := by
  intro A env g s ρ Kp Q E f h p
  refine wpAny_Subscript_list_slice (ha A env g s ρ _ _ E f h fun u h1 t1 d1 g1 k1 e1 r1 => ?_) ht
  rw [evalPart_some, evalPart_none]
  refine wpAny_Constant_int (wpAny_pure ?_)
  unfold tailD at k1
  split at k1
  · rename_i d r
    obtain ⟨l, vs, rfl, hl, rl, _⟩ := r1.lst_inv e1.sub
    have hlen := rl.length
    rw [Array.length_toList, List.length_cons] at hlen
    have k2 := k1.1
    refine ⟨l, vs, some 1, none, rfl, hl, Nat.le_trans (show vs.size ≤ 1001 by omega) (by decide), .int _ _, .none, ?_⟩
    have X1 := GX.skip e1.sub { cls := .type "slice", data := .fields #[.int 1 t1, .none, .none] }
    have hp : slicePick vs (some 1) none none = (vs.toList.drop 1).toArray := slicePick_from vs 1 (by omega)
    rw [hp]
    have X2 := GX.push X1.sub (o := { cls := .type "list", data := .seq (vs.toList.drop 1).toArray }) rfl
    have rt : RdL g1 (vs.toList.drop 1) r := by
      generalize vs.toList = l at rl
      cases rl with | cons a b => exact b
    have X3 := X1.trans X2
    refine p _ _ _ _ _ k1.2 (e1.trans X3) (.list (o := { cls := .type "list", data := .seq (vs.toList.drop 1).toArray }) (vs := (vs.toList.drop 1).toArray) ?_ rfl rfl (rt.up X3.grow))
    rw [Heap.size_push]
    exact put_self
  · exact k1.elim

theorem OkE.call (T : TbOK prog w K mg mb n Γ tb) {x : Str} {p1 pos : Pos} {e : Expr} {es : List Expr} {l : XL} {a : Nat} (hl : scn.lookup x = some .globalImplicit) (hd : (x == ("__debug__" : Str)) = false) (hi : tb.lookup x = some (.fn a)) (hs : starred e = false)
    (ha : OkL prog w K mg mb n Γ scn names (e :: es) l) : OkE prog w K mg mb n Γ scn names (.Call (.Name x p1) (e :: es) [] pos) (.call a l) := by
  intro A env g s ρ Kp Q E f h p
  obtain ⟨hv, c, dd, fd, sl, hk⟩ := T.fn x a hi
  have G := f.gr.hold _ f.sub
  refine Call_ (Name_function_global f.ev.hk (by unfold Env.kindOf; rw [f.ev.hn]; exact hl) (loadGlobal_global (by rw [f.ev.hg]; exact G.g) (mg_of G.X G.g hv) ?_) hd)
  have step := ha A env g s ρ pos [] _ (fun vs s₁ => (s₁.heap.get? a = some ⟨c, dd, .func fd, sl⟩ ∧ (Data.func fd = Data.func fd)) ∧ wpAny (model prog w) A (PySem.call (.ref a) ([] ++ vs)) Q E s₁) E f h fun vs ds h1 t1 g1 k1 e1 r1 => ⟨⟨(f.gr.up e1.grow |>.hold _ e1.sub).X _ _ hk, rfl⟩, T.ok a A _ _ _ _ _ _ _ f.rm (f.fro.ext e1) e1.sub (f.gr.up e1.grow) r1 k1 (p.ext e1 t1)⟩
  rw [starEach_of hs] at step ⊢
  exact callWith_function (o := ⟨c, dd, .func fd, sl⟩) (fd := fd) (evalArgs_plain step)

theorem builtin_name (T : TbOK prog w K mg mb n Γ tb) {A : Around} {env : Env} {g : Vw} {s : Shared} {ρ : En} {Q E : Value → Shared → Prop} (f : Fm K mg mb n scn names A env g s ρ) {x : Str} {b : String} {p1 : Pos} (hl : scn.lookup x = some .globalImplicit) (hd : (x == ("__debug__" : Str)) = false) (hi : tb.lookup x = some (.bt b))
    (h : Q (.builtin b) s) : wpAny (model prog w) A (eval (.Name x p1) env) Q E s := by
  obtain ⟨hv, hb, hn⟩ := T.bt x b hi
  have G := f.gr.hold _ f.sub
  exact Name_function_global f.ev.hk (by unfold Env.kindOf; rw [f.ev.hn]; exact hl) (loadGlobal_builtin (by rw [f.ev.hg]; exact G.g) (mg_none_of G.X G.g hv) (by rw [f.ev.hb]; exact G.b) ((G.bt x hn).trans hb) h) hd

theorem builtin1 {A : Around} {env : Env} {s : Shared} {Q E : Value → Shared → Prop} {b : String} {e : Expr} {pos : Pos} (hs : starred e = false)
    (h : wpAny (model prog w) A (eval e env) (fun v s₁ => wpAny (model prog w) A (PySem.call (.builtin b) [v]) Q E s₁) E s) : wpAny (model prog w) A (callWith pos (.builtin b) [] (backTo pos (starEach [e] env)) []) Q E s := by
  rw [starEach_of hs]
  exact Calls.callWith_builtin rfl (Calls.evalArgs_plain (Calls.spliced_cons (wpAny_mono h (fun _ _ h₁ => Calls.spliced_nil h₁) fun _ _ e => e)))
theorem builtin2 {A : Around} {env : Env} {s : Shared} {Q E : Value → Shared → Prop} {b : String} {e e2 : Expr} {pos : Pos} (hs : starred e = false) (hs2 : starred e2 = false)
    (h : wpAny (model prog w) A (eval e env) (fun v s₁ => wpAny (model prog w) A (eval e2 env) (fun u s₂ => wpAny (model prog w) A (PySem.call (.builtin b) [v, u]) Q E s₂) E s₁) E s) : wpAny (model prog w) A (callWith pos (.builtin b) [] (backTo pos (starEach [e, e2] env)) []) Q E s := by
  rw [starEach_of hs, starEach_of hs2]
  exact Calls.callWith_builtin rfl (Calls.evalArgs_plain (Calls.spliced_cons (wpAny_mono h (fun _ _ h₁ => Calls.spliced_cons (wpAny_mono h₁ (fun _ _ h₂ => Calls.spliced_nil h₂) fun _ _ e => e)) fun _ _ e => e)))

theorem OkE.len (T : TbOK prog w K mg mb n Γ tb) {x : Str} {p1 pos : Pos} {e : Expr} {a : X} (hl : scn.lookup x = some .globalImplicit) (hd : (x == ("__debug__" : Str)) = false) (hi : tb.lookup x = some (.bt "len")) (hs : starred e = false)
    (ha : OkE prog w K mg mb n Γ scn names e a) : OkE prog w K mg mb n Γ scn names (.Call (.Name x p1) [e] [] pos) (.len a) := by
  intro A env g s ρ Kp Q E f h p
  refine Call_ (builtin_name T f hl hd hi (builtin1 hs (ha A env g s ρ _ _ E f h fun u h1 t1 d1 g1 k1 e1 r1 => ?_)))
  unfold lenD at k1
  split at k1
  · obtain ⟨l, vs, rfl, hl, rl, _⟩ := r1.lst_inv e1.sub
    have hlen := rl.length
    rw [Array.length_toList] at hlen
    have k2 := k1.1
    refine PyProof.Rows.len_list hl (by omega) ?_
    rw [hlen]
    exact (p.ext e1 t1).tok e1.sub k1.2 (.int _ _)
  · exact k1.elim
theorem OkE.abs (T : TbOK prog w K mg mb n Γ tb) {x : Str} {p1 pos : Pos} {e : Expr} {a : X} (hl : scn.lookup x = some .globalImplicit) (hd : (x == ("__debug__" : Str)) = false) (hi : tb.lookup x = some (.bt "abs")) (hs : starred e = false)
    (ha : OkE prog w K mg mb n Γ scn names e a) : OkE prog w K mg mb n Γ scn names (.Call (.Name x p1) [e] [] pos) (.abs a) := by
  intro A env g s ρ Kp Q E f h p
  refine Call_ (builtin_name T f hl hd hi (builtin1 hs (ha A env g s ρ _ _ E f h fun u h1 t1 d1 g1 k1 e1 r1 => ?_)))
  unfold absD at k1
  split at k1
  · obtain ⟨t, rfl⟩ := r1.int_inv
    exact call_abs_int fun u tk => (p.ext e1 t1).tok e1.sub k1 (.int _ _)
  · exact k1.elim
theorem OkE.divmod (T : TbOK prog w K mg mb n Γ tb) {x : Str} {p1 pos : Pos} {e e2 : Expr} {a b : X} (hl : scn.lookup x = some .globalImplicit) (hd : (x == ("__debug__" : Str)) = false) (hi : tb.lookup x = some (.bt "divmod")) (hs : starred e = false) (hs2 : starred e2 = false)
    (ha : OkE prog w K mg mb n Γ scn names e a) (hb : OkE prog w K mg mb n Γ scn names e2 b) : OkE prog w K mg mb n Γ scn names (.Call (.Name x p1) [e, e2] [] pos) (.divmod a b) := by
  intro A env g s ρ Kp Q E f h p
  refine Call_ (builtin_name T f hl hd hi (builtin2 hs hs2 (ha A env g s ρ _ _ E f h fun u h1 t1 d1 g1 k1 e1 r1 => ?_)))
  refine hb A env _ _ ρ _ _ E (f.ext e1 t1) k1 fun v h2 t2 d2 g2 k2 e2 r2 => ?_
  unfold divmodD at k2
  split at k2
  · rename_i ia ib
    obtain ⟨t, rfl⟩ := r1.int_inv
    obtain ⟨t', rfl⟩ := r2.int_inv
    have X := GX.push e2.sub (o := { cls := .type "tuple", data := .seq #[.int (Int.fdiv ia ib) t2, .int (Int.fmod ia ib) (t2 + 1)] }) rfl
    exact divmod_int k2.1 (p _ _ _ _ _ k2.2.2 ((e1.trans e2).trans X) (.tuple put_self rfl rfl (.cons (.int _ _) (.cons (.int _ _) .nil)))) (.inl k2.2.1)
  · exact k2.elim

theorem OkE.bitlen {o : Expr} {p1 pos : Pos} {a : X} (hbase : ∀ env, attributeBase o (Str.ofString "bit_length") env (eval o env) = eval o env) (hline : (p1.endLine == pos.line) = true)
    (ha : OkE prog w K mg mb n Γ scn names o a) : OkE prog w K mg mb n Γ scn names (.Call (.Attribute o (Str.ofString "bit_length") p1) [] [] pos) (.bitlen a) := by
  intro A env g s ρ Kp Q E f h p
  refine Call_method0 (hbase env) hline (ha A env g s ρ _ _ E f h fun u h1 t1 d1 g1 k1 e1 r1 => ?_)
  unfold bitlenD at k1
  split at k1
  · obtain ⟨t, rfl⟩ := r1.int_inv
    refine ⟨"int", "int.bit_length", PySem.F.plainAttrs_int, PySem.F.slot_int_bit_length, PySem.F.type_int_bit_length, typeIs_int _ _ _, (fun _ e => nomatch e), ?_⟩
    refine Calls.callWith_builtin rfl (evalArgs_nil3 ?_)
    exact call_int_bit_length ((p.ext e1 t1).tok e1.sub k1 (.int _ _))
  · exact k1.elim

theorem OkE.sd (T : TbOK prog w K mg mb n Γ tb) {x : Str} {p0 p1 p2 : Pos} {ex1 ex2 : Expr} {a b : X} (hx : x = Str.ofString "shifts_down") (hl : scn.lookup x = some .globalImplicit) (hd : (x == ("__debug__" : Str)) = false) (hs1 : sliced ex1 = false) (hs2 : sliced ex2 = false)
    (ha : OkE prog w K mg mb n Γ scn names ex1 a) (hb : OkE prog w K mg mb n Γ scn names ex2 b) : OkE prog w K mg mb n Γ scn names (.Subscript (.Subscript (.Name x p0) ex1 p1) ex2 p2) (.sd a b) := by
  intro A env g s ρ Kp Q E f h p
  subst hx
  obtain ⟨ad, es, nn, hv, hk, hlit, ht⟩ := T.sd
  have G := f.gr.hold _ f.sub
  refine Subscript_ (Subscript_ (Name_function_global f.ev.hk (by unfold Env.kindOf; rw [f.ev.hn]; exact hl) (loadGlobal_global (by rw [f.ev.hg]; exact G.g) (mg_of G.X G.g hv) ?_) hd))
  refine ha A env g s ρ _ _ E f h fun u h1 t1 d1 g1 k1 e1 r1 => ?_
  cases d1 with
  | str r =>
    obtain ⟨tk1, rfl⟩ := r1.str_inv
    have X1 := ((f.gr.up e1.grow).hold _ e1.sub).X
    -- whatever the key is
    have go : ∀ (r' : String) (i j : Int), r = Str.ofString r' → (r', i, j) ∈ ([("f", 1, 0), ("c", 0, 1), ("d", 1, 1), ("u", 0, 0)] : List (String × Int × Int)) →
        ((vc Γ b ρ).1 fun y => pickD i j y Kp) →
        wpAny (model prog w) A (subscriptTail (.Name (Str.ofString "shifts_down") p0) ex1 (.ref ad) (.str r tk1)) (fun o s₁ => wpAny (model prog w) A (eval ex2 env) (fun i s₂ => wpAny (model prog w) A (subscriptTail (.Subscript (.Name (Str.ofString "shifts_down") p0) ex1 p1) ex2 o i) Q E s₂) E s₁) E { s with heap := h1, toks := t1 } := by
      intro r' i j hr hm hq
      obtain ⟨bb, dd, m, sl, t, u, hb1, hb2⟩ := ht r' i j hm
      have hmo := mapOf_K (prog := prog) X1 hk hlit
      refine tail_any (s := { s with heap := h1, toks := t1 }) hmo.typeIs slot_dict_getitem.lookup (wpAny_getItem_of (strKind_is prog w r tk1) hmo (find_K hk (by rw [hr]; exact hb1)) ?_) (sub_plain hs1)
      refine hb A env _ _ ρ _ _ E (f.ext e1 (t1 + 1)) hq fun v h2 t2 d2 g2 k2 e2 r2 => ?_
      have X2 := ((f.gr.up (e1.trans e2).grow).hold _ e2.sub).X
      have tp := tupK (h := h2) X2 hb2
      have p2 := (p.ext e1 (t1 + 1)).ext e2 t2
      cases d2 with
      | int q =>
        obtain ⟨tk2, rfl⟩ := r2.int_inv
        rcases k2 with ⟨rfl, hq⟩ | ⟨rfl, hq⟩
        · exact tail_any (s := { s with heap := h2, toks := t2 }) tp.typeIs PyProof.Rows.slot_tuple_getitem.lookup (PyProof.Rows.getItem_tuple tp (by decide) (by decide) (j := 0) rfl rfl (p2.here e2.sub hq (.int _ _))) (sub_plain hs2)
        · exact tail_any (s := { s with heap := h2, toks := t2 }) tp.typeIs PyProof.Rows.slot_tuple_getitem.lookup (PyProof.Rows.getItem_tuple tp (by decide) (by decide) (j := 1) rfl rfl (p2.here e2.sub hq (.int _ _))) (sub_plain hs2)
      | _ => exact k2.elim
    rcases k1 with ⟨hr, hq⟩ | ⟨hr, hq⟩ | ⟨hr, hq⟩ | ⟨hr, hq⟩
    · exact go _ _ _ hr (.head _) hq
    · exact go _ _ _ hr (.tail _ (.head _)) hq
    · exact go _ _ _ hr (.tail _ (.tail _ (.head _))) hq
    · exact go _ _ _ hr (.tail _ (.tail _ (.tail _ (.head _)))) hq
  | _ => exact k1.elim
end
end Mine

end
section
open PySem PySem.W PySem.Calls PyProof.Rows
namespace Mine

theorem GX.but {h0 h h' : Heap} {g0 g : Vw} (x : GX h0 g0 h g) {b : Addr} (hb : h0.get? b = none) (hg : g b = none) (k : ∀ a o, a ≠ b → h.get? a = some o → h'.get? a = some o) : GX h0 g0 h' g :=
  ⟨fun a o e => let ⟨sl, y, c⟩ := x.keep a o e; ⟨sl, k a _ (by rintro rfl; rw [hb] at e; cases e) y, c⟩, x.grow, fun a o e => k a o (by rintro rfl; rw [hg] at e; cases e) (x.sub a o e), x.new⟩
theorem Sub.fresh {g : Vw} {h : Heap} (s : Sub g h) {b : Addr} (hb : h.objs.size ≤ b) : g b = none := by
  cases q : g b with
  | none => rfl
  | some o' => exact absurd (Heap.lt_size (s _ _ q)) (Nat.not_lt.mpr hb)
theorem heap_fresh {h : Heap} {b : Addr} (hb : h.objs.size ≤ b) : h.get? b = none := by
  cases q : h.get? b with
  | none => rfl
  | some o' => exact absurd (Heap.lt_size q) (Nat.not_lt.mpr hb)

def scopeOK (scope : Scope) : Bool :=
  scope.kind == .function && scope.names.all fun x => x.2 != .free && x.2 != .cell && (x.2 != .local || scope.names.lookup x.1 == some .local)
theorem scopeOK.kind {scope : Scope} (h : scopeOK scope = true) : scope.kind = .function := by
  unfold scopeOK at h
  simp only [Bool.and_eq_true, beq_iff_eq] at h
  exact h.1
theorem scopeOK.free {scope : Scope} (h : scopeOK scope = true) : ∀ x ∈ scope.names, x.2 ≠ .free := by
  unfold scopeOK at h
  simp only [Bool.and_eq_true, List.all_eq_true] at h
  intro x hx
  have := (h.2 x hx).1.1
  simpa using this
theorem scopeOK.cell {scope : Scope} (h : scopeOK scope = true) : ∀ x ∈ scope.names, x.2 ≠ .cell := by
  unfold scopeOK at h
  simp only [Bool.and_eq_true, List.all_eq_true] at h
  intro x hx
  have := (h.2 x hx).1.2
  simpa using this
theorem scopeOK.names {scope : Scope} (h : scopeOK scope = true) : ∀ x ∈ scope.names, x.2 = .local → scope.names.lookup x.1 = some .local := by
  unfold scopeOK at h
  simp only [Bool.and_eq_true, List.all_eq_true] at h
  intro x hx hl
  have := (h.2 x hx).2
  simpa [hl] using this

section
variable {prog : Program} {w : World} {K : Frag} {mg mb : Str → Option Value} {n : Nat} {Γ : Nat → Sp} {scn : List (Str × NameKind)} {names : List Str} {tb : List (Str × GI)}

theorem iter_list_nodict {I src : Addr} {i : Nat} {items : Array Value} {h : Heap} (st : h.IsListIter I src i ∧ h.IsList src items) : ∀ b ∈ [I, src], ∀ o, h.get? b = some o → ∀ es ep, o.data ≠ .dict es ep := by
  intro b hb o e es ep q
  obtain ⟨⟨o1, a1, _, c1⟩, ⟨o2, a2, _, n2, c2⟩⟩ := st
  rcases List.mem_cons.mp hb with rfl | hb
  · rw [a1] at e; cases e; rw [c1] at q; cases q
  · obtain rfl := List.mem_singleton.mp hb; rw [a2] at e; cases e; rw [c2] at q; cases q
theorem iter_tuple_nodict {I src : Addr} {i : Nat} {items : Array Value} {h : Heap} (st : h.IsTupleIter I src i ∧ h.IsTuple src items) : ∀ b ∈ [I, src], ∀ o, h.get? b = some o → ∀ es ep, o.data ≠ .dict es ep := by
  intro b hb o e es ep q
  obtain ⟨⟨o1, a1, _, c1⟩, ⟨o2, a2, _, n2, c2⟩⟩ := st
  rcases List.mem_cons.mp hb with rfl | hb
  · rw [a1] at e; cases e; rw [c1] at q; cases q
  · obtain rfl := List.mem_singleton.mp hb; rw [a2] at e; cases e; rw [c2] at q; cases q

/-- the state between two turns of a comprehension -/
def CompAt (C D I : Addr) (h0 : Heap) (g0 : Vw) (St : Nat → Heap → Prop) (s : Shared) (i : Nat) (rs : List PyData) (s' : Shared) : Prop :=
  ∃ h tk g' m ys, s' = { s with heap := h, toks := tk } ∧ St i h ∧ h.Ns C m ∧ h.IsList D ys ∧ RdL g' ys.toList rs ∧ GX h0 g0 h g' ∧ g' I = none ∧ g' C = none ∧ g' D = none

theorem list_keep {h h' : Heap} {D : Addr} {ys : Array Value} (x : h.IsList D ys) (k : ∀ o, h.get? D = some o → h'.get? D = some o) : h'.IsList D ys := let ⟨o, a, r⟩ := x; ⟨o, k _ a, r⟩
theorem list_kp {h h' : Heap} {D : Addr} {ys : Array Value} (x : h.IsList D ys) (k : Keep h h') : h'.IsList D ys := let ⟨o, a, b, n, c⟩ := x; ⟨o, k.exact a (fun es ep q => by rw [c] at q; cases q), b, n, c⟩
theorem ns_keep {h h' : Heap} {C : Addr} {m : Str → Option Value} (x : h.Ns C m) (k : ∀ o, h.get? C = some o → h'.get? C = some o) : h'.Ns C m := x.at' k

/-- from the iterable to the loop -/
theorem comp_open {A : Around} {env : Env} {g : Vw} {s : Shared} {E : Value → Shared → Prop} {RR : Value → Env → Result → Shared → Prop} {elt target iter : Expr} {scope : Scope} {pos : Pos} {I : Addr} {St : Nat → Heap → Prop} {nn : Nat} {P : Nat → Value → Prop} {src : Addr}
    (hsc : scopeOK scope = true) (hsub : Sub g s.heap) (W : Walks prog w A I [I, src] [I] nn P St) (hst : St 0 s.heap) (hI : ∃ o, s.heap.get? I = some o) (hgI : g I = none) (hsrc : ∃ o, g src = some o)
    (hrd : Rm A n) (hg : env.globals = mainGlobals) (hb : env.builtins = builtinsNs)
    (hloop : ∀ C D h tk cenv, C ≠ D → C ≠ I → D ≠ I → C ≠ src → D ≠ src → s.heap.get? C = none → s.heap.get? D = none → Ev scope.names cenv → cenv.locals = C → cenv.scope = scope →
      CompAt C D I (s.heap.hide I) g St s 0 [] { s with heap := h, toks := tk } →
      codeAny (model prog w) A (.compLoop (.ListComp elt [⟨target, iter, [], 0⟩] scope pos) 0 (.ref I) (.ref D) cenv)
        (RR (.ref D) cenv) { s with heap := h, toks := tk }) :
    wpAny (model prog w) A (newList []) (fun acc s₃ =>
      wpAny (model prog w) A (newFunctionEnv scope env.globals [] [] env.qual none .none (some env)) (fun cenv s₄ =>
        codeAny (model prog w) A (.compStart (.ListComp elt [⟨target, iter, [], 0⟩] scope pos) 0 (.ref I) acc { cenv with scope := scope })
          (RR acc { cenv with scope := scope }) s₄) E s₃) E s := by
  obtain ⟨oI, hoI⟩ := hI
  obtain ⟨oS, hoS⟩ := hsrc
  have hIlt := Heap.lt_size hoI
  have hSlt := Heap.lt_size (hsub _ _ hoS)
  refine wpAny_newObj_type (wpAny_newFunctionEnv (scopeOK.cell hsc) (by intro y hy; simp at hy) (fun h₁ hns₁ hsb₁ => ?_) (scopeOK.kind hsc))
  dsimp only at hns₁ hsb₁ ⊢
  generalize hH2 : s.heap.push { cls := .type "list", dict := none, data := .seq ([] : List Value).toArray } = H2 at hns₁ hsb₁ ⊢
  have hC : H2.objs.size = s.heap.objs.size + 1 := by rw [← hH2, Heap.size_push]
  have old : ∀ b o, s.heap.get? b = some o → h₁.get? b = some o := fun b o e =>
    hsb₁.extBut b o (by rw [hC]; exact Nat.ne_of_lt (Nat.lt_succ_of_lt (Heap.lt_size e))) (Heap.get?_push_of_some _ (hH2 ▸ Heap.get?_push_of_some _ e))
  have hD : h₁.IsList s.heap.objs.size #[] := ⟨_, hsb₁.extBut _ _ (by rw [hC]; exact Nat.ne_of_lt (Nat.lt_succ_self _)) (Heap.get?_push_of_some _ (hH2 ▸ Heap.get?_push_size _ rfl)), rfl, _, rfl⟩
  have hst₁ : St 0 h₁ := W.frame _ _ _ hst fun b _ o e => old b o e
  have cat : CompAt H2.objs.size s.heap.objs.size I (s.heap.hide I) g St s 0 [] { s with heap := h₁, toks := s.toks + ([] : List (Str × Value)).length } :=
    ⟨h₁, _, g, _, #[], rfl, hst₁, hns₁, hD, .nil, ⟨.of fun b o e => old b o (Heap.of_hide e), fun _ _ e => e, fun a o e => old a o (hsub a o e), fun _ _ e => .inl e⟩, hgI, hsub.fresh (by rw [hC]; exact Nat.le_succ _), hsub.fresh (Nat.le_refl _)⟩
  have lp := hloop H2.objs.size s.heap.objs.size h₁ (s.toks + ([] : List (Str × Value)).length) ({ newEnv scope H2.objs.size env.globals [] env.qual none .none (some env) builtinsNs with scope := scope }) (by rw [hC]; exact Nat.ne_of_gt (Nat.lt_succ_self _)) (by rw [hC]; exact Nat.ne_of_gt (Nat.lt_succ_of_lt hIlt)) (Nat.ne_of_gt hIlt) (by rw [hC]; exact Nat.ne_of_gt (Nat.lt_succ_of_lt hSlt)) (Nat.ne_of_gt hSlt)
    (heap_fresh (by rw [hC]; exact Nat.le_succ _)) (heap_fresh (Nat.le_refl _)) ⟨rfl, scopeOK.kind hsc, hg, hb⟩ rfl rfl cat
  exact codeAny_compStart_list lp (W.self 0 _ _ _ hst₁ lp)

theorem drop_cons {α : Type} {l : List α} {i : Nat} {d : α} (h : l[i]? = some d) : l.drop i = d :: l.drop (i + 1) := by
  obtain ⟨hi, e⟩ := List.getElem?_eq_some_iff.mp h
  rw [List.drop_eq_getElem_cons hi, e]

theorem comp1_loop {A : Around} {g : Vw} {s : Shared} {R : Result → Shared → Prop} {elt iter : Expr} {x : Str} {px : Pos} {scope : Scope} {pos : Pos} {I C D src : Addr} {St : Nat → Heap → Prop} {items : Array Value} {ds : List PyData} {cenv : Env} {Kl : List PyData → Prop} {h0 : Heap} {xe : X}
    (W : Walks prog w A I [I, src] [I] items.size (fun i v => items[i]? = some v) St) (rl : RdL g items.toList ds) (hz : ds.length ≤ 1000)
    (hCD : C ≠ D) (hCI : C ≠ I) (hDI : D ≠ I) (hC0 : h0.get? C = none) (hD0 : h0.get? D = none) (hI0 : h0.get? I = none) (ev : Ev scope.names cenv) (hL : cenv.locals = C) (hsrc : ∃ o, g src = some o) (hgr : Gr K mg mb g)
    (hrm : Rm A n) (hx : scope.names.lookup x = some .local) (he : OkE prog w K mg mb n Γ scope.names [x] elt xe) (hlive : ∀ i h, St i h → ∃ o, h.get? I = some o) (hdict : ∀ i h, St i h → ∀ b ∈ [I, src], ∀ o, h.get? b = some o → ∀ es ep, o.data ≠ .dict es ep) (hfro : Fro A h0 g)
    (hQ : ∀ rs h' tk g' m, Kl rs → GX h0 g h' g' → Rd g' (.ref D) (.list rs) → h'.Ns C m → g' C = none → R (.ok .next) { s with heap := h', toks := tk }) :
    ∀ (k : Nat) (s' : Shared), (∃ i rs, k = items.size + 1 - i ∧ i ≤ items.size ∧ rs.length = i ∧ CompAt C D I h0 g St s i rs s' ∧ mapD (fun d K' => (vc Γ xe [some d]).1 K') (ds.drop i) rs Kl) →
    codeAny (model prog w) A (.compLoop (.ListComp elt [⟨.Name x px, iter, [], 0⟩] scope pos) 0 (.ref I) (.ref D) cenv)
        R s' := by
  intro k s' hI
  have hlen := rl.length
  rw [Array.length_toList] at hlen
  refine codeAny_compLoop_list (fun k s' => ∃ i rs, k = items.size + 1 - i ∧ i ≤ items.size ∧ rs.length = i ∧ CompAt C D I h0 g St s i rs s' ∧ mapD (fun d K' => (vc Γ xe [some d]).1 K') (ds.drop i) rs Kl) ?_ k hI
  rintro k s' ⟨i, rs, rfl, hi, hri, ⟨h, tk, g', m, ys, rfl, hst, hns, hli, hrs, X, gI, gC, gD⟩, hm⟩
  obtain ⟨oS, hS⟩ := hsrc
  by_cases hlt : i < items.size
  · refine W.item i _ _ _ hlt hst fun v h1 t1 hv hst1 hk1 => ?_
    obtain ⟨d, hd, rd⟩ := rl.get' (i := i) (v := v) (by simpa using hv)
    rw [drop_cons hd] at hm
    have X1 := X.but hI0 gI (h' := h1) fun a o ne e => hk1 a o (by simpa using ne) e
    have hns1 : h1.Ns C m := hns.at' fun o e => hk1 C o (by simpa using hCI) e
    have hli1 : h1.IsList D ys := list_keep hli fun o e => hk1 D o (by simpa using hDI) e
    refine wpAny_assign_Name (wpAny_storeName_local (m := m) (by unfold Env.kindOf; rw [ev.hn]; exact hx) (by rw [hL]; exact hns1) (fun h2 hns2 hsb2 => ?_) (by rw [ev.hk]; rfl))
    rw [hL] at hns2 hsb2
    have X2 := X1.but hC0 gC (h' := h2) fun a o ne e => hsb2.extBut a o ne e
    have hli2 : h2.IsList D ys := list_keep hli1 fun o e => hsb2.extBut D o (Ne.symm hCD) e
    have hstK : ∀ b o, b ≠ C → h1.get? b = some o → h2.get? b = some o := fun b o ne e => hsb2.extBut b o ne e
    have hSC : src ≠ C := by rintro rfl; rw [X.grow _ _ hS] at gC; cases gC
    have hSD : src ≠ D := by rintro rfl; rw [X.grow _ _ hS] at gD; cases gD
    have hst2 : St (i + 1) h2 := W.frame _ _ _ hst1 fun b hb o e => by
      rcases List.mem_cons.mp hb with rfl | hb
      · exact hstK b o (Ne.symm hCI) e
      · obtain rfl := List.mem_singleton.mp hb; exact hstK b o hSC e
    refine he A cenv g' { s with heap := h2, toks := t1 + 1 } [some d] _ _ _ ⟨hrm, hfro.ext X2, ev, X2.sub, hgr.up X.grow, ⟨_, by rw [hL]; exact hns2, ?_⟩⟩ hm fun y h3 t3 dy g3 k3 e3 r3 => ?_
    · intro j z d' hj hd'
      cases j with
      | zero =>
        simp at hj hd'
        subst hj; subst hd'
        exact ⟨v, by simp, rd.up X.grow⟩
      | succ j => simp at hj
    have hns3 : h3.Ns C _ := e3.keep.ns hns2
    have hli3 : h3.IsList D ys := list_kp hli2 e3.keep
    obtain ⟨oI2, hoI2⟩ := hlive _ _ hst2
    obtain ⟨oC2, _, _, hoC2, _⟩ := id hns2
    obtain ⟨oD2, hoD2, _⟩ := id hli2
    have gI3 := e3.fresh hoI2 gI
    have gC3 := e3.fresh hoC2 gC
    have gD3 := e3.fresh hoD2 gD
    have X3 := X2.trans e3
    have hys := hrs.length
    rw [Array.length_toList] at hys
    refine wpAny_list_append (s := { s with heap := h3, toks := t3 }) hli3 (fun h4 hli4 hsb4 => ?_) (sizeLine_big (by omega))
    have X4 := X3.but hD0 gD3 (h' := h4) fun a o ne e => hsb4.extBut a o ne e
    refine ⟨items.size + 1 - (i + 1), by omega, i + 1, rs ++ [dy], rfl, hlt, by rw [List.length_append, hri]; rfl, ⟨h4, t3, g3, _, ys.push y, rfl, ?_, hns3.at' fun o e => hsb4.extBut C o hCD e, hli4, ?_, X4, gI3, gC3, gD3⟩, k3⟩
    · refine W.frame _ _ _ hst2 fun b hb o e => hsb4.extBut b o ?_ (e3.keep.exact e (hdict _ _ hst2 b hb o e))
      rcases List.mem_cons.mp hb with rfl | hb
      · exact Ne.symm hDI
      · obtain rfl := List.mem_singleton.mp hb; exact hSD
    · rw [Array.toList_push]
      exact (hrs.up e3.grow).snoc r3
  · obtain rfl : i = items.size := by omega
    refine W.done _ _ _ hst fun h1 t1 hk1 => ?_
    have X1 := X.but hI0 gI (h' := h1) fun a o ne e => hk1 a o (by simpa using ne) e
    have hns1 : h1.Ns C m := hns.at' fun o e => hk1 C o (by simpa using hCI) e
    have hli1 : h1.IsList D ys := list_keep hli fun o e => hk1 D o (by simpa using hDI) e
    obtain ⟨oD, hoD, hcD, nD, hdD⟩ := id hli1
    rw [List.drop_eq_nil_of_le (by omega)] at hm
    have gg : ∀ a o, g' a = some o → put g' D oD a = some o := fun a o e => by
      unfold put; rw [if_neg]; exact e
      rintro rfl; rw [gD] at e; cases e
    refine hQ rs h1 t1 (put g' D oD) m hm ⟨X1.keep, fun a o e => gg _ _ (X1.grow _ _ e), fun a o e => ?_, fun a o e => ?_⟩ (.list put_self hcD hdD (hrs.up gg)) hns1 (by unfold put; rw [if_neg hCD]; exact gC)
    · unfold put at e
      split at e
      · rename_i q; subst q; cases e; exact hoD
      · exact X1.sub _ _ e
    · unfold put at e
      split at e
      · rename_i q; subst q; exact .inr hD0
      · exact X1.new _ _ e

theorem sub_hide {g : Vw} {h : Heap} {I : Addr} (s : Sub g h) (hI : g I = none) : Sub g (h.hide I) := fun a o e => (Heap.hide_ne h (fun q : a = I => by rw [q, hI] at e; cases e)).trans (s a o e)

def setE : Expr → Bool
  | .Set _ _ _ => true
  | _ => false
theorem folded_of {iter : Expr} (h : setE iter = false) (env : Env) (x : Value) : foldedSetIterable iter env x = pure x := by
  cases iter <;> first | rfl | cases h

theorem OkE.comp1 {elt iter : Expr} {x : Str} {px : Pos} {scope : Scope} {pos : Pos} {xe xs : X} (hsc : scopeOK scope = true) (hx : scope.names.lookup x = some .local) (hit : setE iter = false) (hi : OkE prog w K mg mb n Γ scn names iter xs) (he : OkE prog w K mg mb n Γ scope.names [x] elt xe) :
    OkE prog w K mg mb n Γ scn names (.ListComp elt [⟨.Name x px, iter, [], 0⟩] scope pos) (.comp1 xe xs) := by
  intro A env g s ρ Kp Q E f h p
  refine wpAny_ListComp (scopeOK.free hsc) (scopeOK.kind hsc) (scopeOK.names hsc) (hi A env g s ρ _ _ E f h fun u h1 t1 d1 g1 k1 e1 r1 => ?_) (folded_of hit env)
  unfold itemsD at k1
  have hh := f.rm.hh
  split at k1
  · rename_i l
    obtain ⟨src, vs, rfl, ht, rl, hsrc⟩ := r1.tup_inv e1.sub
    refine iter_tuple (s := { s with heap := h1, toks := t1 }) ht ?_
    have hlt : src < h1.objs.size := ht.lt
    have P1 := GX.skip e1.sub { cls := .type "tuple_iterator", data := .fields #[.ref src, .int 0 0] }
    have gI : g1 h1.objs.size = none := e1.sub.fresh (Nat.le_refl _)
    have W := Walks.tuple (prog := prog) (w := w) (A := A) hh h1.objs.size src (Nat.ne_of_lt hlt) vs
    have B : GX h1 g1 ((h1.push { cls := .type "tuple_iterator", data := .fields #[.ref src, .int 0 0] }).hide h1.objs.size) g1 :=
      ⟨.of fun b o e => (Heap.hide_ne _ (Nat.ne_of_lt (Heap.lt_size e))).trans (Heap.get?_push_of_some _ e), fun _ _ e => e, sub_hide P1.sub gI, fun _ _ e => .inl e⟩
    refine comp_open (n := n) (RR := fun acc cenv r s' => ∃ m, s'.heap.Ns cenv.locals m ∧ ∀ h', Heap.SameBut cenv.locals s'.heap h' →
            match r with | .ok _ => Q acc { s' with heap := h' } | .error x => wpAny (model prog w) A (passOn "comprehension.variables-let-go" x cenv) Q E { s' with heap := h' }) hsc P1.sub W ⟨⟨_, Heap.get?_push_size _ rfl, rfl, rfl⟩, ht.push _⟩ ⟨_, Heap.get?_push_size _ rfl⟩ gI hsrc f.rm f.ev.hg f.ev.hb ?_
    intro C D hC tC cenv hCD hCI hDI hCs hDs hC0 hD0 hev hL hS hat
    have base0 : ∀ {b : Addr}, (h1.push { cls := .type "tuple_iterator", data := .fields #[.ref src, .int 0 0] }).get? b = none → ((h1.push { cls := .type "tuple_iterator", data := .fields #[.ref src, .int 0 0] }).hide h1.objs.size).get? b = none := fun {b} e => by
      cases q : ((h1.push { cls := .type "tuple_iterator", data := .fields #[.ref src, .int 0 0] }).hide h1.objs.size).get? b with
      | none => rfl
      | some o => rw [Heap.of_hide q] at e; cases e
    refine comp1_loop (K := K) (mg := mg) (mb := mb) (n := n) W rl k1.1 hCD hCI hDI (base0 hC0) (base0 hD0) (Heap.hide_self _ _) hev hL hsrc (f.gr.up e1.grow) f.rm hx he (fun i h st => ⟨_, st.1.choose_spec.1⟩) (fun i h st => iter_tuple_nodict st) ((f.fro.ext e1).ext B) ?_ _ _ ⟨0, [], rfl, Nat.zero_le _, rfl, hat, k1.2⟩
    intro rs h' tk g' m hk X r hns hgC
    refine ⟨m, by rw [hL]; exact hns, fun h2 hsb2 => ?_⟩
    rw [hL] at hsb2
    exact p _ _ _ _ _ hk ((e1.trans B).trans (X.but (base0 hC0) hgC fun a o ne e => hsb2.extBut a o ne e)) r
  · rename_i l
    obtain ⟨src, vs, rfl, ht, rl, hsrc⟩ := r1.lst_inv e1.sub
    refine wpAny_pyIter_list (s := { s with heap := h1, toks := t1 }) ht ?_
    have hlt : src < h1.objs.size := by obtain ⟨o, ho, _⟩ := ht; exact Heap.lt_size ho
    have P1 := GX.skip e1.sub { cls := .type "list_iterator", data := .fields #[.ref src, .int 0 0] }
    have gI : g1 h1.objs.size = none := e1.sub.fresh (Nat.le_refl _)
    have W := Walks.list (prog := prog) (w := w) (A := A) hh h1.objs.size src (Nat.ne_of_lt hlt) vs
    have B : GX h1 g1 ((h1.push { cls := .type "list_iterator", data := .fields #[.ref src, .int 0 0] }).hide h1.objs.size) g1 :=
      ⟨.of fun b o e => (Heap.hide_ne _ (Nat.ne_of_lt (Heap.lt_size e))).trans (Heap.get?_push_of_some _ e), fun _ _ e => e, sub_hide P1.sub gI, fun _ _ e => .inl e⟩
    refine comp_open (n := n) (RR := fun acc cenv r s' => ∃ m, s'.heap.Ns cenv.locals m ∧ ∀ h', Heap.SameBut cenv.locals s'.heap h' →
            match r with | .ok _ => Q acc { s' with heap := h' } | .error x => wpAny (model prog w) A (passOn "comprehension.variables-let-go" x cenv) Q E { s' with heap := h' }) hsc P1.sub W ⟨⟨_, Heap.get?_push_size _ rfl, rfl, rfl⟩, ht.push _⟩ ⟨_, Heap.get?_push_size _ rfl⟩ gI hsrc f.rm f.ev.hg f.ev.hb ?_
    intro C D hC tC cenv hCD hCI hDI hCs hDs hC0 hD0 hev hL hS hat
    have base0 : ∀ {b : Addr}, (h1.push { cls := .type "list_iterator", data := .fields #[.ref src, .int 0 0] }).get? b = none → ((h1.push { cls := .type "list_iterator", data := .fields #[.ref src, .int 0 0] }).hide h1.objs.size).get? b = none := fun {b} e => by
      cases q : ((h1.push { cls := .type "list_iterator", data := .fields #[.ref src, .int 0 0] }).hide h1.objs.size).get? b with
      | none => rfl
      | some o => rw [Heap.of_hide q] at e; cases e
    refine comp1_loop (K := K) (mg := mg) (mb := mb) (n := n) W rl k1.1 hCD hCI hDI (base0 hC0) (base0 hD0) (Heap.hide_self _ _) hev hL hsrc (f.gr.up e1.grow) f.rm hx he (fun i h st => ⟨_, st.1.choose_spec.1⟩) (fun i h st => iter_list_nodict st) ((f.fro.ext e1).ext B) ?_ _ _ ⟨0, [], rfl, Nat.zero_le _, rfl, hat, k1.2⟩
    intro rs h' tk g' m hk X r hns hgC
    refine ⟨m, by rw [hL]; exact hns, fun h2 hsb2 => ?_⟩
    rw [hL] at hsb2
    exact p _ _ _ _ _ hk ((e1.trans B).trans (X.but (base0 hC0) hgC fun a o ne e => hsb2.extBut a o ne e)) r
  · exact k1.elim

theorem comp2_loop {A : Around} {g : Vw} {s : Shared} {R : Result → Shared → Prop} {elt iter : Expr} {x y : Str} {px py tp : Pos} {kk : Nat} {scope : Scope} {pos : Pos} {I C D src : Addr} {items : Array Value} {ds : List PyData} {cenv : Env} {Kl : List PyData → Prop} {h0 : Heap} {xe : X}
    (W : Walks prog w A I [I, src] [I] items.size (fun i v => items[i]? = some v) (fun i h => h.IsListIter I src i ∧ h.IsList src items)) (rl : RdL g items.toList ds) (hz : ds.length ≤ 1000)
    (hCD : C ≠ D) (hCI : C ≠ I) (hDI : D ≠ I) (hC0 : h0.get? C = none) (hD0 : h0.get? D = none) (hI0 : h0.get? I = none) (ev : Ev scope.names cenv) (hL : cenv.locals = C) (hsrc : ∃ o, g src = some o) (hgr : Gr K mg mb g)
    (hrm : Rm A n) (hx : scope.names.lookup x = some .local) (hy : scope.names.lookup y = some .local) (hxy : x ≠ y) (he : OkE prog w K mg mb n Γ scope.names [x, y] elt xe) (hfro : Fro A h0 g)
    (hQ : ∀ rs h' tk g' m, Kl rs → GX h0 g h' g' → Rd g' (.ref D) (.list rs) → h'.Ns C m → g' C = none → R (.ok .next) { s with heap := h', toks := tk }) :
    ∀ (k : Nat) (s' : Shared), (∃ i rs, k = items.size + 1 - i ∧ i ≤ items.size ∧ rs.length = i ∧ CompAt C D I h0 g (fun i h => h.IsListIter I src i ∧ h.IsList src items) s i rs s' ∧ mapD (fun d K' => pairD d fun u v => (vc Γ xe [some u, some v]).1 K') (ds.drop i) rs Kl) →
    codeAny (model prog w) A (.compLoop (.ListComp elt [⟨.Tuple [.Name x px, .Name y py] kk tp, iter, [], 0⟩] scope pos) 0 (.ref I) (.ref D) cenv)
        R s' := by
  intro k s' hI
  have hlen := rl.length
  rw [Array.length_toList] at hlen
  refine PyProof.Rows.LCp.codeAny_compLoop_pair (fun k s' => ∃ i rs, k = items.size + 1 - i ∧ i ≤ items.size ∧ rs.length = i ∧ CompAt C D I h0 g (fun i h => h.IsListIter I src i ∧ h.IsList src items) s i rs s' ∧ mapD (fun d K' => pairD d fun u v => (vc Γ xe [some u, some v]).1 K') (ds.drop i) rs Kl) ?_ k hI
  rintro k s' ⟨i, rs, rfl, hi, hri, ⟨h, tk, g', m, ys, rfl, hst, hns, hli, hrs, X, gI, gC, gD⟩, hm⟩
  obtain ⟨oS, hS⟩ := hsrc
  by_cases hlt : i < items.size
  · refine W.item i _ _ _ hlt hst fun v h1 t1 hv hst1 hk1 => ?_
    obtain ⟨d, hd, rd⟩ := rl.get' (i := i) (v := v) (by simpa using hv)
    rw [drop_cons hd] at hm
    have X1 := X.but hI0 gI (h' := h1) fun a o ne e => hk1 a o (by simpa using ne) e
    have hns1 : h1.Ns C m := hns.at' fun o e => hk1 C o (by simpa using hCI) e
    have hli1 : h1.IsList D ys := list_keep hli fun o e => hk1 D o (by simpa using hDI) e
    cases d with
    | tuple dl =>
      obtain ⟨T, tv, rfl, hT, rT, oT, gT⟩ := rd.tup_inv (h := h1) (fun a o e => X1.sub a o (X.grow a o e))
      match dl, hm, rT with
      | [da, db], hm, rT =>
      obtain ⟨va, vb, htv⟩ : ∃ va vb, tv.toList = [va, vb] := by
        have := rT.length
        match tv.toList, this with
        | [va, vb], _ => exact ⟨va, vb, rfl⟩
      have htv' : tv = #[va, vb] := by rw [← Array.toArray_toList (xs := tv), htv]
      subst htv'
      have ra : Rd g va da ∧ Rd g vb db := by
        cases rT with | cons a r => cases r with | cons b _ => exact ⟨a, b⟩
      refine wpAny_letOwnedTupleGo_listiter (s := { s with heap := h1, toks := t1 }) hst1.1 ?_
      refine kcp_assign (s := { s with heap := h1, toks := t1 }) (m := m) hrm.hh hT (by unfold Env.kindOf; rw [ev.hn]; exact hx) (by unfold Env.kindOf; rw [ev.hn]; exact hy) (by rw [ev.hk]; rfl) (by rw [hL]; exact hns1) fun h2 t2 hns2 hk2 => ?_
      rw [hL] at hns2 hk2
      have X2 := X1.but hC0 gC (h' := h2) fun a o ne e => hk2 a o ne e
      have hli2 : h2.IsList D ys := list_keep hli1 fun o e => hk2 D o (Ne.symm hCD) e
      have hSC : src ≠ C := by rintro rfl; rw [X.grow _ _ hS] at gC; cases gC
      have hSD : src ≠ D := by rintro rfl; rw [X.grow _ _ hS] at gD; cases gD
      have hst2 : h2.IsListIter I src (i + 1) ∧ h2.IsList src items := W.frame _ _ _ hst1 fun b hb o e => by
        rcases List.mem_cons.mp hb with rfl | hb
        · exact hk2 b o (Ne.symm hCI) e
        · obtain rfl := List.mem_singleton.mp hb; exact hk2 b o hSC e
      refine he A cenv g' { s with heap := h2, toks := t2 } [some da, some db] _ _ _ ⟨hrm, hfro.ext X2, ev, X2.sub, hgr.up X.grow, ⟨_, by rw [hL]; exact hns2, ?_⟩⟩ hm fun yv h3 t3 dy g3 k3 e3 r3 => ?_
      · intro j z d' hj hd'
        match j, hj, hd' with
        | 0, hj, hd' =>
          simp at hj hd'
          subst hj; subst hd'
          exact ⟨va, by simp [hxy], ra.1.up X.grow⟩
        | 1, hj, hd' =>
          simp at hj hd'
          subst hj; subst hd'
          exact ⟨vb, by simp, ra.2.up X.grow⟩
        | j + 2, hj, hd' => simp at hj
      have hns3 : h3.Ns C _ := e3.keep.ns hns2
      have hli3 : h3.IsList D ys := list_kp hli2 e3.keep
      obtain ⟨oI2, hoI2, _⟩ := id hst2.1
      obtain ⟨oC2, _, _, hoC2, _⟩ := id hns2
      obtain ⟨oD2, hoD2, _⟩ := id hli2
      have gI3 := e3.fresh hoI2 gI
      have gC3 := e3.fresh hoC2 gC
      have gD3 := e3.fresh hoD2 gD
      have X3 := X2.trans e3
      have hys := hrs.length
      rw [Array.length_toList] at hys
      refine wpAny_list_append (s := { s with heap := h3, toks := t3 }) hli3 (fun h4 hli4 hsb4 => ?_) (sizeLine_big (by omega))
      have X4 := X3.but hD0 gD3 (h' := h4) fun a o ne e => hsb4.extBut a o ne e
      refine ⟨items.size + 1 - (i + 1), by omega, i + 1, rs ++ [dy], rfl, hlt, by rw [List.length_append, hri]; rfl, ⟨h4, t3, g3, _, ys.push yv, rfl, ?_, hns3.at' fun o e => hsb4.extBut C o hCD e, hli4, ?_, X4, gI3, gC3, gD3⟩, k3⟩
      · refine W.frame _ _ _ hst2 fun b hb o e => hsb4.extBut b o ?_ (e3.keep.exact e (iter_list_nodict hst2 b hb o e))
        rcases List.mem_cons.mp hb with rfl | hb
        · exact Ne.symm hDI
        · obtain rfl := List.mem_singleton.mp hb; exact hSD
      · rw [Array.toList_push]
        exact (hrs.up e3.grow).snoc r3
    | _ => exact hm.elim
  · obtain rfl : i = items.size := by omega
    refine W.done _ _ _ hst fun h1 t1 hk1 => ?_
    have X1 := X.but hI0 gI (h' := h1) fun a o ne e => hk1 a o (by simpa using ne) e
    have hns1 : h1.Ns C m := hns.at' fun o e => hk1 C o (by simpa using hCI) e
    have hli1 : h1.IsList D ys := list_keep hli fun o e => hk1 D o (by simpa using hDI) e
    obtain ⟨oD, hoD, hcD, nD, hdD⟩ := id hli1
    rw [List.drop_eq_nil_of_le (by omega)] at hm
    have gg : ∀ a o, g' a = some o → put g' D oD a = some o := fun a o e => by
      unfold put; rw [if_neg]; exact e
      rintro rfl; rw [gD] at e; cases e
    refine hQ rs h1 t1 (put g' D oD) m hm ⟨X1.keep, fun a o e => gg _ _ (X1.grow _ _ e), fun a o e => ?_, fun a o e => ?_⟩ (.list put_self hcD hdD (hrs.up gg)) hns1 (by unfold put; rw [if_neg hCD]; exact gC)
    · unfold put at e
      split at e
      · rename_i q; subst q; cases e; exact hoD
      · exact X1.sub _ _ e
    · unfold put at e
      split at e
      · rename_i q; subst q; exact .inr hD0
      · exact X1.new _ _ e


theorem OkE.comp2 {elt iter : Expr} {x y : Str} {px py tp : Pos} {kk : Nat} {scope : Scope} {pos : Pos} {xe xs : X} (hsc : scopeOK scope = true) (hx : scope.names.lookup x = some .local) (hy : scope.names.lookup y = some .local) (hxy : x ≠ y) (hit : setE iter = false) (hi : OkE prog w K mg mb n Γ scn names iter xs) (he : OkE prog w K mg mb n Γ scope.names [x, y] elt xe) :
    OkE prog w K mg mb n Γ scn names (.ListComp elt [⟨.Tuple [.Name x px, .Name y py] kk tp, iter, [], 0⟩] scope pos) (.comp2 xe xs) := by
  intro A env g s ρ Kp Q E f h p
  refine wpAny_ListComp (scopeOK.free hsc) (scopeOK.kind hsc) (scopeOK.names hsc) (hi A env g s ρ _ _ E f h fun u h1 t1 d1 g1 k1 e1 r1 => ?_) (folded_of hit env)
  unfold listD at k1
  have hh := f.rm.hh
  split at k1
  · rename_i l
    obtain ⟨src, vs, rfl, ht, rl, hsrc⟩ := r1.lst_inv e1.sub
    refine wpAny_pyIter_list (s := { s with heap := h1, toks := t1 }) ht ?_
    have hlt : src < h1.objs.size := by obtain ⟨o, ho, _⟩ := ht; exact Heap.lt_size ho
    have P1 := GX.skip e1.sub { cls := .type "list_iterator", data := .fields #[.ref src, .int 0 0] }
    have gI : g1 h1.objs.size = none := e1.sub.fresh (Nat.le_refl _)
    have W := Walks.list (prog := prog) (w := w) (A := A) hh h1.objs.size src (Nat.ne_of_lt hlt) vs
    have B : GX h1 g1 ((h1.push { cls := .type "list_iterator", data := .fields #[.ref src, .int 0 0] }).hide h1.objs.size) g1 :=
      ⟨.of fun b o e => (Heap.hide_ne _ (Nat.ne_of_lt (Heap.lt_size e))).trans (Heap.get?_push_of_some _ e), fun _ _ e => e, sub_hide P1.sub gI, fun _ _ e => .inl e⟩
    refine comp_open (n := n) (RR := fun acc cenv r s' => ∃ m, s'.heap.Ns cenv.locals m ∧ ∀ h', Heap.SameBut cenv.locals s'.heap h' →
            match r with | .ok _ => Q acc { s' with heap := h' } | .error x => wpAny (model prog w) A (passOn "comprehension.variables-let-go" x cenv) Q E { s' with heap := h' }) hsc P1.sub W ⟨⟨_, Heap.get?_push_size _ rfl, rfl, rfl⟩, ht.push _⟩ ⟨_, Heap.get?_push_size _ rfl⟩ gI hsrc f.rm f.ev.hg f.ev.hb ?_
    intro C D hC tC cenv hCD hCI hDI hCs hDs hC0 hD0 hev hL hS hat
    have base0 : ∀ {b : Addr}, (h1.push { cls := .type "list_iterator", data := .fields #[.ref src, .int 0 0] }).get? b = none → ((h1.push { cls := .type "list_iterator", data := .fields #[.ref src, .int 0 0] }).hide h1.objs.size).get? b = none := fun {b} e => by
      cases q : ((h1.push { cls := .type "list_iterator", data := .fields #[.ref src, .int 0 0] }).hide h1.objs.size).get? b with
      | none => rfl
      | some o => rw [Heap.of_hide q] at e; cases e
    refine comp2_loop (K := K) (mg := mg) (mb := mb) (n := n) W rl k1.1 hCD hCI hDI (base0 hC0) (base0 hD0) (Heap.hide_self _ _) hev hL hsrc (f.gr.up e1.grow) f.rm hx hy hxy he ((f.fro.ext e1).ext B) ?_ _ _ ⟨0, [], rfl, Nat.zero_le _, rfl, hat, k1.2⟩
    intro rs h' tk g' m hk X r hns hgC
    refine ⟨m, by rw [hL]; exact hns, fun h2 hsb2 => ?_⟩
    rw [hL] at hsb2
    exact p _ _ _ _ _ hk ((e1.trans B).trans (X.but (base0 hC0) hgC fun a o ne e => hsb2.extBut a o ne e)) r
  · exact k1.elim
end
end Mine

end
section
open PySem PySem.W PySem.Calls PyProof.Rows
namespace Mine

/-- heap and view grow, but for the frame's own locals -/
structure FX (L : Addr) (h : Heap) (g : Vw) (h' : Heap) (g' : Vw) : Prop where
  keep : ∀ b o, b ≠ L → h.get? b = some o → ∃ sl, h'.get? b = some { o with slots := sl } ∧ ((∀ es ep, o.data ≠ .dict es ep) → sl = o.slots)
  grow : ∀ a o, g a = some o → g' a = some o
  sub : Sub g' h'
  new : ∀ a o, g' a = some o → g a = some o ∨ h.get? a = none
  gl : g' L = none
  own : ∃ o es ep, h'.get? L = some o ∧ o.data = .dict es ep
theorem FX.refl {L : Addr} {h : Heap} {g : Vw} (s : Sub g h) (hl : g L = none) (hL : ∃ o es ep, h.get? L = some o ∧ o.data = .dict es ep) : FX L h g h g := ⟨fun b o _ e => Keep.refl b o e, fun _ _ e => e, s, fun _ _ e => .inl e, hl, hL⟩
theorem FX.of {L : Addr} {h h' : Heap} {g g' : Vw} (x : GX h g h' g') (hl : g L = none) (hL : ∃ o es ep, h.get? L = some o ∧ o.data = .dict es ep) : FX L h g h' g' :=
  ⟨fun b o _ e => x.keep b o e, x.grow, x.sub, x.new, let ⟨_, _, _, e, _⟩ := hL; x.fresh e hl, let ⟨_, es, ep, e, d⟩ := hL; let ⟨_, y, _⟩ := x.keep _ _ e; ⟨_, es, ep, y, d⟩⟩
theorem FX.trans {L : Addr} {h1 h2 h3 : Heap} {g1 g2 g3 : Vw} (x : FX L h1 g1 h2 g2) (y : FX L h2 g2 h3 g3) : FX L h1 g1 h3 g3 :=
  ⟨fun b o n e => by
    obtain ⟨s1, e1, c1⟩ := x.keep b o n e
    obtain ⟨s2, e2, c2⟩ := y.keep b _ n e1
    exact ⟨s2, e2, fun q => (c2 q).trans (c1 q)⟩, fun a o e => y.grow _ _ (x.grow _ _ e), y.sub, fun a o e => (y.new a o e).elim (x.new a o) fun z => .inr (by
    cases q : h1.get? a with
    | none => rfl
    | some o' =>
      by_cases hL : a = L
      · subst hL; rw [y.gl] at e; cases e
      · obtain ⟨_, w, _⟩ := x.keep _ _ hL q; rw [z] at w; cases w), y.gl, y.own⟩
/-- frames under a step of the frame's own -/
theorem FrOK.fx {L : Addr} {h h' : Heap} {g g' : Vw} {env : Env} (x : FrOK h g env) (k : FX L h g h' g') : FrOK h' g' env := by
  obtain ⟨a, L', o, es, ep, b, c, d, e⟩ := x
  by_cases q : L' = L
  · subst q
    obtain ⟨o', es', ep', c', d'⟩ := k.own
    exact ⟨a, L', o', es', ep', b, c', d', k.gl⟩
  · obtain ⟨sl, y, _⟩ := k.keep _ _ q c
    refine ⟨a, L', _, es, ep, b, y, d, ?_⟩
    cases z : g' L' with
    | none => rfl
    | some o2 => rcases k.new _ _ z with w | w
                 · rw [e] at w; cases w
                 · rw [c] at w; cases w
theorem Fro.fx {L : Addr} {A : Around} {h h' : Heap} {g g' : Vw} (x : Fro A h g) (k : FX L h g h' g') : Fro A h' g' := let ⟨o, a, b⟩ := x; ⟨o, a, fun e m => (b e m).fx k⟩
theorem FX.ext (L : Addr) {h h' : Heap} {g : Vw} (s : Sub g h) (hl : g L = none) (k : ∀ b o, b ≠ L → h.get? b = some o → h'.get? b = some o) (own : ∃ o es ep, h'.get? L = some o ∧ o.data = .dict es ep) : FX L h g h' g :=
  ⟨fun b o n e => ⟨o.slots, k b o n e, fun _ => rfl⟩, fun _ _ e => e, fun a o e => k a o (by rintro rfl; rw [hl] at e; cases e) (s _ _ e), fun _ _ e => .inl e, hl, own⟩

theorem ns_live {h : Heap} {L : Addr} {m : Str → Option Value} (x : h.Ns L m) : ∃ o es ep, h.get? L = some o ∧ o.data = .dict es ep := let ⟨o, es, ep, e, d, _⟩ := x; ⟨o, es, ep, e, d⟩

structure PostS (names : List Str) (L : Addr) (g : Vw) (s : Shared) (Kn : En → Prop) (Kr : PyData → Prop) (Q : Flow → Shared → Prop) : Prop where
  next : ∀ h' tk g' ρ', Kn ρ' → FX L s.heap g h' g' → Lc names h' g' L ρ' → Q .next { s with heap := h', toks := tk }
  ret : ∀ v d h' tk g', Kr d → FX L s.heap g h' g' → Rd g' v d → Q (.ret v) { s with heap := h', toks := tk }
theorem PostS.ext {names : List Str} {L : Addr} {g g' : Vw} {s : Shared} {Kn : En → Prop} {Kr : PyData → Prop} {Q : Flow → Shared → Prop} (p : PostS names L g s Kn Kr Q) {h' : Heap} (x : FX L s.heap g h' g') (tk : Nat) :
    PostS names L g' { s with heap := h', toks := tk } Kn Kr Q :=
  ⟨fun h2 t2 g2 ρ' k y l => p.next h2 t2 g2 ρ' k (x.trans y) l, fun v d h2 t2 g2 k y r => p.ret v d h2 t2 g2 k (x.trans y) r⟩

section
variable (prog : Program) (w : World) (K : Frag) (mg mb : Str → Option Value) (n : Nat) (Γ : Nat → Sp) (scn : List (Str × NameKind)) (names : List Str)
def OkS (st : Stmt) (x : S) : Prop :=
  ∀ (A : Around) (env : Env) (g : Vw) (s : Shared) (ρ : En) (Kn : En → Prop) (Kr : PyData → Prop) (Q : Flow → Shared → Prop) (E : Value → Shared → Prop),
    Fm K mg mb n scn names A env g s ρ → g env.locals = none → vs Γ x ρ Kn Kr → PostS names env.locals g s Kn Kr Q → wpAny (model prog w) A (exec st env) Q E s
def OkB (st : List Stmt) (x : SL) : Prop :=
  ∀ (A : Around) (env : Env) (g : Vw) (s : Shared) (ρ : En) (Kn : En → Prop) (Kr : PyData → Prop) (Q : Flow → Shared → Prop) (E : Value → Shared → Prop),
    Fm K mg mb n scn names A env g s ρ → g env.locals = none → vsL Γ x ρ Kn Kr → PostS names env.locals g s Kn Kr Q → wpAny (model prog w) A (execs st env) Q E s
end

section
variable {prog : Program} {w : World} {K : Frag} {mg mb : Str → Option Value} {n : Nat} {Γ : Nat → Sp} {scn : List (Str × NameKind)} {names : List Str} {tb : List (Str × GI)}

theorem Fm.fx {A : Around} {env : Env} {g g' : Vw} {s : Shared} {ρ ρ' : En} (f : Fm K mg mb n scn names A env g s ρ) {h' : Heap} (x : FX env.locals s.heap g h' g') (l : Lc names h' g' env.locals ρ') (tk : Nat) : Fm K mg mb n scn names A env g' { s with heap := h', toks := tk } ρ' :=
  ⟨f.rm, f.fro.fx x, f.ev, x.sub, f.gr.up x.grow, l⟩
theorem Fm.live {A : Around} {env : Env} {g : Vw} {s : Shared} {ρ : En} (f : Fm K mg mb n scn names A env g s ρ) : ∃ o es ep, s.heap.get? env.locals = some o ∧ o.data = .dict es ep := let ⟨_, a, _⟩ := f.lc; ns_live a

/-- a name is bound -/
theorem store_ok {A : Around} {env : Env} {g : Vw} {s : Shared} {ρ : En} {E : Value → Shared → Prop} {Q : Unit → Shared → Prop} {x : Str} {i : Nat} {v : Value} {d : PyData}
    (ev : Ev scn env) (sub : Sub g s.heap) (lc : Lc names s.heap g env.locals ρ) (hg : g env.locals = none) (hl : scn.lookup x = some .local) (hi : names[i]? = some x) (hnd : names.Nodup) (r : Rd g v d)
    (k : ∀ h', FX env.locals s.heap g h' g → Lc names h' g env.locals (ρ.set i (some d)) → Q () { s with heap := h', toks := s.toks + 1 }) : wpAny (model prog w) A (storeName env x v) Q E s := by
  obtain ⟨m, hn, hm⟩ := lc
  refine wpAny_storeName_local (m := m) (by unfold Env.kindOf; rw [ev.hn]; exact hl) hn (fun h' hns hsb => ?_) (by rw [ev.hk]; rfl)
  refine k h' (.ext _ sub hg (fun b o ne e => hsb.extBut b o ne e) (ns_live hns)) ⟨_, hns, fun j y d' hj hd => ?_⟩
  by_cases hij : j = i
  · subst hij
    rw [hi] at hj
    cases hj
    refine ⟨v, by simp, ?_⟩
    have : d' = d := by
      rw [List.getElem?_set] at hd
      simp only [if_true] at hd
      split at hd
      · cases hd; rfl
      · cases hd
    rw [this]; exact r
  · rw [List.getElem?_set_ne (Ne.symm hij)] at hd
    obtain ⟨u, hu, ru⟩ := hm j y d' hj hd
    refine ⟨u, ?_, ru⟩
    have : y ≠ x := by
      rintro rfl
      obtain ⟨h1, e1⟩ := List.getElem?_eq_some_iff.mp hi
      obtain ⟨h2, e2⟩ := List.getElem?_eq_some_iff.mp hj
      exact hij ((List.getElem_inj hnd).mp (e2.trans e1.symm))
    simp only [this, if_false]
    exact hu

def compE? : Expr → Bool
  | .ListComp _ _ _ _ | .SetComp _ _ _ _ | .DictComp _ _ _ _ _ => true
  | _ => false
theorem noswap {e : Expr} (h : compE? e = false) (t : Option Expr) (l : Nat) (env : Env) : swapsWith e t l env = pure false := by
  cases e <;> first | rfl | cases h

theorem OkS.asg {x : Str} {p1 pos : Pos} {e : Expr} {a : X} {i : Nat} (hl : scn.lookup x = some .local) (hi : names[i]? = some x) (hnd : names.Nodup) (hc : compE? e = false) (he : OkE prog w K mg mb n Γ scn names e a) : OkS prog w K mg mb n Γ scn names (.Assign [.Name x p1] e pos) (.asg i a) := by
  intro A env g s ρ Kn Kr Q E f hg h p
  refine wpAny_Assign_Name (he A env g s ρ _ _ E f h fun v h1 t1 d1 g1 k1 e1 r1 => ?_) (noswap hc _ _ _)
  have x1 := FX.of e1 hg f.live
  refine store_ok (s := { s with heap := h1, toks := t1 }) f.ev e1.sub (f.lc.ext e1) x1.gl hl hi hnd r1 fun h2 x2 l2 => ?_
  exact p.next h2 _ g1 _ k1 (x1.trans x2) l2

theorem assignEach_of {e : Expr} {rest : List Expr} {env : Env} (h : starred e = false) : assignEach (e :: rest) env = (false, assign e env) :: assignEach rest env := by
  cases e <;> first | rfl | cases h

def names2 : List Expr → Option (List Str)
  | [] => some []
  | .Name x _ :: r => (names2 r).map (x :: ·)
  | _ :: _ => none

/-- names are bound one by one -/
theorem stores_ok {A : Around} {env : Env} {E : Value → Shared → Prop} (ev : Ev scn env) (hnd : names.Nodup) :
    ∀ (ts : List Expr) (xs : List Str) (is : List Nat) (vs : List Value) (ds : List PyData) (g : Vw) (s : Shared) (ρ : En) (Q : Unit → Shared → Prop), names2 ts = some xs → (∀ x ∈ xs, scn.lookup x = some .local) → is.map (names[·]?) = xs.map some → RdL g vs ds → ds.length = is.length →
      Sub g s.heap → Lc names s.heap g env.locals ρ → g env.locals = none →
      (∀ h' tk, FX env.locals s.heap g h' g → Lc names h' g env.locals (setAll is ds ρ) → Q () { s with heap := h', toks := tk }) →
      wpAny (model prog w) A (assignInOrder ((assignEach ts env).map (·.2)) vs) Q E s
  | [], xs, is, vs, ds, g, s, ρ, Q, hx, hl, hi, hr, hlen, sub, lc, hg, k => by
    cases hx
    have : is = [] := by cases is with | nil => rfl | cons _ _ => simp at hi
    subst this
    refine assignInOrder_nil ?_
    have := k s.heap s.toks (.refl sub hg (let ⟨_, a, _⟩ := lc; ns_live a))
    simp only [setAll] at this
    exact this lc
  | t :: ts, xs, is, vs, ds, g, s, ρ, Q, hx, hl, hi, hr, hlen, sub, lc, hg, k => by
    cases t with
    | Name x px =>
      unfold names2 at hx
      obtain ⟨ys, hys, rfl⟩ := Option.map_eq_some_iff.mp hx
      cases is with
      | nil => simp at hi
      | cons i is =>
        rw [List.map_cons, List.map_cons, List.cons.injEq] at hi
        cases hr with
        | nil => simp at hlen
        | cons r rs =>
          rw [assignEach_of rfl]
          refine assignInOrder_cons (assign_Name (store_ok ev sub lc hg (hl x (.head _)) hi.1 hnd r fun h1 x1 l1 => ?_))
          refine stores_ok ev hnd ts ys is _ _ g _ _ Q hys (fun z hz => hl z (.tail _ hz)) hi.2 rs (by simpa using hlen) x1.sub l1 x1.gl fun h2 t2 x2 l2 => ?_
          exact k h2 t2 (x1.trans x2) l2
    | _ => cases hx

theorem names2_length : ∀ {ts : List Expr} {xs : List Str} {env : Env}, names2 ts = some xs → (assignEach ts env).length = xs.length ∧ (assignEach ts env).findIdx? (·.1) = none
  | [], xs, env, h => by cases h; exact ⟨rfl, rfl⟩
  | t :: ts, xs, env, h => by
    cases t with
    | Name x px =>
      unfold names2 at h
      obtain ⟨ys, hys, rfl⟩ := Option.map_eq_some_iff.mp h
      obtain ⟨a, b⟩ := names2_length (env := env) hys
      rw [assignEach_of rfl]
      refine ⟨by rw [List.length_cons, List.length_cons, a], ?_⟩
      rw [List.findIdx?_cons, b]; rfl
    | _ => cases h

def tupE : Expr → Bool
  | .Tuple _ _ _ => true
  | _ => false
theorem swapped_none {ts : List Expr} {k : Nat} {tp : Pos} {e : Expr} {env : Env} (h : tupE e = false) : swappedStores [.Tuple ts k tp] e env = pure none := by
  cases e <;> first | rfl | cases h
theorem noswapSole {ts : List Expr} {k : Nat} {tp : Pos} {e : Expr} {l : Nat} {env : Env} : swapsWithSole [.Tuple ts k tp] e l env = pure false := by
  cases e <;> rfl

theorem OkS.unp {ts : List Expr} {k : Nat} {tp pos : Pos} {e : Expr} {a : X} {xs : List Str} {is : List Nat} (hx : names2 ts = some xs) (hl : ∀ x ∈ xs, scn.lookup x = some .local) (hi : is.map (names[·]?) = xs.map some) (hnd : names.Nodup) (ht : tupE e = false)
    (he : OkE prog w K mg mb n Γ scn names e a) : OkS prog w K mg mb n Γ scn names (.Assign [.Tuple ts k tp] e pos) (.unp is a) := by
  intro A env g s ρ Kn Kr Q E f hg h p
  refine Assign_Tuple (he A env g s ρ _ _ E f h fun v h1 t1 d1 g1 k1 e1 r1 => ?_) noswapSole (swapped_none ht)
  have x1 := FX.of e1 hg f.live
  cases d1 with
  | tuple ds =>
    obtain ⟨hlen, k1⟩ := k1
    obtain ⟨T, vs, rfl, hT, rl, _⟩ := r1.tup_inv e1.sub
    have hxl : xs.length = is.length := by have := congrArg List.length hi; simpa using this.symm
    have hvl : vs.size = is.length := by have := rl.length; rw [Array.length_toList] at this; omega
    obtain ⟨n1, n2⟩ := names2_length (env := env) hx
    refine assign_Tuple_tuple (s := { s with heap := h1, toks := t1 }) f.rm.hh hT (by rw [n1]; omega) n2 fun h2 he2 => ?_
    have lc1 := f.lc.ext e1
    have e2 : GX h1 g1 h2 g1 := ⟨.of fun b o e => he2 b o (Nat.ne_of_lt (Heap.lt_size e)) e, fun _ _ e => e, fun b o e => he2 b o (Nat.ne_of_lt (Heap.lt_size (e1.sub _ _ e))) (e1.sub _ _ e), fun _ _ e => .inl e⟩
    have x2 := x1.trans (FX.of e2 x1.gl (let ⟨_, a, _⟩ := f.lc; ns_live (e1.keep.ns a)))
    refine stores_ok f.ev hnd ts xs is _ ds g1 { s with heap := h2, toks := t1 } ρ _ hx hl hi rl hlen e2.sub (lc1.ext e2) x1.gl fun h3 t3 x3 l3 => ?_
    exact p.next h3 t3 g1 _ k1 (x2.trans x3) l3
  | _ => exact k1.elim

theorem OkS.asg2 {x y : Str} {p1 p2 pos : Pos} {e : Expr} {a : X} {i j : Nat} (hlx : scn.lookup x = some .local) (hly : scn.lookup y = some .local) (hi : names[i]? = some x) (hj : names[j]? = some y) (hnd : names.Nodup) (he : OkE prog w K mg mb n Γ scn names e a) :
    OkS prog w K mg mb n Γ scn names (.Assign [.Name x p1, .Name y p2] e pos) (.asg2 i j a) := by
  intro A env g s ρ Kn Kr Q E f hg h p
  refine wpAny_Assign_two (he A env g s ρ _ _ E f h fun v h1 t1 d1 g1 k1 e1 r1 => ?_)
  have x1 := FX.of e1 hg f.live
  refine assign_Name (store_ok (s := { s with heap := h1, toks := t1 }) f.ev e1.sub (f.lc.ext e1) x1.gl hlx hi hnd r1 fun h2 x2 l2 => ?_)
  refine assign_Name (store_ok f.ev x2.sub l2 x2.gl hly hj hnd r1 fun h3 x3 l3 => ?_)
  exact p.next h3 _ g1 _ k1 ((x1.trans x2).trans x3) l3

theorem inpl_ok {A : Around} {E : Value → Shared → Prop} {g : Vw} {s : Shared} {op : Operator} {t t' : Tok} {a b : Int} {Kp : PyData → Prop} {Q : Value → Shared → Prop} (hs : Sub g s.heap) (h : binD op (.int a) (.int b) Kp) (p : Post g s Kp Q) :
    wpAny (model prog w) A (inplaceOp op (.int a t) (.int b t')) Q E s := by
  cases op with
  | Add => exact iadd_int (p.tok hs h (.int _ _))
  | Sub => exact PyProof.Rows.isub_int (p.tok hs h (.int _ _))
  | Mult => exact PyProof.Rows.imul_int (p.tok hs h.2 (.int _ _)) h.1
  | FloorDiv => exact ifloordiv_int h.1 (p.tok hs h.2.2 (.int _ _)) (.inl (PyProof.noPylong_small h.2.1))
  | Mod => exact imod_int h.1 (p.tok hs h.2 (.int _ _))
  | Pow => exact ipow_int h.1 h.2.1 (p.tok hs h.2.2 (.int _ _))
  | LShift => exact ilshift_int h.1 h.2.1 (p.tok hs h.2.2 (.int _ _))
  | RShift => exact irshift_int h.1 (p.tok hs h.2 (.int _ _))
  | BitAnd => exact iand_int (p.tok hs h (.int _ _))
  | BitXor => exact ixor_int (p.tok hs h (.int _ _))
  | _ => exact h.elim

theorem OkS.aug {x : Str} {p1 pos : Pos} {op : Operator} {e : Expr} {a : X} {i : Nat} (hl : scn.lookup x = some .local) (hi : names[i]? = some x) (hnd : names.Nodup) (he : OkE prog w K mg mb n Γ scn names e a) : OkS prog w K mg mb n Γ scn names (.AugAssign (.Name x p1) op e pos) (.aug i op a) := by
  intro A env g s ρ Kn Kr Q E f hg h p
  obtain ⟨m, hn, hm⟩ := f.lc
  have h' : varD ρ i fun d => (vc Γ a ρ).1 fun e => augD op d e fun r => Kn (ρ.set i (some r)) := h
  unfold varD at h'
  split at h'
  · rename_i d hd
    obtain ⟨v, hv, r⟩ := hm i x d hi hd
    refine wpAny_AugAssign_Name (wpAny_loadName_local f.ev.hk (by unfold Env.kindOf; rw [f.ev.hn]; exact hl) hn hv ?_)
    refine he A env g s ρ _ _ E f h' fun u h1 t1 d1 g1 k1 e1 r1 => ?_
    unfold augD at k1
    split at k1
    · obtain ⟨ta, rfl⟩ := r.int_inv
      obtain ⟨tb, rfl⟩ := r1.int_inv
      have x1 := FX.of e1 hg f.live
      refine inpl_ok (s := { s with heap := h1, toks := t1 }) e1.sub k1 fun y h2 t2 d2 g2 k2 e2 r2 => ?_
      have x2 := x1.trans (FX.of e2 x1.gl (let ⟨_, a, _⟩ := f.lc; ns_live (e1.keep.ns a)))
      refine store_ok (s := { s with heap := h2, toks := t2 }) f.ev e2.sub ((f.lc.ext e1).ext e2) x2.gl hl hi hnd r2 fun h3 x3 l3 => ?_
      exact p.next h3 _ g2 _ k2 (x2.trans x3) l3
    · exact k1.elim
  · exact h'.elim

theorem OkS.ifs {t : Expr} {b o : List Stmt} {pos : Pos} {c : X} {xb xo : SL} (hc : OkT prog w K mg mb n Γ scn names t c) (hb : OkB prog w K mg mb n Γ scn names b xb) (ho : OkB prog w K mg mb n Γ scn names o xo) : OkS prog w K mg mb n Γ scn names (.If t b o pos) (.ifs c xb xo) := by
  intro A env g s ρ Kn Kr Q E f hg h p
  refine wpAny_If (hc A env g s ρ _ _ E f h fun c h1 t1 g1 k1 e1 => ?_)
  have x1 := FX.of e1 hg f.live
  cases c with
  | true => exact hb A env g1 _ ρ Kn Kr Q E (f.ext e1 t1) x1.gl k1 (p.ext x1 t1)
  | false => exact ho A env g1 _ ρ Kn Kr Q E (f.ext e1 t1) x1.gl k1 (p.ext x1 t1)

theorem OkS.ret {e : Expr} {pos : Pos} {a : X} (he : OkE prog w K mg mb n Γ scn names e a) : OkS prog w K mg mb n Γ scn names (.Return (some e) pos) (.ret a) := by
  intro A env g s ρ Kn Kr Q E f hg h p
  refine wpAny_Return_some (he A env g s ρ _ _ E f h fun v h1 t1 d1 g1 k1 e1 r1 => ?_)
  exact p.ret v d1 h1 t1 g1 k1 (FX.of e1 hg f.live) r1

theorem OkS.asrt {t : Expr} {msg : Option Expr} {pos : Pos} {c : X} (hc : OkT prog w K mg mb n Γ scn names t c) : OkS prog w K mg mb n Γ scn names (.Assert t msg pos) (.asrt c) := by
  intro A env g s ρ Kn Kr Q E f hg h p
  refine wpAny_Assert_holds (hc A env g s ρ _ _ E f h fun c h1 t1 g1 k1 e1 => ⟨k1.1, ?_⟩)
  exact p.next h1 t1 g1 ρ k1.2 (FX.of e1 hg f.live) (f.lc.ext e1)

theorem OkB.nil : OkB prog w K mg mb n Γ scn names [] .nil := by
  intro A env g s ρ Kn Kr Q E f hg h p
  exact wpAny_execs_nil (p.next s.heap s.toks g ρ h (.refl f.sub hg f.live) f.lc)
theorem OkB.cons {st : Stmt} {r : List Stmt} {x : S} {xr : SL} (hs : OkS prog w K mg mb n Γ scn names st x) (hr : OkB prog w K mg mb n Γ scn names r xr) : OkB prog w K mg mb n Γ scn names (st :: r) (.cons x xr) := by
  intro A env g s ρ Kn Kr Q E f hg h p
  refine wpAny_execs_cons (hs A env g s ρ _ Kr _ E f hg h ⟨fun h1 t1 g1 ρ1 k1 x1 l1 => ?_, fun v d h1 t1 g1 k1 x1 r1 => p.ret v d h1 t1 g1 k1 x1 r1⟩)
  exact hr A env g1 _ ρ1 Kn Kr Q E (f.fx x1 l1 t1) x1.gl k1 (p.ext x1 t1)

theorem OkS.whl {t : Expr} {b : List Stmt} {pos : Pos} {c : X} {xb : SL} (hc : OkT prog w K mg mb n Γ scn names t c) (hb : OkB prog w K mg mb n Γ scn names b xb) : OkS prog w K mg mb n Γ scn names (.While t b [] pos) (.whl c xb) := by
  intro A env g s ρ Kn Kr Q E f hg h p
  obtain ⟨I, μ, hI, hstep⟩ := h
  refine wpAny_While (codeAny_whileLoop (fun k s' => ∃ h' tk g' ρ', s' = { s with heap := h', toks := tk } ∧ k = μ ρ' ∧ I ρ' ∧ FX env.locals s.heap g h' g' ∧ Lc names h' g' env.locals ρ') ?_ (μ ρ) ⟨s.heap, s.toks, g, ρ, rfl, rfl, hI, .refl f.sub hg f.live, f.lc⟩)
  rintro k s' ⟨h1, t1, g1, ρ1, rfl, rfl, hI1, x1, l1⟩
  have f1 := f.fx x1 l1 t1
  refine hc A env g1 _ ρ1 _ _ _ f1 (hstep ρ1 hI1) fun b h2 t2 g2 k2 e2 => ?_
  have x2 := FX.of e2 x1.gl f1.live
  cases b with
  | true =>
    refine hb A env g2 _ ρ1 _ Kr _ _ (f1.ext e2 t2) x2.gl k2 ⟨fun h3 t3 g3 ρ3 k3 x3 l3 => ?_, fun v d h3 t3 g3 k3 x3 r3 => ?_⟩
    · exact ⟨μ ρ3, k3.2, h3, t3, g3, ρ3, rfl, rfl, k3.1, (x1.trans x2).trans x3, l3⟩
    · exact p.ret v d h3 t3 g3 k3 ((x1.trans x2).trans x3) r3
  | false => exact wpAny_execs_nil (p.next h2 t2 g2 ρ1 k2 (x1.trans x2) (f1.lc.ext e2))
end
end Mine

end
section
open PySem PySem.W PySem.Calls PyProof.Rows
namespace Mine

theorem setAll_append : ∀ {is : List Nat} {ds : List PyData} {i : Nat} {d : PyData} {ρ : En}, is.length = ds.length → setAll (is ++ [i]) (ds ++ [d]) ρ = (setAll is ds ρ).set i (some d)
  | [], [], _, _, _, _ => rfl
  | _ :: is, _ :: ds, i, d, ρ, h => by
    show setAll (is ++ [i]) (ds ++ [d]) _ = _
    rw [setAll_append (by simpa using h)]; rfl
  | [], _ :: _, _, _, _, h => by simp at h
  | _ :: _, [], _, _, _, h => by simp at h
theorem setAll_comm : ∀ {is : List Nat} {ds : List PyData} {i : Nat} {d : PyData} {ρ : En}, i ∉ is → setAll is ds (ρ.set i (some d)) = (setAll is ds ρ).set i (some d)
  | [], _, _, _, _, _ => by simp [setAll]
  | _ :: _, [], _, _, _, _ => by simp [setAll]
  | j :: is, e :: ds, i, d, ρ, h => by
    simp only [setAll]
    have hj : i ≠ j := fun q => h (by rw [q]; exact .head _)
    rw [List.set_comm _ _ hj, setAll_comm (fun q => h (.tail _ q))]
theorem setAll_reverse : ∀ {is : List Nat} {ds : List PyData} {ρ : En}, is.Nodup → is.length = ds.length → setAll is.reverse ds.reverse ρ = setAll is ds ρ
  | [], [], _, _, _ => rfl
  | i :: is, d :: ds, ρ, hn, h => by
    rw [List.reverse_cons, List.reverse_cons, setAll_append (by simpa using h)]
    rw [setAll_reverse (List.nodup_cons.mp hn).2 (by simpa using h)]
    show _ = setAll is ds (ρ.set i (some d))
    rw [setAll_comm (List.nodup_cons.mp hn).1]
  | [], _ :: _, _, _, h => by simp at h
  | _ :: _, [], _, _, h => by simp at h

def env0 (scn : List (Str × NameKind)) : Env :=
  { scope := { kind := .function, names := scn, isGenerator := false, isCoroutine := false }, locals := 0, globals := 0, cells := [], qual := "", func := none, code := .none, frame := none, builtins := 0 }

section
variable {prog : Program} {w : World} {K : Frag} {mg mb : Str → Option Value} {n : Nat} {Γ : Nat → Sp} {scn : List (Str × NameKind)} {names : List Str} {tb : List (Str × GI)}

theorem swapped_env {ts : List Expr} {e : Expr} {env : Env} (ev : Ev scn env) : swappedStores ts e env = swappedStores ts e (env0 scn) := by
  have h1 : env.blockKind = (env0 scn).blockKind := by unfold Env.blockKind; rw [ev.hk]; rfl
  have h2 : env.kindOf = (env0 scn).kindOf := by funext x; unfold Env.kindOf; rw [ev.hn]; rfl
  unfold swappedStores
  rw [h1, h2]

theorem bind_ok {A : Around} {env : Env} {E : Value → Shared → Prop} (ev : Ev scn env) (hnd : names.Nodup) :
    ∀ (xs : List Str) (is : List Nat) (vs : List Value) (ds : List PyData) (g : Vw) (s : Shared) (ρ : En) (Q : Unit → Shared → Prop), (∀ x ∈ xs, scn.lookup x = some .local) → is.map (names[·]?) = xs.map some → RdL g vs ds → ds.length = is.length →
      Sub g s.heap → Lc names s.heap g env.locals ρ → g env.locals = none →
      (∀ h' tk, FX env.locals s.heap g h' g → Lc names h' g env.locals (setAll is ds ρ) → Q () { s with heap := h', toks := tk }) →
      wpAny (model prog w) A (assignInOrder (xs.map fun n => bindName env n) vs) Q E s
  | [], is, vs, ds, g, s, ρ, Q, hl, hi, hr, hlen, sub, lc, hg, k => by
    have : is = [] := by cases is with | nil => rfl | cons _ _ => simp at hi
    subst this
    refine assignInOrder_nil ?_
    have := k s.heap s.toks (.refl sub hg (let ⟨_, a, _⟩ := lc; ns_live a))
    simp only [setAll] at this
    exact this lc
  | x :: xs, is, vs, ds, g, s, ρ, Q, hl, hi, hr, hlen, sub, lc, hg, k => by
    cases is with
    | nil => simp at hi
    | cons i is =>
      rw [List.map_cons, List.map_cons, List.cons.injEq] at hi
      cases hr with
      | nil => simp at hlen
      | cons r rs =>
        refine assignInOrder_cons (bindName_ (store_ok ev sub lc hg (hl x (.head _)) hi.1 hnd r fun h1 x1 l1 => ?_))
        refine bind_ok ev hnd xs is _ _ g _ _ Q (fun z hz => hl z (.tail _ hz)) hi.2 rs (by simpa using hlen) x1.sub l1 x1.gl fun h2 t2 x2 l2 => ?_
        exact k h2 t2 (x1.trans x2) l2

theorem RdL.reverse {g : Vw} : ∀ {vs : List Value} {ds : List PyData}, RdL g vs ds → RdL g vs.reverse ds.reverse
  | _, _, .nil => .nil
  | _, _, .cons a r => by
    rw [List.reverse_cons, List.reverse_cons]
    exact (RdL.reverse r).snoc a

theorem OkS.unpS {ts : List Expr} {k : Nat} {tp pos : Pos} {e : Expr} {a : X} {xs : List Str} {is : List Nat} (hw : swappedStores [.Tuple ts k tp] e (env0 scn) = pure (some xs)) (hl : ∀ x ∈ xs, scn.lookup x = some .local) (hi : is.map (names[·]?) = xs.map some) (hnd : names.Nodup) (hin : is.Nodup)
    (he : OkE prog w K mg mb n Γ scn names e a) : OkS prog w K mg mb n Γ scn names (.Assign [.Tuple ts k tp] e pos) (.unp is a) := by
  intro A env g s ρ Kn Kr Q E f hg h p
  refine Assign_Tuple_swapped (names := xs) (he A env g s ρ _ _ E f h fun v h1 t1 d1 g1 k1 e1 r1 => ?_) noswapSole ((swapped_env f.ev).trans hw)
  have x1 := FX.of e1 hg f.live
  cases d1 with
  | tuple ds =>
    obtain ⟨hlen, k1⟩ := k1
    obtain ⟨T, vs, rfl, hT, rl, _⟩ := r1.tup_inv e1.sub
    have hxl : xs.length = is.length := by have := congrArg List.length hi; simpa using this.symm
    have hvl : vs.size = xs.length := by have := rl.length; rw [Array.length_toList] at this; omega
    rw [← hvl]
    refine unpackItems_tuple (s := { s with heap := h1, toks := t1 }) f.rm.hh hT fun h2 he2 => ?_
    have e2 : GX h1 g1 h2 g1 := ⟨.of fun b o e => he2 b o (Nat.ne_of_lt (Heap.lt_size e)) e, fun _ _ e => e, fun b o e => he2 b o (Nat.ne_of_lt (Heap.lt_size (e1.sub _ _ e))) (e1.sub _ _ e), fun _ _ e => .inl e⟩
    have x2 := x1.trans (FX.of e2 x1.gl (let ⟨_, a, _⟩ := f.lc; ns_live (e1.keep.ns a)))
    refine bind_ok f.ev hnd xs.reverse is.reverse _ ds.reverse g1 { s with heap := h2, toks := t1 } ρ _ (fun x hx => hl x (List.mem_reverse.mp hx)) (by rw [List.map_reverse, List.map_reverse, hi]) rl.reverse (by simpa using hlen) e2.sub ((f.lc.ext e1).ext e2) x1.gl fun h3 t3 x3 l3 => ?_
    rw [setAll_reverse hin hlen.symm] at l3
    exact p.next h3 t3 g1 _ k1 (x2.trans x3) l3
  | _ => exact k1.elim

theorem OkS.unpN {ts : List Expr} {k : Nat} {tp pos : Pos} {e : Expr} {a : X} {xs : List Str} {is : List Nat} (hx : names2 ts = some xs) (hl : ∀ x ∈ xs, scn.lookup x = some .local) (hi : is.map (names[·]?) = xs.map some) (hnd : names.Nodup) (hw : swappedStores [.Tuple ts k tp] e (env0 scn) = pure none)
    (he : OkE prog w K mg mb n Γ scn names e a) : OkS prog w K mg mb n Γ scn names (.Assign [.Tuple ts k tp] e pos) (.unp is a) := by
  intro A env g s ρ Kn Kr Q E f hg h p
  refine Assign_Tuple (he A env g s ρ _ _ E f h fun v h1 t1 d1 g1 k1 e1 r1 => ?_) noswapSole ((swapped_env f.ev).trans hw)
  have x1 := FX.of e1 hg f.live
  cases d1 with
  | tuple ds =>
    obtain ⟨hlen, k1⟩ := k1
    obtain ⟨T, vs, rfl, hT, rl, _⟩ := r1.tup_inv e1.sub
    have hxl : xs.length = is.length := by have := congrArg List.length hi; simpa using this.symm
    have hvl : vs.size = is.length := by have := rl.length; rw [Array.length_toList] at this; omega
    obtain ⟨n1, n2⟩ := names2_length (env := env) hx
    refine assign_Tuple_tuple (s := { s with heap := h1, toks := t1 }) f.rm.hh hT (by rw [n1]; omega) n2 fun h2 he2 => ?_
    have lc1 := f.lc.ext e1
    have e2 : GX h1 g1 h2 g1 := ⟨.of fun b o e => he2 b o (Nat.ne_of_lt (Heap.lt_size e)) e, fun _ _ e => e, fun b o e => he2 b o (Nat.ne_of_lt (Heap.lt_size (e1.sub _ _ e))) (e1.sub _ _ e), fun _ _ e => .inl e⟩
    have x2 := x1.trans (FX.of e2 x1.gl (let ⟨_, a, _⟩ := f.lc; ns_live (e1.keep.ns a)))
    refine stores_ok f.ev hnd ts xs is _ ds g1 { s with heap := h2, toks := t1 } ρ _ hx hl hi rl hlen e2.sub (lc1.ext e2) x1.gl fun h3 t3 x3 l3 => ?_
    exact p.next h3 t3 g1 _ k1 (x2.trans x3) l3
  | _ => exact k1.elim

/-- one turn after another over a list -/
theorem for_loop {A : Around} {env : Env} {g : Vw} {s : Shared} {Kn : En → Prop} {Kr : PyData → Prop} {R : Result → Shared → Prop} {x : Str} {px : Pos} {b : List Stmt} {i : Nat} {xb : SL} {I src : Addr} {items : Array Value} {ds : List PyData} {h0 : Heap}
    (W : Walks prog w A I [I, src] [I] items.size (fun i v => items[i]? = some v) (fun i h => h.IsListIter I src i ∧ h.IsList src items)) (rl : RdL g items.toList ds)
    (hI0 : h0.get? I = none) (hIL : I ≠ env.locals) (hsrc : ∃ o, g src = some o) (hgr : Gr K mg mb g) (ev : Ev scn env) (hrm : Rm A n) (hfro : Fro A h0 g) (hl : scn.lookup x = some .local) (hi : names[i]? = some x) (hnd : names.Nodup)
    (hb : OkB prog w K mg mb n Γ scn names b xb)
    (hnext : ∀ h' tk g' ρ', Kn ρ' → FX env.locals h0 g h' g' → Lc names h' g' env.locals ρ' → R (.ok .next) { s with heap := h', toks := tk })
    (hret : ∀ v d h' tk g', Kr d → FX env.locals h0 g h' g' → Rd g' v d → R (.ok (.ret v)) { s with heap := h', toks := tk }) :
    ∀ (k : Nat) (s' : Shared), (∃ j h tk g' ρ', k = items.size + 1 - j ∧ j ≤ items.size ∧ s' = { s with heap := h, toks := tk } ∧ (h.IsListIter I src j ∧ h.IsList src items) ∧ FX env.locals h0 g h g' ∧ g' I = none ∧ Lc names h g' env.locals ρ' ∧
        forD (fun d ρ' K' => vsL Γ xb (ρ'.set i (some d)) K' Kr) (ds.drop j) ρ' Kn) →
    codeAny (model prog w) A (.forLoop (.Name x px) (.ref I) b [] env) R s' := by
  intro k s' hI
  have hlen := rl.length
  rw [Array.length_toList] at hlen
  refine codeAny_forLoop (fun k s' => ∃ j h tk g' ρ', k = items.size + 1 - j ∧ j ≤ items.size ∧ s' = { s with heap := h, toks := tk } ∧ (h.IsListIter I src j ∧ h.IsList src items) ∧ FX env.locals h0 g h g' ∧ g' I = none ∧ Lc names h g' env.locals ρ' ∧
        forD (fun d ρ' K' => vsL Γ xb (ρ'.set i (some d)) K' Kr) (ds.drop j) ρ' Kn) ?_ k hI
  rintro k s' ⟨j, h, tk, g', ρ', rfl, hj, rfl, hst, X, gI, lc, hm⟩
  obtain ⟨oS, hS⟩ := hsrc
  have but : ∀ {h' : Heap}, (∀ b o, b ≠ I → h.get? b = some o → h'.get? b = some o) → FX env.locals h0 g h' g' := fun {h'} k =>
    ⟨fun b o ne e => let ⟨sl, y, c⟩ := X.keep b o ne e; ⟨sl, k b _ (by rintro rfl; rw [hI0] at e; cases e) y, c⟩, X.grow, fun a o e => k a o (by rintro rfl; rw [gI] at e; cases e) (X.sub a o e), X.new, X.gl, let ⟨o, es, ep, e, d⟩ := X.own; ⟨o, es, ep, k _ o (Ne.symm hIL) e, d⟩⟩
  have lcbut : ∀ {h' : Heap}, (∀ b o, b ≠ I → h.get? b = some o → h'.get? b = some o) → Lc names h' g' env.locals ρ' := fun {h'} k => by
    obtain ⟨m, a, b⟩ := lc
    exact ⟨m, a.at' fun o e => k _ o (Ne.symm hIL) e, b⟩
  by_cases hlt : j < items.size
  · refine W.item j _ _ _ hlt hst fun v h1 t1 hv hst1 hk1 => ?_
    have hk1 : ∀ b o, b ≠ I → h.get? b = some o → h1.get? b = some o := fun b o ne e => hk1 b o (by simpa using ne) e
    obtain ⟨d, hd, rd⟩ := rl.get' (i := j) (v := v) (by simpa using hv)
    rw [drop_cons hd] at hm
    have X1 := but hk1
    refine assign_Name (store_ok (s := { s with heap := h1, toks := t1 }) ev X1.sub (lcbut hk1) X1.gl hl hi hnd (rd.up X.grow) fun h2 x2 l2 => ?_)
    have hSL : src ≠ env.locals := by rintro rfl; have := X.grow _ _ hS; rw [X.gl] at this; cases this
    have kp : ∀ {ha hb : Heap} {ga gb : Vw}, FX env.locals ha ga hb gb → (ha.IsListIter I src (j + 1) ∧ ha.IsList src items) → (hb.IsListIter I src (j + 1) ∧ hb.IsList src items) := fun {ha hb ga gb} x st => W.frame _ _ _ st fun b hm o e => by
      have hne : b ≠ env.locals := by
        rcases List.mem_cons.mp hm with rfl | hm
        · exact hIL
        · obtain rfl := List.mem_singleton.mp hm; exact hSL
      obtain ⟨sl, y, c⟩ := x.keep b o hne e
      rw [c (iter_list_nodict st b hm o e)] at y
      exact y
    have hst2 : h2.IsListIter I src (j + 1) ∧ h2.IsList src items := kp x2 hst1
    have X2 := X1.trans x2
    refine hb A env g' { s with heap := h2, toks := t1 + 1 } _ _ _ _ _ ⟨hrm, hfro.fx X2, ev, x2.sub, hgr.up X.grow, l2⟩ X1.gl hm ⟨fun h3 t3 g3 ρ3 k3 x3 l3 => ?_, fun v d h3 t3 g3 k3 x3 r3 => ?_⟩
    · refine ⟨items.size + 1 - (j + 1), by omega, j + 1, h3, t3, g3, ρ3, rfl, hlt, rfl, ?_, X2.trans x3, ?_, l3, k3⟩
      · exact kp x3 hst2
      · cases q : g3 I with
        | none => rfl
        | some o' =>
          obtain ⟨oI2, hoI2, _⟩ := id hst2.1
          rcases x3.new _ _ q with e | e
          · rw [gI] at e; cases e
          · rw [hoI2] at e; cases e
    · exact hret v d h3 t3 g3 k3 (X2.trans x3) r3
  · obtain rfl : j = items.size := by omega
    refine W.done _ _ _ hst fun h1 t1 hk1 => ?_
    have hk1 : ∀ b o, b ≠ I → h.get? b = some o → h1.get? b = some o := fun b o ne e => hk1 b o (by simpa using ne) e
    rw [List.drop_eq_nil_of_le (by omega)] at hm
    exact wpAny_execs_nil (hnext h1 t1 g' ρ' hm (but hk1) (lcbut hk1))

theorem OkS.for1 {x : Str} {px pos : Pos} {iter : Expr} {b : List Stmt} {a : X} {i : Nat} {xb : SL} (hl : scn.lookup x = some .local) (hi : names[i]? = some x) (hnd : names.Nodup) (hit : setE iter = false) (he : OkE prog w K mg mb n Γ scn names iter a) (hb : OkB prog w K mg mb n Γ scn names b xb) :
    OkS prog w K mg mb n Γ scn names (.For (.Name x px) iter b [] pos) (.for1 i a xb) := by
  intro A env g s ρ Kn Kr Q E f hg h p
  refine wpAny_For (he A env g s ρ _ _ E f h fun v h1 t1 d1 g1 k1 e1 r1 => ?_) (folded_of hit env)
  have x1 := FX.of e1 hg f.live
  cases d1 with
  | list ds =>
    obtain ⟨src, vs, rfl, ht, rl, hsrc⟩ := r1.lst_inv e1.sub
    refine wpAny_pyIter_list (s := { s with heap := h1, toks := t1 }) ht ?_
    have hlt : src < h1.objs.size := by obtain ⟨o, ho, _⟩ := ht; exact Heap.lt_size ho
    have P1 := GX.skip e1.sub { cls := .type "list_iterator", data := .fields #[.ref src, .int 0 0] }
    have gI : g1 h1.objs.size = none := e1.sub.fresh (Nat.le_refl _)
    have W := Walks.list (prog := prog) (w := w) (A := A) f.rm.hh h1.objs.size src (Nat.ne_of_lt hlt) vs
    have live1 : ∃ o es ep, h1.get? env.locals = some o ∧ o.data = .dict es ep := let ⟨_, a, _⟩ := f.lc; ns_live (e1.keep.ns a)
    refine for_loop (K := K) (mg := mg) (mb := mb) (n := n) (h0 := h1) (s := s) (Kn := Kn) (Kr := Kr) W rl (heap_fresh (Nat.le_refl _)) (by obtain ⟨o, _, _, e, _⟩ := live1; exact Nat.ne_of_gt (Heap.lt_size e)) hsrc (f.gr.up e1.grow) f.ev f.rm (f.fro.ext e1) hl hi hnd hb ?_ ?_ _ _
      ⟨0, _, _, g1, ρ, rfl, Nat.zero_le _, rfl, ⟨⟨_, Heap.get?_push_size _ rfl, rfl, rfl⟩, ht.push _⟩, FX.of P1 x1.gl live1, gI, (f.lc.ext e1).ext P1, k1.2⟩
    · intro h' tk g' ρ' k X l
      exact p.next h' tk g' ρ' k (x1.trans X) l
    · intro v d h' tk g' k X r
      exact p.ret v d h' tk g' k (x1.trans X) r
  | _ => exact k1.elim
end
end Mine

end
section
open PySem PySem.W PySem.Calls PyProof.Rows
namespace Mine
section
variable {prog : Program} {w : World} {K : Frag} {mg mb : Str → Option Value} {n : Nat} {Γ : Nat → Sp} {scn : List (Str × NameKind)} {names : List Str} {tb : List (Str × GI)}

theorem swaps_env {e : Expr} {t : Option Expr} {l : Nat} {env : Env} (ev : Ev scn env) (hc : (env.scope.kind == .class) = ((env0 scn).scope.kind == .class)) : swapsWith e t l env = swapsWith e t l (env0 scn) := by
  have h1 : env.blockKind = (env0 scn).blockKind := by unfold Env.blockKind; rw [ev.hk]; rfl
  have h2 : env.kindOf = (env0 scn).kindOf := by funext x; unfold Env.kindOf; rw [ev.hn]; rfl
  unfold swapsWith
  rw [h1, h2, hc]

/-- the end of a comprehension whose value is bound at once -/
def useR (prog : Program) (w : World) (A : Around) (env : Env) (y : Str) (py : Pos) (Q : Flow → Shared → Prop) (E : Value → Shared → Prop) (acc : Value) (cenv : Env) : Result → Shared → Prop := fun r s' => match r with
  | .ok _ => wpAny (model prog w) A (assign (.Name y py) env acc) (fun _ s'' => ∃ m, s''.heap.Ns cenv.locals m ∧ ∀ h', Heap.SameBut cenv.locals s''.heap h' → Q .next { s'' with heap := h' }) E s'
  | .error x => ∃ m, s'.heap.Ns cenv.locals m ∧ ∀ h', Heap.SameBut cenv.locals s'.heap h' → wpAny (model prog w) A (passOn "comprehension.variables-let-go" x cenv : Sem Value) (fun (_ : Value) s' => Q .next s') E { s' with heap := h' }

theorem used_ok {A : Around} {env : Env} {s : Shared} {Q : Flow → Shared → Prop} {E : Value → Shared → Prop} {y : Str} {py : Pos} {elt target iter : Expr} {scope : Scope} {pos spos : Pos} (ev : Ev scn env) (hsw : swapsWith (.ListComp elt [⟨target, iter, [], 0⟩] scope pos) (some (.Name y py)) spos.line (env0 scn) = pure true)
    (hsc : scopeOK scope = true) (hit : setE iter = false)
    (h : wpAny (model prog w) A (eval iter env) (fun x s₁ => wpAny (model prog w) A (pyIter x) (fun it s₂ => wpAny (model prog w) A (newList []) (fun acc s₃ =>
      wpAny (model prog w) A (newFunctionEnv scope env.globals [] [] env.qual none .none (some env)) (fun cenv s₄ =>
        codeAny (model prog w) A (.compStart (.ListComp elt [⟨target, iter, [], 0⟩] scope pos) 0 it acc { cenv with scope := scope }) (useR prog w A env y py Q E acc { cenv with scope := scope }) s₄) E s₃) E s₂) E s₁) E s) :
    wpAny (model prog w) A (exec (.Assign [.Name y py] (.ListComp elt [⟨target, iter, [], 0⟩] scope pos) spos) env) Q E s := by
  rw [exec_Assign_Name_used _ _ _ _ ((swaps_env ev (by rw [ev.hk]; rfl)).trans hsw)]
  refine wpAny_bind (wpAny_standAt (wpAny_bind ?_))
  show wpAny _ A (do let _ ← comprehension (.ListComp elt [⟨target, iter, [], 0⟩] scope pos) scope env _ (newList []) false (eval iter env) (some (assign (.Name y py) env))) _ _ s
  exact wpAny_bind (wpAny_mono (wpAny_comprehension_use (Q := fun _ s' => Q .next s') rfl (folded_of hit env) (scopeOK.free hsc) (scopeOK.kind hsc) (scopeOK.names hsc) h)
    (fun _ s' hq => wpAny_pure (wpAny_pure hq)) fun _ _ e => e)

/-- and the loop's end meets it -/
theorem use_end {A : Around} {env cenv : Env} {g g1 g' : Vw} {s : Shared} {ρ : En} {Kn : En → Prop} {Kr : PyData → Prop} {Q : Flow → Shared → Prop} {E : Value → Shared → Prop} {y : Str} {py : Pos} {i : Nat} {h1 h0 h' : Heap} {tk : Nat} {C D : Addr} {m : Str → Option Value} {rs : List PyData}
    (f : Fm K mg mb n scn names A env g s ρ) (hg : g env.locals = none) (hl : scn.lookup y = some .local) (hi : names[i]? = some y) (hnd : names.Nodup) (p : PostS names env.locals g s Kn Kr Q) (e1 : GX s.heap g h1 g1) (B : GX h1 g1 h0 g1) (hC0 : h0.get? C = none) (hL : cenv.locals = C)
    (hk : Kn (ρ.set i (some (.list rs)))) (X : GX h0 g1 h' g') (r : Rd g' (.ref D) (.list rs)) (hns : h'.Ns C m) (hgC : g' C = none) : useR prog w A env y py Q E (.ref D) cenv (.ok .next) { s with heap := h', toks := tk } := by
  have e2 := (e1.trans B).trans X
  have x1 := FX.of e2 hg f.live
  have hCL : C ≠ env.locals := by
    rintro rfl
    obtain ⟨o, _, _, e, _⟩ := f.live
    obtain ⟨_, y⟩ := (e1.trans B).keep.live e
    rw [hC0] at y; cases y
  refine assign_Name (store_ok (s := { s with heap := h', toks := tk }) f.ev e2.sub (f.lc.ext e2) x1.gl hl hi hnd r fun h2 x2 l2 => ?_)
  have hns2 : h2.Ns C m := by
    obtain ⟨o, es, ep, e, r⟩ := hns
    obtain ⟨sl, y, _⟩ := x2.keep _ _ hCL e
    exact ⟨_, es, ep, y, r⟩
  refine ⟨m, by rw [hL]; exact hns2, fun h3 hsb => ?_⟩
  rw [hL] at hsb
  have x3 := x1.trans x2
  have l3 : Lc names h3 g' env.locals (ρ.set i (some (.list rs))) := by
    obtain ⟨m2, a, b⟩ := l2
    exact ⟨m2, a.at' fun o e => hsb.extBut _ o (Ne.symm hCL) e, b⟩
  refine p.next h3 (tk + 1) g' _ hk ⟨fun b o ne e => ?_, x3.grow, fun a o e => hsb.extBut a o (by rintro rfl; rw [hgC] at e; cases e) (x3.sub a o e), x3.new, x3.gl, let ⟨_, a, _⟩ := l3; ns_live a⟩ l3
  obtain ⟨sl, y, c⟩ := x3.keep b o ne e
  refine ⟨sl, hsb.extBut b _ ?_ y, c⟩
  rintro rfl
  obtain ⟨_, z⟩ := (e1.trans B).keep.live e
  rw [hC0] at z; cases z

theorem OkS.asgC1 {y : Str} {py spos : Pos} {i : Nat} {elt iter : Expr} {x : Str} {px : Pos} {scope : Scope} {pos : Pos} {xe xs : X} (hl : scn.lookup y = some .local) (hi : names[i]? = some y) (hnd : names.Nodup) (hsw : swapsWith (.ListComp elt [⟨.Name x px, iter, [], 0⟩] scope pos) (some (.Name y py)) spos.line (env0 scn) = pure true)
    (hsc : scopeOK scope = true) (hx : scope.names.lookup x = some .local) (hit : setE iter = false) (hi' : OkE prog w K mg mb n Γ scn names iter xs) (he : OkE prog w K mg mb n Γ scope.names [x] elt xe) :
    OkS prog w K mg mb n Γ scn names (.Assign [.Name y py] (.ListComp elt [⟨.Name x px, iter, [], 0⟩] scope pos) spos) (.asg i (.comp1 xe xs)) := by
  intro A env g s ρ Kn Kr Q E f hg h p
  refine used_ok f.ev hsw hsc hit (hi' A env g s ρ _ _ E f h fun u h1 t1 d1 g1 k1 e1 r1 => ?_)
  unfold itemsD at k1
  have hh := f.rm.hh
  split at k1
  · rename_i l
    obtain ⟨src, vs, rfl, ht, rl, hsrc⟩ := r1.tup_inv e1.sub
    refine iter_tuple (s := { s with heap := h1, toks := t1 }) ht ?_
    have hlt : src < h1.objs.size := ht.lt
    have P1 := GX.skip e1.sub { cls := .type "tuple_iterator", data := .fields #[.ref src, .int 0 0] }
    have gI : g1 h1.objs.size = none := e1.sub.fresh (Nat.le_refl _)
    have W := Walks.tuple (prog := prog) (w := w) (A := A) hh h1.objs.size src (Nat.ne_of_lt hlt) vs
    have B : GX h1 g1 ((h1.push { cls := .type "tuple_iterator", data := .fields #[.ref src, .int 0 0] }).hide h1.objs.size) g1 :=
      ⟨.of fun b o e => (Heap.hide_ne _ (Nat.ne_of_lt (Heap.lt_size e))).trans (Heap.get?_push_of_some _ e), fun _ _ e => e, sub_hide P1.sub gI, fun _ _ e => .inl e⟩
    refine comp_open (n := n) (RR := fun acc cenv => useR prog w A env y py Q E acc cenv) hsc P1.sub W ⟨⟨_, Heap.get?_push_size _ rfl, rfl, rfl⟩, ht.push _⟩ ⟨_, Heap.get?_push_size _ rfl⟩ gI hsrc f.rm f.ev.hg f.ev.hb ?_
    intro C D hC tC cenv hCD hCI hDI hCs hDs hC0 hD0 hev hL hS hat
    have base0 : ∀ {b : Addr}, (h1.push { cls := .type "tuple_iterator", data := .fields #[.ref src, .int 0 0] }).get? b = none → ((h1.push { cls := .type "tuple_iterator", data := .fields #[.ref src, .int 0 0] }).hide h1.objs.size).get? b = none := fun {b} e => by
      cases q : ((h1.push { cls := .type "tuple_iterator", data := .fields #[.ref src, .int 0 0] }).hide h1.objs.size).get? b with
      | none => rfl
      | some o => rw [Heap.of_hide q] at e; cases e
    refine comp1_loop (K := K) (mg := mg) (mb := mb) (n := n) W rl k1.1 hCD hCI hDI (base0 hC0) (base0 hD0) (Heap.hide_self _ _) hev hL hsrc (f.gr.up e1.grow) f.rm hx he (fun i h st => ⟨_, st.1.choose_spec.1⟩) (fun i h st => iter_tuple_nodict st) ((f.fro.ext e1).ext B) ?_ _ _ ⟨0, [], rfl, Nat.zero_le _, rfl, hat, k1.2⟩
    intro rs h' tk g' m hk X r hns hgC
    exact use_end (s := s) f hg hl hi hnd p e1 B (base0 hC0) hL hk X r hns hgC
  · rename_i l
    obtain ⟨src, vs, rfl, ht, rl, hsrc⟩ := r1.lst_inv e1.sub
    refine wpAny_pyIter_list (s := { s with heap := h1, toks := t1 }) ht ?_
    have hlt : src < h1.objs.size := by obtain ⟨o, ho, _⟩ := ht; exact Heap.lt_size ho
    have P1 := GX.skip e1.sub { cls := .type "list_iterator", data := .fields #[.ref src, .int 0 0] }
    have gI : g1 h1.objs.size = none := e1.sub.fresh (Nat.le_refl _)
    have W := Walks.list (prog := prog) (w := w) (A := A) hh h1.objs.size src (Nat.ne_of_lt hlt) vs
    have B : GX h1 g1 ((h1.push { cls := .type "list_iterator", data := .fields #[.ref src, .int 0 0] }).hide h1.objs.size) g1 :=
      ⟨.of fun b o e => (Heap.hide_ne _ (Nat.ne_of_lt (Heap.lt_size e))).trans (Heap.get?_push_of_some _ e), fun _ _ e => e, sub_hide P1.sub gI, fun _ _ e => .inl e⟩
    refine comp_open (n := n) (RR := fun acc cenv => useR prog w A env y py Q E acc cenv) hsc P1.sub W ⟨⟨_, Heap.get?_push_size _ rfl, rfl, rfl⟩, ht.push _⟩ ⟨_, Heap.get?_push_size _ rfl⟩ gI hsrc f.rm f.ev.hg f.ev.hb ?_
    intro C D hC tC cenv hCD hCI hDI hCs hDs hC0 hD0 hev hL hS hat
    have base0 : ∀ {b : Addr}, (h1.push { cls := .type "list_iterator", data := .fields #[.ref src, .int 0 0] }).get? b = none → ((h1.push { cls := .type "list_iterator", data := .fields #[.ref src, .int 0 0] }).hide h1.objs.size).get? b = none := fun {b} e => by
      cases q : ((h1.push { cls := .type "list_iterator", data := .fields #[.ref src, .int 0 0] }).hide h1.objs.size).get? b with
      | none => rfl
      | some o => rw [Heap.of_hide q] at e; cases e
    refine comp1_loop (K := K) (mg := mg) (mb := mb) (n := n) W rl k1.1 hCD hCI hDI (base0 hC0) (base0 hD0) (Heap.hide_self _ _) hev hL hsrc (f.gr.up e1.grow) f.rm hx he (fun i h st => ⟨_, st.1.choose_spec.1⟩) (fun i h st => iter_list_nodict st) ((f.fro.ext e1).ext B) ?_ _ _ ⟨0, [], rfl, Nat.zero_le _, rfl, hat, k1.2⟩
    intro rs h' tk g' m hk X r hns hgC
    exact use_end (s := s) f hg hl hi hnd p e1 B (base0 hC0) hL hk X r hns hgC
  · exact k1.elim

theorem OkS.asgC2 {z : Str} {pz spos : Pos} {i : Nat} {elt iter : Expr} {x y : Str} {px py tp : Pos} {kk : Nat} {scope : Scope} {pos : Pos} {xe xs : X} (hl : scn.lookup z = some .local) (hi : names[i]? = some z) (hnd : names.Nodup)
    (hsw : swapsWith (.ListComp elt [⟨.Tuple [.Name x px, .Name y py] kk tp, iter, [], 0⟩] scope pos) (some (.Name z pz)) spos.line (env0 scn) = pure true)
    (hsc : scopeOK scope = true) (hx : scope.names.lookup x = some .local) (hy : scope.names.lookup y = some .local) (hxy : x ≠ y) (hit : setE iter = false) (hi' : OkE prog w K mg mb n Γ scn names iter xs) (he : OkE prog w K mg mb n Γ scope.names [x, y] elt xe) :
    OkS prog w K mg mb n Γ scn names (.Assign [.Name z pz] (.ListComp elt [⟨.Tuple [.Name x px, .Name y py] kk tp, iter, [], 0⟩] scope pos) spos) (.asg i (.comp2 xe xs)) := by
  intro A env g s ρ Kn Kr Q E f hg h p
  refine used_ok f.ev hsw hsc hit (hi' A env g s ρ _ _ E f h fun u h1 t1 d1 g1 k1 e1 r1 => ?_)
  unfold listD at k1
  have hh := f.rm.hh
  split at k1
  · rename_i l
    obtain ⟨src, vs, rfl, ht, rl, hsrc⟩ := r1.lst_inv e1.sub
    refine wpAny_pyIter_list (s := { s with heap := h1, toks := t1 }) ht ?_
    have hlt : src < h1.objs.size := by obtain ⟨o, ho, _⟩ := ht; exact Heap.lt_size ho
    have P1 := GX.skip e1.sub { cls := .type "list_iterator", data := .fields #[.ref src, .int 0 0] }
    have gI : g1 h1.objs.size = none := e1.sub.fresh (Nat.le_refl _)
    have W := Walks.list (prog := prog) (w := w) (A := A) hh h1.objs.size src (Nat.ne_of_lt hlt) vs
    have B : GX h1 g1 ((h1.push { cls := .type "list_iterator", data := .fields #[.ref src, .int 0 0] }).hide h1.objs.size) g1 :=
      ⟨.of fun b o e => (Heap.hide_ne _ (Nat.ne_of_lt (Heap.lt_size e))).trans (Heap.get?_push_of_some _ e), fun _ _ e => e, sub_hide P1.sub gI, fun _ _ e => .inl e⟩
    refine comp_open (n := n) (RR := fun acc cenv => useR prog w A env z pz Q E acc cenv) hsc P1.sub W ⟨⟨_, Heap.get?_push_size _ rfl, rfl, rfl⟩, ht.push _⟩ ⟨_, Heap.get?_push_size _ rfl⟩ gI hsrc f.rm f.ev.hg f.ev.hb ?_
    intro C D hC tC cenv hCD hCI hDI hCs hDs hC0 hD0 hev hL hS hat
    have base0 : ∀ {b : Addr}, (h1.push { cls := .type "list_iterator", data := .fields #[.ref src, .int 0 0] }).get? b = none → ((h1.push { cls := .type "list_iterator", data := .fields #[.ref src, .int 0 0] }).hide h1.objs.size).get? b = none := fun {b} e => by
      cases q : ((h1.push { cls := .type "list_iterator", data := .fields #[.ref src, .int 0 0] }).hide h1.objs.size).get? b with
      | none => rfl
      | some o => rw [Heap.of_hide q] at e; cases e
    refine comp2_loop (K := K) (mg := mg) (mb := mb) (n := n) W rl k1.1 hCD hCI hDI (base0 hC0) (base0 hD0) (Heap.hide_self _ _) hev hL hsrc (f.gr.up e1.grow) f.rm hx hy hxy he ((f.fro.ext e1).ext B) ?_ _ _ ⟨0, [], rfl, Nat.zero_le _, rfl, hat, k1.2⟩
    intro rs h' tk g' m hk X r hns hgC
    exact use_end (s := s) f hg hl hi hnd p e1 B (base0 hC0) hL hk X r hns hgC
  · exact k1.elim
end
end Mine

end
section
open PySem PySem.W PySem.Calls PyProof.Rows
namespace Mine

def slot : List Str → Str → Option Nat
  | [], _ => none
  | y :: r, x => if (y == x) = true then some 0 else (slot r x).map (· + 1)
theorem slot_ok : ∀ {l : List Str} {x : Str} {i : Nat}, slot l x = some i → l[i]? = some x
  | [], _, _, h => by cases h
  | y :: r, x, i, h => by
    unfold slot at h
    split at h
    · rename_i q; cases h; have := eq_of_beq q; subst this; rfl
    · obtain ⟨j, hj, rfl⟩ := Option.map_eq_some_iff.mp h
      simpa using slot_ok hj

def toXL : List X → XL
  | [] => .nil
  | x :: r => .cons x (toXL r)
def toSL : List S → SL
  | [] => .nil
  | x :: r => .cons x (toSL r)
def nameE : Expr → Bool
  | .Name _ _ => true
  | _ => false
def baseE : Expr → Bool
  | .Name _ _ => true
  | .BinOp _ _ _ _ => true
  | _ => false

abbrev Tb := List (Str × GI)
abbrev Scn := List (Str × NameKind)

def nameX (tb : Tb) (scn : Scn) (names : List Str) (x : Str) : X :=
  if (x == Str.ofString "__debug__") = true then .stuck else match scn.lookup x with
  | some .local => match slot names x with
    | some i => .var i
    | none => .stuck
  | some .globalImplicit => match tb.lookup x with
    | some (.const d) => .lit d
    | _ => .stuck
  | _ => .stuck

def glob? (tb : Tb) (scn : Scn) (x : Str) : Option GI :=
  if (x == Str.ofString "__debug__") = true then none else match scn.lookup x with
  | some .globalImplicit => tb.lookup x
  | _ => none

/-- a call of a name -/
def callX (tb : Tb) (scn : Scn) (c : Expr → X) (x : Str) (args : List Expr) : X :=
  if args.any starred = true then .stuck else match glob? tb scn x, args with
  | some (.fn a), e :: es => .call a (toXL ((e :: es).map c))
  | some (.bt b), [e] => if b = "len" then .len (c e) else if b = "abs" then .abs (c e) else .stuck
  | some (.bt b), [e, e2] => if b = "divmod" then .divmod (c e) (c e2) else .stuck
  | _, _ => .stuck

/-- an item, a rest, the table of shifts -/
def subX (scn : Scn) (c : Expr → X) (v s : Expr) : X := match v, s with
  | .Subscript (.Name x p0) e1 p1, e2 =>
    if ((x == Str.ofString "shifts_down") && (scn.lookup x == some .globalImplicit) && !sliced e1 && !sliced e2) = true then .sd (c e1) (c e2)
    else if sliced e2 = true then .stuck else .idx (c (.Subscript (.Name x p0) e1 p1)) (c e2)
  | v, .Slice (some (.Constant (.int 1) _ _)) none none _ => if nameE v = true then .tail (c v) else .stuck
  | v, s => if sliced s = true then .stuck else .idx (c v) (c s)

def compE (tb : Tb) : Nat → Scn → List Str → Expr → X
  | 0, _, _, _ => .stuck
  | n + 1, scn, names, e => match e with
    | .Constant (.int i) _ _ => .lit (.int i)
    | .Constant (.str i) _ _ => .lit (.str i)
    | .Constant (.bool i) _ _ => .lit (.bool i)
    | .Name x _ => nameX tb scn names x
    | .BinOp l op r _ => .bin op (compE tb n scn names l) (compE tb n scn names r)
    | .UnaryOp .USub a _ => .neg (compE tb n scn names a)
    | .UnaryOp .Not a _ => .not (compE tb n scn names a)
    | .Compare l [op] [r] _ => if behindInMarks op r = true then .stuck else .cmp op (compE tb n scn names l) (compE tb n scn names r)
    | .Compare l [p, q] [r1, r2] _ => if lastMarks [p, q] [r1, r2] = true then .stuck else .cmp2 p q (compE tb n scn names l) (compE tb n scn names r1) (compE tb n scn names r2)
    | .BoolOp _ [e] _ => compE tb n scn names e
    | .BoolOp .And (e :: e2 :: r) pos => .and (compE tb n scn names e) (compE tb n scn names (.BoolOp .And (e2 :: r) pos))
    | .BoolOp .Or (e :: e2 :: r) pos => .or (compE tb n scn names e) (compE tb n scn names (.BoolOp .Or (e2 :: r) pos))
    | .IfExp t a b _ => .ite (compE tb n scn names t) (compE tb n scn names a) (compE tb n scn names b)
    | .Tuple es _ _ => if es.any starred = true then .stuck else .tup (toXL (es.map (compE tb n scn names)))
    | .List es _ => if es.any starred = true then .stuck else .lst (toXL (es.map (compE tb n scn names)))
    | .Subscript v s _ => subX scn (compE tb n scn names) v s
    | .Call (.Name x _) args [] _ => callX tb scn (compE tb n scn names) x args
    | .Call (.Attribute o nm p1) [] [] pos => if ((nm == Str.ofString "bit_length") && (p1.endLine == pos.line) && baseE o) = true then .bitlen (compE tb n scn names o) else .stuck
    | .ListComp elt [⟨.Name x _, iter, [], 0⟩] scope _ =>
      if (scopeOK scope && (scope.names.lookup x == some .local) && !setE iter) = true then .comp1 (compE tb n scope.names [x] elt) (compE tb n scn names iter) else .stuck
    | .ListComp elt [⟨.Tuple [.Name x _, .Name y _] _ _, iter, [], 0⟩] scope _ =>
      if (scopeOK scope && (scope.names.lookup x == some .local) && (scope.names.lookup y == some .local) && (x != y) && !setE iter) = true then .comp2 (compE tb n scope.names [x, y] elt) (compE tb n scn names iter) else .stuck
    | _ => .stuck

def slots (scn : Scn) (names : List Str) : List Str → Option (List Nat)
  | [] => some []
  | x :: r => if (scn.lookup x == some .local) = true then match slot names x, slots scn names r with
      | some i, some l => some (i :: l)
      | _, _ => none
    else none

def swapTrue (m : Sem Bool) : Bool := match m with
  | .pure true => true
  | _ => false
/-- none: the stores in order; some: swapped -/
def swapOut (m : Sem (Option (List Str))) : Option (Option (List Str)) := match m with
  | .pure o => some o
  | _ => none

def asgS (tb : Tb) (n : Nat) (scn : Scn) (names : List Str) (x : Str) (p1 : Pos) (e : Expr) (pos : Pos) : S :=
  if (scn.lookup x == some .local) = true then match slot names x with
    | some i => if compE? e = false then .asg i (compE tb n scn names e) else match e with
      | .ListComp elt [⟨.Name u pu, iter, [], 0⟩] scope lp =>
        if (swapTrue (swapsWith (.ListComp elt [⟨.Name u pu, iter, [], 0⟩] scope lp) (some (.Name x p1)) pos.line (env0 scn)) && scopeOK scope && (scope.names.lookup u == some .local) && !setE iter) = true then .asg i (.comp1 (compE tb n scope.names [u] elt) (compE tb n scn names iter)) else .stuck
      | .ListComp elt [⟨.Tuple [.Name u pu, .Name v pv] kk tp, iter, [], 0⟩] scope lp =>
        if (swapTrue (swapsWith (.ListComp elt [⟨.Tuple [.Name u pu, .Name v pv] kk tp, iter, [], 0⟩] scope lp) (some (.Name x p1)) pos.line (env0 scn)) && scopeOK scope && (scope.names.lookup u == some .local) && (scope.names.lookup v == some .local) && (u != v) && !setE iter) = true then
          .asg i (.comp2 (compE tb n scope.names [u, v] elt) (compE tb n scn names iter)) else .stuck
      | _ => .stuck
    | none => .stuck
  else .stuck

def compS (tb : Tb) : Nat → Scn → List Str → Stmt → S
  | 0, _, _, _ => .stuck
  | n + 1, scn, names, st => match st with
    | .Assign [.Name x p1] e pos => asgS tb n scn names x p1 e pos
    | .Assign [.Name x _, .Name y _] e _ =>
      if ((scn.lookup x == some .local) && (scn.lookup y == some .local)) = true then match slot names x, slot names y with
        | some i, some j => .asg2 i j (compE tb n scn names e)
        | _, _ => .stuck
      else .stuck
    | .Assign [.Tuple ts k tp] e _ => match names2 ts with
      | some xs => match slots scn names xs, swapOut (swappedStores [.Tuple ts k tp] e (env0 scn)) with
        | some is, some none => .unp is (compE tb n scn names e)
        | some is, some (some ys) => if (ys == xs) = true then (if is.Nodup then .unp is (compE tb n scn names e) else .stuck) else .stuck
        | _, _ => .stuck
      | none => .stuck
    | .AugAssign (.Name x _) op e _ => if (scn.lookup x == some .local) = true then match slot names x with
        | some i => .aug i op (compE tb n scn names e)
        | none => .stuck
      else .stuck
    | .If t b o _ => .ifs (compE tb n scn names t) (toSL (b.map (compS tb n scn names))) (toSL (o.map (compS tb n scn names)))
    | .While t b [] _ => .whl (compE tb n scn names t) (toSL (b.map (compS tb n scn names)))
    | .For (.Name x _) iter b [] _ => if ((scn.lookup x == some .local) && !setE iter) = true then match slot names x with
        | some i => .for1 i (compE tb n scn names iter) (toSL (b.map (compS tb n scn names)))
        | none => .stuck
      else .stuck
    | .Return (some e) _ => .ret (compE tb n scn names e)
    | .Assert t _ _ => .asrt (compE tb n scn names t)
    | _ => .stuck

section
variable {prog : Program} {w : World} {K : Frag} {mg mb : Str → Option Value} {nn : Nat} {Γ : Nat → Sp} {scn : List (Str × NameKind)} {names : List Str} {tb : List (Str × GI)}

def isBool : Expr → Bool
  | .BoolOp _ _ _ => true
  | _ => false

structure Ok (prog : Program) (w : World) (K : Frag) (mg mb : Str → Option Value) (nn : Nat) (Γ : Nat → Sp) (scn : List (Str × NameKind)) (names : List Str) (e : Expr) (x : X) : Prop where
  oe : OkE prog w K mg mb nn Γ scn names e x
  ot : OkT prog w K mg mb nn Γ scn names e x
  ob : isBool e = true → OkTW prog w K mg mb nn Γ scn names e x

theorem Ok.stuck {e : Expr} : Ok prog w K mg mb nn Γ scn names e .stuck := ⟨fun _ _ _ _ _ _ _ _ _ h _ => h.elim, fun _ _ _ _ _ _ _ _ _ h _ => h.elim, fun _ _ _ _ _ _ _ _ _ _ _ h _ => h.elim⟩
theorem Ok.of {e : Expr} {x : X} (h : OkE prog w K mg mb nn Γ scn names e x) (h2 : ∀ ρ Kp, (vc Γ x ρ).2 Kp = (vc Γ x ρ).1 fun d => truthD d Kp)
    (he : ∀ env, isTrue e env (eval e env) = (do let v ← eval e env; standAt e.pos; holding [v] (truthy v))) (hb : isBool e = false) : Ok prog w K mg mb nn Γ scn names e x :=
  ⟨h, OkT.plain h h2 he, fun q => by rw [hb] at q; cases q⟩

theorem OkL.of {c : Expr → X} : ∀ {es : List Expr}, (es.any starred = false) → (∀ e, Ok prog w K mg mb nn Γ scn names e (c e)) → OkL prog w K mg mb nn Γ scn names es (toXL (es.map c))
  | [], _, _ => OkL.nil
  | e :: es, h, k => by
    rw [List.any_cons, Bool.or_eq_false_iff] at h
    exact OkL.cons h.1 (k e).oe (OkL.of h.2 k)

theorem nameX_ok (T : TbOK prog w K mg mb nn Γ tb) {x : Str} {pos : Pos} : Ok prog w K mg mb nn Γ scn names (.Name x pos) (nameX tb scn names x) := by
  unfold nameX
  split
  · exact Ok.stuck
  · rename_i hd
    have hd : (x == ("__debug__" : Str)) = false := by simpa using hd
    split
    · rename_i hl
      split
      · rename_i i hi
        exact Ok.of (OkE.var hl hd (slot_ok hi)) (fun _ _ => rfl) (fun _ => rfl) rfl
      · exact Ok.stuck
    · rename_i hl
      split
      · rename_i d hi
        exact Ok.of (OkE.glob T hl hd hi) (fun _ _ => rfl) (fun _ => rfl) rfl
      · exact Ok.stuck
    · exact Ok.stuck

theorem glob?_ok {x : Str} {gi : GI} (h : glob? tb scn x = some gi) : (x == ("__debug__" : Str)) = false ∧ scn.lookup x = some .globalImplicit ∧ tb.lookup x = some gi := by
  unfold glob? at h
  split at h
  · cases h
  · rename_i hd
    split at h
    · rename_i hl
      exact ⟨by simpa using hd, hl, h⟩
    · cases h

theorem callX_ok (T : TbOK prog w K mg mb nn Γ tb) {c : Expr → X} (k : ∀ e, Ok prog w K mg mb nn Γ scn names e (c e)) {x : Str} {p1 pos : Pos} {args : List Expr} : Ok prog w K mg mb nn Γ scn names (.Call (.Name x p1) args [] pos) (callX tb scn c x args) := by
  unfold callX
  split
  · exact Ok.stuck
  · rename_i hs
    replace hs : args.any starred = false := by simpa using hs
    split
    · rename_i a e es hg
      obtain ⟨h1, h2, h3⟩ := glob?_ok hg
      have hs1 := hs
      rw [List.any_cons, Bool.or_eq_false_iff] at hs
      exact Ok.of (OkE.call T h2 h1 h3 hs.1 (OkL.of hs1 k)) (fun _ _ => rfl) (fun _ => rfl) rfl
    · rename_i b e hg
      obtain ⟨h1, h2, h3⟩ := glob?_ok hg
      rw [List.any_cons, Bool.or_eq_false_iff] at hs
      split
      · rename_i q; subst q
        exact Ok.of (OkE.len T h2 h1 h3 hs.1 (k e).oe) (fun _ _ => rfl) (fun _ => rfl) rfl
      · split
        · rename_i q; subst q
          exact Ok.of (OkE.abs T h2 h1 h3 hs.1 (k e).oe) (fun _ _ => rfl) (fun _ => rfl) rfl
        · exact Ok.stuck
    · rename_i b e e2 hg
      obtain ⟨h1, h2, h3⟩ := glob?_ok hg
      rw [List.any_cons, Bool.or_eq_false_iff, List.any_cons, Bool.or_eq_false_iff] at hs
      split
      · rename_i q; subst q
        exact Ok.of (OkE.divmod T h2 h1 h3 hs.1 hs.2.1 (k e).oe (k e2).oe) (fun _ _ => rfl) (fun _ => rfl) rfl
      · exact Ok.stuck
    · exact Ok.stuck

theorem subX_ok (T : TbOK prog w K mg mb nn Γ tb) {c : Expr → X} (k : ∀ e, Ok prog w K mg mb nn Γ scn names e (c e)) {v s : Expr} {pos : Pos} : Ok prog w K mg mb nn Γ scn names (.Subscript v s pos) (subX scn c v s) := by
  unfold subX
  split
  · rename_i x p0 e1 p1
    split
    · rename_i h
      simp only [Bool.and_eq_true, Bool.not_eq_true', beq_iff_eq] at h
      obtain ⟨⟨⟨h1, h2⟩, h3⟩, h4⟩ := h
      exact Ok.of (OkE.sd T h1 h2 (by rw [h1]; decide) h3 h4 (k e1).oe (k _).oe) (fun _ _ => rfl) (fun _ => rfl) rfl
    · split
      · exact Ok.stuck
      · rename_i h
        exact Ok.of (OkE.idx (by simpa using h) (k _).oe (k _).oe) (fun _ _ => rfl) (fun _ => rfl) rfl
  · rename_i v' k' p1 p2
    split
    · rename_i h
      refine Ok.of (OkE.tail (k _).oe fun o r => ?_) (fun _ _ => rfl) (fun _ => rfl) rfl
      cases v <;> first | rfl | cases h
    · exact Ok.stuck
  · split
    · exact Ok.stuck
    · rename_i h
      exact Ok.of (OkE.idx (by simpa using h) (k _).oe (k _).oe) (fun _ _ => rfl) (fun _ => rfl) rfl

theorem base_ok {o : Expr} (h : baseE o = true) (env : Env) : attributeBase o (Str.ofString "bit_length") env (eval o env) = eval o env := by
  cases o <;> first | rfl | cases h

theorem compE_ok (T : TbOK prog w K mg mb nn Γ tb) : ∀ (n : Nat) (scn : Scn) (names : List Str) (e : Expr), Ok prog w K mg mb nn Γ scn names e (compE tb n scn names e)
  | 0, scn, names, e => Ok.stuck
  | n + 1, scn, names, e => by
    have ih := compE_ok T n
    unfold compE
    split
    · exact Ok.of OkE.lit_int (fun _ _ => rfl) (fun _ => rfl) rfl
    · exact Ok.of OkE.lit_str (fun _ _ => rfl) (fun _ => rfl) rfl
    · exact Ok.of OkE.lit_bool (fun _ _ => rfl) (fun _ => rfl) rfl
    · exact nameX_ok T
    · exact Ok.of (OkE.bin (ih _ _ _).oe (ih _ _ _).oe) (fun _ _ => rfl) (fun _ => rfl) rfl
    · exact Ok.of (OkE.neg (ih _ _ _).oe) (fun _ _ => rfl) (fun _ => rfl) rfl
    · exact ⟨OkE.not (ih _ _ _).oe, OkT.not (ih _ _ _).ot, fun q => by cases q⟩
    · split
      · exact Ok.stuck
      · rename_i h
        exact ⟨OkE.cmp (ih _ _ _).oe (ih _ _ _).oe (by simpa using h), OkT.cmp (ih _ _ _).oe (ih _ _ _).oe (by simpa using h), fun q => by cases q⟩
    · split
      · exact Ok.stuck
      · rename_i h
        exact ⟨OkE.cmp2 (ih _ _ _).oe (ih _ _ _).oe (ih _ _ _).oe (by simpa using h), OkT.cmp2 (ih _ _ _).oe (ih _ _ _).oe (ih _ _ _).oe (by simpa using h), fun q => by cases q⟩
    · rename_i op e pos
      have ht : OkTW prog w K mg mb nn Γ scn names (.BoolOp op [e] pos) (compE tb n scn names e) := by
        cases op with
        | And => exact OkTW.and1 (ih _ _ _).ot
        | Or => exact OkTW.or1 (ih _ _ _).ot
      exact ⟨OkE.one (ih _ _ _).oe, ht.at, fun _ => ht⟩
    · rename_i e1 e2 r pos
      have ht := OkTW.and (ih scn names e1).ot ((ih scn names (.BoolOp .And (e2 :: r) pos)).ob rfl)
      exact ⟨OkE.and (ih _ _ _).oe (ih _ _ _).oe, ht.at, fun _ => ht⟩
    · rename_i e1 e2 r pos
      have ht := OkTW.or (ih scn names e1).ot ((ih scn names (.BoolOp .Or (e2 :: r) pos)).ob rfl)
      exact ⟨OkE.or (ih _ _ _).oe (ih _ _ _).oe, ht.at, fun _ => ht⟩
    · exact ⟨OkE.ite (ih _ _ _).ot (ih _ _ _).oe (ih _ _ _).oe, OkT.ite (ih _ _ _).ot (ih _ _ _).ot (ih _ _ _).ot, fun q => by cases q⟩
    · split
      · exact Ok.stuck
      · rename_i h
        exact Ok.of (OkE.tup (OkL.of (by simpa using h) (ih _ _))) (fun _ _ => rfl) (fun _ => rfl) rfl
    · split
      · exact Ok.stuck
      · rename_i h
        exact Ok.of (OkE.lst (OkL.of (by simpa using h) (ih _ _))) (fun _ _ => rfl) (fun _ => rfl) rfl
    · exact subX_ok T (ih _ _)
    · exact callX_ok T (ih _ _)
    · split
      · rename_i h
        simp only [Bool.and_eq_true, beq_iff_eq] at h
        obtain ⟨⟨h1, h2⟩, h3⟩ := h
        subst h1
        exact Ok.of (OkE.bitlen (base_ok h3) (by simpa using h2) (ih _ _ _).oe) (fun _ _ => rfl) (fun _ => rfl) rfl
      · exact Ok.stuck
    · split
      · rename_i h
        simp only [Bool.and_eq_true, Bool.not_eq_true', beq_iff_eq] at h
        exact Ok.of (OkE.comp1 h.1.1 h.1.2 h.2 (ih _ _ _).oe (ih _ _ _).oe) (fun _ _ => rfl) (fun _ => rfl) rfl
      · exact Ok.stuck
    · split
      · rename_i h
        simp only [Bool.and_eq_true, Bool.not_eq_true', beq_iff_eq, bne_iff_ne] at h
        exact Ok.of (OkE.comp2 h.1.1.1.1 h.1.1.1.2 h.1.1.2 h.1.2 h.2 (ih _ _ _).oe (ih _ _ _).oe) (fun _ _ => rfl) (fun _ => rfl) rfl
      · exact Ok.stuck
    · exact Ok.stuck

theorem OkS.stuck {st : Stmt} : OkS prog w K mg mb nn Γ scn names st .stuck := fun _ _ _ _ _ _ _ _ _ _ _ h _ => h.elim

theorem slots_ok : ∀ {xs : List Str} {is : List Nat}, slots scn names xs = some is → (∀ x ∈ xs, scn.lookup x = some .local) ∧ is.map (names[·]?) = xs.map some
  | [], is, h => by cases h; exact ⟨fun _ q => (nomatch q), rfl⟩
  | x :: r, is, h => by
    unfold slots at h
    split at h
    · rename_i hl
      split at h
      · rename_i i l hi hr
        cases h
        obtain ⟨a, b⟩ := slots_ok hr
        refine ⟨fun z hz => ?_, ?_⟩
        · rcases List.mem_cons.mp hz with rfl | hz
          · exact beq_iff_eq.mp hl
          · exact a z hz
        · rw [List.map_cons, List.map_cons, slot_ok hi, b]
      · cases h
    · cases h

theorem swapTrue_ok {m : Sem Bool} (h : swapTrue m = true) : m = pure true := by
  unfold swapTrue at h
  split at h
  · rfl
  · cases h
theorem swapOut_ok {m : Sem (Option (List Str))} {o : Option (List Str)} (h : swapOut m = some o) : m = pure o := by
  unfold swapOut at h
  split at h
  · cases h; rfl
  · cases h

theorem asgS_ok (T : TbOK prog w K mg mb nn Γ tb) (hnd : names.Nodup) {n : Nat} {x : Str} {p1 pos : Pos} {e : Expr} : OkS prog w K mg mb nn Γ scn names (.Assign [.Name x p1] e pos) (asgS tb n scn names x p1 e pos) := by
  unfold asgS
  split
  · rename_i hl
    have hl := beq_iff_eq.mp hl
    split
    · rename_i i hi
      split
      · rename_i hc
        exact OkS.asg hl (slot_ok hi) hnd hc (compE_ok T n scn names e).oe
      · split
        · split
          · rename_i h
            simp only [Bool.and_eq_true, Bool.not_eq_true', beq_iff_eq] at h
            exact OkS.asgC1 hl (slot_ok hi) hnd (swapTrue_ok h.1.1.1) h.1.1.2 h.1.2 h.2 (compE_ok T n scn names _).oe (compE_ok T n _ _ _).oe
          · exact OkS.stuck
        · split
          · rename_i h
            simp only [Bool.and_eq_true, Bool.not_eq_true', beq_iff_eq, bne_iff_ne] at h
            exact OkS.asgC2 hl (slot_ok hi) hnd (swapTrue_ok h.1.1.1.1.1) h.1.1.1.1.2 h.1.1.1.2 h.1.1.2 h.1.2 h.2 (compE_ok T n scn names _).oe (compE_ok T n _ _ _).oe
          · exact OkS.stuck
        · exact OkS.stuck
    · exact OkS.stuck
  · exact OkS.stuck

theorem OkB.of {c : Stmt → S} (k : ∀ st, OkS prog w K mg mb nn Γ scn names st (c st)) : ∀ {b : List Stmt}, OkB prog w K mg mb nn Γ scn names b (toSL (b.map c))
  | [] => OkB.nil
  | st :: r => OkB.cons (k st) (OkB.of k)

theorem compS_ok (T : TbOK prog w K mg mb nn Γ tb) (hnd : names.Nodup) : ∀ (n : Nat) (st : Stmt), OkS prog w K mg mb nn Γ scn names st (compS tb n scn names st)
  | 0, _ => OkS.stuck
  | n + 1, st => by
    have ih := compS_ok T hnd n
    have he := compE_ok T n scn names
    unfold compS
    split
    · exact asgS_ok T hnd
    · split
      · rename_i h
        simp only [Bool.and_eq_true, beq_iff_eq] at h
        split
        · rename_i i j hi hj
          exact OkS.asg2 h.1 h.2 (slot_ok hi) (slot_ok hj) hnd (he _).oe
        · exact OkS.stuck
      · exact OkS.stuck
    · split
      · rename_i xs hx
        split
        · rename_i is hs hw
          obtain ⟨a, b⟩ := slots_ok hs
          exact OkS.unpN hx a b hnd (swapOut_ok hw) (he _).oe
        · rename_i is ys hs hw
          split
          · rename_i q
            split
            · rename_i hin
              obtain ⟨a, b⟩ := slots_ok hs
              have q := eq_of_beq q
              subst q
              exact OkS.unpS (swapOut_ok hw) a b hnd hin (he _).oe
            · exact OkS.stuck
          · exact OkS.stuck
        · exact OkS.stuck
      · exact OkS.stuck
    · split
      · rename_i h
        split
        · rename_i i hi
          exact OkS.aug (beq_iff_eq.mp h) (slot_ok hi) hnd (he _).oe
        · exact OkS.stuck
      · exact OkS.stuck
    · exact OkS.ifs (he _).ot (OkB.of ih) (OkB.of ih)
    · exact OkS.whl (he _).ot (OkB.of ih)
    · split
      · rename_i h
        simp only [Bool.and_eq_true, Bool.not_eq_true', beq_iff_eq] at h
        split
        · rename_i i hi
          exact OkS.for1 h.1 (slot_ok hi) hnd h.2 (he _).oe (OkB.of ih)
        · exact OkS.stuck
      · exact OkS.stuck
    · exact OkS.ret (he _).oe
    · exact OkS.asrt (he _).ot
    · exact OkS.stuck
end
end Mine

end
section
open PySem PySem.W PySem.Calls PyProof.Rows
namespace Mine

theorem lookup_nodup : ∀ {cs : List (Str × Value)} {n : Str} {c : Value}, (cs.map (·.1)).Nodup → (n, c) ∈ cs → cs.lookup n = some c
  | (m, d) :: cs, n, c, hnd, hm => by
    rw [List.map_cons, List.nodup_cons] at hnd
    rw [List.lookup_cons]
    rcases List.mem_cons.mp hm with e | hm2
    · cases e; simp
    · have : n ≠ m := by
        rintro rfl
        exact hnd.1 (List.mem_map.mpr ⟨_, hm2, rfl⟩)
      have e : (n == m) = false := by simpa using this
      rw [e]
      exact lookup_nodup hnd.2 hm2

/-- the names that are bound by a call, and the rest of a frame's own -/
def ownNames (scope : Scope) : List Str := (scope.names.filter fun x => x.2 == .local).map (·.1)
def nodupS : List Str → Bool
  | [] => true
  | x :: r => !(r.any fun y => y == x) && nodupS r
theorem nodupS_ok : ∀ {l : List Str}, nodupS l = true → l.Nodup
  | [], _ => .nil
  | x :: r, h => by
    unfold nodupS at h
    rw [Bool.and_eq_true] at h
    refine List.nodup_cons.mpr ⟨fun hm => ?_, nodupS_ok h.2⟩
    have h1 := h.1
    simp only [Bool.not_eq_true', List.any_eq_false] at h1
    exact h1 x hm (by simp)

/-- the look at a def: its parameters' number, its own names' number, its body in the small language -/
def chk (K : Frag) (tb : Tb) (a : Addr) : Option (Nat × Nat × SL) := match K.lookup a with
  | some ⟨_, _, .func fd, _⟩ => match fd.body with
    | .stmts body =>
      let ps := fd.params.args.map (·.arg)
      let own := ownNames fd.scope
      if (scopeOK fd.scope && !fd.scope.isCoroutine && !fd.scope.isGenerator && (fd.globals == mainGlobals) && (fd.builtins == builtinsNs) && codeIn K fd.code fd.qualname && nodupS own && (own.take ps.length == ps)) = true then
        some (ps.length, own.length, toSL (body.map (compS tb 60 fd.scope.names own)))
      else none
    | _ => none
  | _ => none

/-- what a call with so many arguments binds -/
def Binds (K : Frag) (a : Addr) (k : Nat) (dds : List PyData) : Prop :=
  ∃ oc od fd osl, K.lookup a = some ⟨oc, od, .func fd, osl⟩ ∧ ∀ (s : Shared) (vs : List Value), vs.length = k → K.In s.heap →
    ∃ dvs, (∀ g : Vw, (∀ a o, K.lookup a = some o → g a = some o) → RdL g dvs dds) ∧ BindsTo s fd ⟨vs, []⟩ ((fd.params.args.map (·.arg)).zip (vs ++ dvs))

def start (m : Nat) (ds : List PyData) : En := ds.map some ++ List.replicate (m - ds.length) none

section
variable {prog : Program} {w : World} {K : Frag} {mg mb : Str → Option Value} {n : Nat} {Γ : Nat → Sp} {tb : Tb}

theorem call_ok (T : TbOK prog w K mg mb n Γ tb) {a : Addr} {np m k : Nat} {body : SL} {dds : List PyData} {sp : Sp} (hc : chk K tb a = some (np, m, body)) (hb : Binds K a k dds) (hk : k + dds.length = np)
    (hsp : ∀ ds Kp, ds.length = k → sp ds Kp → vsL Γ body (start m (ds ++ dds)) (fun _ => Kp .none) Kp) : ∀ (A : Around) (s : Shared) (g : Vw) (vs : List Value) (ds : List PyData) (Kp : PyData → Prop) (Q E : Value → Shared → Prop),
    Rm A (n + 1) → Fro A s.heap g → Sub g s.heap → Gr K mg mb g → RdL g vs ds → ds.length = k → sp ds Kp → Post g s Kp Q → wpAny (model prog w) A (call (.ref a) vs) Q E s := by
  intro A s g vs ds Kp Q E hrm hfro hsub hgr hr hlen hs p
  obtain ⟨oc, od, fd, osl, ho, hbind⟩ := hb
  unfold chk at hc
  rw [ho] at hc
  simp only at hc
  split at hc
  · rename_i bd hbody
    simp only [Option.ite_none_right_eq_some, Bool.and_eq_true, Bool.not_eq_true', beq_iff_eq, Option.some.injEq, Prod.mk.injEq] at hc
    obtain ⟨⟨⟨⟨⟨⟨⟨⟨h1, h2⟩, h3⟩, h4⟩, h5⟩, h6⟩, h7⟩, h8⟩, rfl, rfl, rfl⟩ := hc
    have G := hgr.hold _ hsub
    have hX := G.X
    obtain ⟨dvs, hdv, hB⟩ := hbind s vs (by rw [hr.length, hlen]) hX
    have hrd : RdL g (vs ++ dvs) (ds ++ dds) := hr.append (hdv g hgr.frag)
    have hnd := nodupS_ok h7
    have hlenp : (vs ++ dvs).length = (fd.params.args.map (·.arg)).length := by
      rw [hrd.length, List.length_append, hlen, hk]
    generalize hps : fd.params.args.map (·.arg) = ps at *
    have hpsn : ps.Nodup := by rw [← h8]; exact hnd.sublist (List.take_sublist _ _)
    have hmemown : ∀ x ∈ ownNames fd.scope, fd.scope.names.lookup x = some .local := by
      intro x hx
      obtain ⟨y, hy, rfl⟩ := List.mem_map.mp hx
      obtain ⟨hy1, hy2⟩ := List.mem_filter.mp hy
      exact scopeOK.names h1 y hy1 (by simpa using hy2)
    refine wpAny_call (codeAny_call_def (fd := fd) (body := bd) (binds := ps.zip (vs ++ dvs)) (by have := hrm.hd; unfold recursionLimit; omega) (hX _ _ ho) rfl G.nolimit (codeRec_of hX h6) hbody hB (scopeOK.cell h1) ?_ (fun h₁ hns hk₁ => ?_) h2 h3 (scopeOK.kind h1))
    · intro x hx
      have : x.1 ∈ ps := (List.of_mem_zip hx).1
      rw [← h8] at this
      exact hmemown _ (List.mem_of_mem_take this)
    · have hL : g s.heap.objs.size = none := hsub.fresh (Nat.le_refl _)
      have sub1 : Sub g h₁ := fun b o e => hk₁ b o (hsub b o e)
      have okb := OkB.of (prog := prog) (w := w) (K := K) (mg := mg) (mb := mb) (nn := n) (Γ := Γ) (scn := fd.scope.names) (names := ownNames fd.scope) (fun st => compS_ok T hnd 60 st) (b := bd)
      refine okb (A.deeper (callEnv fd s.heap.objs.size a)) (callEnv fd s.heap.objs.size a) g { s with heap := h₁, toks := s.toks + (ps.zip (vs ++ dvs)).length } (start (ownNames fd.scope).length (ds ++ dds)) (fun _ => Kp .none) Kp _ _ ⟨⟨hrm.hh, ?_, ?_⟩, ?_, ⟨rfl, scopeOK.kind h1, h4, h5⟩, sub1, hgr, ⟨_, hns, ?_⟩⟩ hL (hsp ds Kp hlen hs) ⟨fun h' tk g' ρ' k1 X l => ?_, fun v d h' tk g' k1 X r => ?_⟩
      · have := hrm.hd; rw [depth_deeper]; omega
      · have := hrm.hu; rw [units_deeper]; omega
      · obtain ⟨outer, ha, hb⟩ := hfro
        obtain ⟨o, es, ep, e, d, _⟩ := hns
        refine ⟨_, Around.frames_deeper ha, fun env he => ?_⟩
        rcases List.mem_cons.mp he with rfl | he
        · exact ⟨by rw [show (callEnv fd s.heap.objs.size a).scope = fd.scope from rfl, scopeOK.kind h1]; decide, _, o, es, ep, rfl, e, d, hL⟩
        · obtain ⟨k1, L, o', es', ep', k2, k3, k4, k5⟩ := hb env he
          exact ⟨k1, L, o', es', ep', k2, hk₁ _ _ k3, k4, k5⟩
      · intro i x d hi hd
        unfold start at hd
        have hilt : i < (ds ++ dds).length := by
          by_cases q : i < (ds ++ dds).length
          · exact q
          · exfalso
            rw [List.getElem?_append_right (by simpa using q)] at hd
            rw [List.getElem?_replicate] at hd
            split at hd <;> simp at hd
        rw [List.getElem?_append_left (by simpa using hilt), List.getElem?_map] at hd
        obtain ⟨d', hd', e⟩ := Option.map_eq_some_iff.mp hd
        cases e
        obtain ⟨v, hv, r⟩ := hrd.get hd'
        refine ⟨v, ?_, r⟩
        have hlp : i < ps.length := by rw [← hlenp, hrd.length]; exact hilt
        have hx : ps[i]? = some x := by
          rw [← h8, List.getElem?_take_of_lt (by exact hlp)]; exact hi
        refine lookup_nodup ?_ (List.mem_reverse.mpr ?_)
        · rw [List.map_reverse, List.map_fst_zip (by omega)]
          exact List.pairwise_reverse.mpr (hpsn.imp fun h => Ne.symm h)
        · refine List.mem_of_getElem? (i := i) ?_
          rw [List.getElem?_zip_eq_some]
          exact ⟨hx, hv⟩
      · refine p .none h' tk .none g' k1 ⟨fun b o e => X.keep b o (Nat.ne_of_lt (Heap.lt_size e)) (hk₁ b o e), X.grow, X.sub, fun b o e => ?_⟩ .none
        rcases X.new b o e with e' | e'
        · exact .inl e'
        · right
          cases q : s.heap.get? b with
          | none => rfl
          | some o' => have := hk₁ _ _ q; rw [e'] at this; cases this
      · refine p v h' tk d g' k1 ⟨fun b o e => X.keep b o (Nat.ne_of_lt (Heap.lt_size e)) (hk₁ b o e), X.grow, X.sub, fun b o e => ?_⟩ r
        rcases X.new b o e with e' | e'
        · exact .inl e'
        · right
          cases q : s.heap.get? b with
          | none => rfl
          | some o' => have := hk₁ _ _ q; rw [e'] at this; cases this
  · cases hc
end
end Mine

end
section
open PySem PySem.W PySem.Calls PyProof.Rows
namespace Mine
def q4 (a b c d : Int) : PyData := .tuple [.int a, .int b, .int c, .int d]
/-- the globals that the defs read -/
def tbl0 : List (String × GI) := [
  ("MPZ_ZERO", GI.const (.int 0)), ("MPZ_ONE", GI.const (.int 1)),
  ("round_nearest", GI.const (.str "n")), ("round_floor", GI.const (.str "f")), ("round_ceiling", GI.const (.str "c")), ("round_up", GI.const (.str "u")), ("round_down", GI.const (.str "d")), ("round_fast", GI.const (.str "d")),
  ("fzero", GI.const (q4 0 0 0 0)), ("fnan", GI.const (q4 0 0 (-123) (-1))), ("finf", GI.const (q4 0 0 (-456) (-2))), ("fninf", GI.const (q4 1 0 (-789) (-3))),
  ("trailing", GI.fn 21), ("_normalize", GI.fn 37), ("normalize", GI.fn 44), ("mpf_cmp", GI.fn 51), ("mpf_lt", GI.fn 58), ("mpf_le", GI.fn 65), ("mpf_gt", GI.fn 72), ("mpf_ge", GI.fn 79), ("mpf_min_max", GI.fn 86),
  ("mpf_pos", GI.fn 94), ("mpf_neg", GI.fn 102), ("mpf_sign", GI.fn 109), ("mpf_add", GI.fn 117), ("mpf_sub", GI.fn 125), ("mpf_mul", GI.fn 133), ("mpf_shift", GI.fn 140),
  ("mpi_add", GI.fn 176), ("mpi_sub", GI.fn 184), ("mpi_delta", GI.fn 191), ("mpi_mid", GI.fn 198), ("mpi_pos", GI.fn 205), ("mpi_neg", GI.fn 213), ("mpi_abs", GI.fn 221), ("mpi_mul", GI.fn 229), ("mpi_square", GI.fn 237),
  ("_law_mixed", GI.fn 244), ("_law_raw", GI.fn 251), ("_law_worth", GI.fn 258), ("_law_rounded", GI.fn 265), ("_law_span", GI.fn 272), ("_law_times", GI.fn 279), ("_law_less", GI.fn 286), ("_law_ends", GI.fn 293), ("_law_held", GI.fn 300),
  ("_law_order_right", GI.fn 312),
  ("len", GI.bt "len"), ("abs", GI.bt "abs"), ("divmod", GI.bt "divmod")]
def tbl : Tb := tbl0.map fun x => (Str.ofString x.1, x.2)
end Mine

end
section
open PySem PySem.W PySem.Calls PyProof.Rows
set_option maxRecDepth 20000
namespace Mine
-- trailing 1 1 ["n"]
def b21 : SL := (.cons (.ifs (.not (.var 0)) (.cons (.ret (.lit (.int 0))) .nil) .nil) (.cons (.ret (.bin .Sub (.bitlen (.bin .BitAnd (.var 0) (.neg (.var 0)))) (.lit (.int 1)))) .nil))
-- _normalize 6 8 ["sign", "man", "exp", "bc", "prec", "rnd", "n", "t"]
def b37 : SL := (.cons (.ifs (.not (.var 1)) (.cons (.ret (.lit (.tuple [(.int 0), (.int 0), (.int 0), (.int 0)]))) .nil) .nil) (.cons (.asg 6 (.bin .Sub (.var 3) (.var 4))) (.cons (.ifs (.cmp .Gt (.var 6) (.lit (.int 0))) (.cons (.ifs (.cmp .Eq (.var 5) (.lit (.str "n"))) (.cons (.asg 7 (.bin .RShift (.var 1) (.bin .Sub (.var 6) (.lit (.int 1))))) (.cons (.ifs (.and (.bin .BitAnd (.var 7) (.lit (.int 1))) (.or (.bin .BitAnd (.var 7) (.lit (.int 2))) (.bin .BitAnd (.var 1) (.bin .Sub (.bin .LShift (.lit (.int 1)) (.bin .Sub (.var 6) (.lit (.int 1)))) (.lit (.int 1)))))) (.cons (.asg 1 (.bin .Add (.bin .RShift (.var 7) (.lit (.int 1))) (.lit (.int 1)))) .nil) (.cons (.asg 1 (.bin .RShift (.var 7) (.lit (.int 1)))) .nil)) .nil)) (.cons (.ifs (.sd (.var 5) (.var 0)) (.cons (.aug 1 .RShift (.var 6)) .nil) (.cons (.asg 1 (.neg (.bin .RShift (.neg (.var 1)) (.var 6)))) .nil)) .nil)) (.cons (.aug 2 .Add (.var 6)) (.cons (.asg 3 (.var 4)) .nil))) .nil) (.cons (.ifs (.not (.bin .BitAnd (.var 1) (.lit (.int 1)))) (.cons (.asg 7 (.call 21 (.cons (.var 1) .nil))) (.cons (.aug 1 .RShift (.var 7)) (.cons (.aug 2 .Add (.var 7)) (.cons (.aug 3 .Sub (.var 7)) .nil)))) .nil) (.cons (.ifs (.cmp .Eq (.var 1) (.lit (.int 1))) (.cons (.asg 3 (.lit (.int 1))) .nil) .nil) (.cons (.ret (.tup (.cons (.var 0) (.cons (.var 1) (.cons (.var 2) (.cons (.var 3) .nil)))))) .nil))))))
-- normalize 6 6 ["sign", "man", "exp", "bc", "prec", "rnd"]
def b44 : SL := (.cons (.asrt (.cmp .Eq (.var 3) (.bitlen (.var 1)))) (.cons (.asrt (.cmp .GtE (.var 1) (.lit (.int 0)))) (.cons (.ret (.call 37 (.cons (.var 0) (.cons (.var 1) (.cons (.var 2) (.cons (.var 3) (.cons (.var 4) (.cons (.var 5) .nil)))))))) .nil)))
-- mpf_cmp 2 13 ["s", "t", "ssign", "sman", "sexp", "sbc", "tsign", "tman", "texp", "tbc", "a", "b", "delta"]
def b51 : SL := (.cons (.unp [2, 3, 4, 5] (.var 0)) (.cons (.unp [6, 7, 8, 9] (.var 1)) (.cons (.ifs (.or (.not (.var 3)) (.not (.var 7))) (.cons (.ifs (.cmp .Eq (.var 0) (.lit (.tuple [(.int 0), (.int 0), (.int 0), (.int 0)]))) (.cons (.ret (.neg (.call 109 (.cons (.var 1) .nil)))) .nil) .nil) (.cons (.ifs (.cmp .Eq (.var 1) (.lit (.tuple [(.int 0), (.int 0), (.int 0), (.int 0)]))) (.cons (.ret (.call 109 (.cons (.var 0) .nil))) .nil) .nil) (.cons (.ifs (.cmp .Eq (.var 0) (.var 1)) (.cons (.ret (.lit (.int 0))) .nil) .nil) (.cons (.ifs (.cmp .Eq (.var 1) (.lit (.tuple [(.int 0), (.int 0), (.int (-123)), (.int (-1))]))) (.cons (.ret (.lit (.int 1))) .nil) .nil) (.cons (.ifs (.cmp .Eq (.var 0) (.lit (.tuple [(.int 0), (.int 0), (.int (-456)), (.int (-2))]))) (.cons (.ret (.lit (.int 1))) .nil) .nil) (.cons (.ifs (.cmp .Eq (.var 1) (.lit (.tuple [(.int 1), (.int 0), (.int (-789)), (.int (-3))]))) (.cons (.ret (.lit (.int 1))) .nil) .nil) (.cons (.ret (.neg (.lit (.int 1)))) .nil))))))) .nil) (.cons (.ifs (.cmp .NotEq (.var 2) (.var 6)) (.cons (.ifs (.not (.var 2)) (.cons (.ret (.lit (.int 1))) .nil) .nil) (.cons (.ret (.neg (.lit (.int 1)))) .nil)) .nil) (.cons (.ifs (.cmp .Eq (.var 4) (.var 8)) (.cons (.ifs (.cmp .Eq (.var 3) (.var 7)) (.cons (.ret (.lit (.int 0))) .nil) .nil) (.cons (.ifs (.cmp .Gt (.var 3) (.var 7)) (.cons (.ifs (.var 2) (.cons (.ret (.neg (.lit (.int 1)))) .nil) (.cons (.ret (.lit (.int 1))) .nil)) .nil) (.cons (.ifs (.var 2) (.cons (.ret (.lit (.int 1))) .nil) (.cons (.ret (.neg (.lit (.int 1)))) .nil)) .nil)) .nil)) .nil) (.cons (.asg 10 (.bin .Add (.var 5) (.var 4))) (.cons (.asg 11 (.bin .Add (.var 9) (.var 8))) (.cons (.ifs (.var 2) (.cons (.ifs (.cmp .Lt (.var 10) (.var 11)) (.cons (.ret (.lit (.int 1))) .nil) .nil) (.cons (.ifs (.cmp .Gt (.var 10) (.var 11)) (.cons (.ret (.neg (.lit (.int 1)))) .nil) .nil) .nil)) (.cons (.ifs (.cmp .Lt (.var 10) (.var 11)) (.cons (.ret (.neg (.lit (.int 1)))) .nil) .nil) (.cons (.ifs (.cmp .Gt (.var 10) (.var 11)) (.cons (.ret (.lit (.int 1))) .nil) .nil) .nil))) (.cons (.asg 12 (.call 125 (.cons (.var 0) (.cons (.var 1) (.cons (.lit (.int 5)) (.cons (.lit (.str "f")) .nil)))))) (.cons (.ifs (.idx (.var 12) (.lit (.int 0))) (.cons (.ret (.neg (.lit (.int 1)))) .nil) .nil) (.cons (.ret (.lit (.int 1))) .nil)))))))))))
-- mpf_lt 2 2 ["s", "t"]
def b58 : SL := (.cons (.ifs (.or (.cmp .Eq (.var 0) (.lit (.tuple [(.int 0), (.int 0), (.int (-123)), (.int (-1))]))) (.cmp .Eq (.var 1) (.lit (.tuple [(.int 0), (.int 0), (.int (-123)), (.int (-1))])))) (.cons (.ret (.lit (.bool false))) .nil) .nil) (.cons (.ret (.cmp .Lt (.call 51 (.cons (.var 0) (.cons (.var 1) .nil))) (.lit (.int 0)))) .nil))
-- mpf_le 2 2 ["s", "t"]
def b65 : SL := (.cons (.ifs (.or (.cmp .Eq (.var 0) (.lit (.tuple [(.int 0), (.int 0), (.int (-123)), (.int (-1))]))) (.cmp .Eq (.var 1) (.lit (.tuple [(.int 0), (.int 0), (.int (-123)), (.int (-1))])))) (.cons (.ret (.lit (.bool false))) .nil) .nil) (.cons (.ret (.cmp .LtE (.call 51 (.cons (.var 0) (.cons (.var 1) .nil))) (.lit (.int 0)))) .nil))
-- mpf_gt 2 2 ["s", "t"]
def b72 : SL := (.cons (.ifs (.or (.cmp .Eq (.var 0) (.lit (.tuple [(.int 0), (.int 0), (.int (-123)), (.int (-1))]))) (.cmp .Eq (.var 1) (.lit (.tuple [(.int 0), (.int 0), (.int (-123)), (.int (-1))])))) (.cons (.ret (.lit (.bool false))) .nil) .nil) (.cons (.ret (.cmp .Gt (.call 51 (.cons (.var 0) (.cons (.var 1) .nil))) (.lit (.int 0)))) .nil))
-- mpf_ge 2 2 ["s", "t"]
def b79 : SL := (.cons (.ifs (.or (.cmp .Eq (.var 0) (.lit (.tuple [(.int 0), (.int 0), (.int (-123)), (.int (-1))]))) (.cmp .Eq (.var 1) (.lit (.tuple [(.int 0), (.int 0), (.int (-123)), (.int (-1))])))) (.cons (.ret (.lit (.bool false))) .nil) .nil) (.cons (.ret (.cmp .GtE (.call 51 (.cons (.var 0) (.cons (.var 1) .nil))) (.lit (.int 0)))) .nil))
-- mpf_min_max 1 4 ["seq", "min", "max", "x"]
def b86 : SL := (.cons (.asg2 1 2 (.idx (.var 0) (.lit (.int 0)))) (.cons (.for1 3 (.tail (.var 0)) (.cons (.ifs (.call 58 (.cons (.var 3) (.cons (.var 1) .nil))) (.cons (.asg 1 (.var 3)) .nil) .nil) (.cons (.ifs (.call 72 (.cons (.var 3) (.cons (.var 2) .nil))) (.cons (.asg 2 (.var 3)) .nil) .nil) .nil))) (.cons (.ret (.tup (.cons (.var 1) (.cons (.var 2) .nil)))) .nil)))
-- mpf_pos 3 7 ["s", "prec", "rnd", "sign", "man", "exp", "bc"]
def b94 : SL := (.cons (.ifs (.var 1) (.cons (.unp [3, 4, 5, 6] (.var 0)) (.cons (.ifs (.and (.not (.var 4)) (.var 5)) (.cons (.ret (.var 0)) .nil) .nil) (.cons (.ret (.call 44 (.cons (.var 3) (.cons (.var 4) (.cons (.var 5) (.cons (.var 6) (.cons (.var 1) (.cons (.var 2) .nil)))))))) .nil))) .nil) (.cons (.ret (.var 0)) .nil))
-- mpf_neg 3 7 ["s", "prec", "rnd", "sign", "man", "exp", "bc"]
def b102 : SL := (.cons (.unp [3, 4, 5, 6] (.var 0)) (.cons (.ifs (.not (.var 4)) (.cons (.ifs (.var 5) (.cons (.ifs (.cmp .Eq (.var 0) (.lit (.tuple [(.int 0), (.int 0), (.int (-456)), (.int (-2))]))) (.cons (.ret (.lit (.tuple [(.int 1), (.int 0), (.int (-789)), (.int (-3))]))) .nil) .nil) (.cons (.ifs (.cmp .Eq (.var 0) (.lit (.tuple [(.int 1), (.int 0), (.int (-789)), (.int (-3))]))) (.cons (.ret (.lit (.tuple [(.int 0), (.int 0), (.int (-456)), (.int (-2))]))) .nil) .nil) .nil)) .nil) (.cons (.ret (.var 0)) .nil)) .nil) (.cons (.ifs (.not (.var 1)) (.cons (.ret (.tup (.cons (.bin .Sub (.lit (.int 1)) (.var 3)) (.cons (.var 4) (.cons (.var 5) (.cons (.var 6) .nil)))))) .nil) .nil) (.cons (.ret (.call 44 (.cons (.bin .Sub (.lit (.int 1)) (.var 3)) (.cons (.var 4) (.cons (.var 5) (.cons (.var 6) (.cons (.var 1) (.cons (.var 2) .nil)))))))) .nil))))
-- mpf_sign 1 5 ["s", "sign", "man", "exp", "bc"]
def b109 : SL := (.cons (.unp [1, 2, 3, 4] (.var 0)) (.cons (.ifs (.not (.var 2)) (.cons (.ifs (.cmp .Eq (.var 0) (.lit (.tuple [(.int 0), (.int 0), (.int (-456)), (.int (-2))]))) (.cons (.ret (.lit (.int 1))) .nil) .nil) (.cons (.ifs (.cmp .Eq (.var 0) (.lit (.tuple [(.int 1), (.int 0), (.int (-789)), (.int (-3))]))) (.cons (.ret (.neg (.lit (.int 1)))) .nil) .nil) (.cons (.ret (.lit (.int 0))) .nil))) .nil) (.cons (.ret (.bin .Pow (.neg (.lit (.int 1))) (.var 1))) .nil)))
-- mpf_add 5 17 ["s", "t", "prec", "rnd", "_sub", "ssign", "sman", "sexp", "sbc", "tsign", "tman", "texp", "tbc", "offset", "delta",
--  "man", "bc"]
def b117 : SL := (.cons (.unp [5, 6, 7, 8] (.var 0)) (.cons (.unp [9, 10, 11, 12] (.var 1)) (.cons (.aug 9 .BitXor (.var 4)) (.cons (.ifs (.and (.var 6) (.var 10)) (.cons (.asg 13 (.bin .Sub (.var 7) (.var 11))) (.cons (.ifs (.var 13) (.cons (.ifs (.cmp .Gt (.var 13) (.lit (.int 0))) (.cons (.ifs (.and (.cmp .Gt (.var 13) (.lit (.int 100))) (.var 2)) (.cons (.asg 14 (.bin .Sub (.bin .Sub (.bin .Add (.var 8) (.var 7)) (.var 12)) (.var 11))) (.cons (.ifs (.cmp .Gt (.var 14) (.bin .Add (.var 2) (.lit (.int 4)))) (.cons (.asg 13 (.bin .Add (.var 2) (.lit (.int 4)))) (.cons (.aug 6 .LShift (.var 13)) (.cons (.ifs (.cmp .Eq (.var 9) (.var 5)) (.cons (.aug 6 .Add (.lit (.int 1))) .nil) (.cons (.aug 6 .Sub (.lit (.int 1))) .nil)) (.cons (.ret (.call 44 (.cons (.var 5) (.cons (.var 6) (.cons (.bin .Sub (.var 7) (.var 13)) (.cons (.bitlen (.var 6)) (.cons (.var 2) (.cons (.var 3) .nil)))))))) .nil)))) .nil) .nil)) .nil) (.cons (.ifs (.cmp .Eq (.var 5) (.var 9)) (.cons (.asg 15 (.bin .Add (.var 10) (.bin .LShift (.var 6) (.var 13)))) .nil) (.cons (.ifs (.var 5) (.cons (.asg 15 (.bin .Sub (.var 10) (.bin .LShift (.var 6) (.var 13)))) .nil) (.cons (.asg 15 (.bin .Sub (.bin .LShift (.var 6) (.var 13)) (.var 10))) .nil)) (.cons (.ifs (.cmp .GtE (.var 15) (.lit (.int 0))) (.cons (.asg 5 (.lit (.int 0))) .nil) (.cons (.asg 15 (.neg (.var 15))) (.cons (.asg 5 (.lit (.int 1))) .nil))) .nil))) (.cons (.asg 16 (.bitlen (.var 15))) (.cons (.ret (.call 44 (.cons (.var 5) (.cons (.var 15) (.cons (.var 11) (.cons (.var 16) (.cons (.or (.var 2) (.var 16)) (.cons (.var 3) .nil)))))))) .nil)))) (.cons (.ifs (.cmp .Lt (.var 13) (.lit (.int 0))) (.cons (.ifs (.and (.cmp .Lt (.var 13) (.neg (.lit (.int 100)))) (.var 2)) (.cons (.asg 14 (.bin .Sub (.bin .Sub (.bin .Add (.var 12) (.var 11)) (.var 8)) (.var 7))) (.cons (.ifs (.cmp .Gt (.var 14) (.bin .Add (.var 2) (.lit (.int 4)))) (.cons (.asg 13 (.bin .Add (.var 2) (.lit (.int 4)))) (.cons (.aug 10 .LShift (.var 13)) (.cons (.ifs (.cmp .Eq (.var 5) (.var 9)) (.cons (.aug 10 .Add (.lit (.int 1))) .nil) (.cons (.aug 10 .Sub (.lit (.int 1))) .nil)) (.cons (.ret (.call 44 (.cons (.var 9) (.cons (.var 10) (.cons (.bin .Sub (.var 11) (.var 13)) (.cons (.bitlen (.var 10)) (.cons (.var 2) (.cons (.var 3) .nil)))))))) .nil)))) .nil) .nil)) .nil) (.cons (.ifs (.cmp .Eq (.var 5) (.var 9)) (.cons (.asg 15 (.bin .Add (.var 6) (.bin .LShift (.var 10) (.neg (.var 13))))) .nil) (.cons (.ifs (.var 9) (.cons (.asg 15 (.bin .Sub (.var 6) (.bin .LShift (.var 10) (.neg (.var 13))))) .nil) (.cons (.asg 15 (.bin .Sub (.bin .LShift (.var 10) (.neg (.var 13))) (.var 6))) .nil)) (.cons (.ifs (.cmp .GtE (.var 15) (.lit (.int 0))) (.cons (.asg 5 (.lit (.int 0))) .nil) (.cons (.asg 15 (.neg (.var 15))) (.cons (.asg 5 (.lit (.int 1))) .nil))) .nil))) (.cons (.asg 16 (.bitlen (.var 15))) (.cons (.ret (.call 44 (.cons (.var 5) (.cons (.var 15) (.cons (.var 7) (.cons (.var 16) (.cons (.or (.var 2) (.var 16)) (.cons (.var 3) .nil)))))))) .nil)))) .nil) .nil)) .nil) .nil) (.cons (.ifs (.cmp .Eq (.var 5) (.var 9)) (.cons (.asg 15 (.bin .Add (.var 10) (.var 6))) .nil) (.cons (.ifs (.var 5) (.cons (.asg 15 (.bin .Sub (.var 10) (.var 6))) .nil) (.cons (.asg 15 (.bin .Sub (.var 6) (.var 10))) .nil)) (.cons (.ifs (.cmp .GtE (.var 15) (.lit (.int 0))) (.cons (.asg 5 (.lit (.int 0))) .nil) (.cons (.asg 15 (.neg (.var 15))) (.cons (.asg 5 (.lit (.int 1))) .nil))) .nil))) (.cons (.asg 16 (.bitlen (.var 15))) (.cons (.ret (.call 44 (.cons (.var 5) (.cons (.var 15) (.cons (.var 11) (.cons (.var 16) (.cons (.or (.var 2) (.var 16)) (.cons (.var 3) .nil)))))))) .nil))))) .nil) (.cons (.ifs (.var 4) (.cons (.asg 1 (.call 102 (.cons (.var 1) .nil))) .nil) .nil) (.cons (.ifs (.not (.var 6)) (.cons (.ifs (.var 7) (.cons (.ifs (.or (.cmp .Eq (.var 0) (.var 1)) (.or (.var 10) (.not (.var 11)))) (.cons (.ret (.var 0)) .nil) .nil) (.cons (.ret (.lit (.tuple [(.int 0), (.int 0), (.int (-123)), (.int (-1))]))) .nil)) .nil) (.cons (.ifs (.var 10) (.cons (.ret (.call 44 (.cons (.var 9) (.cons (.var 10) (.cons (.var 11) (.cons (.var 12) (.cons (.or (.var 2) (.var 12)) (.cons (.var 3) .nil)))))))) .nil) .nil) (.cons (.ret (.var 1)) .nil))) .nil) (.cons (.ifs (.var 11) (.cons (.ret (.var 1)) .nil) .nil) (.cons (.ifs (.var 6) (.cons (.ret (.call 44 (.cons (.var 5) (.cons (.var 6) (.cons (.var 7) (.cons (.var 8) (.cons (.or (.var 2) (.var 8)) (.cons (.var 3) .nil)))))))) .nil) .nil) (.cons (.ret (.var 0)) .nil)))))))))
-- mpf_sub 4 4 ["s", "t", "prec", "rnd"]
def b125 : SL := (.cons (.ret (.call 117 (.cons (.var 0) (.cons (.var 1) (.cons (.var 2) (.cons (.var 3) (.cons (.lit (.int 1)) .nil))))))) .nil)
-- mpf_mul 4 17 ["s", "t", "prec", "rnd", "ssign", "sman", "sexp", "sbc", "tsign", "tman", "texp", "tbc", "sign", "man", "bc",
--  "s_special", "t_special"]
def b133 : SL := (.cons (.unp [4, 5, 6, 7] (.var 0)) (.cons (.unp [8, 9, 10, 11] (.var 1)) (.cons (.asg 12 (.bin .BitXor (.var 4) (.var 8))) (.cons (.asg 13 (.bin .Mult (.var 5) (.var 9))) (.cons (.ifs (.var 13) (.cons (.asg 14 (.bitlen (.var 13))) (.cons (.ifs (.var 2) (.cons (.ret (.call 44 (.cons (.var 12) (.cons (.var 13) (.cons (.bin .Add (.var 6) (.var 10)) (.cons (.var 14) (.cons (.var 2) (.cons (.var 3) .nil)))))))) .nil) (.cons (.ret (.tup (.cons (.var 12) (.cons (.var 13) (.cons (.bin .Add (.var 6) (.var 10)) (.cons (.var 14) .nil)))))) .nil)) .nil)) .nil) (.cons (.asg 15 (.and (.not (.var 5)) (.var 6))) (.cons (.asg 16 (.and (.not (.var 9)) (.var 10))) (.cons (.ifs (.and (.not (.var 15)) (.not (.var 16))) (.cons (.ret (.lit (.tuple [(.int 0), (.int 0), (.int 0), (.int 0)]))) .nil) .nil) (.cons (.ifs (.cmp .In (.lit (.tuple [(.int 0), (.int 0), (.int (-123)), (.int (-1))])) (.tup (.cons (.var 0) (.cons (.var 1) .nil)))) (.cons (.ret (.lit (.tuple [(.int 0), (.int 0), (.int (-123)), (.int (-1))]))) .nil) .nil) (.cons (.ifs (.and (.not (.var 9)) (.var 10)) (.cons (.unp [0, 1] (.tup (.cons (.var 1) (.cons (.var 0) .nil)))) .nil) .nil) (.cons (.ifs (.cmp .Eq (.var 1) (.lit (.tuple [(.int 0), (.int 0), (.int 0), (.int 0)]))) (.cons (.ret (.lit (.tuple [(.int 0), (.int 0), (.int (-123)), (.int (-1))]))) .nil) .nil) (.cons (.ret (.idx .stuck (.bin .Mult (.call 109 (.cons (.var 0) .nil)) (.call 109 (.cons (.var 1) .nil))))) .nil))))))))))))
-- mpf_shift 2 6 ["s", "n", "sign", "man", "exp", "bc"]
def b140 : SL := (.cons (.unp [2, 3, 4, 5] (.var 0)) (.cons (.ifs (.not (.var 3)) (.cons (.ret (.var 0)) .nil) .nil) (.cons (.ret (.tup (.cons (.var 2) (.cons (.var 3) (.cons (.bin .Add (.var 4) (.var 1)) (.cons (.var 5) .nil)))))) .nil)))
-- mpi_lt 2 6 ["s", "t", "sa", "sb", "ta", "tb"]
def b147 : SL := (.cons (.unp [2, 3] (.var 0)) (.cons (.unp [4, 5] (.var 1)) (.cons (.ifs (.call 58 (.cons (.var 3) (.cons (.var 4) .nil))) (.cons (.ret (.lit (.bool true))) .nil) .nil) (.cons (.ifs (.call 79 (.cons (.var 2) (.cons (.var 5) .nil))) (.cons (.ret (.lit (.bool false))) .nil) .nil) (.cons .stuck .nil)))))
-- mpi_le 2 6 ["s", "t", "sa", "sb", "ta", "tb"]
def b154 : SL := (.cons (.unp [2, 3] (.var 0)) (.cons (.unp [4, 5] (.var 1)) (.cons (.ifs (.call 65 (.cons (.var 3) (.cons (.var 4) .nil))) (.cons (.ret (.lit (.bool true))) .nil) .nil) (.cons (.ifs (.call 72 (.cons (.var 2) (.cons (.var 5) .nil))) (.cons (.ret (.lit (.bool false))) .nil) .nil) (.cons .stuck .nil)))))
-- mpi_gt 2 2 ["s", "t"]
def b161 : SL := (.cons (.ret .stuck) .nil)
-- mpi_ge 2 2 ["s", "t"]
def b168 : SL := (.cons (.ret .stuck) .nil)
-- mpi_add 3 9 ["s", "t", "prec", "sa", "sb", "ta", "tb", "a", "b"]
def b176 : SL := (.cons (.unp [3, 4] (.var 0)) (.cons (.unp [5, 6] (.var 1)) (.cons (.asg 7 (.call 117 (.cons (.var 3) (.cons (.var 5) (.cons (.var 2) (.cons (.lit (.str "f")) .nil)))))) (.cons (.asg 8 (.call 117 (.cons (.var 4) (.cons (.var 6) (.cons (.var 2) (.cons (.lit (.str "c")) .nil)))))) (.cons (.ifs (.cmp .Eq (.var 7) (.lit (.tuple [(.int 0), (.int 0), (.int (-123)), (.int (-1))]))) (.cons (.asg 7 (.lit (.tuple [(.int 1), (.int 0), (.int (-789)), (.int (-3))]))) .nil) .nil) (.cons (.ifs (.cmp .Eq (.var 8) (.lit (.tuple [(.int 0), (.int 0), (.int (-123)), (.int (-1))]))) (.cons (.asg 8 (.lit (.tuple [(.int 0), (.int 0), (.int (-456)), (.int (-2))]))) .nil) .nil) (.cons (.ret (.tup (.cons (.var 7) (.cons (.var 8) .nil)))) .nil)))))))
-- mpi_sub 3 9 ["s", "t", "prec", "sa", "sb", "ta", "tb", "a", "b"]
def b184 : SL := (.cons (.unp [3, 4] (.var 0)) (.cons (.unp [5, 6] (.var 1)) (.cons (.asg 7 (.call 125 (.cons (.var 3) (.cons (.var 6) (.cons (.var 2) (.cons (.lit (.str "f")) .nil)))))) (.cons (.asg 8 (.call 125 (.cons (.var 4) (.cons (.var 5) (.cons (.var 2) (.cons (.lit (.str "c")) .nil)))))) (.cons (.ifs (.cmp .Eq (.var 7) (.lit (.tuple [(.int 0), (.int 0), (.int (-123)), (.int (-1))]))) (.cons (.asg 7 (.lit (.tuple [(.int 1), (.int 0), (.int (-789)), (.int (-3))]))) .nil) .nil) (.cons (.ifs (.cmp .Eq (.var 8) (.lit (.tuple [(.int 0), (.int 0), (.int (-123)), (.int (-1))]))) (.cons (.asg 8 (.lit (.tuple [(.int 0), (.int 0), (.int (-456)), (.int (-2))]))) .nil) .nil) (.cons (.ret (.tup (.cons (.var 7) (.cons (.var 8) .nil)))) .nil)))))))
-- mpi_delta 2 4 ["s", "prec", "sa", "sb"]
def b191 : SL := (.cons (.unp [2, 3] (.var 0)) (.cons (.ret (.call 125 (.cons (.var 3) (.cons (.var 2) (.cons (.var 1) (.cons (.lit (.str "u")) .nil)))))) .nil))
-- mpi_mid 2 4 ["s", "prec", "sa", "sb"]
def b198 : SL := (.cons (.unp [2, 3] (.var 0)) (.cons (.ret (.call 140 (.cons (.call 117 (.cons (.var 2) (.cons (.var 3) (.cons (.var 1) (.cons (.lit (.str "n")) .nil))))) (.cons (.neg (.lit (.int 1))) .nil)))) .nil))
-- mpi_pos 2 6 ["s", "prec", "sa", "sb", "a", "b"]
def b205 : SL := (.cons (.unp [2, 3] (.var 0)) (.cons (.asg 4 (.call 94 (.cons (.var 2) (.cons (.var 1) (.cons (.lit (.str "f")) .nil))))) (.cons (.asg 5 (.call 94 (.cons (.var 3) (.cons (.var 1) (.cons (.lit (.str "c")) .nil))))) (.cons (.ret (.tup (.cons (.var 4) (.cons (.var 5) .nil)))) .nil))))
-- mpi_neg 2 6 ["s", "prec", "sa", "sb", "a", "b"]
def b213 : SL := (.cons (.unp [2, 3] (.var 0)) (.cons (.asg 4 (.call 102 (.cons (.var 3) (.cons (.var 1) (.cons (.lit (.str "f")) .nil))))) (.cons (.asg 5 (.call 102 (.cons (.var 2) (.cons (.var 1) (.cons (.lit (.str "c")) .nil))))) (.cons (.ret (.tup (.cons (.var 4) (.cons (.var 5) .nil)))) .nil))))
-- mpi_abs 2 9 ["s", "prec", "sa", "sb", "sas", "sbs", "a", "b", "negsa"]
def b221 : SL := (.cons (.unp [2, 3] (.var 0)) (.cons (.asg 4 (.call 109 (.cons (.var 2) .nil))) (.cons (.asg 5 (.call 109 (.cons (.var 3) .nil))) (.cons (.ifs (.cmp .GtE (.var 4) (.lit (.int 0))) (.cons (.asg 6 (.call 94 (.cons (.var 2) (.cons (.var 1) (.cons (.lit (.str "f")) .nil))))) (.cons (.asg 7 (.call 94 (.cons (.var 3) (.cons (.var 1) (.cons (.lit (.str "c")) .nil))))) .nil)) (.cons (.ifs (.cmp .GtE (.var 5) (.lit (.int 0))) (.cons (.asg 6 (.lit (.tuple [(.int 0), (.int 0), (.int 0), (.int 0)]))) (.cons (.asg 8 (.call 102 (.cons (.var 2) .nil))) (.cons (.ifs (.call 58 (.cons (.var 8) (.cons (.var 3) .nil))) (.cons (.asg 7 (.call 94 (.cons (.var 3) (.cons (.var 1) (.cons (.lit (.str "c")) .nil))))) .nil) (.cons (.asg 7 (.call 94 (.cons (.var 8) (.cons (.var 1) (.cons (.lit (.str "c")) .nil))))) .nil)) .nil))) (.cons (.asg 6 (.call 102 (.cons (.var 3) (.cons (.var 1) (.cons (.lit (.str "f")) .nil))))) (.cons (.asg 7 (.call 102 (.cons (.var 2) (.cons (.var 1) (.cons (.lit (.str "c")) .nil))))) .nil))) .nil)) (.cons (.ret (.tup (.cons (.var 6) (.cons (.var 7) .nil)))) .nil)))))
-- mpi_mul 3 14 ["s", "t", "prec", "sa", "sb", "ta", "tb", "sas", "sbs", "tas", "tbs", "a", "b", "cases"]
def b229 : SL := (.cons (.unp [3, 4] (.var 0)) (.cons (.unp [5, 6] (.var 1)) (.cons (.asg 7 (.call 109 (.cons (.var 3) .nil))) (.cons (.asg 8 (.call 109 (.cons (.var 4) .nil))) (.cons (.asg 9 (.call 109 (.cons (.var 5) .nil))) (.cons (.asg 10 (.call 109 (.cons (.var 6) .nil))) (.cons (.ifs (.cmp2 .Eq .Eq (.var 7) (.var 8) (.lit (.int 0))) (.cons (.ifs (.or (.cmp .Eq (.var 5) (.lit (.tuple [(.int 1), (.int 0), (.int (-789)), (.int (-3))]))) (.cmp .Eq (.var 6) (.lit (.tuple [(.int 0), (.int 0), (.int (-456)), (.int (-2))])))) (.cons (.ret (.tup (.cons (.lit (.tuple [(.int 1), (.int 0), (.int (-789)), (.int (-3))])) (.cons (.lit (.tuple [(.int 0), (.int 0), (.int (-456)), (.int (-2))])) .nil)))) .nil) .nil) (.cons (.ret (.tup (.cons (.lit (.tuple [(.int 0), (.int 0), (.int 0), (.int 0)])) (.cons (.lit (.tuple [(.int 0), (.int 0), (.int 0), (.int 0)])) .nil)))) .nil)) .nil) (.cons (.ifs (.cmp2 .Eq .Eq (.var 9) (.var 10) (.lit (.int 0))) (.cons (.ifs (.or (.cmp .Eq (.var 3) (.lit (.tuple [(.int 1), (.int 0), (.int (-789)), (.int (-3))]))) (.cmp .Eq (.var 4) (.lit (.tuple [(.int 0), (.int 0), (.int (-456)), (.int (-2))])))) (.cons (.ret (.tup (.cons (.lit (.tuple [(.int 1), (.int 0), (.int (-789)), (.int (-3))])) (.cons (.lit (.tuple [(.int 0), (.int 0), (.int (-456)), (.int (-2))])) .nil)))) .nil) .nil) (.cons (.ret (.tup (.cons (.lit (.tuple [(.int 0), (.int 0), (.int 0), (.int 0)])) (.cons (.lit (.tuple [(.int 0), (.int 0), (.int 0), (.int 0)])) .nil)))) .nil)) .nil) (.cons (.ifs (.cmp .GtE (.var 7) (.lit (.int 0))) (.cons (.ifs (.cmp .GtE (.var 9) (.lit (.int 0))) (.cons (.asg 11 (.call 133 (.cons (.var 3) (.cons (.var 5) (.cons (.var 2) (.cons (.lit (.str "f")) .nil)))))) (.cons (.asg 12 (.call 133 (.cons (.var 4) (.cons (.var 6) (.cons (.var 2) (.cons (.lit (.str "c")) .nil)))))) (.cons (.ifs (.cmp .Eq (.var 11) (.lit (.tuple [(.int 0), (.int 0), (.int (-123)), (.int (-1))]))) (.cons (.asg 11 (.lit (.tuple [(.int 0), (.int 0), (.int 0), (.int 0)]))) .nil) .nil) (.cons (.ifs (.cmp .Eq (.var 12) (.lit (.tuple [(.int 0), (.int 0), (.int (-123)), (.int (-1))]))) (.cons (.asg 12 (.lit (.tuple [(.int 0), (.int 0), (.int (-456)), (.int (-2))]))) .nil) .nil) .nil)))) (.cons (.ifs (.cmp .LtE (.var 10) (.lit (.int 0))) (.cons (.asg 11 (.call 133 (.cons (.var 4) (.cons (.var 5) (.cons (.var 2) (.cons (.lit (.str "f")) .nil)))))) (.cons (.asg 12 (.call 133 (.cons (.var 3) (.cons (.var 6) (.cons (.var 2) (.cons (.lit (.str "c")) .nil)))))) (.cons (.ifs (.cmp .Eq (.var 11) (.lit (.tuple [(.int 0), (.int 0), (.int (-123)), (.int (-1))]))) (.cons (.asg 11 (.lit (.tuple [(.int 1), (.int 0), (.int (-789)), (.int (-3))]))) .nil) .nil) (.cons (.ifs (.cmp .Eq (.var 12) (.lit (.tuple [(.int 0), (.int 0), (.int (-123)), (.int (-1))]))) (.cons (.asg 12 (.lit (.tuple [(.int 0), (.int 0), (.int 0), (.int 0)]))) .nil) .nil) .nil)))) (.cons (.asg 11 (.call 133 (.cons (.var 4) (.cons (.var 5) (.cons (.var 2) (.cons (.lit (.str "f")) .nil)))))) (.cons (.asg 12 (.call 133 (.cons (.var 4) (.cons (.var 6) (.cons (.var 2) (.cons (.lit (.str "c")) .nil)))))) (.cons (.ifs (.cmp .Eq (.var 11) (.lit (.tuple [(.int 0), (.int 0), (.int (-123)), (.int (-1))]))) (.cons (.asg 11 (.lit (.tuple [(.int 1), (.int 0), (.int (-789)), (.int (-3))]))) .nil) .nil) (.cons (.ifs (.cmp .Eq (.var 12) (.lit (.tuple [(.int 0), (.int 0), (.int (-123)), (.int (-1))]))) (.cons (.asg 12 (.lit (.tuple [(.int 0), (.int 0), (.int (-456)), (.int (-2))]))) .nil) .nil) .nil))))) .nil)) .nil) (.cons (.ifs (.cmp .LtE (.var 8) (.lit (.int 0))) (.cons (.ifs (.cmp .GtE (.var 9) (.lit (.int 0))) (.cons (.asg 11 (.call 133 (.cons (.var 3) (.cons (.var 6) (.cons (.var 2) (.cons (.lit (.str "f")) .nil)))))) (.cons (.asg 12 (.call 133 (.cons (.var 4) (.cons (.var 5) (.cons (.var 2) (.cons (.lit (.str "c")) .nil)))))) (.cons (.ifs (.cmp .Eq (.var 11) (.lit (.tuple [(.int 0), (.int 0), (.int (-123)), (.int (-1))]))) (.cons (.asg 11 (.lit (.tuple [(.int 1), (.int 0), (.int (-789)), (.int (-3))]))) .nil) .nil) (.cons (.ifs (.cmp .Eq (.var 12) (.lit (.tuple [(.int 0), (.int 0), (.int (-123)), (.int (-1))]))) (.cons (.asg 12 (.lit (.tuple [(.int 0), (.int 0), (.int 0), (.int 0)]))) .nil) .nil) .nil)))) (.cons (.ifs (.cmp .LtE (.var 10) (.lit (.int 0))) (.cons (.asg 11 (.call 133 (.cons (.var 4) (.cons (.var 6) (.cons (.var 2) (.cons (.lit (.str "f")) .nil)))))) (.cons (.asg 12 (.call 133 (.cons (.var 3) (.cons (.var 5) (.cons (.var 2) (.cons (.lit (.str "c")) .nil)))))) (.cons (.ifs (.cmp .Eq (.var 11) (.lit (.tuple [(.int 0), (.int 0), (.int (-123)), (.int (-1))]))) (.cons (.asg 11 (.lit (.tuple [(.int 0), (.int 0), (.int 0), (.int 0)]))) .nil) .nil) (.cons (.ifs (.cmp .Eq (.var 12) (.lit (.tuple [(.int 0), (.int 0), (.int (-123)), (.int (-1))]))) (.cons (.asg 12 (.lit (.tuple [(.int 0), (.int 0), (.int (-456)), (.int (-2))]))) .nil) .nil) .nil)))) (.cons (.asg 11 (.call 133 (.cons (.var 3) (.cons (.var 6) (.cons (.var 2) (.cons (.lit (.str "f")) .nil)))))) (.cons (.asg 12 (.call 133 (.cons (.var 3) (.cons (.var 5) (.cons (.var 2) (.cons (.lit (.str "c")) .nil)))))) (.cons (.ifs (.cmp .Eq (.var 11) (.lit (.tuple [(.int 0), (.int 0), (.int (-123)), (.int (-1))]))) (.cons (.asg 11 (.lit (.tuple [(.int 1), (.int 0), (.int (-789)), (.int (-3))]))) .nil) .nil) (.cons (.ifs (.cmp .Eq (.var 12) (.lit (.tuple [(.int 0), (.int 0), (.int (-123)), (.int (-1))]))) (.cons (.asg 12 (.lit (.tuple [(.int 0), (.int 0), (.int (-456)), (.int (-2))]))) .nil) .nil) .nil))))) .nil)) .nil) (.cons (.asg 13 (.lst (.cons (.call 133 (.cons (.var 3) (.cons (.var 5) .nil))) (.cons (.call 133 (.cons (.var 3) (.cons (.var 6) .nil))) (.cons (.call 133 (.cons (.var 4) (.cons (.var 5) .nil))) (.cons (.call 133 (.cons (.var 4) (.cons (.var 6) .nil))) .nil)))))) (.cons (.ifs (.cmp .In (.lit (.tuple [(.int 0), (.int 0), (.int (-123)), (.int (-1))])) (.var 13)) (.cons (.unp [11, 12] (.tup (.cons (.lit (.tuple [(.int 1), (.int 0), (.int (-789)), (.int (-3))])) (.cons (.lit (.tuple [(.int 0), (.int 0), (.int (-456)), (.int (-2))])) .nil)))) .nil) (.cons (.unp [11, 12] (.call 86 (.cons (.var 13) .nil))) (.cons (.asg 11 (.call 94 (.cons (.var 11) (.cons (.var 2) (.cons (.lit (.str "f")) .nil))))) (.cons (.asg 12 (.call 94 (.cons (.var 12) (.cons (.var 2) (.cons (.lit (.str "c")) .nil))))) .nil)))) .nil))) .nil)) (.cons (.ret (.tup (.cons (.var 11) (.cons (.var 12) .nil)))) .nil))))))))))
-- mpi_square 2 6 ["s", "prec", "sa", "sb", "a", "b"]
def b237 : SL := (.cons (.unp [2, 3] (.var 0)) (.cons (.ifs (.call 79 (.cons (.var 2) (.cons (.lit (.tuple [(.int 0), (.int 0), (.int 0), (.int 0)])) .nil))) (.cons (.asg 4 (.call 133 (.cons (.var 2) (.cons (.var 2) (.cons (.var 1) (.cons (.lit (.str "f")) .nil)))))) (.cons (.asg 5 (.call 133 (.cons (.var 3) (.cons (.var 3) (.cons (.var 1) (.cons (.lit (.str "c")) .nil)))))) .nil)) (.cons (.ifs (.call 65 (.cons (.var 3) (.cons (.lit (.tuple [(.int 0), (.int 0), (.int 0), (.int 0)])) .nil))) (.cons (.asg 4 (.call 133 (.cons (.var 3) (.cons (.var 3) (.cons (.var 1) (.cons (.lit (.str "f")) .nil)))))) (.cons (.asg 5 (.call 133 (.cons (.var 2) (.cons (.var 2) (.cons (.var 1) (.cons (.lit (.str "c")) .nil)))))) .nil)) (.cons (.asg 2 (.call 102 (.cons (.var 2) .nil))) (.cons (.unp [2, 3] (.call 86 (.cons (.lst (.cons (.var 2) (.cons (.var 3) .nil))) .nil))) (.cons (.asg 4 (.lit (.tuple [(.int 0), (.int 0), (.int 0), (.int 0)]))) (.cons (.asg 5 (.call 133 (.cons (.var 3) (.cons (.var 3) (.cons (.var 1) (.cons (.lit (.str "c")) .nil)))))) .nil))))) .nil)) (.cons (.ret (.tup (.cons (.var 4) (.cons (.var 5) .nil)))) .nil)))
-- _law_mixed 2 3 ["script", "k", "n"]
def b244 : SL := (.cons (.asg 2 (.ite (.cmp .Lt (.var 1) (.len (.var 0))) (.idx (.var 0) (.var 1)) (.lit (.int 0)))) (.cons (.ifs (.cmp .GtE (.var 2) (.bin .Pow (.lit (.int 2)) (.lit (.int 64)))) (.cons (.ret (.var 2)) .nil) .nil) (.cons (.ret (.bin .Mod (.bin .Add (.bin .Mult (.var 2) (.lit (.int 6364136223846793005))) (.bin .Mult (.bin .Add (.var 1) (.lit (.int 1))) (.lit (.int 1442695040888963407)))) (.bin .Pow (.lit (.int 2)) (.lit (.int 190))))) .nil)))
-- _law_raw 3 7 ["rich", "bits", "spread", "kind", "e", "m", "man"]
def b251 : SL := (.cons (.unp [3, 4, 5] (.tup (.cons (.bin .Mod (.bin .FloorDiv (.var 0) (.lit (.int 2))) (.lit (.int 8))) (.cons (.bin .Sub (.bin .Mod (.bin .FloorDiv (.var 0) (.lit (.int 16))) (.bin .Add (.bin .Mult (.lit (.int 2)) (.var 2)) (.lit (.int 1)))) (.var 2)) (.cons (.bin .FloorDiv (.var 0) (.bin .Pow (.lit (.int 2)) (.lit (.int 16)))) .nil))))) (.cons (.ifs (.cmp .Eq (.var 3) (.lit (.int 0))) (.cons (.ret (.tup (.cons (.lit (.int 0)) (.cons (.lit (.int 0)) (.cons (.lit (.int 0)) (.cons (.lit (.int 0)) .nil)))))) .nil) .nil) (.cons (.asg 6 (.bin .Add (.bin .Mult (.bin .FloorDiv (.bin .Mod (.var 5) (.bin .Pow (.lit (.int 2)) (.bin .Add (.lit (.int 1)) (.bin .Mod (.var 5) (.var 1))))) (.lit (.int 2))) (.lit (.int 2))) (.lit (.int 1)))) (.cons (.ifs (.cmp .Eq (.var 3) (.lit (.int 1))) (.cons (.asg 6 (.lit (.int 1))) .nil) (.cons (.ifs (.cmp .Eq (.var 3) (.lit (.int 2))) (.cons (.asg 6 (.bin .Sub (.bin .Pow (.lit (.int 2)) (.bin .Add (.lit (.int 1)) (.bin .Mod (.var 5) (.var 1)))) (.lit (.int 1)))) .nil) (.cons (.ifs (.and (.cmp .Eq (.var 3) (.lit (.int 3))) (.cmp .Gt (.var 1) (.lit (.int 1)))) (.cons (.asg 6 (.bin .Add (.bin .Pow (.lit (.int 2)) (.bin .Add (.lit (.int 1)) (.bin .Mod (.var 5) (.bin .Sub (.var 1) (.lit (.int 1)))))) (.lit (.int 1)))) .nil) .nil) .nil)) .nil)) (.cons (.ret (.tup (.cons (.bin .Mod (.var 0) (.lit (.int 2))) (.cons (.var 6) (.cons (.var 4) (.cons (.bitlen (.var 6)) .nil)))))) .nil)))))
-- _law_worth 1 2 ["s", "signed"]
def b258 : SL := (.cons (.asg 1 (.ite (.cmp .Eq (.idx (.var 0) (.lit (.int 0))) (.lit (.int 1))) (.neg (.idx (.var 0) (.lit (.int 1)))) (.idx (.var 0) (.lit (.int 1))))) (.cons (.ret (.ite (.cmp .GtE (.idx (.var 0) (.lit (.int 2))) (.lit (.int 0))) (.tup (.cons (.bin .Mult (.var 1) (.bin .Pow (.lit (.int 2)) (.idx (.var 0) (.lit (.int 2))))) (.cons (.lit (.int 1)) .nil))) (.tup (.cons (.var 1) (.cons (.bin .Pow (.lit (.int 2)) (.neg (.idx (.var 0) (.lit (.int 2))))) .nil))))) .nil))
-- _law_rounded 4 11 ["above", "below", "prec", "rnd", "sign", "size", "exp", "whole", "rest", "low", "away"]
def b265 : SL := (.cons (.ifs (.cmp .Eq (.var 0) (.lit (.int 0))) (.cons (.ret (.tup (.cons (.lit (.int 0)) (.cons (.lit (.int 0)) (.cons (.lit (.int 0)) (.cons (.lit (.int 0)) .nil)))))) .nil) .nil) (.cons (.unp [4, 5] (.ite (.cmp .Lt (.var 0) (.lit (.int 0))) (.tup (.cons (.lit (.int 1)) (.cons (.neg (.var 0)) .nil))) (.tup (.cons (.lit (.int 0)) (.cons (.var 0) .nil))))) (.cons (.asg 6 (.bin .Sub (.bin .Sub (.bin .Sub (.bitlen (.var 5)) (.bitlen (.var 1))) (.var 2)) (.lit (.int 1)))) (.cons (.unp [7, 8, 9] (.tup (.cons (.bin .Pow (.lit (.int 2)) (.var 2)) (.cons (.lit (.int 0)) (.cons (.lit (.int 1)) .nil))))) (.cons (.whl (.cmp .GtE (.var 7) (.bin .Pow (.lit (.int 2)) (.var 2))) (.cons (.aug 6 .Add (.lit (.int 1))) (.cons (.asg 9 (.ite (.cmp .Gt (.var 6) (.lit (.int 0))) (.bin .Mult (.var 1) (.bin .Pow (.lit (.int 2)) (.var 6))) (.var 1))) (.cons (.unp [7, 8] (.divmod (.ite (.cmp .Lt (.var 6) (.lit (.int 0))) (.bin .Mult (.var 5) (.bin .Pow (.lit (.int 2)) (.neg (.var 6)))) (.var 5)) (.var 9))) .nil)))) (.cons (.asg 10 (.or (.cmp .Eq (.var 3) (.lit (.str "u"))) (.or (.and (.cmp .Eq (.var 3) (.lit (.str "c"))) (.cmp .Eq (.var 4) (.lit (.int 0)))) (.and (.cmp .Eq (.var 3) (.lit (.str "f"))) (.cmp .Eq (.var 4) (.lit (.int 1))))))) (.cons (.ifs (.cmp .Eq (.var 3) (.lit (.str "n"))) (.cons (.asg 10 (.or (.cmp .Gt (.bin .Mult (.lit (.int 2)) (.var 8)) (.var 9)) (.and (.cmp .Eq (.bin .Mult (.lit (.int 2)) (.var 8)) (.var 9)) (.cmp .Eq (.bin .Mod (.var 7) (.lit (.int 2))) (.lit (.int 1)))))) .nil) .nil) (.cons (.ifs (.and (.var 10) (.cmp .Gt (.var 8) (.lit (.int 0)))) (.cons (.aug 7 .Add (.lit (.int 1))) .nil) .nil) (.cons (.whl (.cmp .Eq (.bin .Mod (.var 7) (.lit (.int 2))) (.lit (.int 0))) (.cons (.unp [7, 6] (.tup (.cons (.bin .FloorDiv (.var 7) (.lit (.int 2))) (.cons (.bin .Add (.var 6) (.lit (.int 1))) .nil)))) .nil)) (.cons (.ret (.tup (.cons (.var 4) (.cons (.var 7) (.cons (.var 6) (.cons (.bitlen (.var 7)) .nil)))))) .nil))))))))))
-- _law_span 4 9 ["script", "k", "bits", "spread", "rich", "s", "t", "a", "b"]
def b272 : SL := (.cons (.asg 4 (.call 244 (.cons (.var 0) (.cons (.bin .Add (.var 1) (.lit (.int 2))) .nil)))) (.cons (.unp [5, 6] (.tup (.cons (.call 251 (.cons (.call 244 (.cons (.var 0) (.cons (.var 1) .nil))) (.cons (.var 2) (.cons (.var 3) .nil)))) (.cons (.call 251 (.cons (.call 244 (.cons (.var 0) (.cons (.bin .Add (.var 1) (.lit (.int 1))) .nil))) (.cons (.var 2) (.cons (.var 3) .nil)))) .nil)))) (.cons (.ifs (.cmp .Eq (.bin .Mod (.var 4) (.lit (.int 6))) (.lit (.int 0))) (.cons (.asg 6 (.var 5)) .nil) .nil) (.cons (.ifs (.cmp .Eq (.bin .Mod (.var 4) (.lit (.int 6))) (.lit (.int 1))) (.cons (.unp [5, 6] (.tup (.cons (.tup (.cons (.lit (.int 0)) (.cons (.lit (.int 0)) (.cons (.lit (.int 0)) (.cons (.lit (.int 0)) .nil))))) (.cons (.tup (.cons (.lit (.int 0)) (.cons (.idx (.var 6) (.lit (.int 1))) (.cons (.idx (.var 6) (.lit (.int 2))) (.cons (.idx (.var 6) (.lit (.int 3))) .nil))))) .nil)))) .nil) .nil) (.cons (.unp [7, 8] (.tup (.cons (.call 258 (.cons (.var 5) .nil)) (.cons (.call 258 (.cons (.var 6) .nil)) .nil)))) (.cons (.ret (.ite (.cmp .LtE (.bin .Mult (.idx (.var 7) (.lit (.int 0))) (.idx (.var 8) (.lit (.int 1)))) (.bin .Mult (.idx (.var 8) (.lit (.int 0))) (.idx (.var 7) (.lit (.int 1))))) (.tup (.cons (.var 5) (.cons (.var 6) .nil))) (.tup (.cons (.var 6) (.cons (.var 5) .nil))))) .nil))))))
-- _law_times 2 2 ["a", "b"]
def b279 : SL := (.cons (.ret (.tup (.cons (.bin .Mult (.idx (.var 0) (.lit (.int 0))) (.idx (.var 1) (.lit (.int 0)))) (.cons (.bin .Mult (.idx (.var 0) (.lit (.int 1))) (.idx (.var 1) (.lit (.int 1)))) .nil)))) .nil)
-- _law_less 2 2 ["a", "b"]
def b286 : SL := (.cons (.ret (.cmp .Lt (.bin .Mult (.idx (.var 0) (.lit (.int 0))) (.idx (.var 1) (.lit (.int 1)))) (.bin .Mult (.idx (.var 1) (.lit (.int 0))) (.idx (.var 0) (.lit (.int 1)))))) .nil)
-- _law_ends 1 4 ["rows", "least", "most", "one"]
def b293 : SL := (.cons (.unp [1, 2] (.tup (.cons (.idx (.var 0) (.lit (.int 0))) (.cons (.idx (.var 0) (.lit (.int 0))) .nil)))) (.cons (.for1 3 (.var 0) (.cons (.asg 1 (.ite (.call 286 (.cons (.var 3) (.cons (.var 1) .nil))) (.var 3) (.var 1))) (.cons (.asg 2 (.ite (.call 286 (.cons (.var 2) (.cons (.var 3) .nil))) (.var 3) (.var 2))) .nil))) (.cons (.ret (.tup (.cons (.var 1) (.cons (.var 2) .nil)))) .nil)))
-- _law_held 4 6 ["told", "least", "most", "prec", "low", "high"]
def b300 : SL := (.cons (.unp [4, 5] (.tup (.cons (.ite (.cmp .Gt (.var 3) (.lit (.int 0))) (.var 3) (.lit (.int 400))) (.cons (.ite (.cmp .Gt (.var 3) (.lit (.int 0))) (.var 3) (.lit (.int 400))) .nil)))) (.cons (.ret (.cmp .Eq (.var 0) (.tup (.cons (.call 265 (.cons (.idx (.var 1) (.lit (.int 0))) (.cons (.idx (.var 1) (.lit (.int 1))) (.cons (.var 4) (.cons (.lit (.str "f")) .nil))))) (.cons (.call 265 (.cons (.idx (.var 2) (.lit (.int 0))) (.cons (.idx (.var 2) (.lit (.int 1))) (.cons (.var 5) (.cons (.lit (.str "c")) .nil))))) .nil))))) .nil))
-- _law_asked 3 4 ["kind", "s", "t", "told"]
def b307 : SL := (.cons .stuck (.cons (.ret (.ite (.var 3) (.lit (.int 1)) (.lit (.int 0)))) .nil))
-- _law_order_right: NONE
-- law 1 15 ["script", "first", "prec", "s", "t", "a", "b", "minus", "sums", "least", "most", "sizes", "both", "wide", "few"]
def b317 : SL := (.cons (.asg 1 (.call 244 (.cons (.var 0) (.cons (.lit (.int 0)) .nil)))) (.cons (.asg 2 (.bin .Mod (.var 1) (.lit (.int 91)))) (.cons (.unp [3, 4] (.tup (.cons (.call 272 (.cons (.var 0) (.cons (.lit (.int 1)) (.cons (.lit (.int 50)) (.cons (.lit (.int 30)) .nil))))) (.cons (.call 272 (.cons (.var 0) (.cons (.lit (.int 4)) (.cons (.lit (.int 50)) (.cons (.lit (.int 30)) .nil))))) .nil)))) (.cons (.unp [5, 6] (.tup (.cons (.comp1 (.call 258 (.cons (.var 0) .nil)) (.var 3)) (.cons (.comp1 (.call 258 (.cons (.var 0) .nil)) (.var 4)) .nil)))) (.cons (.asg 7 (.comp1 (.tup (.cons (.neg (.idx (.var 0) (.lit (.int 0)))) (.cons (.idx (.var 0) (.lit (.int 1))) .nil))) (.var 6))) (.cons (.asg 8 (.comp2 (.tup (.cons (.bin .Add (.bin .Mult (.idx (.var 0) (.lit (.int 0))) (.idx (.var 1) (.lit (.int 1)))) (.bin .Mult (.idx (.var 1) (.lit (.int 0))) (.idx (.var 0) (.lit (.int 1))))) (.cons (.bin .Mult (.idx (.var 0) (.lit (.int 1))) (.idx (.var 1) (.lit (.int 1)))) .nil))) (.lst (.cons (.tup (.cons (.idx (.var 5) (.lit (.int 0))) (.cons (.idx (.var 6) (.lit (.int 0))) .nil))) (.cons (.tup (.cons (.idx (.var 5) (.lit (.int 1))) (.cons (.idx (.var 6) (.lit (.int 1))) .nil))) (.cons (.tup (.cons (.idx (.var 5) (.lit (.int 0))) (.cons (.idx (.var 7) (.lit (.int 1))) .nil))) (.cons (.tup (.cons (.idx (.var 5) (.lit (.int 1))) (.cons (.idx (.var 7) (.lit (.int 0))) .nil))) .nil))))))) (.cons (.ifs (.or (.not (.call 300 (.cons (.call 176 (.cons (.var 3) (.cons (.var 4) (.cons (.var 2) .nil)))) (.cons (.idx (.var 8) (.lit (.int 0))) (.cons (.idx (.var 8) (.lit (.int 1))) (.cons (.var 2) .nil)))))) (.not (.call 300 (.cons (.call 184 (.cons (.var 3) (.cons (.var 4) (.cons (.var 2) .nil)))) (.cons (.idx (.var 8) (.lit (.int 2))) (.cons (.idx (.var 8) (.lit (.int 3))) (.cons (.var 2) .nil))))))) (.cons (.ret (.lit (.bool false))) .nil) .nil) (.cons (.unp [9, 10] (.call 293 (.cons (.lst (.cons (.call 279 (.cons (.idx (.var 5) (.lit (.int 0))) (.cons (.idx (.var 6) (.lit (.int 0))) .nil))) (.cons (.call 279 (.cons (.idx (.var 5) (.lit (.int 0))) (.cons (.idx (.var 6) (.lit (.int 1))) .nil))) (.cons (.call 279 (.cons (.idx (.var 5) (.lit (.int 1))) (.cons (.idx (.var 6) (.lit (.int 0))) .nil))) (.cons (.call 279 (.cons (.idx (.var 5) (.lit (.int 1))) (.cons (.idx (.var 6) (.lit (.int 1))) .nil))) .nil))))) .nil))) (.cons (.ifs (.or (.not (.call 300 (.cons (.call 229 (.cons (.var 3) (.cons (.var 4) (.cons (.var 2) .nil)))) (.cons (.var 9) (.cons (.var 10) (.cons (.var 2) .nil)))))) (.not (.call 300 (.cons (.call 229 (.cons (.var 4) (.cons (.var 3) (.cons (.var 2) .nil)))) (.cons (.var 9) (.cons (.var 10) (.cons (.var 2) .nil))))))) (.cons (.ret (.lit (.bool false))) .nil) .nil) (.cons (.asg 11 (.lst (.cons (.tup (.cons (.abs (.idx (.idx (.var 5) (.lit (.int 0))) (.lit (.int 0)))) (.cons (.idx (.idx (.var 5) (.lit (.int 0))) (.lit (.int 1))) .nil))) (.cons (.tup (.cons (.abs (.idx (.idx (.var 5) (.lit (.int 1))) (.lit (.int 0)))) (.cons (.idx (.idx (.var 5) (.lit (.int 1))) (.lit (.int 1))) .nil))) .nil)))) (.cons (.unp [9, 10] (.call 293 (.cons (.bin .Add (.var 11) (.ite (.and (.cmp .LtE (.idx (.idx (.var 5) (.lit (.int 0))) (.lit (.int 0))) (.lit (.int 0))) (.cmp .GtE (.idx (.idx (.var 5) (.lit (.int 1))) (.lit (.int 0))) (.lit (.int 0)))) (.lst (.cons (.tup (.cons (.lit (.int 0)) (.cons (.lit (.int 1)) .nil))) .nil)) (.lst .nil))) .nil))) (.cons (.ifs (.not (.call 300 (.cons (.call 221 (.cons (.var 3) (.cons (.var 2) .nil))) (.cons (.var 9) (.cons (.var 10) (.cons (.var 2) .nil)))))) (.cons (.ret (.lit (.bool false))) .nil) .nil) (.cons (.ifs (.not (.call 300 (.cons (.call 237 (.cons (.var 3) (.cons (.var 2) .nil))) (.cons (.call 279 (.cons (.var 9) (.cons (.var 9) .nil))) (.cons (.call 279 (.cons (.var 10) (.cons (.var 10) .nil))) (.cons (.var 2) .nil)))))) (.cons (.ret (.lit (.bool false))) .nil) .nil) (.cons (.ifs (.or (.not (.call 300 (.cons (.call 213 (.cons (.var 4) (.cons (.var 2) .nil))) (.cons (.idx (.var 7) (.lit (.int 1))) (.cons (.idx (.var 7) (.lit (.int 0))) (.cons (.var 2) .nil)))))) (.not (.call 300 (.cons (.call 205 (.cons (.var 4) (.cons (.var 2) .nil))) (.cons (.idx (.var 6) (.lit (.int 0))) (.cons (.idx (.var 6) (.lit (.int 1))) (.cons (.var 2) .nil))))))) (.cons (.ret (.lit (.bool false))) .nil) .nil) (.cons (.asg 12 (.tup (.cons (.bin .Add (.bin .Mult (.idx (.idx (.var 5) (.lit (.int 0))) (.lit (.int 0))) (.idx (.idx (.var 5) (.lit (.int 1))) (.lit (.int 1)))) (.bin .Mult (.idx (.idx (.var 5) (.lit (.int 1))) (.lit (.int 0))) (.idx (.idx (.var 5) (.lit (.int 0))) (.lit (.int 1))))) (.cons (.bin .Mult (.bin .Mult (.lit (.int 2)) (.idx (.idx (.var 5) (.lit (.int 0))) (.lit (.int 1)))) (.idx (.idx (.var 5) (.lit (.int 1))) (.lit (.int 1)))) .nil)))) (.cons (.asg 13 (.tup (.cons (.bin .Sub (.bin .Mult (.idx (.idx (.var 5) (.lit (.int 1))) (.lit (.int 0))) (.idx (.idx (.var 5) (.lit (.int 0))) (.lit (.int 1)))) (.bin .Mult (.idx (.idx (.var 5) (.lit (.int 0))) (.lit (.int 0))) (.idx (.idx (.var 5) (.lit (.int 1))) (.lit (.int 1))))) (.cons (.bin .Mult (.idx (.idx (.var 5) (.lit (.int 0))) (.lit (.int 1))) (.idx (.idx (.var 5) (.lit (.int 1))) (.lit (.int 1)))) .nil)))) (.cons (.asg 14 (.bin .Add (.var 2) (.lit (.int 1)))) (.cons (.ifs (.or (.cmp .NotEq (.call 198 (.cons (.var 3) (.cons (.var 14) .nil))) (.call 265 (.cons (.idx (.var 12) (.lit (.int 0))) (.cons (.idx (.var 12) (.lit (.int 1))) (.cons (.var 14) (.cons (.lit (.str "n")) .nil)))))) (.cmp .NotEq (.call 191 (.cons (.var 3) (.cons (.var 14) .nil))) (.call 265 (.cons (.idx (.var 13) (.lit (.int 0))) (.cons (.idx (.var 13) (.lit (.int 1))) (.cons (.var 14) (.cons (.lit (.str "u")) .nil))))))) (.cons (.ret (.lit (.bool false))) .nil) .nil) (.cons (.ret (.call 312 (.cons (.var 3) (.cons (.var 4) (.cons (.var 5) (.cons (.var 6) .nil)))))) .nil)))))))))))))))))))

end Mine

end
section
open PySem PySem.W PySem.Calls PyProof.Rows
namespace Mine

theorem odd_unique : ∀ (i j m k : Nat), m % 2 = 1 → k % 2 = 1 → m * 2 ^ i = k * 2 ^ j → m = k ∧ i = j
  | 0, 0, m, k, _, _, h => ⟨by simpa using h, rfl⟩
  | 0, j + 1, m, k, hm, _, h => by rw [Nat.pow_succ, ← Nat.mul_assoc] at h; omega
  | i + 1, 0, m, k, _, hk, h => by rw [Nat.pow_succ, ← Nat.mul_assoc] at h; omega
  | i + 1, j + 1, m, k, hm, hk, h => by
    rw [Nat.pow_succ, Nat.pow_succ, ← Nat.mul_assoc, ← Nat.mul_assoc] at h
    obtain ⟨a, b⟩ := odd_unique i j m k hm hk (by omega)
    exact ⟨a, by omega⟩

theorem exOdd : ∀ (a : Nat), a ≠ 0 → ∃ m t, m % 2 = 1 ∧ a = m * 2 ^ t := by
  intro a
  induction a using Nat.strongRecOn with
  | _ a ih =>
    intro h
    by_cases q : a % 2 = 1
    · exact ⟨a, 0, q, by simp⟩
    · obtain ⟨m, t, hm, e⟩ := ih (a / 2) (by omega) (by omega)
      refine ⟨m, t + 1, hm, ?_⟩
      rw [Nat.pow_succ, ← Nat.mul_assoc, ← e]; omega

open Classical in
noncomputable def od (a : Nat) : Nat := if h : a = 0 then 0 else (exOdd a h).choose
open Classical in
noncomputable def tz (a : Nat) : Nat := if h : a = 0 then 0 else (exOdd a h).choose_spec.choose
theorem od_zero : od 0 = 0 := by simp [od]
theorem od_odd {a : Nat} (h : a ≠ 0) : od a % 2 = 1 := by
  unfold od; rw [dif_neg h]; exact (exOdd a h).choose_spec.choose_spec.1
theorem od_tz (a : Nat) : a = od a * 2 ^ tz a := by
  by_cases h : a = 0
  · subst h; simp [od]
  · unfold od tz; rw [dif_neg h, dif_neg h]; exact (exOdd a h).choose_spec.choose_spec.2
theorem od_ne {a : Nat} (h : a ≠ 0) : od a ≠ 0 := by have := od_odd h; omega
theorem od_le (a : Nat) : od a ≤ a := by
  have h := od_tz a
  have : 0 < 2 ^ tz a := Nat.two_pow_pos _
  calc od a ≤ od a * 2 ^ tz a := Nat.le_mul_of_pos_right _ this
    _ = a := h.symm
theorem od_of {a m t : Nat} (hm : m % 2 = 1) (h : a = m * 2 ^ t) : od a = m ∧ tz a = t := by
  have ha : a ≠ 0 := by
    rintro rfl
    rcases Nat.mul_eq_zero.mp h.symm with e | e
    · omega
    · exact absurd e (Nat.ne_of_gt (Nat.two_pow_pos _))
  exact odd_unique _ _ _ _ (od_odd ha) hm ((od_tz a).symm.trans h)
theorem od_mul (a j : Nat) : od (a * 2 ^ j) = od a := by
  by_cases h : a = 0
  · subst h; simp
  · exact (od_of (od_odd h) (by conv => lhs; rw [od_tz a]
                                rw [Nat.mul_assoc, ← Nat.pow_add] : a * 2 ^ j = od a * 2 ^ (tz a + j))).1
theorem tz_mul {a : Nat} (j : Nat) (h : a ≠ 0) : tz (a * 2 ^ j) = tz a + j :=
  (od_of (od_odd h) (by conv => lhs; rw [od_tz a]
                        rw [Nat.mul_assoc, ← Nat.pow_add] : a * 2 ^ j = od a * 2 ^ (tz a + j))).2

/-- the length in binary digits -/
def bl (a : Nat) : Nat := if a = 0 then 0 else a.log2 + 1
theorem intBits_bl (x : Int) : Builtin.Int.intBits x = bl x.natAbs := by
  unfold Builtin.Int.intBits bl
  by_cases h : x = 0
  · subst h; rfl
  · rw [if_neg (by simpa using h), if_neg (by omega)]
theorem intBits_nat (a : Nat) : Builtin.Int.intBits (a : Int) = bl a := intBits_bl _
theorem bl_zero : bl 0 = 0 := rfl
theorem bl_lt (a : Nat) : a < 2 ^ bl a := by
  unfold bl; split
  · subst_vars; simp
  · exact Nat.lt_log2_self
theorem bl_ge {a : Nat} (h : a ≠ 0) : 2 ^ (bl a - 1) ≤ a := by
  unfold bl; rw [if_neg h]; exact Nat.log2_self_le h
theorem bl_le {a k : Nat} (h : a < 2 ^ k) : bl a ≤ k := by
  unfold bl; split
  · omega
  · rename_i q; have := (Nat.log2_lt q).mpr h; omega
theorem bl_le_iff {a k : Nat} : bl a ≤ k ↔ a < 2 ^ k := ⟨fun h => Nat.lt_of_lt_of_le (bl_lt a) (Nat.pow_le_pow_right (by omega) h), bl_le⟩
theorem bl_pos {a : Nat} (h : a ≠ 0) : 0 < bl a := by unfold bl; rw [if_neg h]; omega
theorem bl_eq {a k : Nat} (h1 : 2 ^ k ≤ a) (h2 : a < 2 ^ (k + 1)) : bl a = k + 1 := by
  have h3 := bl_le h2
  have h4 : ¬ bl a ≤ k := fun h => by have := bl_le_iff.mp h; omega
  omega
theorem bl_mul {a : Nat} (j : Nat) (h : a ≠ 0) : bl (a * 2 ^ j) = bl a + j := by
  have h1 := bl_ge h
  have h2 := bl_lt a
  have h3 := bl_pos h
  have e : bl a - 1 + 1 = bl a := by omega
  have := bl_eq (a := a * 2 ^ j) (k := bl a - 1 + j) (by rw [Nat.pow_add]; exact Nat.mul_le_mul_right _ h1)
    (by rw [show bl a - 1 + j + 1 = bl a + j by omega, Nat.pow_add]; exact Nat.mul_lt_mul_of_pos_right h2 (Nat.two_pow_pos _))
  omega
theorem bl_mono {a b : Nat} (h : a ≤ b) : bl a ≤ bl b := bl_le (Nat.lt_of_le_of_lt h (bl_lt b))
theorem bl_pow (k : Nat) : bl (2 ^ k) = k + 1 := bl_eq (Nat.le_refl _) (Nat.pow_lt_pow_right (by omega) (by omega))

inductive Md where
  | n | f | c | u
def Md.s : Md → Str
  | .n => Str.ofString "n"
  | .f => Str.ofString "f"
  | .c => Str.ofString "c"
  | .u => Str.ofString "u"

/-- is the rest c of the quotient q by b rounded up -/
def up (r : Md) (neg : Bool) (q c b : Nat) : Bool := match r with
  | .n => decide (b < 2 * c) || (decide (2 * c = b) && decide (q % 2 = 1))
  | .f => neg
  | .c => !neg
  | .u => true
def upq (r : Md) (neg : Bool) (a b : Nat) : Nat := if (up r neg (a / b) (a % b) b && decide (0 < a % b)) = true then a / b + 1 else a / b

theorem upq_scale (r : Md) (neg : Bool) (a b k : Nat) (hk : 0 < k) : upq r neg (a * k) (b * k) = upq r neg a b := by
  have h1 : a * k / (b * k) = a / b := Nat.mul_div_mul_right a b hk
  have h2 : a * k % (b * k) = a % b * k := Nat.mul_mod_mul_right k a b
  unfold upq
  rw [h1, h2]
  have h3 : decide (0 < a % b * k) = decide (0 < a % b) := by
    rw [decide_eq_decide]; constructor
    · intro h; exact Nat.pos_of_mul_pos_right h
    · intro h; exact Nat.mul_pos h hk
  have h4 : up r neg (a / b) (a % b * k) (b * k) = up r neg (a / b) (a % b) b := by
    cases r <;> unfold up <;> simp only
    have e1 : (b * k < 2 * (a % b * k)) ↔ b < 2 * (a % b) := by rw [← Nat.mul_assoc]; exact Nat.mul_lt_mul_right hk
    have e2 : (2 * (a % b * k) = b * k) ↔ 2 * (a % b) = b := by rw [← Nat.mul_assoc]; exact Nat.mul_left_inj (by omega)
    simp only [e1, e2]
  rw [h3, h4]
theorem upq_exact (r : Md) (neg : Bool) (a b : Nat) (hb : 0 < b) : upq r neg (a * b) b = a := by
  unfold upq
  rw [Nat.mul_mod_left, Nat.mul_div_cancel _ hb]; simp

def sgn (neg : Bool) (a : Nat) : Int := if neg = true then -(a : Int) else a
theorem sgn_natAbs (neg : Bool) (a : Nat) : (sgn neg a).natAbs = a := by unfold sgn; split <;> simp
theorem sgn_mul (neg : Bool) (a b : Nat) : sgn neg a * (b : Int) = sgn neg (a * b) := by unfold sgn; split <;> simp [Int.neg_mul]
theorem sgn_self (x : Int) : sgn (decide (x < 0)) x.natAbs = x := by unfold sgn; split <;> simp_all <;> omega
theorem sgn_neg {neg : Bool} {a : Nat} (h : a ≠ 0) : decide (sgn neg a < 0) = neg := by unfold sgn; cases neg <;> simp <;> omega

/-- the rounding of a whole number to p digits; none when p is 0 -/
def rd (p : Nat) (r : Md) (x : Int) : Int :=
  if p = 0 ∨ bl x.natAbs ≤ p then x else sgn (decide (x < 0)) (upq r (decide (x < 0)) x.natAbs (2 ^ (bl x.natAbs - p)) * 2 ^ (bl x.natAbs - p))

theorem rd_sgn {p : Nat} {r : Md} {neg : Bool} {a : Nat} (h : ¬ (p = 0 ∨ bl a ≤ p)) : rd p r (sgn neg a) = sgn neg (upq r neg a (2 ^ (bl a - p)) * 2 ^ (bl a - p)) := by
  have ha : a ≠ 0 := by rintro rfl; exact h (.inr (by simp [bl_zero]))
  unfold rd; rw [sgn_natAbs, if_neg h, sgn_neg ha]
theorem rd_mul (p : Nat) (r : Md) (x : Int) (j : Nat) : rd p r (x * 2 ^ j) = rd p r x * 2 ^ j := by
  by_cases hx : x = 0
  · subst hx; simp [rd, bl_zero]
  have hp : (0 : Int) < 2 ^ j := Int.pow_pos (by omega)
  have hn : x.natAbs ≠ 0 := by omega
  have hs : decide (x * 2 ^ j < 0) = decide (x < 0) := by
    rw [decide_eq_decide]; constructor
    · intro h; by_cases q : x < 0
      · exact q
      · exact absurd (Int.mul_nonneg (by omega : 0 ≤ x) (Int.le_of_lt hp)) (by omega)
    · intro h; exact Int.mul_neg_of_neg_of_pos h hp
  have ha : (x * 2 ^ j).natAbs = x.natAbs * 2 ^ j := by rw [Int.natAbs_mul, Int.natAbs_pow]; rfl
  have hb := bl_mul j hn
  have hc : ((2 : Int) ^ j) = ((2 ^ j : Nat) : Int) := by simp
  unfold rd
  rw [ha, hb, hs]
  by_cases h1 : p = 0
  · simp [h1]
  by_cases h2 : bl x.natAbs ≤ p
  · rw [if_pos (show p = 0 ∨ bl x.natAbs ≤ p from .inr h2)]
    by_cases h3 : bl x.natAbs + j ≤ p
    · rw [if_pos (.inr h3)]
    · have e : x.natAbs * 2 ^ j = (x.natAbs * 2 ^ (j - (bl x.natAbs + j - p))) * 2 ^ (bl x.natAbs + j - p) := by
        rw [Nat.mul_assoc, ← Nat.pow_add]; congr 2; omega
      rw [if_neg (show ¬ (p = 0 ∨ bl x.natAbs + j ≤ p) by omega), e, upq_exact _ _ _ _ (Nat.two_pow_pos _), ← e, hc, ← sgn_mul, sgn_self]
  · rw [if_neg (show ¬ (p = 0 ∨ bl x.natAbs + j ≤ p) by omega), if_neg (show ¬ (p = 0 ∨ bl x.natAbs ≤ p) by omega), show bl x.natAbs + j - p = (bl x.natAbs - p) + j by omega, Nat.pow_add, upq_scale _ _ _ _ _ (Nat.two_pow_pos _), hc, sgn_mul, Nat.mul_assoc]
theorem rd_zero {p : Nat} {r : Md} : rd p r 0 = 0 := by simp [rd, bl_zero]
theorem rd_none {r : Md} {x : Int} : rd 0 r x = x := by simp [rd]
theorem rd_fits {p : Nat} {r : Md} {x : Int} (h : bl x.natAbs ≤ p) : rd p r x = x := by simp [rd, h]

/-- the value x / 2^64 as the library writes it -/
noncomputable def fr (x : Int) : PyData := q4 (if x < 0 then 1 else 0) (od x.natAbs) (if x = 0 then 0 else (tz x.natAbs : Int) - 64) (bl (od x.natAbs))
theorem fr_zero : fr 0 = q4 0 0 0 0 := by simp [fr, od_zero, bl_zero]
theorem fr_of {x : Int} {m i : Nat} {neg : Bool} {e : Int} (hm : m % 2 = 1) (hx : x = sgn neg (m * 2 ^ i)) (he : e = (i : Int) - 64) : q4 (if neg = true then 1 else 0) m e (bl m) = fr x := by
  obtain ⟨h1, h2⟩ := od_of hm (rfl : m * 2 ^ i = _)
  have h0 : m * 2 ^ i ≠ 0 := by
    intro h; rcases Nat.mul_eq_zero.mp h with e | e
    · omega
    · exact absurd e (Nat.ne_of_gt (Nat.two_pow_pos _))
  have hn : x.natAbs = m * 2 ^ i := by rw [hx, sgn_natAbs]
  have hs : decide (x < 0) = neg := by rw [hx]; exact sgn_neg h0
  have hx0 : x ≠ 0 := by intro q; rw [q] at hn; exact h0 hn.symm
  unfold fr
  rw [hn, h1, h2, if_neg hx0, he]
  cases neg
  · rw [if_neg (by simp), if_neg (by simpa using hs)]
  · rw [if_pos rfl, if_pos (by simpa using hs)]
@[simp] theorem sok_n : PyData.strOk (Str.ofString "n") = true := by decide +kernel
@[simp] theorem sne_nf : (Str.ofString "n" = Str.ofString "f") = False := by decide
@[simp] theorem sne_nc : (Str.ofString "n" = Str.ofString "c") = False := by decide
@[simp] theorem sne_nd : (Str.ofString "n" = Str.ofString "d") = False := by decide
@[simp] theorem sne_nu : (Str.ofString "n" = Str.ofString "u") = False := by decide
@[simp] theorem sok_f : PyData.strOk (Str.ofString "f") = true := by decide +kernel
@[simp] theorem sne_fn : (Str.ofString "f" = Str.ofString "n") = False := by decide
@[simp] theorem sne_fc : (Str.ofString "f" = Str.ofString "c") = False := by decide
@[simp] theorem sne_fd : (Str.ofString "f" = Str.ofString "d") = False := by decide
@[simp] theorem sne_fu : (Str.ofString "f" = Str.ofString "u") = False := by decide
@[simp] theorem sok_c : PyData.strOk (Str.ofString "c") = true := by decide +kernel
@[simp] theorem sne_cn : (Str.ofString "c" = Str.ofString "n") = False := by decide
@[simp] theorem sne_cf : (Str.ofString "c" = Str.ofString "f") = False := by decide
@[simp] theorem sne_cd : (Str.ofString "c" = Str.ofString "d") = False := by decide
@[simp] theorem sne_cu : (Str.ofString "c" = Str.ofString "u") = False := by decide
@[simp] theorem sok_d : PyData.strOk (Str.ofString "d") = true := by decide +kernel
@[simp] theorem sne_dn : (Str.ofString "d" = Str.ofString "n") = False := by decide
@[simp] theorem sne_df : (Str.ofString "d" = Str.ofString "f") = False := by decide
@[simp] theorem sne_dc : (Str.ofString "d" = Str.ofString "c") = False := by decide
@[simp] theorem sne_du : (Str.ofString "d" = Str.ofString "u") = False := by decide
@[simp] theorem sok_u : PyData.strOk (Str.ofString "u") = true := by decide +kernel
@[simp] theorem sne_un : (Str.ofString "u" = Str.ofString "n") = False := by decide
@[simp] theorem sne_uf : (Str.ofString "u" = Str.ofString "f") = False := by decide
@[simp] theorem sne_uc : (Str.ofString "u" = Str.ofString "c") = False := by decide
@[simp] theorem sne_ud : (Str.ofString "u" = Str.ofString "d") = False := by decide
end Mine

end
section
open PySem PySem.W PySem.Calls PyProof.Rows
namespace Mine

theorem and_half (a b : Nat) : (a &&& b) / 2 = a / 2 &&& b / 2 := Nat.and_div_two
theorem and_low (a b : Nat) : (a &&& b) % 2 = (a % 2) * (b % 2) := by
  have h := Nat.and_mod_two_pow (a := a) (b := b) (n := 1)
  rw [Nat.pow_one] at h
  rw [h]
  have := Nat.mod_two_eq_zero_or_one a; have := Nat.mod_two_eq_zero_or_one b
  rcases ‹a % 2 = 0 ∨ _› with e | e <;> rcases ‹b % 2 = 0 ∨ _› with e' | e' <;> simp [e, e']
theorem and_pred : ∀ (t m : Nat), m % 2 = 1 → (m * 2 ^ t) &&& (m * 2 ^ t - 1) = m * 2 ^ t - 2 ^ t
  | 0, m, h => by
    have h1 := and_half m (m - 1)
    have h2 := and_low m (m - 1)
    rw [show (m - 1) / 2 = m / 2 by omega, Nat.and_self] at h1
    rw [show (m - 1) % 2 = 0 by omega] at h2
    simp only [Nat.pow_zero, Nat.mul_one] at *
    omega
  | t + 1, m, h => by
    have ih := and_pred t m h
    have e : m * 2 ^ (t + 1) = 2 * (m * 2 ^ t) := by rw [Nat.pow_succ]; ac_rfl
    have e2 : 2 ^ (t + 1) = 2 * 2 ^ t := by rw [Nat.pow_succ]; ac_rfl
    have hp : 0 < m * 2 ^ t := Nat.mul_pos (by omega) (Nat.two_pow_pos _)
    rw [e, e2]
    generalize m * 2 ^ t = x at *
    have h1 := and_half (2 * x) (2 * x - 1)
    have h2 := and_low (2 * x) (2 * x - 1)
    rw [show 2 * x / 2 = x by omega, show (2 * x - 1) / 2 = x - 1 by omega, ih] at h1
    rw [show 2 * x % 2 = 0 by omega] at h2
    omega

theorem band_nat (a b : Nat) : Builtin.bitAnd (a : Int) (b : Int) = ((a &&& b : Nat) : Int) := by
  unfold Builtin.bitAnd
  rw [decide_eq_true (by omega), decide_eq_true (by omega)]; simp
theorem band_neg {a : Nat} (h : a ≠ 0) : Builtin.bitAnd (a : Int) (-(a : Int)) = ((2 ^ tz a : Nat) : Int) := by
  unfold Builtin.bitAnd
  rw [decide_eq_true (by omega), decide_eq_false (by omega)]
  simp only [Builtin.bitNot, Int.toNat_natCast]
  have e : (-(-(a : Int)) - 1).toNat = a - 1 := by omega
  rw [e]
  have h1 := and_pred (tz a) (od a) (od_odd h)
  rw [← od_tz a] at h1
  rw [h1]
  have h2 : 2 ^ tz a ≤ a := by
    conv => rhs; rw [od_tz a]
    exact Nat.le_mul_of_pos_left _ (Nat.pos_of_ne_zero (od_ne h))
  omega
theorem band_one (a : Nat) : Builtin.bitAnd (a : Int) 1 = ((a % 2 : Nat) : Int) := by
  have := band_nat a 1
  rw [show ((1 : Nat) : Int) = 1 from rfl] at this
  rw [this]; congr 1; exact Nat.and_one_is_mod a
theorem band_two (a : Nat) : Builtin.bitAnd (a : Int) 2 = ((2 * (a / 2 % 2) : Nat) : Int) := by
  have := band_nat a 2
  rw [show ((2 : Nat) : Int) = 2 from rfl] at this
  rw [this]; congr 1
  have h1 := and_half a 2
  have h2 := and_low a 2
  rw [show 2 / 2 = 1 from rfl, Nat.and_one_is_mod] at h1
  omega
theorem band_mask (a k : Nat) : Builtin.bitAnd (a : Int) (2 ^ k - 1) = ((a % 2 ^ k : Nat) : Int) := by
  have := band_nat a (2 ^ k - 1)
  have e : ((2 ^ k - 1 : Nat) : Int) = 2 ^ k - 1 := by
    have := Nat.two_pow_pos k
    rw [Int.natCast_sub (by omega)]; simp
  rw [e] at this
  rw [this, Nat.and_two_pow_sub_one_eq_mod]

def sp21 : Sp := fun ds Kp => ∃ m : Nat, m ≠ 0 ∧ ds = [.int m] ∧ Kp (.int (tz m))

theorem v21 (Γ : Nat → Sp) (ds : List PyData) (Kp : PyData → Prop) (h : sp21 ds Kp) : vsL Γ b21 (start 1 (ds ++ [])) (fun _ => Kp .none) Kp := by
  obtain ⟨m, hm, rfl, hk⟩ := h
  simp [b21, start, vsL, vs, vc, varD, truthD, binD, negD, bitlenD, hm, band_neg, intBits_nat, -Int.natCast_pow, bl_pow]
  exact hk
end Mine

end
section
open PySem PySem.W PySem.Calls PyProof.Rows
namespace Mine

theorem cast_pow2 (k : Nat) : ((2 : Int) ^ k) = ((2 ^ k : Nat) : Int) := by simp
theorem fdivN (a k : Nat) : (a : Int).fdiv (2 ^ k) = ((a / 2 ^ k : Nat) : Int) := by
  rw [cast_pow2, Int.fdiv_eq_ediv_of_nonneg _ (Int.natCast_nonneg _)]; simp
theorem fdivNeg (a k : Nat) : -((-(a : Int)).fdiv (2 ^ k)) = ((a / 2 ^ k + if 0 < a % 2 ^ k then 1 else 0 : Nat) : Int) := by
  rw [cast_pow2, Int.fdiv_eq_ediv_of_nonneg _ (Int.natCast_nonneg _)]
  have hb : 0 < 2 ^ k := Nat.two_pow_pos k
  generalize 2 ^ k = b at *
  have h1 := Nat.div_add_mod a b
  have h2 := Nat.mod_lt a hb
  generalize hq : a / b = q at *
  generalize hr : a % b = r at *
  have e : (-(a : Int)) / (b : Int) = -((q + if 0 < r then 1 else 0 : Nat) : Int) := by
    have h1' : (a : Int) = b * q + r := by exact_mod_cast h1.symm
    by_cases h : 0 < r
    · rw [if_pos h]
      have : -(a : Int) = ((b : Int) - r) + b * (-((q + 1 : Nat) : Int)) := by rw [h1']; push_cast; rw [Int.mul_neg, Int.mul_add]; omega
      rw [this, Int.add_mul_ediv_left _ _ (by omega), Int.ediv_eq_zero_of_lt (by omega) (by omega)]; simp
    · rw [if_neg h]
      have hr0 : r = 0 := by omega
      have : -(a : Int) = b * (-(q : Int)) := by rw [h1', hr0, Int.mul_neg]; simp
      rw [this, Int.mul_ediv_cancel_left _ (by omega)]; simp
  rw [e]; simp

def sgd (neg : Bool) : PyData := .int (if neg = true then 1 else 0)

def t37 : SL := (.cons (.ifs (.not (.bin .BitAnd (.var 1) (.lit (.int 1)))) (.cons (.asg 7 (.call 21 (.cons (.var 1) .nil))) (.cons (.aug 1 .RShift (.var 7)) (.cons (.aug 2 .Add (.var 7)) (.cons (.aug 3 .Sub (.var 7)) .nil)))) .nil) (.cons (.ifs (.cmp .Eq (.var 1) (.lit (.int 1))) (.cons (.asg 3 (.lit (.int 1))) .nil) .nil) (.cons (.ret (.tup (.cons (.var 0) (.cons (.var 1) (.cons (.var 2) (.cons (.var 3) .nil)))))) .nil)))

theorem tail37 {Γ : Nat → Sp} (h21 : ∀ ds K, sp21 ds K → Γ 21 ds K) {neg : Bool} {m j bc : Nat} {p r : PyData} {x6 x7 : Option PyData} {K0 : En → Prop} {Kp : PyData → Prop} (hm : m ≠ 0) (hb : od m = 1 ∨ bl m = bc) (hk : Kp (fr (sgn neg (m * 2 ^ j)))) :
    vsL Γ t37 [some (sgd neg), some (.int m), some (.int ((j : Int) - 64)), some (.int bc), some p, some r, x6, x7] K0 Kp := by
  have hod := od_odd hm
  have key : ∀ e b : Int, e = ((tz m + j : Nat) : Int) - 64 → b = bl (od m) → Kp (.tuple [sgd neg, .int (od m), .int e, .int b]) := by
    intro e b he hb
    have := fr_of (x := sgn neg (m * 2 ^ j)) (neg := neg) (m := od m) (i := tz m + j) hod (by rw [Nat.pow_add, ← Nat.mul_assoc, ← od_tz m]) he
    rw [← this] at hk
    rw [hb]; exact hk
  have hbl : bl m = bl (od m) + tz m := by conv => lhs; rw [od_tz m, bl_mul _ (od_ne hm)]
  have hsh : SeqAt.shaped (.int (od m)) = true := rfl
  have hsh1 : SeqAt.shaped (.int 1) = true := rfl
  have hsh2 : SeqAt.shaped (.int m) = true := rfl
  by_cases q : m % 2 = 1
  · obtain ⟨h1, h2⟩ := od_of q (show m = m * 2 ^ 0 by simp)
    rw [h1] at hb hbl
    simp [t37, vsL, vs, vc, vcL, varD, truthD, binD, band_one, q, cmpD, hsh1, hsh2]
    by_cases q1 : m = 1
    · subst q1
      simp [PyData.eqv]
      rw [h1] at key
      exact key _ _ (by omega) rfl
    · have : bl m = bc := by omega
      have e : PyData.eqv (.int m) (.int 1) = false := by simp [PyData.eqv]; omega
      simp [e]
      rw [h1] at key
      exact key _ _ (by omega) (by omega)
  · have q0 : m % 2 = 0 := by omega
    simp [t37, vsL, vs, vc, vcL, varD, truthD, binD, band_one, q0, cmpD, hsh1, hsh2]
    refine h21 _ _ ⟨m, hm, rfl, ?_⟩
    have hdiv : m / 2 ^ tz m = od m := by conv => lhs; lhs; rw [od_tz m]
                                          exact Nat.mul_div_cancel _ (Nat.two_pow_pos _)
    simp [augD, binD, varD, fdivN, hdiv, cmpD, hsh, hsh1]
    by_cases q1 : od m = 1
    · rw [q1]
      simp [PyData.eqv]
      rw [q1] at key
      exact key _ _ (by omega) rfl
    · have : bl m = bc := by omega
      have e : PyData.eqv (.int (od m)) (.int 1) = false := by simp [PyData.eqv]; omega
      simp [e]
      exact key _ _ (by omega) (by omega)

def sp37 : Sp := fun ds Kp => ∃ (neg : Bool) (m j p : Nat) (r : Md), ds = [sgd neg, .int m, .int ((j : Int) - 64), .int (bl m), .int p, .str r.s] ∧ (m = 0 ∨ 1 ≤ p) ∧ bl m ≤ 100000 ∧ Kp (fr (rd p r (sgn neg (m * 2 ^ j))))

theorem fr_z : fr 0 = .tuple [.int 0, .int 0, .int 0, .int 0] := fr_zero
theorem sgn_zero (neg : Bool) : sgn neg 0 = 0 := by cases neg <;> rfl

theorem upq_two {r : Md} {neg : Bool} {m n : Nat} (hr : r.s ≠ Str.ofString "n") : upq r neg m (2 ^ n) = if (up r neg 0 0 1) = true then m / 2 ^ n + (if 0 < m % 2 ^ n then 1 else 0) else m / 2 ^ n := by
  unfold upq
  cases r with
  | n => exact absurd rfl hr
  | _ => cases neg <;> simp [up] <;> split <;> simp_all

theorem upq_near {neg : Bool} {m k : Nat} : upq .n neg m (2 ^ (k + 1)) = if (m / 2 ^ k % 2 = 1 ∧ (m / 2 ^ k / 2 % 2 = 1 ∨ 0 < m % 2 ^ k)) then m / 2 ^ k / 2 + 1 else m / 2 ^ k / 2 := by
  have hp := Nat.two_pow_pos k
  have e1 : m / 2 ^ (k + 1) = m / 2 ^ k / 2 := by rw [Nat.pow_succ, Nat.div_div_eq_div_mul]
  have e2 : m % 2 ^ (k + 1) = m % 2 ^ k + 2 ^ k * (m / 2 ^ k % 2) := by rw [Nat.pow_succ, Nat.mod_mul]
  have e3 : 2 ^ (k + 1) = 2 * 2 ^ k := by rw [Nat.pow_succ]; ac_rfl
  have h3 := Nat.mod_lt m hp
  unfold upq up
  rw [e1, e2, e3]
  generalize m / 2 ^ k = t at *
  generalize m % 2 ^ k = c at *
  generalize 2 ^ k = b at *
  rcases Nat.mod_two_eq_zero_or_one t with e | e <;> rw [e]
  · have : ¬ (2 * b < 2 * c) := by omega
    have h2 : ¬ (2 * c = 2 * b) := by omega
    simp [this, h2]
  · by_cases h : 0 < c
    · have : 2 * b < 2 * (c + b) := by omega
      simp [this, h]; omega
    · have : c = 0 := by omega
      subst this
      simp
      by_cases q : t / 2 % 2 = 1 <;> simp [q] <;> omega

theorem v37 {Γ : Nat → Sp} (h21 : ∀ ds K, sp21 ds K → Γ 21 ds K) (ds : List PyData) (Kp : PyData → Prop) (h : sp37 ds Kp) : vsL Γ b37 (start 8 (ds ++ [])) (fun _ => Kp .none) Kp := by
  obtain ⟨neg, m, j, p, r, rfl, hmp, hbits, hk⟩ := h
  by_cases hm : m = 0
  · subst hm
    rw [Nat.zero_mul, sgn_zero, rd_zero, fr_z] at hk
    simpa [b37, start, vsL, vs, vc, varD, truthD] using hk
  have hp : 1 ≤ p := by omega
  have hmul : sgn neg (m * 2 ^ j) = sgn neg m * 2 ^ j := by rw [cast_pow2, sgn_mul]
  rw [hmul, rd_mul] at hk
  change vs _ _ _ (fun ρ => vs _ _ ρ (fun ρ => vs _ _ ρ (fun ρ => vsL Γ t37 ρ (fun _ => Kp .none) Kp) Kp) Kp) Kp
  generalize hT : (fun ρ => vsL Γ t37 ρ (fun _ => Kp .none) Kp) = Tl
  have T' : ∀ (m j bc : Nat) (x6 x7), m ≠ 0 → (od m = 1 ∨ bl m = bc) → Kp (fr (sgn neg (m * 2 ^ j))) → Tl [some (sgd neg), some (.int m), some (.int ((j : Int) - 64)), some (.int bc), some (.int p), some (.str r.s), x6, x7] := by
    intro m j bc x6 x7 a b c
    rw [← hT]; exact tail37 h21 a b c
  by_cases hn : bl m ≤ p
  · rw [rd_fits (by rw [sgn_natAbs]; exact hn), cast_pow2, sgn_mul] at hk
    have h0 : ¬ ((p : Int) < (bl m : Int)) := by omega
    have h0n : ¬ (p < bl m) := by omega
    simp [start, vsL, vs, vc, varD, truthD, binD, cmpD, hm, h0, h0n]
    exact T' _ _ _ _ _ hm (.inr rfl) hk
  · obtain ⟨k, hk2⟩ : ∃ k, bl m = p + (k + 1) := ⟨bl m - p - 1, by omega⟩
    rw [rd_sgn (by omega), show bl m - p = k + 1 by omega] at hk
    have hpos : (0 : Int) < (k : Int) + 1 := by omega
    have e9 : (p : Int) + (k + 1) - p = k + 1 := by omega
    have hneg : ∀ i : Nat, 0 ≤ (i : Int) := fun i => Int.natCast_nonneg i
    have hup : ∀ u : Nat, u = upq r neg m (2 ^ (k + 1)) → u ≠ 0 ∧ (od u = 1 ∨ bl u = p) := by
      rintro u rfl
      have h1 := bl_ge hm
      have h2 := bl_lt m
      rw [hk2] at h1 h2
      have hp2 : 2 ^ (p + (k + 1)) = 2 ^ p * 2 ^ (k + 1) := Nat.pow_add ..
      have hp1 : 2 ^ (p + (k + 1) - 1) = 2 ^ (p - 1) * 2 ^ (k + 1) := by rw [← Nat.pow_add]; congr 1; omega
      have hB : 0 < 2 ^ (k + 1) := Nat.two_pow_pos _
      have h3 : m / 2 ^ (k + 1) < 2 ^ p := by rw [Nat.div_lt_iff_lt_mul hB, ← hp2]; exact h2
      have h4 : 2 ^ (p - 1) ≤ m / 2 ^ (k + 1) := by rw [Nat.le_div_iff_mul_le hB, ← hp1]; exact h1
      have h5 := Nat.two_pow_pos (p - 1)
      have h6 : m / 2 ^ (k + 1) ≤ upq r neg m (2 ^ (k + 1)) ∧ upq r neg m (2 ^ (k + 1)) ≤ m / 2 ^ (k + 1) + 1 := by unfold upq; split <;> omega
      refine ⟨by omega, ?_⟩
      by_cases q : upq r neg m (2 ^ (k + 1)) = 2 ^ p
      · left; rw [q]; exact (od_of (m := 1) (t := p) rfl (by simp)).1
      · right
        have := bl_eq (a := upq r neg m (2 ^ (k + 1))) (k := p - 1) (by omega) (by rw [show p - 1 + 1 = p by omega]; omega)
        omega
    have fin : ∀ (u : Nat) x7, u = upq r neg m (2 ^ (k + 1)) → Tl [some (sgd neg), some (.int u), some (.int ((j : Int) - 64 + (k + 1))), some (.int p), some (.int p), some (.str r.s), some (.int (k + 1)), x7] := by
      intro u x7 hu
      obtain ⟨a, b⟩ := hup u hu
      have := T' u (k + 1 + j) p (some (.int (k + 1))) x7 a b (by
        rw [hu, Nat.pow_add 2 (k + 1) j, ← Nat.mul_assoc, ← sgn_mul, ← cast_pow2]; exact hk)
      rw [show ((j : Int) - 64 + (k + 1)) = ((k + 1 + j : Nat) : Int) - 64 by omega]; exact this
    have hb1 : Builtin.Int.intBits 1 = 1 := rfl
    have hkb : (1 : Int) + (k : Int) ≤ 134217728 := by omega
    simp [start, vsL, vs, vc, varD, truthD, binD, cmpD, hm, hk2, e9, hpos]
    have hnr : r ≠ .n → ∀ v : Int, v = (if up r neg 0 0 1 = true then -((-(m : Int)).fdiv (2 ^ (k + 1))) else (m : Int).fdiv (2 ^ (k + 1))) → Tl [some (sgd neg), some (.int v), some (.int ((j : Int) - 64 + (k + 1))), some (.int p), some (.int p), some (.str r.s), some (.int (k + 1)), none] := by
      intro hr v hv
      have : v = ((upq r neg m (2 ^ (k + 1)) : Nat) : Int) := by
        rw [hv, upq_two (by cases r <;> simp_all [Md.s]), fdivNeg, fdivN]
        split <;> rfl
      rw [this]
      exact fin _ _ rfl
    cases r with
    | n =>
      have hu := upq_near (neg := neg) (m := m) (k := k)
      obtain ⟨t, ht⟩ : ∃ t, t = m / 2 ^ k := ⟨_, rfl⟩
      obtain ⟨c, hc⟩ : ∃ c, c = m % 2 ^ k := ⟨_, rfl⟩
      obtain ⟨t2, ht2⟩ : ∃ c, c = t / 2 := ⟨_, rfl⟩
      obtain ⟨b1, hb1'⟩ : ∃ c, c = t % 2 := ⟨_, rfl⟩
      obtain ⟨b2, hb2⟩ : ∃ c, c = t2 % 2 := ⟨_, rfl⟩
      have hfd : (m : Int).fdiv (2 ^ k) = (t : Int) := by rw [ht]; exact fdivN m k
      have hmask : Builtin.bitAnd (m : Int) (2 ^ k - 1) = (c : Int) := by rw [hc]; exact band_mask m k
      have hf2 : (t : Int).fdiv 2 = (t2 : Int) := by have := fdivN t 1; rw [ht2]; simpa using this
      have ho : Builtin.bitAnd (t : Int) 1 = (b1 : Int) := by rw [hb1']; exact band_one t
      have htw : Builtin.bitAnd (t : Int) 2 = ((2 * b2 : Nat) : Int) := by rw [hb2, ht2]; exact band_two t
      rw [← ht, ← hc, ← ht2, ← hb1', ← hb2] at hu
      simp [Md.s, PyData.eqv, SeqAt.shaped, PyData.canLay0, PyData.depth, hb1, hkb, augD, binD, hfd, hmask, hf2, ho, htw]
      have h2 : b1 < 2 ∧ b2 < 2 := by omega
      have F0 : upq .n neg m (2 ^ (k + 1)) = t2 → Tl [some (sgd neg), some (.int t2), some (.int ((j : Int) - 64 + (k + 1))), some (.int p), some (.int p), some (.str (Str.ofString "n")), some (.int (k + 1)), some (.int t)] := fun e => fin t2 _ e.symm
      have F1 : upq .n neg m (2 ^ (k + 1)) = t2 + 1 → Tl [some (sgd neg), some (.int (t2 + 1)), some (.int ((j : Int) - 64 + (k + 1))), some (.int p), some (.int p), some (.str (Str.ofString "n")), some (.int (k + 1)), some (.int t)] := fun e => fin (t2 + 1) _ e.symm
      split
      · exact F0 (by rw [hu, if_neg (by omega)])
      · split
        · split
          · exact F0 (by rw [hu, if_neg (by omega)])
          · exact F1 (by rw [hu, if_pos (by omega)])
        · exact F1 (by rw [hu, if_pos (by omega)])
    | f =>
      have := hnr (by simp)
      cases neg
      · simp [Md.s, PyData.eqv, SeqAt.shaped, PyData.canLay0, PyData.depth, sdD, pickD, sgd, augD, binD, truthD]
        refine ⟨by omega, this _ ?_⟩
        simp [up]
      · simp [Md.s, PyData.eqv, SeqAt.shaped, PyData.canLay0, PyData.depth, sdD, pickD, sgd, augD, binD, truthD, negD]
        refine ⟨by omega, this _ ?_⟩
        simp [up]
    | c =>
      have := hnr (by simp)
      cases neg
      · simp [Md.s, PyData.eqv, SeqAt.shaped, PyData.canLay0, PyData.depth, sdD, pickD, sgd, augD, binD, truthD, negD]
        refine ⟨by omega, this _ ?_⟩
        simp [up]
      · simp [Md.s, PyData.eqv, SeqAt.shaped, PyData.canLay0, PyData.depth, sdD, pickD, sgd, augD, binD, truthD, negD]
        refine ⟨by omega, this _ ?_⟩
        simp [up]
    | u =>
      have := hnr (by simp)
      cases neg
      · simp [Md.s, PyData.eqv, SeqAt.shaped, PyData.canLay0, PyData.depth, sdD, pickD, sgd, augD, binD, truthD, negD]
        refine ⟨by omega, this _ ?_⟩
        simp [up]
      · simp [Md.s, PyData.eqv, SeqAt.shaped, PyData.canLay0, PyData.depth, sdD, pickD, sgd, augD, binD, truthD, negD]
        refine ⟨by omega, this _ ?_⟩
        simp [up]
end Mine

end
section
open PySem PySem.W PySem.Calls PyProof.Rows
namespace Mine

def Sm (x : Int) : Prop := bl x.natAbs ≤ 1000

theorem fr_cases (x : Int) : (x = 0 ∧ fr x = .tuple [.int 0, .int 0, .int 0, .int 0]) ∨ ∃ neg m i, m % 2 = 1 ∧ x = sgn neg (m * 2 ^ i) ∧ fr x = .tuple [sgd neg, .int (m : Nat), .int ((i : Nat) - 64 : Int), .int (bl m)] := by
  by_cases h : x = 0
  · subst h; exact .inl ⟨rfl, fr_z⟩
  · right
    have h1 : x = sgn (decide (x < 0)) (od x.natAbs * 2 ^ tz x.natAbs) := by rw [← od_tz, sgn_self]
    have h2 : od x.natAbs % 2 = 1 := od_odd (by omega)
    refine ⟨decide (x < 0), od x.natAbs, tz x.natAbs, h2, h1, ?_⟩
    exact (fr_of h2 h1 rfl).symm

theorem sm_sgn {neg : Bool} {m i : Nat} (hm : m ≠ 0) (h : Sm (sgn neg (m * 2 ^ i))) : bl m + i ≤ 1000 := by
  unfold Sm at h; rw [sgn_natAbs, bl_mul _ hm] at h; exact h

theorem shp_int (i : Int) : SeqAt.shaped (.int i) = true := rfl
theorem shp_sgd (b : Bool) : SeqAt.shaped (sgd b) = true := rfl
theorem shp_fr (x : Int) : SeqAt.shaped (fr x) = true := by
  unfold fr q4 SeqAt.shaped; rfl
theorem shp_q4 (a b c d : Int) : SeqAt.shaped (.tuple [.int a, .int b, .int c, .int d]) = true := rfl
theorem eqv_q4 (a b c d a' b' c' d' : Int) : PyData.eqv (.tuple [.int a, .int b, .int c, .int d]) (.tuple [.int a', .int b', .int c', .int d']) = (decide (a = a') && (decide (b = b') && (decide (c = c') && decide (d = d')))) := by
  simp [PyData.eqv, PyData.eqvAll]
  rfl

theorem v44 {Γ : Nat → Sp} (h37 : ∀ ds K, sp37 ds K → Γ 37 ds K) (ds : List PyData) (Kp : PyData → Prop) (h : sp37 ds Kp) : vsL Γ b44 (start 6 (ds ++ [])) (fun _ => Kp .none) Kp := by
  obtain ⟨neg, m, j, p, r, rfl, hmp, hbits, hk⟩ := h
  simp [b44, start, vsL, vs, vc, vcL, varD, truthD, cmpD, bitlenD, intBits_nat, shp_int, PyData.eqv]
  exact h37 _ _ ⟨neg, m, j, p, r, rfl, hmp, hbits, hk⟩

/-- a call of normalize -/
theorem call44 {Γ : Nat → Sp} (h44 : ∀ ds K, sp37 ds K → Γ 44 ds K) {neg : Bool} {M e B p' : Int} {j p : Nat} {r : Md} {K : PyData → Prop} (hM : 0 ≤ M) (he : e = (j : Int) - 64) (hB : B = Builtin.Int.intBits M) (hb : Builtin.Int.intBits M ≤ 100000)
    (hp : (p ≠ 0 ∧ p' = p) ∨ (p = 0 ∧ p' = Builtin.Int.intBits M)) (hk : K (fr (rd p r ((if neg = true then -M else M) * 2 ^ j)))) : Γ 44 [sgd neg, .int M, .int e, .int B, .int p', .str r.s] K := by
  obtain ⟨m, rfl⟩ : ∃ m : Nat, M = m := ⟨M.toNat, by omega⟩
  have e1 : (if neg = true then -(m : Int) else m) * 2 ^ j = sgn neg (m * 2 ^ j) := by
    rw [cast_pow2, ← sgn_mul]; rfl
  rw [e1] at hk
  rw [intBits_nat] at hB hb hp
  subst hB he
  rcases hp with ⟨a, rfl⟩ | ⟨a, rfl⟩
  · exact h44 _ _ ⟨neg, m, j, p, r, rfl, .inr (by omega), hb, hk⟩
  · refine h44 _ _ ⟨neg, m, j, bl m, r, rfl, ?_, hb, ?_⟩
    · by_cases q : m = 0
      · exact .inl q
      · exact .inr (bl_pos q)
    · subst a
      rw [rd_none] at hk
      rw [← sgn_mul, ← cast_pow2, rd_mul, rd_fits (by rw [sgn_natAbs]; exact Nat.le_refl _), cast_pow2, sgn_mul]
      exact hk

def sp109 : Sp := fun ds Kp => ∃ x, ds = [fr x] ∧ Kp (.int x.sign)
theorem v109 {Γ : Nat → Sp} (ds : List PyData) (Kp : PyData → Prop) (h : sp109 ds Kp) : vsL Γ b109 (start 5 (ds ++ [])) (fun _ => Kp .none) Kp := by
  obtain ⟨x, rfl, hk⟩ := h
  rcases fr_cases x with ⟨rfl, e⟩ | ⟨neg, m, i, hm, rfl, e⟩
  · rw [e]
    simp [b109, start, vsL, vs, vc, vcL, setAll, varD, truthD, cmpD, shp_q4, eqv_q4]
    exact hk
  · have hm0 : m ≠ 0 := by omega
    have h0 : m * 2 ^ i ≠ 0 := fun h => (Nat.mul_eq_zero.mp h).elim hm0 (Nat.ne_of_gt (Nat.two_pow_pos _))
    rw [e]
    cases neg
    · have : (sgn false (m * 2 ^ i)).sign = 1 := by
        generalize m * 2 ^ i = a at *; rw [Int.sign_eq_one_iff_pos]; simp only [sgn]; simp; omega
      rw [this] at hk
      simp [b109, start, vsL, vs, vc, vcL, setAll, varD, truthD, cmpD, shp_q4, eqv_q4, hm0, binD, sgd, negD]
      exact hk
    · have : (sgn true (m * 2 ^ i)).sign = -1 := by
        generalize m * 2 ^ i = a at *; rw [Int.sign_eq_neg_one_iff_neg]; simp only [sgn]; simp; omega
      rw [this] at hk
      simp [b109, start, vsL, vs, vc, vcL, setAll, varD, truthD, cmpD, shp_q4, eqv_q4, hm0, binD, sgd, negD]
      exact ⟨by decide, hk⟩

theorem sgn_flip (neg : Bool) (a : Nat) : sgn (!neg) a = -sgn neg a := by unfold sgn; cases neg <;> simp

/-- the names of the modes, or none is read -/
def sp102 : Sp := fun ds Kp => ∃ x, Sm x ∧ ((ds = [fr x] ∧ Kp (fr (-x))) ∨ ∃ (p : Nat) (r : Md), ds = [fr x, .int p, .str r.s] ∧ Kp (fr (rd p r (-x))))
theorem v102 {Γ : Nat → Sp} (h44 : ∀ ds K, sp37 ds K → Γ 44 ds K) {x : Int} {p : Nat} {R : Str} (hx : Sm x) (Kp : PyData → Prop) (h : (p = 0 ∧ Kp (fr (-x))) ∨ ∃ r : Md, R = r.s ∧ Kp (fr (rd p r (-x)))) : vsL Γ b102 (start 7 [fr x, .int p, .str R]) (fun _ => Kp .none) Kp := by
  rcases fr_cases x with ⟨rfl, e⟩ | ⟨neg, m, i, hm, rfl, e⟩
  · rw [e]
    have : Kp (.tuple [.int 0, .int 0, .int 0, .int 0]) := by
      rcases h with ⟨_, h⟩ | ⟨r, _, h⟩
      · exact fr_z ▸ h
      · rw [Int.neg_zero, rd_zero] at h; exact fr_z ▸ h
    simp [b102, start, vsL, vs, vc, vcL, setAll, varD, truthD, cmpD, shp_q4, eqv_q4]
    exact this
  · have hm0 : m ≠ 0 := by omega
    have hs : ∀ neg : Bool, PyData.int (1 - (if neg = true then 1 else 0)) = sgd (!neg) := by intro neg; cases neg <;> rfl
    have hmi := sm_sgn hm0 hx
    rw [e]
    by_cases hp : p = 0
    · have hk : Kp (fr (-sgn neg (m * 2 ^ i))) := by
        rcases h with ⟨_, h⟩ | ⟨r, _, h⟩
        · exact h
        · rw [hp, rd_none] at h; exact h
      rw [← sgn_flip, ← fr_of (neg := !neg) hm rfl rfl] at hk
      simp [b102, start, vsL, vs, vc, vcL, setAll, varD, truthD, cmpD, shp_q4, eqv_q4, hm0, hp, binD, sgd]
      cases neg <;> exact hk
    · obtain ⟨r, rfl, hk⟩ : ∃ r : Md, R = r.s ∧ Kp (fr (rd p r (-sgn neg (m * 2 ^ i)))) := by
        rcases h with ⟨h, _⟩ | h
        · exact absurd h hp
        · exact h
      simp [b102, start, vsL, vs, vc, vcL, setAll, varD, truthD, cmpD, shp_q4, eqv_q4, hm0, hp, binD, sgd]
      rw [hs]
      refine call44 h44 (neg := !neg) (Int.natCast_nonneg _) rfl (by rw [intBits_nat]) (by rw [intBits_nat]; omega) (.inl ⟨hp, rfl⟩) ?_
      have : (if (!neg) = true then -(m : Int) else m) * 2 ^ i = -sgn neg (m * 2 ^ i) := by
        rw [← sgn_flip, ← sgn_mul, cast_pow2]; rfl
      rw [this]; exact hk

def sp94 : Sp := fun ds Kp => ∃ (x : Int) (p : Nat) (r : Md), Sm x ∧ ds = [fr x, .int p, .str r.s] ∧ Kp (fr (rd p r x))
theorem v94 {Γ : Nat → Sp} (h44 : ∀ ds K, sp37 ds K → Γ 44 ds K) (ds : List PyData) (Kp : PyData → Prop) (h : sp94 ds Kp) : vsL Γ b94 (start 7 (ds ++ [])) (fun _ => Kp .none) Kp := by
  obtain ⟨x, p, r, hx, rfl, hk⟩ := h
  by_cases hp : p = 0
  · subst hp
    rw [rd_none] at hk
    simpa [b94, start, vsL, vs, vc, vcL, setAll, varD, truthD] using hk
  · rcases fr_cases x with ⟨rfl, e⟩ | ⟨neg, m, i, hm, rfl, e⟩
    · rw [e]
      simp [b94, start, vsL, vs, vc, vcL, setAll, varD, truthD, hp]
      have h2 := call44 h44 (neg := false) (M := 0) (e := 0) (B := 0) (p' := p) (j := 64) (p := p) (r := r) (K := Kp) (by omega) rfl rfl (by decide) (.inl ⟨hp, rfl⟩)
      exact h2 (by simpa using hk)
    · have hm0 : m ≠ 0 := by omega
      have hmi := sm_sgn hm0 hx
      rw [e]
      simp [b94, start, vsL, vs, vc, vcL, setAll, varD, truthD, hp, hm0]
      refine call44 h44 (Int.natCast_nonneg _) rfl (by rw [intBits_nat]) (by rw [intBits_nat]; omega) (.inl ⟨hp, rfl⟩) ?_
      have : (if neg = true then -(m : Int) else m) * 2 ^ i = sgn neg (m * 2 ^ i) := by rw [← sgn_mul, cast_pow2]; rfl
      rw [this]; exact hk

def sp140 : Sp := fun ds Kp => ∃ (x : Int), ds = [fr (x * 2), .int (-1)] ∧ Kp (fr x)
theorem v140 {Γ : Nat → Sp} (ds : List PyData) (Kp : PyData → Prop) (h : sp140 ds Kp) : vsL Γ b140 (start 6 (ds ++ [])) (fun _ => Kp .none) Kp := by
  obtain ⟨x, rfl, hk⟩ := h
  rcases fr_cases x with ⟨rfl, e⟩ | ⟨neg, m, i, hm, rfl, e⟩
  · rw [e] at hk
    rw [Int.zero_mul, e]
    simpa [b140, start, vsL, vs, vc, vcL, setAll, varD, truthD] using hk
  · have hm0 : m ≠ 0 := by omega
    have e2 : fr (sgn neg (m * 2 ^ i) * 2) = .tuple [sgd neg, .int (m : Nat), .int (((i + 1 : Nat) : Int) - 64 : Int), .int (bl m)] :=
      (fr_of (neg := neg) (i := i + 1) hm (by rw [show (2 : Int) = ((2 : Nat) : Int) from rfl, sgn_mul, Nat.mul_assoc, Nat.pow_succ]) rfl).symm
    rw [e2]
    rw [e] at hk
    simp [b140, start, vsL, vs, vc, vcL, setAll, varD, truthD, hm0, binD]
    rw [show (i : Int) + 1 - 64 + -1 = i - 64 by omega]
    exact hk
end Mine

end
section
open PySem PySem.W PySem.Calls PyProof.Rows
namespace Mine
section
/-- keeps simp out of a continuation -/
inductive Dm {α : Type} (K : α → Prop) : Type where
  | mk (n : Nat)
variable {Γ : Nat → Sp} {ρ ρ' : En} {K : PyData → Prop} {T : Bool → Prop} {N : En → Prop} {R : PyData → Prop}
def E1 (Γ : Nat → Sp) (x : X) (ρ : En) (K : PyData → Prop) (_ : Dm K) : Prop := (vc Γ x ρ).1 K
def E2 (Γ : Nat → Sp) (x : X) (ρ : En) (T : Bool → Prop) (_ : Dm T) : Prop := (vc Γ x ρ).2 T
def EL (Γ : Nat → Sp) (l : XL) (ρ : En) (acc : List PyData) (K : List PyData → Prop) (_ : Dm K) : Prop := vcL Γ l ρ acc K
def SX (Γ : Nat → Sp) (s : S) (ρ : En) (N : En → Prop) (R : PyData → Prop) (_ : Dm N) : Prop := vs Γ s ρ N R
def SE (Γ : Nat → Sp) (s : SL) (ρ : En) (N : En → Prop) (R : PyData → Prop) (_ : Dm N) : Prop := vsL Γ s ρ N R
def Cal (Γ : Nat → Sp) (f : Nat) (ds : List PyData) (K : PyData → Prop) (_ : Dm K) : Prop := Γ f ds K
def unpD (l : List Nat) (ρ : En) (d : PyData) (K : En → Prop) : Prop := match d with
  | .tuple ds => ds.length = l.length ∧ K (setAll l ds ρ)
  | _ => False
def unpW (l : List Nat) (ρ : En) (d : PyData) (K : En → Prop) (_ : Dm K) : Prop := unpD l ρ d K
def varW (a : En) (i : Nat) (K : PyData → Prop) (_ : Dm K) : Prop := varD a i K
def binW (o : Operator) (a b : PyData) (K : PyData → Prop) (_ : Dm K) : Prop := binD o a b K
def augW (o : Operator) (a b : PyData) (K : PyData → Prop) (_ : Dm K) : Prop := augD o a b K
def cmpW (o : CmpOp) (a b : PyData) (K : PyData → Prop) (_ : Dm K) : Prop := cmpD o a b K
def idxW (a b : PyData) (K : PyData → Prop) (_ : Dm K) : Prop := idxD a b K
def itemW (l : List PyData) (i : Int) (K : PyData → Prop) (_ : Dm K) : Prop := itemD l i K
def divmodW (a b : PyData) (K : PyData → Prop) (_ : Dm K) : Prop := divmodD a b K
def truthW (a : PyData) (K : Bool → Prop) (_ : Dm K) : Prop := truthD a K
def negW (a : PyData) (K : PyData → Prop) (_ : Dm K) : Prop := negD a K
def tailW (a : PyData) (K : PyData → Prop) (_ : Dm K) : Prop := tailD a K
def bitlenW (a : PyData) (K : PyData → Prop) (_ : Dm K) : Prop := bitlenD a K
def lenW (a : PyData) (K : PyData → Prop) (_ : Dm K) : Prop := lenD a K
def absW (a : PyData) (K : PyData → Prop) (_ : Dm K) : Prop := absD a K
def itemsW (a : PyData) (K : List PyData → Prop) (_ : Dm K) : Prop := itemsD a K
def listW (a : PyData) (K : List PyData → Prop) (_ : Dm K) : Prop := listD a K
def mapW (f : PyData → (PyData → Prop) → Prop) (l acc : List PyData) (K : List PyData → Prop) (_ : Dm K) : Prop := mapD f l acc K
def pickW (i j : Int) (a : PyData) (K : PyData → Prop) (_ : Dm K) : Prop := pickD i j a K
def pairW (a : PyData) (K : PyData → PyData → Prop) (_ : Dm fun (p : PyData × PyData) => K p.1 p.2) : Prop := pairD a K
def sdW (a : PyData) (K : Int → Int → Prop) (_ : Dm fun (p : Int × Int) => K p.1 p.2) : Prop := sdD a K
def forT (Γ : Nat → Sp) (i : Nat) (b : SL) (ρ : En) (N : En → Prop) (R : PyData → Prop) (d : PyData) : Prop := match d with
  | .list ds => ds.length ≤ 1000 ∧ forD (fun d ρ' K' => SE Γ b (ρ'.set i (some d)) K' R (.mk 0)) ds ρ N
  | _ => False
def forW (Γ : Nat → Sp) (i : Nat) (b : SL) (ρ : En) (d : PyData) (N : En → Prop) (R : PyData → Prop) (_ : Dm N) : Prop := forT Γ i b ρ N R d
variable {x a b c : X} {l : XL} {d : PyData} {i j : Nat} {op p q : CmpOp} {o : Operator}
@[simp ↓] theorem E1_lit {dm : Dm K} : E1 Γ (.lit d) ρ K dm = K d := id rfl
@[simp ↓] theorem E1_var {dm : Dm K} : E1 Γ (.var i) ρ K dm = varW ρ i K (.mk 0) := id rfl
@[simp ↓] theorem E1_bin {dm : Dm K} : E1 Γ (.bin o a b) ρ K dm = E1 Γ a ρ (fun x => E1 Γ b ρ (fun y => binW o x y K (.mk 0)) (.mk 0)) (.mk 0) := id rfl
@[simp ↓] theorem E1_neg {dm : Dm K} : E1 Γ (.neg a) ρ K dm = E1 Γ a ρ (fun x => negW x K (.mk 0)) (.mk 0) := id rfl
@[simp ↓] theorem E1_not {dm : Dm K} : E1 Γ (.not a) ρ K dm = E1 Γ a ρ (fun x => truthW x (fun t => K (.bool (!t))) (.mk 0)) (.mk 0) := id rfl
@[simp ↓] theorem E1_cmp {dm : Dm K} : E1 Γ (.cmp op a b) ρ K dm = E1 Γ a ρ (fun x => E1 Γ b ρ (fun y => cmpW op x y K (.mk 0)) (.mk 0)) (.mk 0) := id rfl
@[simp ↓] theorem E1_cmp2 {dm : Dm K} : E1 Γ (.cmp2 p q a b c) ρ K dm = E1 Γ a ρ (fun x => E1 Γ b ρ (fun y => cmpW p x y (fun r => truthW r (fun t => if t = true then E1 Γ c ρ (fun z => cmpW q y z K (.mk 0)) (.mk 0) else K r) (.mk 0)) (.mk 0)) (.mk 0)) (.mk 0) := id rfl
@[simp ↓] theorem E1_and {dm : Dm K} : E1 Γ (.and a b) ρ K dm = E1 Γ a ρ (fun x => truthW x (fun t => if t = true then E1 Γ b ρ K (.mk 0) else K x) (.mk 0)) (.mk 0) := id rfl
@[simp ↓] theorem E1_or {dm : Dm K} : E1 Γ (.or a b) ρ K dm = E1 Γ a ρ (fun x => truthW x (fun t => if t = true then K x else E1 Γ b ρ K (.mk 0)) (.mk 0)) (.mk 0) := id rfl
@[simp ↓] theorem E1_ite {dm : Dm K} : E1 Γ (.ite c a b) ρ K dm = E2 Γ c ρ (fun t => if t = true then E1 Γ a ρ K (.mk 0) else E1 Γ b ρ K (.mk 0)) (.mk 0) := id rfl
@[simp ↓] theorem E1_tup {dm : Dm K} : E1 Γ (.tup l) ρ K dm = EL Γ l ρ [] (fun ds => ds.length ≤ 1000 ∧ K (.tuple ds)) (.mk 0) := id rfl
@[simp ↓] theorem E1_lst {dm : Dm K} : E1 Γ (.lst l) ρ K dm = EL Γ l ρ [] (fun ds => ds.length ≤ 1000 ∧ K (.list ds)) (.mk 0) := id rfl
@[simp ↓] theorem E1_idx {dm : Dm K} : E1 Γ (.idx a b) ρ K dm = E1 Γ a ρ (fun x => E1 Γ b ρ (fun y => idxW x y K (.mk 0)) (.mk 0)) (.mk 0) := id rfl
@[simp ↓] theorem E1_sd {dm : Dm K} : E1 Γ (.sd a b) ρ K dm = E1 Γ a ρ (fun x => sdW x (fun i j => E1 Γ b ρ (fun y => pickW i j y K (.mk 0)) (.mk 0)) (.mk 0)) (.mk 0) := id rfl
@[simp ↓] theorem E1_tail {dm : Dm K} : E1 Γ (.tail a) ρ K dm = E1 Γ a ρ (fun x => tailW x K (.mk 0)) (.mk 0) := id rfl
@[simp ↓] theorem E1_call {dm : Dm K} : E1 Γ (.call i l) ρ K dm = EL Γ l ρ [] (fun ds => Cal Γ i ds K (.mk 0)) (.mk 0) := id rfl
@[simp ↓] theorem E1_bitlen {dm : Dm K} : E1 Γ (.bitlen a) ρ K dm = E1 Γ a ρ (fun x => bitlenW x K (.mk 0)) (.mk 0) := id rfl
@[simp ↓] theorem E1_len {dm : Dm K} : E1 Γ (.len a) ρ K dm = E1 Γ a ρ (fun x => lenW x K (.mk 0)) (.mk 0) := id rfl
@[simp ↓] theorem E1_abs {dm : Dm K} : E1 Γ (.abs a) ρ K dm = E1 Γ a ρ (fun x => absW x K (.mk 0)) (.mk 0) := id rfl
@[simp ↓] theorem E1_divmod {dm : Dm K} : E1 Γ (.divmod a b) ρ K dm = E1 Γ a ρ (fun x => E1 Γ b ρ (fun y => divmodW x y K (.mk 0)) (.mk 0)) (.mk 0) := id rfl
@[simp ↓] theorem E1_comp1 {dm : Dm K} : E1 Γ (.comp1 a b) ρ K dm = E1 Γ b ρ (fun x => itemsW x (fun l => mapW (fun d K' => E1 Γ a [some d] K' (.mk 0)) l [] (fun r => K (.list r)) (.mk 0)) (.mk 0)) (.mk 0) := id rfl
@[simp ↓] theorem E1_comp2 {dm : Dm K} : E1 Γ (.comp2 a b) ρ K dm = E1 Γ b ρ (fun x => listW x (fun l => mapW (fun d K' => pairW d (fun u v => E1 Γ a [some u, some v] K' (.mk 0)) (.mk 0)) l [] (fun r => K (.list r)) (.mk 0)) (.mk 0)) (.mk 0) := id rfl
@[simp ↓] theorem EL_nil {acc : List PyData} {K : List PyData → Prop} {dm : Dm K} : EL Γ .nil ρ acc K dm = K acc := id rfl
@[simp ↓] theorem EL_cons {acc : List PyData} {K : List PyData → Prop} {dm : Dm K} : EL Γ (.cons x l) ρ acc K dm = E1 Γ x ρ (fun d => EL Γ l ρ (acc ++ [d]) K (.mk 0)) (.mk 0) := id rfl
@[simp ↓] theorem E2_lit {dm : Dm T} : E2 Γ (.lit d) ρ T dm = truthW d T (.mk 0) := id rfl
@[simp ↓] theorem E2_var {dm : Dm T} : E2 Γ (.var i) ρ T dm = varW ρ i (fun d => truthW d T (.mk 0)) (.mk 0) := id rfl
@[simp ↓] theorem E2_bin {dm : Dm T} : E2 Γ (.bin o a b) ρ T dm = E1 Γ (.bin o a b) ρ (fun d => truthW d T (.mk 0)) (.mk 0) := id rfl
@[simp ↓] theorem E2_neg {dm : Dm T} : E2 Γ (.neg a) ρ T dm = E1 Γ (.neg a) ρ (fun d => truthW d T (.mk 0)) (.mk 0) := id rfl
@[simp ↓] theorem E2_cmp {dm : Dm T} : E2 Γ (.cmp op a b) ρ T dm = E1 Γ (.cmp op a b) ρ (fun d => truthW d T (.mk 0)) (.mk 0) := id rfl
@[simp ↓] theorem E2_cmp2 {dm : Dm T} : E2 Γ (.cmp2 p q a b c) ρ T dm = E1 Γ (.cmp2 p q a b c) ρ (fun d => truthW d T (.mk 0)) (.mk 0) := id rfl
@[simp ↓] theorem E2_sd {dm : Dm T} : E2 Γ (.sd a b) ρ T dm = E1 Γ (.sd a b) ρ (fun d => truthW d T (.mk 0)) (.mk 0) := id rfl
@[simp ↓] theorem E2_idx {dm : Dm T} : E2 Γ (.idx a b) ρ T dm = E1 Γ (.idx a b) ρ (fun d => truthW d T (.mk 0)) (.mk 0) := id rfl
@[simp ↓] theorem E2_call {dm : Dm T} : E2 Γ (.call i l) ρ T dm = E1 Γ (.call i l) ρ (fun d => truthW d T (.mk 0)) (.mk 0) := id rfl
@[simp ↓] theorem E2_not {dm : Dm T} : E2 Γ (.not a) ρ T dm = E2 Γ a ρ (fun t => T (!t)) (.mk 0) := id rfl
@[simp ↓] theorem E2_and {dm : Dm T} : E2 Γ (.and a b) ρ T dm = E2 Γ a ρ (fun t => if t = true then E2 Γ b ρ T (.mk 0) else T false) (.mk 0) := id rfl
@[simp ↓] theorem E2_or {dm : Dm T} : E2 Γ (.or a b) ρ T dm = E2 Γ a ρ (fun t => if t = true then T true else E2 Γ b ρ T (.mk 0)) (.mk 0) := id rfl
variable {s : S} {r u v : SL}
@[simp ↓] theorem SX_asg {dm : Dm N} : SX Γ (.asg i x) ρ N R dm = E1 Γ x ρ (fun d => N (ρ.set i (some d))) (.mk 0) := id rfl
@[simp ↓] theorem SX_asg2 {dm : Dm N} : SX Γ (.asg2 i j x) ρ N R dm = E1 Γ x ρ (fun d => N ((ρ.set i (some d)).set j (some d))) (.mk 0) := id rfl
@[simp ↓] theorem SX_unp {l : List Nat} {dm : Dm N} : SX Γ (.unp l x) ρ N R dm = E1 Γ x ρ (fun d => unpW l ρ d N (.mk 0)) (.mk 0) := id rfl
@[simp ↓] theorem SX_aug {dm : Dm N} : SX Γ (.aug i o x) ρ N R dm = varW ρ i (fun d => E1 Γ x ρ (fun e => augW o d e (fun r => N (ρ.set i (some r))) (.mk 0)) (.mk 0)) (.mk 0) := id rfl
@[simp ↓] theorem SX_ifs {dm : Dm N} : SX Γ (.ifs c u v) ρ N R dm = E2 Γ c ρ (fun t => if t = true then SE Γ u ρ N R (.mk 0) else SE Γ v ρ N R (.mk 0)) (.mk 0) := id rfl
@[simp ↓] theorem SX_for1 {dm : Dm N} : SX Γ (.for1 i x u) ρ N R dm = E1 Γ x ρ (fun d => forW Γ i u ρ d N R (.mk 0)) (.mk 0) := id rfl
theorem forW_list {ds : List PyData} {dm : Dm N} : forW Γ i u ρ (.list ds) N R dm = (ds.length ≤ 1000 ∧ forD (fun d ρ' K' => SE Γ u (ρ'.set i (some d)) K' R (.mk 0)) ds ρ N) := rfl
@[simp ↓] theorem SX_ret {dm : Dm N} : SX Γ (.ret x) ρ N R dm = E1 Γ x ρ (R) (.mk 0) := id rfl
@[simp ↓] theorem SX_asrt {dm : Dm N} : SX Γ (.asrt x) ρ N R dm = E2 Γ x ρ (fun t => t = true ∧ N ρ) (.mk 0) := id rfl
@[simp ↓] theorem SE_nil {dm : Dm N} : SE Γ .nil ρ N R dm = N ρ := id rfl
@[simp ↓] theorem SE_cons {dm : Dm N} : SE Γ (.cons s r) ρ N R dm = SX Γ s ρ (fun ρ' => SE Γ r ρ' N R (.mk 0)) R (.mk 0) := id rfl
@[simp ↓] theorem varW_zero {t : En} {dm : Dm K} : varW (some d :: t) 0 K dm = K d := id rfl
@[simp] theorem varW_zero_q {t : En} {dm : Dm K} : varW (some d :: t) 0 K dm = K d := varW_zero
@[simp ↓] theorem varW_succ {h : Option PyData} {t : En} {dm : Dm K} : varW (h :: t) (i + 1) K dm = varW t i K (.mk 0) := id rfl
@[simp] theorem varW_succ_q {h : Option PyData} {t : En} {dm : Dm K} : varW (h :: t) (i + 1) K dm = varW t i K (.mk 0) := varW_succ
@[simp ↓] theorem truthW_int {n : Int} {dm : Dm T} : truthW (.int n) T dm = T (n != 0) := id rfl
@[simp] theorem truthW_int_q {n : Int} {dm : Dm T} : truthW (.int n) T dm = T (n != 0) := truthW_int
@[simp ↓] theorem truthW_bool {n : Bool} {dm : Dm T} : truthW (.bool n) T dm = T n := id rfl
@[simp] theorem truthW_bool_q {n : Bool} {dm : Dm T} : truthW (.bool n) T dm = T n := truthW_bool
@[simp ↓] theorem unpW_tup {l : List Nat} {ds : List PyData} {dm : Dm N} : unpW l ρ (.tuple ds) N dm = (ds.length = l.length ∧ N (setAll l ds ρ)) := id rfl
@[simp] theorem unpW_tup_q {l : List Nat} {ds : List PyData} {dm : Dm N} : unpW l ρ (.tuple ds) N dm = (ds.length = l.length ∧ N (setAll l ds ρ)) := unpW_tup
@[simp ↓] theorem setAll_cons {l : List Nat} {ds : List PyData} : setAll (i :: l) (d :: ds) ρ = setAll l ds (ρ.set i (some d)) := id rfl
@[simp] theorem setAll_cons_q {l : List Nat} {ds : List PyData} : setAll (i :: l) (d :: ds) ρ = setAll l ds (ρ.set i (some d)) := setAll_cons
@[simp ↓] theorem setAll_nil {ds : List PyData} : setAll [] ds ρ = ρ := by cases ds <;> rfl
@[simp] theorem setAll_nil_q {ds : List PyData} : setAll [] ds ρ = ρ := setAll_nil
variable {m n : Int}
@[simp ↓] theorem bin_add {dm : Dm K} : binW .Add (.int m) (.int n) K dm = K (.int (m + n)) := id rfl
@[simp] theorem bin_add_q {dm : Dm K} : binW .Add (.int m) (.int n) K dm = K (.int (m + n)) := bin_add
@[simp ↓] theorem bin_addl {k l : List PyData} {dm : Dm K} : binW .Add (.list k) (.list l) K dm = (k.length + l.length ≤ 1000 ∧ K (.list (k ++ l))) := id rfl
@[simp] theorem bin_addl_q {k l : List PyData} {dm : Dm K} : binW .Add (.list k) (.list l) K dm = (k.length + l.length ≤ 1000 ∧ K (.list (k ++ l))) := bin_addl
@[simp ↓] theorem bin_sub {dm : Dm K} : binW .Sub (.int m) (.int n) K dm = K (.int (m - n)) := id rfl
@[simp] theorem bin_sub_q {dm : Dm K} : binW .Sub (.int m) (.int n) K dm = K (.int (m - n)) := bin_sub
@[simp ↓] theorem bin_mul {dm : Dm K} : binW .Mult (.int m) (.int n) K dm = (IntMulOk m n ∧ K (.int (m * n))) := id rfl
@[simp] theorem bin_mul_q {dm : Dm K} : binW .Mult (.int m) (.int n) K dm = (IntMulOk m n ∧ K (.int (m * n))) := bin_mul
@[simp ↓] theorem bin_fdiv {dm : Dm K} : binW .FloorDiv (.int m) (.int n) K dm = (n ≠ 0 ∧ n.natAbs < 1073741824 ∧ K (.int (m.fdiv n))) := id rfl
@[simp] theorem bin_fdiv_q {dm : Dm K} : binW .FloorDiv (.int m) (.int n) K dm = (n ≠ 0 ∧ n.natAbs < 1073741824 ∧ K (.int (m.fdiv n))) := bin_fdiv
@[simp ↓] theorem bin_mod {dm : Dm K} : binW .Mod (.int m) (.int n) K dm = (n ≠ 0 ∧ K (.int (m.fmod n))) := id rfl
@[simp] theorem bin_mod_q {dm : Dm K} : binW .Mod (.int m) (.int n) K dm = (n ≠ 0 ∧ K (.int (m.fmod n))) := bin_mod
@[simp ↓] theorem bin_pow {dm : Dm K} : binW .Pow (.int m) (.int n) K dm = (0 ≤ n ∧ (Builtin.Int.intBits m : Int) * n ≤ 2 ^ 27 ∧ K (.int (m ^ n.toNat))) := id rfl
@[simp] theorem bin_pow_q {dm : Dm K} : binW .Pow (.int m) (.int n) K dm = (0 ≤ n ∧ (Builtin.Int.intBits m : Int) * n ≤ 2 ^ 27 ∧ K (.int (m ^ n.toNat))) := bin_pow
@[simp ↓] theorem bin_shl {dm : Dm K} : binW .LShift (.int m) (.int n) K dm = (0 ≤ n ∧ (Builtin.Int.intBits m : Int) + n ≤ 2 ^ 27 ∧ K (.int (m * 2 ^ n.toNat))) := id rfl
@[simp] theorem bin_shl_q {dm : Dm K} : binW .LShift (.int m) (.int n) K dm = (0 ≤ n ∧ (Builtin.Int.intBits m : Int) + n ≤ 2 ^ 27 ∧ K (.int (m * 2 ^ n.toNat))) := bin_shl
@[simp ↓] theorem bin_shr {dm : Dm K} : binW .RShift (.int m) (.int n) K dm = (0 ≤ n ∧ K (.int (m.fdiv (2 ^ n.toNat)))) := id rfl
@[simp] theorem bin_shr_q {dm : Dm K} : binW .RShift (.int m) (.int n) K dm = (0 ≤ n ∧ K (.int (m.fdiv (2 ^ n.toNat)))) := bin_shr
@[simp ↓] theorem bin_and {dm : Dm K} : binW .BitAnd (.int m) (.int n) K dm = K (.int (Builtin.bitAnd m n)) := id rfl
@[simp] theorem bin_and_q {dm : Dm K} : binW .BitAnd (.int m) (.int n) K dm = K (.int (Builtin.bitAnd m n)) := bin_and
@[simp ↓] theorem bin_xor {dm : Dm K} : binW .BitXor (.int m) (.int n) K dm = K (.int (Builtin.bitXor m n)) := id rfl
@[simp] theorem bin_xor_q {dm : Dm K} : binW .BitXor (.int m) (.int n) K dm = K (.int (Builtin.bitXor m n)) := bin_xor
@[simp ↓] theorem aug_int {dm : Dm K} : augW o (.int m) (.int n) K dm = binW o (.int m) (.int n) K (.mk 0) := id rfl
@[simp] theorem aug_int_q {dm : Dm K} : augW o (.int m) (.int n) K dm = binW o (.int m) (.int n) K (.mk 0) := aug_int
@[simp ↓] theorem cmp_lt {dm : Dm K} : cmpW .Lt (.int m) (.int n) K dm = K (.bool (decide (m < n))) := id rfl
@[simp] theorem cmp_lt_q {dm : Dm K} : cmpW .Lt (.int m) (.int n) K dm = K (.bool (decide (m < n))) := cmp_lt
@[simp ↓] theorem cmp_le {dm : Dm K} : cmpW .LtE (.int m) (.int n) K dm = K (.bool (decide (m ≤ n))) := id rfl
@[simp] theorem cmp_le_q {dm : Dm K} : cmpW .LtE (.int m) (.int n) K dm = K (.bool (decide (m ≤ n))) := cmp_le
@[simp ↓] theorem cmp_gt {dm : Dm K} : cmpW .Gt (.int m) (.int n) K dm = K (.bool (decide (n < m))) := id rfl
@[simp] theorem cmp_gt_q {dm : Dm K} : cmpW .Gt (.int m) (.int n) K dm = K (.bool (decide (n < m))) := cmp_gt
@[simp ↓] theorem cmp_ge {dm : Dm K} : cmpW .GtE (.int m) (.int n) K dm = K (.bool (decide (n ≤ m))) := id rfl
@[simp] theorem cmp_ge_q {dm : Dm K} : cmpW .GtE (.int m) (.int n) K dm = K (.bool (decide (n ≤ m))) := cmp_ge
@[simp ↓] theorem cmp_eqi {dm : Dm K} : cmpW .Eq (.int m) (.int n) K dm = K (.bool (decide (m = n))) := by simp [cmpW, cmpD, shp_int, PyData.eqv]; rfl
@[simp] theorem cmp_eqi_q {dm : Dm K} : cmpW .Eq (.int m) (.int n) K dm = K (.bool (decide (m = n))) := cmp_eqi
@[simp ↓] theorem cmp_nei {dm : Dm K} : cmpW .NotEq (.int m) (.int n) K dm = K (.bool (!decide (m = n))) := by simp [cmpW, cmpD, shp_int, PyData.eqv]; rfl
@[simp] theorem cmp_nei_q {dm : Dm K} : cmpW .NotEq (.int m) (.int n) K dm = K (.bool (!decide (m = n))) := cmp_nei
@[simp ↓] theorem cmp_eqs {y z : Str} {dm : Dm K} : cmpW .Eq (.str y) (.str z) K dm = (PyData.strOk y = true ∧ PyData.strOk z = true ∧ K (.bool (y == z))) := by simp [cmpW, cmpD, SeqAt.shaped, PyData.canLay0, PyData.depth, PyData.eqv]
@[simp] theorem cmp_eqs_q {y z : Str} {dm : Dm K} : cmpW .Eq (.str y) (.str z) K dm = (PyData.strOk y = true ∧ PyData.strOk z = true ∧ K (.bool (y == z))) := cmp_eqs
@[simp ↓] theorem cmp_eq4 {a b c d a' b' c' d' : Int} {dm : Dm K} : cmpW .Eq (.tuple [.int a, .int b, .int c, .int d]) (.tuple [.int a', .int b', .int c', .int d']) K dm = K (.bool (decide (a = a') && (decide (b = b') && (decide (c = c') && decide (d = d'))))) := by simp [cmpW, cmpD, shp_q4, eqv_q4]
@[simp] theorem cmp_eq4_q {a b c d a' b' c' d' : Int} {dm : Dm K} : cmpW .Eq (.tuple [.int a, .int b, .int c, .int d]) (.tuple [.int a', .int b', .int c', .int d']) K dm = K (.bool (decide (a = a') && (decide (b = b') && (decide (c = c') && decide (d = d'))))) := cmp_eq4
@[simp ↓] theorem neg_iW {dm : Dm K} : negW (.int m) K dm = K (.int (-m)) := id rfl
@[simp] theorem neg_iW_q {dm : Dm K} : negW (.int m) K dm = K (.int (-m)) := neg_iW
@[simp ↓] theorem bitlen_iW {dm : Dm K} : bitlenW (.int m) K dm = K (.int (Builtin.Int.intBits m)) := id rfl
@[simp] theorem bitlen_iW_q {dm : Dm K} : bitlenW (.int m) K dm = K (.int (Builtin.Int.intBits m)) := bitlen_iW
@[simp ↓] theorem abs_iW {dm : Dm K} : absW (.int m) K dm = K (.int (if m < 0 then -m else m)) := id rfl
@[simp] theorem abs_iW_q {dm : Dm K} : absW (.int m) K dm = K (.int (if m < 0 then -m else m)) := abs_iW
@[simp ↓] theorem idx_tup {k : List PyData} {dm : Dm K} : idxW (.tuple k) (.int m) K dm = itemW k m K (.mk 0) := id rfl
@[simp] theorem idx_tup_q {k : List PyData} {dm : Dm K} : idxW (.tuple k) (.int m) K dm = itemW k m K (.mk 0) := idx_tup
@[simp ↓] theorem idx_lst {k : List PyData} {dm : Dm K} : idxW (.list k) (.int m) K dm = itemW k m K (.mk 0) := id rfl
@[simp] theorem idx_lst_q {k : List PyData} {dm : Dm K} : idxW (.list k) (.int m) K dm = itemW k m K (.mk 0) := idx_lst
@[simp ↓] theorem item_0 {k : List PyData} {dm : Dm K} : itemW (d :: k) 0 K dm = K d := by simp [itemW, itemD]
@[simp] theorem item_0_q {k : List PyData} {dm : Dm K} : itemW (d :: k) 0 K dm = K d := item_0
@[simp ↓] theorem item_1 {e : PyData} {k : List PyData} {dm : Dm K} : itemW (e :: d :: k) 1 K dm = K d := by simp [itemW, itemD]
@[simp] theorem item_1_q {e : PyData} {k : List PyData} {dm : Dm K} : itemW (e :: d :: k) 1 K dm = K d := item_1
@[simp ↓] theorem item_2 {e e' : PyData} {k : List PyData} {dm : Dm K} : itemW (e :: e' :: d :: k) 2 K dm = K d := by simp [itemW, itemD]
@[simp] theorem item_2_q {e e' : PyData} {k : List PyData} {dm : Dm K} : itemW (e :: e' :: d :: k) 2 K dm = K d := item_2
@[simp ↓] theorem item_3 {e e' e'' : PyData} {k : List PyData} {dm : Dm K} : itemW (e :: e' :: e'' :: d :: k) 3 K dm = K d := by simp [itemW, itemD]
@[simp] theorem item_3_q {e e' e'' : PyData} {k : List PyData} {dm : Dm K} : itemW (e :: e' :: e'' :: d :: k) 3 K dm = K d := item_3
@[simp ↓] theorem items_tup {k : List PyData} {K : List PyData → Prop} {dm : Dm K} : itemsW (.tuple k) K dm = (k.length ≤ 1000 ∧ K k) := id rfl
@[simp] theorem items_tup_q {k : List PyData} {K : List PyData → Prop} {dm : Dm K} : itemsW (.tuple k) K dm = (k.length ≤ 1000 ∧ K k) := items_tup
@[simp ↓] theorem items_lst {k : List PyData} {K : List PyData → Prop} {dm : Dm K} : itemsW (.list k) K dm = (k.length ≤ 1000 ∧ K k) := id rfl
@[simp] theorem items_lst_q {k : List PyData} {K : List PyData → Prop} {dm : Dm K} : itemsW (.list k) K dm = (k.length ≤ 1000 ∧ K k) := items_lst
@[simp ↓] theorem list_lst {k : List PyData} {K : List PyData → Prop} {dm : Dm K} : listW (.list k) K dm = (k.length ≤ 1000 ∧ K k) := id rfl
@[simp] theorem list_lst_q {k : List PyData} {K : List PyData → Prop} {dm : Dm K} : listW (.list k) K dm = (k.length ≤ 1000 ∧ K k) := list_lst
@[simp ↓] theorem pair_tup {e : PyData} {K : PyData → PyData → Prop} {dm : Dm fun (p : PyData × PyData) => K p.1 p.2} : pairW (.tuple [d, e]) K dm = K d e := id rfl
@[simp] theorem pair_tup_q {e : PyData} {K : PyData → PyData → Prop} {dm : Dm fun (p : PyData × PyData) => K p.1 p.2} : pairW (.tuple [d, e]) K dm = K d e := pair_tup
@[simp ↓] theorem map_nilW {f : PyData → (PyData → Prop) → Prop} {acc : List PyData} {K : List PyData → Prop} {dm : Dm K} : mapW f [] acc K dm = K acc := id rfl
@[simp] theorem map_nilW_q {f : PyData → (PyData → Prop) → Prop} {acc : List PyData} {K : List PyData → Prop} {dm : Dm K} : mapW f [] acc K dm = K acc := map_nilW
@[simp ↓] theorem map_consW {f : PyData → (PyData → Prop) → Prop} {k acc : List PyData} {K : List PyData → Prop} {dm : Dm K} : mapW f (d :: k) acc K dm = f d fun y => mapW f k (acc ++ [y]) K (.mk 0) := id rfl
@[simp] theorem map_consW_q {f : PyData → (PyData → Prop) → Prop} {k acc : List PyData} {K : List PyData → Prop} {dm : Dm K} : mapW f (d :: k) acc K dm = f d fun y => mapW f k (acc ++ [y]) K (.mk 0) := map_consW
@[simp ↓] theorem tail_consW {k : List PyData} {dm : Dm K} : tailW (.list (d :: k)) K dm = (k.length ≤ 1000 ∧ K (.list k)) := id rfl
@[simp] theorem tail_consW_q {k : List PyData} {dm : Dm K} : tailW (.list (d :: k)) K dm = (k.length ≤ 1000 ∧ K (.list k)) := tail_consW
@[simp ↓] theorem len_lst {k : List PyData} {dm : Dm K} : lenW (.list k) K dm = (k.length ≤ 1000 ∧ K (.int k.length)) := id rfl
@[simp] theorem len_lst_q {k : List PyData} {dm : Dm K} : lenW (.list k) K dm = (k.length ≤ 1000 ∧ K (.int k.length)) := len_lst
@[simp ↓] theorem divmod_iW {dm : Dm K} : divmodW (.int m) (.int n) K dm = (n ≠ 0 ∧ Builtin.divisionGoesByPylong m n = false ∧ K (.tuple [.int (m.fdiv n), .int (m.fmod n)])) := id rfl
@[simp] theorem divmod_iW_q {dm : Dm K} : divmodW (.int m) (.int n) K dm = (n ≠ 0 ∧ Builtin.divisionGoesByPylong m n = false ∧ K (.tuple [.int (m.fdiv n), .int (m.fmod n)])) := divmod_iW
end
end Mine

end
section
open PySem PySem.W PySem.Calls PyProof.Rows
set_option maxRecDepth 10000
namespace Mine

theorem xor_sgd (a b : Bool) : Builtin.bitXor (if a = true then 1 else 0) (if b = true then 1 else 0) = if (a ^^ b) = true then 1 else 0 := by cases a <;> cases b <;> decide

/-- two numbers whose sum takes no short cut -/
def Off (x y : Int) : Prop := x = 0 ∨ y = 0 ∨ (tz x.natAbs ≤ tz y.natAbs + 100 ∧ tz y.natAbs ≤ tz x.natAbs + 100) ∨ bl x.natAbs = bl y.natAbs

def sp117 : Sp := fun ds Kp => ∃ (x y : Int) (p : Nat) (r : Md) (sub : Bool), Sm x ∧ Sm y ∧ Off x y ∧ p ≤ 1000 ∧ ds = [fr x, fr y, .int p, .str r.s, sgd sub] ∧ Kp (fr (rd p r (if sub = true then x - y else x + y)))

theorem eqv_sgd (a b : Bool) : PyData.eqv (sgd a) (sgd b) = (a == b) := by cases a <;> cases b <;> rfl

theorem sm_add {x y : Int} (hx : Sm x) (hy : Sm y) : bl (x + y).natAbs ≤ 1001 := by
  unfold Sm at hx hy
  have h1 := bl_le_iff.mp hx
  have h2 := bl_le_iff.mp hy
  refine bl_le ?_
  have : (2 : Nat) ^ 1001 = 2 * 2 ^ 1000 := by rw [Nat.pow_succ]; omega
  rw [this]; generalize 2 ^ 1000 = b at *
  omega

theorem v117 {Γ : Nat → Sp} (h44 : ∀ ds K, sp37 ds K → Γ 44 ds K) (h102 : ∀ ds K, sp102 ds K → Γ 102 ds K) (ds : List PyData) (Kp : PyData → Prop) (h : sp117 ds Kp) : vsL Γ b117 (start 17 (ds ++ [])) (fun _ => Kp .none) Kp := by
  obtain ⟨x, y, p, r, sub, hx, hy, hoff, hp1, rfl, hk⟩ := h
  rcases fr_cases y with ⟨rfl, ey⟩ | ⟨n2, m2, i2, hm2, ey0, ey⟩
  · have hk' : Kp (fr (rd p r x)) := by cases sub <;> simpa using hk
    rcases fr_cases x with ⟨rfl, ex⟩ | ⟨n1, m1, i1, hm1, ex0, ex⟩
    · have hk2 : Kp (fr 0) := by rw [rd_zero] at hk'; exact hk'
      have hk3 := hk2
      rw [fr_z] at hk3
      rw [ey]
      change SE _ _ _ _ _ (.mk 0)
      unfold b117
      cases sub
      · simpa [start, sgd] using hk3
      · simp [start, sgd]
        refine h102 _ _ ⟨0, hy, .inl ⟨by rw [ey], ?_⟩⟩
        simpa using hk2
    · have hm0 : m1 ≠ 0 := by omega
      rw [ex0] at hx
      have hmi := sm_sgn hm0 hx
      have fin : ∀ p' : Int, ((p ≠ 0 ∧ p' = p) ∨ (p = 0 ∧ p' = Builtin.Int.intBits m1)) → Γ 44 [sgd n1, .int (m1 : Int), .int ((i1 : Int) - 64), .int (bl m1), .int p', .str r.s] Kp := by
        intro p' hp'
        refine call44 h44 (j := i1) (Int.natCast_nonneg _) rfl (by rw [intBits_nat]) (by rw [intBits_nat]; omega) hp' ?_
        have : (if n1 = true then -(m1 : Int) else m1) * 2 ^ i1 = sgn n1 (m1 * 2 ^ i1) := by rw [← sgn_mul, cast_pow2]; rfl
        rw [this, ← ex0]; exact hk'
      rw [ex, ey]
      change SE _ _ _ _ _ (.mk 0)
      unfold b117
      cases sub
      · simp [start, hm0, sgd]
        split
        · exact fin _ (.inr ⟨by assumption, by rw [intBits_nat]⟩)
        · exact fin _ (.inl ⟨by assumption, rfl⟩)
      · simp [start, hm0, sgd]
        refine h102 _ _ ⟨0, hy, .inl ⟨by rw [ey], ?_⟩⟩
        simp [hm0]
        split
        · exact fin _ (.inr ⟨by assumption, by rw [intBits_nat]⟩)
        · exact fin _ (.inl ⟨by assumption, rfl⟩)
  · have hm2' : m2 ≠ 0 := by omega
    have hy' := hy
    rw [ey0] at hy'
    have hmi2 := sm_sgn hm2' hy'
    obtain ⟨s2, hs2⟩ : ∃ s2, s2 = (n2 ^^ sub) := ⟨_, rfl⟩
    have hk' : Kp (fr (rd p r (x + sgn s2 (m2 * 2 ^ i2)))) := by
      rw [ey0] at hk
      have : (if sub = true then x - sgn n2 (m2 * 2 ^ i2) else x + sgn n2 (m2 * 2 ^ i2)) = x + sgn s2 (m2 * 2 ^ i2) := by
        rw [hs2]; cases sub <;> cases n2 <;> simp [sgn] <;> omega
      rw [this] at hk; exact hk
    have hxor := xor_sgd n2 sub
    rw [← hs2] at hxor
    rcases fr_cases x with ⟨rfl, ex⟩ | ⟨n1, m1, i1, hm1, ex0, ex⟩
    · have fin : ∀ p' : Int, ((p ≠ 0 ∧ p' = p) ∨ (p = 0 ∧ p' = Builtin.Int.intBits m2)) → Γ 44 [sgd s2, .int (m2 : Int), .int ((i2 : Int) - 64), .int (bl m2), .int p', .str r.s] Kp := by
        intro p' hp'
        refine call44 h44 (j := i2) (Int.natCast_nonneg _) rfl (by rw [intBits_nat]) (by rw [intBits_nat]; omega) hp' ?_
        have : (if s2 = true then -(m2 : Int) else m2) * 2 ^ i2 = sgn s2 (m2 * 2 ^ i2) := by rw [← sgn_mul, cast_pow2]; rfl
        rw [this]; rw [Int.zero_add] at hk'; exact hk'
      rw [ex]
      cases sub
      · have hxF : Builtin.bitXor (if n2 = true then 1 else 0) 0 = if s2 = true then 1 else 0 := hxor
        rw [ey]
        simp only [sgd]
        change SE _ _ _ _ _ (.mk 0)
        unfold b117
        simp [start, hm2', hxF]
        split
        · exact fin _ (.inr ⟨by assumption, by rw [intBits_nat]⟩)
        · exact fin _ (.inl ⟨by assumption, rfl⟩)
      · have hxT : Builtin.bitXor (if n2 = true then 1 else 0) 1 = if s2 = true then 1 else 0 := hxor
        rw [ey]
        simp only [sgd]
        change SE _ _ _ _ _ (.mk 0)
        unfold b117
        simp [start, hm2', hxT]
        refine h102 _ _ ⟨y, hy, .inl ⟨by rw [ey]; rfl, ?_⟩⟩
        simp [hm2', hxT]
        split
        · exact fin _ (.inr ⟨by assumption, by rw [intBits_nat]⟩)
        · exact fin _ (.inl ⟨by assumption, rfl⟩)
    · have hm1' : m1 ≠ 0 := by omega
      have hx' := hx
      rw [ex0] at hx'
      have hmi1 := sm_sgn hm1' hx'
      -- the one end
      have fin : ∀ (i : Nat) (S : Int), x + sgn s2 (m2 * 2 ^ i2) = S * 2 ^ i → ∀ (M : Int) (neg : Bool) (p' : Int), 0 ≤ M → (if neg = true then -M else M) = S → ((p ≠ 0 ∧ p' = p) ∨ (p = 0 ∧ p' = Builtin.Int.intBits M)) →
          Cal Γ 44 [sgd neg, .int M, .int ((i : Int) - 64), .int (Builtin.Int.intBits M), .int p', .str r.s] Kp (.mk 0) := by
        intro i S hS M neg p' hM hneg hp'
        refine call44 h44 (j := i) hM rfl rfl ?_ hp' ?_
        · have h1 : Sm (sgn s2 (m2 * 2 ^ i2)) := by unfold Sm at hy' ⊢; rw [sgn_natAbs] at hy' ⊢; exact hy'
          have h2 := sm_add hx h1
          have h3 : M.natAbs ≤ (x + sgn s2 (m2 * 2 ^ i2)).natAbs := by
            rw [hS, ← hneg, Int.natAbs_mul, Int.natAbs_pow]
            have : (if neg = true then -M else M).natAbs = M.natAbs := by split <;> simp
            rw [this]
            exact Nat.le_mul_of_pos_right _ (Nat.two_pow_pos _)
          rw [intBits_bl]
          have := bl_mono h3
          omega
        · rw [hneg, ← hS]; exact hk'
      have hsum : ∀ o, i1 = i2 + o → x + sgn s2 (m2 * 2 ^ i2) = (sgn n1 m1 * 2 ^ o + sgn s2 m2) * 2 ^ i2 := by
        intro o ho
        rw [ex0, ho, Int.add_mul, ← sgn_mul, ← sgn_mul, ← cast_pow2, ← cast_pow2, Int.pow_add, Int.mul_assoc, Int.mul_comm (2 ^ o)]
      have hsum2 : ∀ o, i2 = i1 + o → x + sgn s2 (m2 * 2 ^ i2) = (sgn n1 m1 + sgn s2 m2 * 2 ^ o) * 2 ^ i1 := by
        intro o ho
        rw [ex0, ho, Int.add_mul, ← sgn_mul, ← sgn_mul, ← cast_pow2, ← cast_pow2, Int.pow_add, Int.mul_assoc, Int.mul_comm (2 ^ o)]
      have hoff' : (i1 ≤ i2 + 100 ∧ i2 ≤ i1 + 100) ∨ bl m1 + i1 = bl m2 + i2 := by
        have h1 : x.natAbs = m1 * 2 ^ i1 := by rw [ex0, sgn_natAbs]
        have h2 : y.natAbs = m2 * 2 ^ i2 := by rw [ey0, sgn_natAbs]
        have h1' : x ≠ 0 := by
          have := Nat.mul_pos (show 0 < m1 by omega) (Nat.two_pow_pos i1); omega
        have h2' : y ≠ 0 := by
          have := Nat.mul_pos (show 0 < m2 by omega) (Nat.two_pow_pos i2); omega
        rcases hoff with h | h | h | h
        · exact absurd h h1'
        · exact absurd h h2'
        · rw [h1, h2, (od_of hm1 rfl).2, (od_of hm2 rfl).2] at h; exact .inl h
        · rw [h1, h2, bl_mul _ hm1', bl_mul _ hm2'] at h; exact .inr h
      rw [ex, ey]
      simp only [sgd]
      change SE _ _ _ _ _ (.mk 0)
      unfold b117
      have hst : (Builtin.bitXor (if n2 = true then 1 else 0) (if sub = true then 1 else 0)) = if s2 = true then 1 else 0 := hxor
      generalize hsb : (if sub = true then (1 : Int) else 0) = sb at *
      generalize (if n2 = true then (1 : Int) else 0) = nb at *
      have hi64 : (i1 : Int) - 64 - (i2 - 64) = i1 - i2 := by omega
      rcases Nat.lt_trichotomy i1 i2 with hlt | heq | hgt
      · obtain ⟨o, ho⟩ : ∃ o, i2 = i1 + (o + 1) := ⟨i2 - i1 - 1, by omega⟩
        have hS := hsum2 _ ho
        obtain ⟨D, hD⟩ : ∃ D : Int, D = o + 1 := ⟨_, rfl⟩
        have eo : (i1 : Int) - i2 = -D := by omega
        have hDn : D.toNat = o + 1 := by omega
        have hd : ¬ (100 < D) ∨ (bl m2 : Int) + (i2 - 64) - bl m1 - (i1 - 64) = 0 := by omega
        have hd0 : ¬ ((p : Int) + 4 < 0) := by omega
        have c1 : ¬ (D = 0) := by omega
        have c2 : ¬ (D < 0) := by omega
        have c3 : (bl m2 : Int) + D ≤ 134217728 := by omega
        have c4 : 0 ≤ D := by omega
        have c5 : 0 < D := by omega
        have hg : 0 ≤ (m2 : Int) * 2 ^ (o + 1) := Int.mul_nonneg (by omega) (Int.le_of_lt (Int.pow_pos (by omega)))
        clear hD
        rcases hd with hd | hd <;> cases n1 <;> cases s2 <;> simp [start, hm1', hm2', hst, hi64, eo, c1, c2, c3, c4, c5, hDn, hd, hd0, intBits_nat]
        all_goals (repeat' split)
        all_goals first
          | exact fin _ _ hS _ false _ (by omega) (by simp [sgn, Int.neg_mul] <;> omega) (.inr ⟨by assumption, rfl⟩)
          | exact fin _ _ hS _ false _ (by omega) (by simp [sgn, Int.neg_mul] <;> omega) (.inl ⟨by assumption, rfl⟩)
          | exact fin _ _ hS _ true _ (by omega) (by simp [sgn, Int.neg_mul] <;> omega) (.inr ⟨by assumption, rfl⟩)
          | exact fin _ _ hS _ true _ (by omega) (by simp [sgn, Int.neg_mul] <;> omega) (.inl ⟨by assumption, rfl⟩)
      · have hS := hsum 0 (by omega)
        have ez : (i1 : Int) - i2 = 0 := by omega
        cases n1 <;> cases s2 <;> simp [start, hm1', hm2', hst, hi64, ez]
        all_goals (repeat' split)
        all_goals first
          | exact fin _ _ hS _ false _ (by omega) (by simp [sgn, Int.neg_mul] <;> omega) (.inr ⟨by assumption, rfl⟩)
          | exact fin _ _ hS _ false _ (by omega) (by simp [sgn, Int.neg_mul] <;> omega) (.inl ⟨by assumption, rfl⟩)
          | exact fin _ _ hS _ true _ (by omega) (by simp [sgn, Int.neg_mul] <;> omega) (.inr ⟨by assumption, rfl⟩)
          | exact fin _ _ hS _ true _ (by omega) (by simp [sgn, Int.neg_mul] <;> omega) (.inl ⟨by assumption, rfl⟩)
      · obtain ⟨o, ho⟩ : ∃ o, i1 = i2 + (o + 1) := ⟨i1 - i2 - 1, by omega⟩
        have hd : ¬ (100 < (o : Int) + 1) ∨ (bl m1 : Int) + (i1 - 64) - bl m2 - (i2 - 64) = 0 := by omega
        have hd0 : ¬ ((p : Int) + 4 < 0) := by omega
        have hS := hsum _ ho
        have eo : (i1 : Int) - i2 = o + 1 := by omega
        have c1 : ¬ ((o : Int) + 1 = 0) := by omega
        have c2 : (0 : Int) < o + 1 := by omega
        have c3 : (bl m1 : Int) + (o + 1) ≤ 134217728 := by omega
        have c2' : (0 : Int) ≤ o + 1 := by omega
        have hg : 0 ≤ (m1 : Int) * 2 ^ (o + 1) := Int.mul_nonneg (by omega) (Int.le_of_lt (Int.pow_pos (by omega)))
        rcases hd with hd | hd <;> cases n1 <;> cases s2 <;> simp [start, hm1', hm2', hst, hi64, eo, c1, c2, c2', c3, hd, hd0, intBits_nat]
        all_goals (repeat' split)
        all_goals first
          | exact fin _ _ hS _ false _ (by omega) (by simp [sgn, Int.neg_mul] <;> omega) (.inr ⟨by assumption, rfl⟩)
          | exact fin _ _ hS _ false _ (by omega) (by simp [sgn, Int.neg_mul] <;> omega) (.inl ⟨by assumption, rfl⟩)
          | exact fin _ _ hS _ true _ (by omega) (by simp [sgn, Int.neg_mul] <;> omega) (.inr ⟨by assumption, rfl⟩)
          | exact fin _ _ hS _ true _ (by omega) (by simp [sgn, Int.neg_mul] <;> omega) (.inl ⟨by assumption, rfl⟩)
end Mine

end
section
open PySem PySem.W PySem.Calls PyProof.Rows
set_option maxRecDepth 10000
namespace Mine

theorem sgn_sgn (a b : Bool) (m k : Nat) : sgn a m * sgn b k = sgn (a ^^ b) (m * k) := by cases a <;> cases b <;> simp [sgn, Int.neg_mul, Int.mul_neg]
theorem fr_at {neg : Bool} {m k j : Nat} (hm : m % 2 = 1) : fr (sgn neg (m * 2 ^ k) * 2 ^ j) = .tuple [sgd neg, .int (m : Nat), .int (((k + j : Nat) : Int) - 64 : Int), .int (bl m)] :=
  (fr_of (neg := neg) (i := k + j) hm (by rw [cast_pow2, sgn_mul, Nat.mul_assoc, Nat.pow_add]) rfl).symm

theorem v125 {Γ : Nat → Sp} (h117 : ∀ ds K, sp117 ds K → Γ 117 ds K) (ds : List PyData) (Kp : PyData → Prop) (h : ∃ x y p r, Sm x ∧ Sm y ∧ Off x y ∧ p ≤ 1000 ∧ ds = [fr x, fr y, .int (p : Nat), .str (Md.s r)] ∧ Kp (fr (rd p r (x - y)))) : vsL Γ b125 (start 4 (ds ++ [])) (fun _ => Kp .none) Kp := by
  obtain ⟨x, y, p, r, hx, hy, ho, hp, rfl, hk⟩ := h
  change SE _ _ _ _ _ (.mk 0)
  unfold b125
  simp [start]
  exact h117 _ _ ⟨x, y, p, r, true, hx, hy, ho, hp, rfl, hk⟩

def sp125 : Sp := fun ds Kp => ∃ x y p r, Sm x ∧ Sm y ∧ Off x y ∧ p ≤ 1000 ∧ ds = [fr x, fr y, .int (p : Nat), .str (Md.s r)] ∧ Kp (fr (rd p r (x - y)))

def sp133 : Sp := fun ds Kp => ∃ X Y : Int, Sm (X * 2 ^ 32) ∧ Sm (Y * 2 ^ 32) ∧ ((ds = [fr (X * 2 ^ 32), fr (Y * 2 ^ 32)] ∧ Kp (fr (X * Y))) ∨ ∃ (p : Nat) (r : Md), ds = [fr (X * 2 ^ 32), fr (Y * 2 ^ 32), .int p, .str r.s] ∧ Kp (fr (rd p r (X * Y))))

theorem v133 {Γ : Nat → Sp} (h44 : ∀ ds K, sp37 ds K → Γ 44 ds K) {X Y : Int} {p : Nat} {R : Str} (hx : Sm (X * 2 ^ 32)) (hy : Sm (Y * 2 ^ 32)) (Kp : PyData → Prop) (h : (p = 0 ∧ Kp (fr (X * Y))) ∨ ∃ r : Md, R = r.s ∧ Kp (fr (rd p r (X * Y)))) :
    vsL Γ b133 (start 17 [fr (X * 2 ^ 32), fr (Y * 2 ^ 32), .int p, .str R]) (fun _ => Kp .none) Kp := by
  change SE _ _ _ _ _ (.mk 0)
  unfold b133
  by_cases h0 : X = 0 ∨ Y = 0
  · have hk : Kp (.tuple [.int 0, .int 0, .int 0, .int 0]) := by
      have e : X * Y = 0 := Int.mul_eq_zero.mpr h0
      rw [e] at h
      rcases h with ⟨_, h⟩ | ⟨r, _, h⟩
      · exact fr_z ▸ h
      · rw [rd_zero] at h; exact fr_z ▸ h
    rcases fr_cases X with ⟨rfl, _⟩ | ⟨n1, m1, k1, hm1, rfl, _⟩ <;> rcases fr_cases Y with ⟨rfl, _⟩ | ⟨n2, m2, k2, hm2, rfl, _⟩
    · rw [Int.zero_mul, fr_z]
      simp [start]
      exact ⟨IntMulOk.of_left (by decide), hk⟩
    · rw [Int.zero_mul, fr_z, fr_at hm2]
      simp [start, sgd, show m2 ≠ 0 by omega]
      exact ⟨IntMulOk.of_left (by decide), hk⟩
    · rw [Int.zero_mul, fr_z, fr_at hm1]
      simp [start, sgd, show m1 ≠ 0 by omega]
      exact ⟨IntMulOk.of_right (by decide), hk⟩
    · exfalso
      have z : ∀ (n : Bool) (m k : Nat), m % 2 = 1 → sgn n (m * 2 ^ k) ≠ 0 := by
        intro n m k hm h
        have := congrArg Int.natAbs h
        rw [sgn_natAbs] at this
        have := Nat.mul_pos (show 0 < m by omega) (Nat.two_pow_pos k)
        omega
      rcases h0 with h0 | h0
      · exact z _ _ _ hm1 h0
      · exact z _ _ _ hm2 h0
  · rcases fr_cases X with ⟨rfl, _⟩ | ⟨n1, m1, k1, hm1, ex, _⟩
    · exact absurd (.inl rfl) h0
    rcases fr_cases Y with ⟨rfl, _⟩ | ⟨n2, m2, k2, hm2, ey, _⟩
    · exact absurd (.inr rfl) h0
    have hm : m1 * m2 % 2 = 1 := by rw [Nat.mul_mod, hm1, hm2]
    have h3 : (m1 : Int) * m2 ≠ 0 := by
      have := Nat.mul_pos (show 0 < m1 by omega) (show 0 < m2 by omega)
      have : ((m1 * m2 : Nat) : Int) ≠ 0 := by omega
      rwa [Int.natCast_mul] at this
    have hxy : X * Y = sgn (n1 ^^ n2) (m1 * m2 * 2 ^ (k1 + k2)) := by
      rw [ex, ey, sgn_sgn, Nat.pow_add]; congr 1; ac_rfl
    have hb1 : bl m1 ≤ 1000 := by
      rw [ex, cast_pow2, sgn_mul, Nat.mul_assoc, ← Nat.pow_add] at hx
      have := sm_sgn (show m1 ≠ 0 by omega) hx; omega
    have hb2 : bl m2 ≤ 1000 := by
      rw [ey, cast_pow2, sgn_mul, Nat.mul_assoc, ← Nat.pow_add] at hy
      have := sm_sgn (show m2 ≠ 0 by omega) hy; omega
    have hbb : bl (m1 * m2) ≤ 2000 := by
      have h1 := bl_le_iff.mp hb1
      have h2 := bl_le_iff.mp hb2
      refine bl_le (Nat.lt_of_lt_of_le (Nat.mul_lt_mul'' h1 h2) ?_)
      rw [← Nat.pow_add]; exact Nat.pow_le_pow_right (by omega) (by omega)
    have hok : IntMulOk (m1 : Int) m2 := by
      unfold IntMulOk Builtin.Int.intTooBig
      rw [intBits_nat, intBits_nat]
      have : ¬ (((bl m1 : Nat) : Int) + ((bl m2 : Nat) : Int) > bitsLine) := by
        have : bitsLine = 134217728 := rfl
        omega
      simp only [Bool.and_eq_true, decide_eq_true_eq, not_and]
      intro _ hh
      first | exact this hh | (push_cast at hh; exact this hh)
    have hxor := xor_sgd n1 n2
    have ee : (((k1 + 32 : Nat) : Int) - 64) + (((k2 + 32 : Nat) : Int) - 64) = ((k1 + k2 : Nat) : Int) - 64 := by omega
    obtain ⟨nx, hnx⟩ : ∃ nx, nx = (n1 ^^ n2) := ⟨_, rfl⟩
    obtain ⟨e3, he3⟩ : ∃ e : Int, e = ((k1 + k2 : Nat) : Int) - 64 := ⟨_, rfl⟩
    rw [← hnx] at hxor hxy
    rw [← he3] at ee
    rw [ex, ey, fr_at hm1, fr_at hm2]
    generalize hE1 : ((k1 + 32 : Nat) : Int) - 64 = e1 at *
    generalize hE2 : ((k2 + 32 : Nat) : Int) - 64 = e2 at *
    simp only [sgd]
    generalize (if n1 = true then (1 : Int) else 0) = b1 at *
    generalize (if n2 = true then (1 : Int) else 0) = b2 at *
    have ec : (m1 : Int) * m2 = ((m1 * m2 : Nat) : Int) := by simp
    by_cases hp : p = 0
    · have hk : Kp (fr (X * Y)) := by
        rcases h with ⟨_, h⟩ | ⟨r, _, h⟩
        · exact h
        · rw [hp, rd_none] at h; exact h
      rw [hxy, ← fr_of (neg := nx) hm rfl he3] at hk
      simp [start, hok, h3, hp, hxor, ee]
      rw [ec, intBits_nat]
      exact hk
    · obtain ⟨r, rfl, hk⟩ : ∃ r : Md, R = r.s ∧ Kp (fr (rd p r (X * Y))) := by
        rcases h with ⟨h, _⟩ | h
        · exact absurd h hp
        · exact h
      simp [start, hok, h3, hp]
      rw [hxor, ee, ec]
      refine call44 h44 (j := k1 + k2) (p := p) (Int.natCast_nonneg _) he3 rfl (by rw [intBits_nat]; omega) (.inl ⟨hp, rfl⟩) ?_
      have : (if nx = true then -((m1 * m2 : Nat) : Int) else ((m1 * m2 : Nat) : Int)) * 2 ^ (k1 + k2) = X * Y := by
        rw [hxy, ← sgn_mul, ← cast_pow2]; rfl
      rw [this]; exact hk
end Mine

end
section
open PySem PySem.W PySem.Calls PyProof.Rows
set_option maxRecDepth 10000
namespace Mine

theorem upq_pos {r : Md} {neg : Bool} {m n : Nat} (h : 2 ^ n ≤ m) : 1 ≤ upq r neg m (2 ^ n) := by
  have : 1 ≤ m / 2 ^ n := (Nat.le_div_iff_mul_le (Nat.two_pow_pos n)).mpr (by omega)
  unfold upq; split <;> omega
theorem rd_neg {p : Nat} {r : Md} {x : Int} : (rd p r x < 0) ↔ x < 0 := by
  unfold rd
  split
  · exact Iff.rfl
  · rename_i h
    have hx : x.natAbs ≠ 0 := by intro e; rw [e] at h; exact h (.inr (by simp [bl_zero]))
    have h1 := bl_ge hx
    have h2 : 1 ≤ upq r (decide (x < 0)) x.natAbs (2 ^ (bl x.natAbs - p)) := upq_pos (Nat.le_trans (Nat.pow_le_pow_right (by omega) (by omega)) h1)
    have h3 := Nat.mul_pos h2 (Nat.two_pow_pos (bl x.natAbs - p))
    generalize upq r (decide (x < 0)) x.natAbs (2 ^ (bl x.natAbs - p)) * 2 ^ (bl x.natAbs - p) = u at *
    unfold sgn
    by_cases q : x < 0 <;> simp [q] <;> omega

theorem fr_t (x : Int) : fr x = .tuple [.int (if x < 0 then 1 else 0), .int (od x.natAbs), .int (if x = 0 then 0 else (tz x.natAbs : Int) - 64), .int (bl (od x.natAbs))] := rfl
variable {K : PyData → Prop} {dm : Dm K}
theorem fr_nan {x : Int} : cmpW .Eq (fr x) (.tuple [.int 0, .int 0, .int (-123), .int (-1)]) K dm = K (.bool false) := by
  rw [fr_t, cmp_eq4]
  have : ¬ ((bl (od x.natAbs) : Int) = -1) := by omega
  simp [this]

def sp51 : Sp := fun ds Kp => ∃ x y, Sm x ∧ Sm y ∧ ds = [fr x, fr y] ∧ Kp (.int (x - y).sign)

theorem sgn_pos {m i : Nat} (hm : m % 2 = 1) : 0 < sgn false (m * 2 ^ i) := by
  have := Nat.mul_pos (show 0 < m by omega) (Nat.two_pow_pos i)
  unfold sgn; simp only [Bool.false_eq_true, if_false]; omega
theorem sgn_neg' {m i : Nat} (hm : m % 2 = 1) : sgn true (m * 2 ^ i) < 0 := by
  have := Nat.mul_pos (show 0 < m by omega) (Nat.two_pow_pos i)
  unfold sgn; simp only [if_true]; omega

theorem v51 {Γ : Nat → Sp} (h109 : ∀ ds K, sp109 ds K → Γ 109 ds K) (h125 : ∀ ds K, sp125 ds K → Γ 125 ds K) (ds : List PyData) (Kp : PyData → Prop) (h : sp51 ds Kp) : vsL Γ b51 (start 13 (ds ++ [])) (fun _ => Kp .none) Kp := by
  obtain ⟨x, y, hx, hy, rfl, hk⟩ := h
  have hlt : x < y → Kp (.int (-1)) := fun h => by rwa [Int.sign_eq_neg_one_iff_neg.mpr (by omega)] at hk
  have hgt : y < x → Kp (.int 1) := fun h => by rwa [Int.sign_eq_one_iff_pos.mpr (by omega)] at hk
  have heq : x = y → Kp (.int 0) := fun h => by rwa [h, Int.sub_self] at hk
  change SE _ _ _ _ _ (.mk 0)
  unfold b51
  rcases fr_cases x with ⟨rfl, ex⟩ | ⟨n1, m1, i1, hm1, ex0, ex⟩
  · have hk' : Kp (.int (-y.sign)) := by rwa [Int.zero_sub, Int.sign_neg] at hk
    rcases fr_cases y with ⟨rfl, ey⟩ | ⟨n2, m2, i2, hm2, ey0, ey⟩
    · rw [ex]
      simp [start]
      exact h109 _ _ ⟨0, by rw [ex], by simpa using hk'⟩
    · rw [ex, ey]
      simp [start, sgd]
      exact h109 _ _ ⟨y, by rw [ey]; rfl, by simpa using hk'⟩
  · have hm1' : m1 ≠ 0 := by omega
    rcases fr_cases y with ⟨rfl, ey⟩ | ⟨n2, m2, i2, hm2, ey0, ey⟩
    · rw [Int.sub_zero] at hk
      rw [ex, ey]
      simp [start, sgd, hm1']
      exact h109 _ _ ⟨x, by rw [ex]; rfl, by simpa using hk⟩
    · have hm2' : m2 ≠ 0 := by omega
      have hxy : ¬ (i1 = i2) → x ≠ y := by
        intro hne e
        have := congrArg Int.natAbs e
        rw [ex0, ey0, sgn_natAbs, sgn_natAbs] at this
        exact hne (odd_unique _ _ _ _ hm1 hm2 this).2
      have hfin : bl m1 + i1 = bl m2 + i2 → ∀ K' : PyData → Prop, K' (fr (rd 5 .f (x - y))) → Γ 125 [fr x, fr y, .int 5, .str (Str.ofString "f")] K' := by
        intro hb K' hK'
        refine h125 _ _ ⟨x, y, 5, .f, hx, hy, .inr (.inr (.inr ?_)), by omega, rfl, hK'⟩
        rw [ex0, ey0, sgn_natAbs, sgn_natAbs, bl_mul _ hm1', bl_mul _ hm2', hb]
      have hr := rd_neg (p := 5) (r := .f) (x := x - y)
      have hbig : ∀ (m m' i i' : Nat), m' ≠ 0 → (bl m : Int) + ((i : Int) - 64) < bl m' + ((i' : Int) - 64) → m * 2 ^ i < m' * 2 ^ i' := by
        intro m m' i i' h2 hlt
        by_cases h1 : m = 0
        · subst h1; rw [Nat.zero_mul]; exact Nat.mul_pos (by omega) (Nat.two_pow_pos _)
        have e1 := bl_mul i h1
        have e2 := bl_mul i' h2
        have h3 := bl_lt (m * 2 ^ i)
        have h4 := bl_ge (a := m' * 2 ^ i') (Nat.ne_of_gt (Nat.mul_pos (by omega) (Nat.two_pow_pos _)))
        have h5 : (2 : Nat) ^ bl (m * 2 ^ i) ≤ 2 ^ (bl (m' * 2 ^ i') - 1) := Nat.pow_le_pow_right (by omega) (by omega)
        omega
      have hsame : i1 = i2 → (m1 < m2 ↔ m1 * 2 ^ i1 < m2 * 2 ^ i2) := by
        intro e; subst e; exact (Nat.mul_lt_mul_right (Nat.two_pow_pos _)).symm
      have hsame' : i1 = i2 → (m2 < m1 ↔ m2 * 2 ^ i2 < m1 * 2 ^ i1) := by
        intro e; subst e; exact (Nat.mul_lt_mul_right (Nat.two_pow_pos _)).symm
      cases n1 <;> cases n2
      · have ex1 : x = (m1 * 2 ^ i1 : Nat) := ex0
        have ey1 : y = (m2 * 2 ^ i2 : Nat) := ey0
        rw [ex, ey]
        simp [start, sgd, hm1', hm2']
        rw [ex, ey] at hfin
        split
        · have he : i1 = i2 := by omega
          have s1 := hsame he
          have s2 := hsame' he
          split
          · exact heq (by rw [ex1, ey1, he, show m1 = m2 by omega])
          · split
            · exact hgt (by omega)
            · exact hlt (by omega)
        · have hn := hxy (by omega)
          split
          · have := hbig m1 m2 i1 i2 hm2' (by assumption)
            exact hlt (by omega)
          · split
            · have := hbig m2 m1 i2 i1 hm1' (by assumption)
              exact hgt (by omega)
            · refine hfin (by omega) _ ?_
              rw [fr_t]
              by_cases q : x < y
              · simp [hr.mpr (by omega)]
                exact hlt q
              · have : ¬ (rd 5 .f (x - y) < 0) := by rw [hr]; omega
                simp [this]
                exact hgt (by omega)
      · have := sgn_pos (i := i1) hm1
        have := sgn_neg' (i := i2) hm2
        rw [ex, ey]
        simp [start, sgd, hm1', hm2']
        exact hgt (by omega)
      · have := sgn_neg' (i := i1) hm1
        have := sgn_pos (i := i2) hm2
        rw [ex, ey]
        simp [start, sgd, hm1', hm2']
        exact hlt (by omega)
      · have ex1 : x = -(m1 * 2 ^ i1 : Nat) := ex0
        have ey1 : y = -(m2 * 2 ^ i2 : Nat) := ey0
        rw [ex, ey]
        simp [start, sgd, hm1', hm2']
        rw [ex, ey] at hfin
        split
        · have he : i1 = i2 := by omega
          have s1 := hsame he
          have s2 := hsame' he
          split
          · exact heq (by rw [ex1, ey1, he, show m1 = m2 by omega])
          · split
            · exact hlt (by omega)
            · exact hgt (by omega)
        · have hn := hxy (by omega)
          split
          · have := hbig m1 m2 i1 i2 hm2' (by assumption)
            exact hgt (by omega)
          · split
            · have := hbig m2 m1 i2 i1 hm1' (by assumption)
              exact hlt (by omega)
            · refine hfin (by omega) _ ?_
              rw [fr_t]
              by_cases q : x < y
              · simp [hr.mpr (by omega)]
                exact hlt q
              · have : ¬ (rd 5 .f (x - y) < 0) := by rw [hr]; omega
                simp [this]
                exact hgt (by omega)

def spc (f : Int → Int → Bool) : Sp := fun ds Kp => ∃ x y, Sm x ∧ Sm y ∧ ds = [fr x, fr y] ∧ Kp (.bool (f x y))
theorem v58 {Γ : Nat → Sp} (h51 : ∀ ds K, sp51 ds K → Γ 51 ds K) (ds : List PyData) (Kp : PyData → Prop) (h : spc (fun x y => decide (x < y)) ds Kp) : vsL Γ b58 (start 2 (ds ++ [])) (fun _ => Kp .none) Kp := by
  obtain ⟨x, y, hx, hy, rfl, hk⟩ := h
  change SE _ _ _ _ _ (.mk 0)
  unfold b58
  simp [start, fr_nan]
  refine h51 _ _ ⟨x, y, hx, hy, rfl, ?_⟩
  have e : decide (x - y < 0) = decide (x < y) := by rw [decide_eq_decide]; omega
  simp [e]
  exact hk
theorem v65 {Γ : Nat → Sp} (h51 : ∀ ds K, sp51 ds K → Γ 51 ds K) (ds : List PyData) (Kp : PyData → Prop) (h : spc (fun x y => decide (x ≤ y)) ds Kp) : vsL Γ b65 (start 2 (ds ++ [])) (fun _ => Kp .none) Kp := by
  obtain ⟨x, y, hx, hy, rfl, hk⟩ := h
  change SE _ _ _ _ _ (.mk 0)
  unfold b65
  simp [start, fr_nan]
  refine h51 _ _ ⟨x, y, hx, hy, rfl, ?_⟩
  have e : decide (x - y ≤ 0) = decide (x ≤ y) := by rw [decide_eq_decide]; omega
  simp [e]
  exact hk
theorem v72 {Γ : Nat → Sp} (h51 : ∀ ds K, sp51 ds K → Γ 51 ds K) (ds : List PyData) (Kp : PyData → Prop) (h : spc (fun x y => decide (y < x)) ds Kp) : vsL Γ b72 (start 2 (ds ++ [])) (fun _ => Kp .none) Kp := by
  obtain ⟨x, y, hx, hy, rfl, hk⟩ := h
  change SE _ _ _ _ _ (.mk 0)
  unfold b72
  simp [start, fr_nan]
  refine h51 _ _ ⟨x, y, hx, hy, rfl, ?_⟩
  have e : decide (0 < (x - y).sign) = decide (y < x) := by rw [decide_eq_decide, Int.sign_pos_iff]; omega
  simp [e]
  exact hk
theorem v79 {Γ : Nat → Sp} (h51 : ∀ ds K, sp51 ds K → Γ 51 ds K) (ds : List PyData) (Kp : PyData → Prop) (h : spc (fun x y => decide (y ≤ x)) ds Kp) : vsL Γ b79 (start 2 (ds ++ [])) (fun _ => Kp .none) Kp := by
  obtain ⟨x, y, hx, hy, rfl, hk⟩ := h
  change SE _ _ _ _ _ (.mk 0)
  unfold b79
  simp [start, fr_nan]
  refine h51 _ _ ⟨x, y, hx, hy, rfl, ?_⟩
  have e : decide (0 ≤ (x - y).sign) = decide (y ≤ x) := by rw [decide_eq_decide, Int.sign_nonneg_iff]; omega
  simp [e]
  exact hk

def sp86 : Sp := fun ds Kp => ∃ (x : Int) (l : List Int), (∀ y ∈ x :: l, Sm y) ∧ l.length ≤ 100 ∧ ds = [.list ((x :: l).map fr)] ∧ Kp (.tuple [fr (l.foldl min x), fr (l.foldl max x)])
theorem v86 {Γ : Nat → Sp} (h58 : ∀ ds K, spc (fun x y => decide (x < y)) ds K → Γ 58 ds K) (h72 : ∀ ds K, spc (fun x y => decide (y < x)) ds K → Γ 72 ds K) (ds : List PyData) (Kp : PyData → Prop) (h : sp86 ds Kp) : vsL Γ b86 (start 4 (ds ++ [])) (fun _ => Kp .none) Kp := by
  obtain ⟨x, l, hs, hl, rfl, hk⟩ := h
  change SE _ _ _ _ _ (.mk 0)
  unfold b86
  simp [start]
  have step : ∀ (f : PyData → En → (En → Prop) → Prop) (K : En → Prop) (s0 : PyData) (l : List Int) (a b : Int) (w : Option PyData), Sm a → Sm b → (∀ y ∈ l, Sm y) →
      (∀ (y a b : Int) w (K' : En → Prop), Sm y → Sm a → Sm b → (∀ w', K' [some s0, some (fr (min a y)), some (fr (max b y)), w']) → f (fr y) [some s0, some (fr a), some (fr b), w] K') →
      (∀ w', K [some s0, some (fr (l.foldl min a)), some (fr (l.foldl max b)), w']) → forD f (l.map fr) [some s0, some (fr a), some (fr b), w] K := by
    intro f K s0 l
    induction l with
    | nil => intro a b w _ _ _ _ h; exact h w
    | cons y l ih =>
      intro a b w ha hb hl hf h
      refine hf y a b w _ (hl y (by simp)) ha hb fun w' => ?_
      refine ih _ _ _ ?_ ?_ (fun y hy => hl y (by simp [hy])) hf h
      · rcases Int.le_total a y with q | q
        · rw [Int.min_eq_left q]; exact ha
        · rw [Int.min_eq_right q]; exact hl y (by simp)
      · rcases Int.le_total b y with q | q
        · rw [Int.max_eq_right q]; exact hl y (by simp)
        · rw [Int.max_eq_left q]; exact hb
  refine ⟨by omega, ?_⟩
  rw [forW_list]
  refine ⟨by rw [List.length_map]; omega, ?_⟩
  refine step _ _ _ l x x none (hs x (by simp)) (hs x (by simp)) (fun y hy => hs y (by simp [hy])) ?_ ?_
  · intro y a b w K' hy ha hb hK'
    simp
    refine h58 _ _ ⟨y, a, hy, ha, rfl, ?_⟩
    have hmin : min a y = if y < a then y else a := by rw [Int.min_def]; split <;> split <;> omega
    have hmax : max b y = if b < y then y else b := by rw [Int.max_def]; split <;> split <;> omega
    rw [hmin, hmax] at hK'
    by_cases q1 : y < a <;> by_cases q2 : b < y <;> simp [q1]
    all_goals (refine h72 _ _ ⟨y, b, hy, hb, rfl, ?_⟩)
    all_goals simp [q2]
    all_goals simp only [q1, q2, if_true, if_false] at hK'
    all_goals exact hK' _
  · intro w'
    simp
    exact hk
end Mine

end
section
open PySem PySem.W PySem.Calls PyProof.Rows
set_option maxRecDepth 10000
namespace Mine

/-- the value of an end that the law builds -/
def Raw (x : Int) : Prop := x = 0 ∨ ∃ (neg : Bool) (m i : Nat), m % 2 = 1 ∧ bl m ≤ 50 ∧ 34 ≤ i ∧ i ≤ 94 ∧ x = sgn neg (m * 2 ^ i)
theorem Raw.bl {x : Int} (h : Raw x) : bl x.natAbs ≤ 144 := by
  rcases h with rfl | ⟨neg, m, i, hm, hb, h1, h2, rfl⟩
  · decide
  · rw [sgn_natAbs, bl_mul _ (by omega)]; omega
theorem Raw.sm {x : Int} (h : Raw x) : Sm x := by have := h.bl; unfold Sm; omega
theorem Raw.off {x y : Int} (h : Raw x) (h' : Raw y) : Off x y := by
  rcases h with h | ⟨neg, m, i, hm, hb, h1, h2, rfl⟩
  · exact .inl h
  · rcases h' with h | ⟨neg', m', i', hm', hb', h1', h2', rfl⟩
    · exact .inr (.inl h)
    · refine .inr (.inr (.inl ?_))
      rw [sgn_natAbs, sgn_natAbs, (od_of hm rfl).2, (od_of hm' rfl).2]; omega
theorem Raw.q {x : Int} (h : Raw x) : ∃ X, x = X * 2 ^ 32 := by
  rcases h with rfl | ⟨neg, m, i, hm, hb, h1, h2, rfl⟩
  · exact ⟨0, rfl⟩
  · refine ⟨sgn neg (m * 2 ^ (i - 32)), ?_⟩
    rw [cast_pow2, sgn_mul, Nat.mul_assoc, ← Nat.pow_add, show i - 32 + 32 = i by omega]
theorem Raw.even {x : Int} (h : Raw x) : ∃ X, x = X * 2 := by
  obtain ⟨X, rfl⟩ := h.q
  exact ⟨X * 2 ^ 31, by rw [Int.mul_assoc]; rfl⟩
theorem Raw.neg {x : Int} (h : Raw x) : Raw (-x) := by
  rcases h with rfl | ⟨neg, m, i, hm, hb, h1, h2, rfl⟩
  · exact .inl rfl
  · exact .inr ⟨!neg, m, i, hm, hb, h1, h2, (sgn_flip _ _).symm⟩

/-- with the last name left out, and with it -/
def sp117c : Sp := fun ds Kp => sp117 ds Kp ∨ (ds.length = 4 ∧ sp117 (ds ++ [.int 0]) Kp)
theorem add4 {Γ : Nat → Sp} (h117 : ∀ ds K, sp117c ds K → Γ 117 ds K) {x y : Int} {p : Nat} {r : Md} {K : PyData → Prop} (hx : Raw x) (hy : Raw y) (hp : p ≤ 1000) (hk : K (fr (rd p r (x + y)))) : Γ 117 [fr x, fr y, .int p, .str r.s] K :=
  h117 _ _ (.inr ⟨rfl, x, y, p, r, false, hx.sm, hy.sm, hx.off hy, hp, rfl, hk⟩)
theorem sub4 {Γ : Nat → Sp} (h125 : ∀ ds K, sp125 ds K → Γ 125 ds K) {x y : Int} {p : Nat} {r : Md} {K : PyData → Prop} (hx : Raw x) (hy : Raw y) (hp : p ≤ 1000) (hk : K (fr (rd p r (x - y)))) : Γ 125 [fr x, fr y, .int p, .str r.s] K :=
  h125 _ _ ⟨x, y, p, r, hx.sm, hy.sm, hx.off hy, hp, rfl, hk⟩

variable {Γ : Nat → Sp}
def sp176 : Sp := fun ds Kp => ∃ (x1 x2 y1 y2 : Int) (p : Nat), Raw x1 ∧ Raw x2 ∧ Raw y1 ∧ Raw y2 ∧ p ≤ 1000 ∧ ds = [.tuple [fr x1, fr x2], .tuple [fr y1, fr y2], .int p] ∧ Kp (.tuple [fr (rd p .f (x1 + y1)), fr (rd p .c (x2 + y2))])
theorem v176 (h117 : ∀ ds K, sp117c ds K → Γ 117 ds K) (ds : List PyData) (Kp : PyData → Prop) (h : sp176 ds Kp) : vsL Γ b176 (start 9 (ds ++ [])) (fun _ => Kp .none) Kp := by
  obtain ⟨x1, x2, y1, y2, p, hx1, hx2, hy1, hy2, hp, rfl, hk⟩ := h
  change SE _ _ _ _ _ (.mk 0)
  unfold b176
  simp [start]
  refine add4 (r := .f) h117 hx1 hy1 hp ?_
  simp
  refine add4 (r := .c) h117 hx2 hy2 hp ?_
  simp [fr_nan]
  exact hk
def sp184 : Sp := fun ds Kp => ∃ (x1 x2 y1 y2 : Int) (p : Nat), Raw x1 ∧ Raw x2 ∧ Raw y1 ∧ Raw y2 ∧ p ≤ 1000 ∧ ds = [.tuple [fr x1, fr x2], .tuple [fr y1, fr y2], .int p] ∧ Kp (.tuple [fr (rd p .f (x1 - y2)), fr (rd p .c (x2 - y1))])
theorem v184 (h125 : ∀ ds K, sp125 ds K → Γ 125 ds K) (ds : List PyData) (Kp : PyData → Prop) (h : sp184 ds Kp) : vsL Γ b184 (start 9 (ds ++ [])) (fun _ => Kp .none) Kp := by
  obtain ⟨x1, x2, y1, y2, p, hx1, hx2, hy1, hy2, hp, rfl, hk⟩ := h
  change SE _ _ _ _ _ (.mk 0)
  unfold b184
  simp [start]
  refine sub4 (r := .f) h125 hx1 hy2 hp ?_
  simp
  refine sub4 (r := .c) h125 hx2 hy1 hp ?_
  simp [fr_nan]
  exact hk
def sp191 : Sp := fun ds Kp => ∃ (x1 x2 : Int) (p : Nat), Raw x1 ∧ Raw x2 ∧ p ≤ 1000 ∧ ds = [.tuple [fr x1, fr x2], .int p] ∧ Kp (fr (rd p .u (x2 - x1)))
theorem v191 (h125 : ∀ ds K, sp125 ds K → Γ 125 ds K) (ds : List PyData) (Kp : PyData → Prop) (h : sp191 ds Kp) : vsL Γ b191 (start 4 (ds ++ [])) (fun _ => Kp .none) Kp := by
  obtain ⟨x1, x2, p, hx1, hx2, hp, rfl, hk⟩ := h
  change SE _ _ _ _ _ (.mk 0)
  unfold b191
  simp [start]
  exact sub4 (r := .u) h125 hx2 hx1 hp hk
def sp198 : Sp := fun ds Kp => ∃ (x1 x2 z : Int) (p : Nat), Raw x1 ∧ Raw x2 ∧ p ≤ 1000 ∧ x1 + x2 = z * 2 ∧ ds = [.tuple [fr x1, fr x2], .int p] ∧ Kp (fr (rd p .n z))
theorem v198 (h117 : ∀ ds K, sp117c ds K → Γ 117 ds K) (h140 : ∀ ds K, sp140 ds K → Γ 140 ds K) (ds : List PyData) (Kp : PyData → Prop) (h : sp198 ds Kp) : vsL Γ b198 (start 4 (ds ++ [])) (fun _ => Kp .none) Kp := by
  obtain ⟨x1, x2, z, p, hx1, hx2, hp, hz, rfl, hk⟩ := h
  change SE _ _ _ _ _ (.mk 0)
  unfold b198
  simp [start]
  refine add4 (r := .n) h117 hx1 hx2 hp ?_
  have e : rd p .n (x1 + x2) = rd p .n z * 2 := by
    have := rd_mul p .n z 1
    rw [hz]; simpa using this
  rw [e]
  simp
  exact h140 _ _ ⟨_, rfl, hk⟩
def sp205 : Sp := fun ds Kp => ∃ (x1 x2 : Int) (p : Nat), Raw x1 ∧ Raw x2 ∧ ds = [.tuple [fr x1, fr x2], .int p] ∧ Kp (.tuple [fr (rd p .f x1), fr (rd p .c x2)])
theorem v205 (h94 : ∀ ds K, sp94 ds K → Γ 94 ds K) (ds : List PyData) (Kp : PyData → Prop) (h : sp205 ds Kp) : vsL Γ b205 (start 6 (ds ++ [])) (fun _ => Kp .none) Kp := by
  obtain ⟨x1, x2, p, hx1, hx2, rfl, hk⟩ := h
  change SE _ _ _ _ _ (.mk 0)
  unfold b205
  simp [start]
  refine h94 _ _ ⟨x1, p, .f, hx1.sm, rfl, ?_⟩
  simp
  refine h94 _ _ ⟨x2, p, .c, hx2.sm, rfl, ?_⟩
  simp
  exact hk
def sp213 : Sp := fun ds Kp => ∃ (x1 x2 : Int) (p : Nat), Raw x1 ∧ Raw x2 ∧ ds = [.tuple [fr x1, fr x2], .int p] ∧ Kp (.tuple [fr (rd p .f (-x2)), fr (rd p .c (-x1))])
theorem v213 (h102 : ∀ ds K, sp102 ds K → Γ 102 ds K) (ds : List PyData) (Kp : PyData → Prop) (h : sp213 ds Kp) : vsL Γ b213 (start 6 (ds ++ [])) (fun _ => Kp .none) Kp := by
  obtain ⟨x1, x2, p, hx1, hx2, rfl, hk⟩ := h
  change SE _ _ _ _ _ (.mk 0)
  unfold b213
  simp [start]
  refine h102 _ _ ⟨x2, hx2.sm, .inr ⟨p, .f, rfl, ?_⟩⟩
  simp
  refine h102 _ _ ⟨x1, hx1.sm, .inr ⟨p, .c, rfl, ?_⟩⟩
  simp
  exact hk

theorem sign_of (h109 : ∀ ds K, sp109 ds K → Γ 109 ds K) {x : Int} {K : PyData → Prop} (h : ∀ S : Int, (S = -1 ∧ x < 0) ∨ (S = 0 ∧ x = 0) ∨ (S = 1 ∧ 0 < x) → K (.int S)) : Γ 109 [fr x] K := by
  refine h109 _ _ ⟨x, rfl, h _ ?_⟩
  rcases Int.lt_trichotomy x 0 with q | q | q
  · exact .inl ⟨Int.sign_eq_neg_one_iff_neg.mpr q, q⟩
  · exact .inr (.inl ⟨by rw [q]; rfl, q⟩)
  · exact .inr (.inr ⟨Int.sign_eq_one_iff_pos.mpr q, q⟩)

/-- the least and the greatest size of a number between two -/
def absLo (x1 x2 : Int) : Int := if 0 ≤ x1 then x1 else if 0 ≤ x2 then 0 else -x2
def absHi (x1 x2 : Int) : Int := if 0 ≤ x1 then x2 else if 0 ≤ x2 then max (-x1) x2 else -x1

def sp221 : Sp := fun ds Kp => ∃ (x1 x2 : Int) (p : Nat), Raw x1 ∧ Raw x2 ∧ ds = [.tuple [fr x1, fr x2], .int p] ∧ Kp (.tuple [fr (rd p .f (absLo x1 x2)), fr (rd p .c (absHi x1 x2))])
theorem v221 (h94 : ∀ ds K, sp94 ds K → Γ 94 ds K) (h102 : ∀ ds K, sp102 ds K → Γ 102 ds K) (h109 : ∀ ds K, sp109 ds K → Γ 109 ds K) (h58 : ∀ ds K, spc (fun x y => decide (x < y)) ds K → Γ 58 ds K) (ds : List PyData) (Kp : PyData → Prop) (h : sp221 ds Kp) : vsL Γ b221 (start 9 (ds ++ [])) (fun _ => Kp .none) Kp := by
  obtain ⟨x1, x2, p, hx1, hx2, rfl, hk⟩ := h
  change SE _ _ _ _ _ (.mk 0)
  unfold b221
  simp [start]
  refine sign_of h109 fun S hS => ?_
  simp
  refine sign_of h109 fun S' hS' => ?_
  simp
  unfold absLo absHi at hk
  split
  · have hn : 0 ≤ x1 := by omega
    rw [if_pos hn, if_pos hn] at hk
    refine h94 _ _ ⟨x1, p, .f, hx1.sm, rfl, ?_⟩
    simp
    refine h94 _ _ ⟨x2, p, .c, hx2.sm, rfl, ?_⟩
    simp
    exact hk
  · have hn : ¬ 0 ≤ x1 := by omega
    rw [if_neg hn, if_neg hn] at hk
    split
    · have hn2 : 0 ≤ x2 := by omega
      rw [if_pos hn2, if_pos hn2, rd_zero, fr_z] at hk
      refine h102 _ _ ⟨x1, hx1.sm, .inl ⟨rfl, ?_⟩⟩
      simp
      refine h58 _ _ ⟨-x1, x2, hx1.neg.sm, hx2.sm, rfl, ?_⟩
      by_cases q : -x1 < x2
      · simp [q]
        refine h94 _ _ ⟨x2, p, .c, hx2.sm, rfl, ?_⟩
        rw [Int.max_eq_right (by omega)] at hk
        simp
        exact hk
      · simp [q]
        refine h94 _ _ ⟨-x1, p, .c, hx1.neg.sm, rfl, ?_⟩
        rw [Int.max_eq_left (by omega)] at hk
        simp
        exact hk
    · have hn2 : ¬ 0 ≤ x2 := by omega
      rw [if_neg hn2, if_neg hn2] at hk
      refine h102 _ _ ⟨x2, hx2.sm, .inr ⟨p, .f, rfl, ?_⟩⟩
      simp
      refine h102 _ _ ⟨x1, hx1.sm, .inr ⟨p, .c, rfl, ?_⟩⟩
      simp
      exact hk
end Mine

end
section
open PySem PySem.W PySem.Calls PyProof.Rows
set_option maxRecDepth 10000
namespace Mine
variable {Γ : Nat → Sp}

theorem mul4 (h133 : ∀ ds K, sp133 ds K → Γ 133 ds K) {x y X Y : Int} {p : Nat} {r : Md} {K : PyData → Prop} (hx : Sm x) (hy : Sm y) (ex : x = X * 2 ^ 32) (ey : y = Y * 2 ^ 32) (hk : K (fr (rd p r (X * Y)))) : Γ 133 [fr x, fr y, .int p, .str r.s] K := by
  subst ex ey
  exact h133 _ _ ⟨X, Y, hx, hy, .inr ⟨p, r, rfl, hk⟩⟩
theorem mul2 (h133 : ∀ ds K, sp133 ds K → Γ 133 ds K) {x y X Y : Int} {K : PyData → Prop} (hx : Sm x) (hy : Sm y) (ex : x = X * 2 ^ 32) (ey : y = Y * 2 ^ 32) (hk : K (fr (X * Y))) : Γ 133 [fr x, fr y] K := by
  subst ex ey
  exact h133 _ _ ⟨X, Y, hx, hy, .inl ⟨rfl, hk⟩⟩

variable {K : PyData → Prop} {dm : Dm K}
theorem fr_inf {x : Int} : cmpW .Eq (fr x) (.tuple [.int 0, .int 0, .int (-456), .int (-2)]) K dm = K (.bool false) := by
  rw [fr_t, cmp_eq4]
  have : ¬ ((bl (od x.natAbs) : Int) = -2) := by omega
  simp [this]
theorem fr_ninf {x : Int} : cmpW .Eq (fr x) (.tuple [.int 1, .int 0, .int (-789), .int (-3)]) K dm = K (.bool false) := by
  rw [fr_t, cmp_eq4]
  have : ¬ ((bl (od x.natAbs) : Int) = -3) := by omega
  simp [this]
theorem eqv_nan (x : Int) : PyData.eqv (fr x) (.tuple [.int 0, .int 0, .int (-123), .int (-1)]) = false := by
  rw [fr_t, eqv_q4]
  have : ¬ ((bl (od x.natAbs) : Int) = -1) := by omega
  simp [this]
theorem nan_in {a b c d : Int} : cmpW .In (.tuple [.int 0, .int 0, .int (-123), .int (-1)]) (.list [fr a, fr b, fr c, fr d]) K dm = K (.bool false) := by
  unfold cmpW cmpD
  have h : ∀ x, (fr x).canLay0 = true := fun x => SeqAt.canLay_of_shaped (shp_fr x)
  simp [eqv_nan, PyData.canLayAll0, h, PyData.canLay0, PyData.depth, PyData.depthAll]

/-- the least and the greatest square of a number between two, at the scale of the halves -/
def sqLo (X1 X2 : Int) : Int := if 0 ≤ X1 then X1 * X1 else if X2 ≤ 0 then X2 * X2 else 0
def sqHi (X1 X2 : Int) : Int := if 0 ≤ X1 then X2 * X2 else if X2 ≤ 0 then X1 * X1 else max (-X1) X2 * max (-X1) X2

def sp237 : Sp := fun ds Kp => ∃ (x1 x2 X1 X2 : Int) (p : Nat), Raw x1 ∧ Raw x2 ∧ x1 = X1 * 2 ^ 32 ∧ x2 = X2 * 2 ^ 32 ∧ ds = [.tuple [fr x1, fr x2], .int p] ∧ Kp (.tuple [fr (rd p .f (sqLo X1 X2)), fr (rd p .c (sqHi X1 X2))])
theorem v237 (h79 : ∀ ds K, spc (fun x y => decide (y ≤ x)) ds K → Γ 79 ds K) (h65 : ∀ ds K, spc (fun x y => decide (x ≤ y)) ds K → Γ 65 ds K) (h133 : ∀ ds K, sp133 ds K → Γ 133 ds K) (h102 : ∀ ds K, sp102 ds K → Γ 102 ds K) (h86 : ∀ ds K, sp86 ds K → Γ 86 ds K)
    (ds : List PyData) (Kp : PyData → Prop) (h : sp237 ds Kp) : vsL Γ b237 (start 6 (ds ++ [])) (fun _ => Kp .none) Kp := by
  obtain ⟨x1, x2, X1, X2, p, hx1, hx2, e1, e2, rfl, hk⟩ := h
  have hz : Sm 0 := Raw.sm (.inl rfl)
  change SE _ _ _ _ _ (.mk 0)
  unfold b237
  simp [start]
  refine h79 _ _ ⟨x1, 0, hx1.sm, hz, by rw [fr_z], ?_⟩
  unfold sqLo sqHi at hk
  by_cases q : 0 ≤ x1
  · have hn : 0 ≤ X1 := by omega
    rw [if_pos hn, if_pos hn] at hk
    simp [q]
    refine mul4 (r := .f) h133 hx1.sm hx1.sm e1 e1 ?_
    simp
    refine mul4 (r := .c) h133 hx2.sm hx2.sm e2 e2 ?_
    simp
    exact hk
  · have hn : ¬ 0 ≤ X1 := by omega
    rw [if_neg hn, if_neg hn] at hk
    simp [q]
    refine h65 _ _ ⟨x2, 0, hx2.sm, hz, by rw [fr_z], ?_⟩
    by_cases q2 : x2 ≤ 0
    · have hn : X2 ≤ 0 := by omega
      rw [if_pos hn, if_pos hn] at hk
      simp [q2]
      refine mul4 (r := .f) h133 hx2.sm hx2.sm e2 e2 ?_
      simp
      refine mul4 (r := .c) h133 hx1.sm hx1.sm e1 e1 ?_
      simp
      exact hk
    · have hn : ¬ X2 ≤ 0 := by omega
      rw [if_neg hn, if_neg hn, rd_zero, fr_z] at hk
      simp [q2]
      refine h102 _ _ ⟨x1, hx1.sm, .inl ⟨rfl, ?_⟩⟩
      simp
      refine h86 _ _ ⟨-x1, [x2], ?_, by simp, rfl, ?_⟩
      · intro y hy
        simp at hy
        rcases hy with rfl | rfl
        · exact hx1.neg.sm
        · exact hx2.sm
      have em : max (-x1) x2 = max (-X1) X2 * 2 ^ 32 := by omega
      have hm : Sm (max (-x1) x2) := by
        rcases Int.le_total (-x1) x2 with q | q
        · rw [Int.max_eq_right q]; exact hx2.sm
        · rw [Int.max_eq_left q]; exact hx1.neg.sm
      simp
      refine mul4 (r := .c) h133 hm hm em em ?_
      simp
      exact hk

theorem mono_mul (a d : Int) (hd : 0 ≤ d) : (0 ≤ a → 0 ≤ a * d) ∧ (a ≤ 0 → a * d ≤ 0) :=
  ⟨fun h => Int.mul_nonneg h hd, fun h => Int.mul_nonpos_of_nonpos_of_nonneg h hd⟩

def mulLo (X1 X2 Y1 Y2 : Int) : Int := min (min (min (X1 * Y1) (X1 * Y2)) (X2 * Y1)) (X2 * Y2)
def mulHi (X1 X2 Y1 Y2 : Int) : Int := max (max (max (X1 * Y1) (X1 * Y2)) (X2 * Y1)) (X2 * Y2)

def sp229 : Sp := fun ds Kp => ∃ (x1 x2 y1 y2 X1 X2 Y1 Y2 : Int) (p : Nat), Raw x1 ∧ Raw x2 ∧ Raw y1 ∧ Raw y2 ∧ x1 ≤ x2 ∧ y1 ≤ y2 ∧ x1 = X1 * 2 ^ 32 ∧ x2 = X2 * 2 ^ 32 ∧ y1 = Y1 * 2 ^ 32 ∧ y2 = Y2 * 2 ^ 32 ∧
  ds = [.tuple [fr x1, fr x2], .tuple [fr y1, fr y2], .int p] ∧ Kp (.tuple [fr (rd p .f (mulLo X1 X2 Y1 Y2)), fr (rd p .c (mulHi X1 X2 Y1 Y2))])
theorem sm_mul {x y X Y : Int} (hx : Raw x) (hy : Raw y) (e1 : x = X * 2 ^ 32) (e2 : y = Y * 2 ^ 32) : Sm (X * Y) := by
  have h1 := bl_le_iff.mp hx.bl
  have h2 := bl_le_iff.mp hy.bl
  have h3 : X.natAbs < 2 ^ 144 := by omega
  have h4 : Y.natAbs < 2 ^ 144 := by omega
  unfold Sm
  refine bl_le (Nat.lt_of_lt_of_le (?_ : _ < 2 ^ 144 * 2 ^ 144) (by rw [← Nat.pow_add]; exact Nat.pow_le_pow_right (by omega) (by omega)))
  rw [Int.natAbs_mul]
  exact Nat.mul_lt_mul'' h3 h4
set_option maxHeartbeats 4000000 in
theorem v229 (h109 : ∀ ds K, sp109 ds K → Γ 109 ds K) (h133 : ∀ ds K, sp133 ds K → Γ 133 ds K) (h94 : ∀ ds K, sp94 ds K → Γ 94 ds K) (h86 : ∀ ds K, sp86 ds K → Γ 86 ds K)
    (ds : List PyData) (Kp : PyData → Prop) (h : sp229 ds Kp) : vsL Γ b229 (start 14 (ds ++ [])) (fun _ => Kp .none) Kp := by
  obtain ⟨x1, x2, y1, y2, X1, X2, Y1, Y2, p, hx1, hx2, hy1, hy2, hle, hle', e1, e2, e3, e4, rfl, hk⟩ := h
  have f1 := mono_mul X1 (Y2 - Y1) (by omega)
  have f2 := mono_mul X2 (Y2 - Y1) (by omega)
  have f3 := mono_mul Y1 (X2 - X1) (by omega)
  have f4 := mono_mul Y2 (X2 - X1) (by omega)
  rw [Int.mul_sub] at f1 f2 f3 f4
  rw [Int.mul_comm Y1 X1, Int.mul_comm Y1 X2] at f3
  rw [Int.mul_comm Y2 X1, Int.mul_comm Y2 X2] at f4
  have s11 := sm_mul hx1 hy1 e1 e3
  have s12 := sm_mul hx1 hy2 e1 e4
  have s21 := sm_mul hx2 hy1 e2 e3
  have s22 := sm_mul hx2 hy2 e2 e4
  have hlt : (p : Int) = p := rfl
  have hX : X1 ≤ X2 := by omega
  have hY : Y1 ≤ Y2 := by omega
  have tab : ∀ _ : Unit,
      (0 ≤ X1 → 0 ≤ Y1 → X1 * Y1 = mulLo X1 X2 Y1 Y2 ∧ X2 * Y2 = mulHi X1 X2 Y1 Y2) ∧
      (0 ≤ X1 → Y2 ≤ 0 → X2 * Y1 = mulLo X1 X2 Y1 Y2 ∧ X1 * Y2 = mulHi X1 X2 Y1 Y2) ∧
      (0 ≤ X1 → Y1 ≤ 0 → 0 ≤ Y2 → X2 * Y1 = mulLo X1 X2 Y1 Y2 ∧ X2 * Y2 = mulHi X1 X2 Y1 Y2) ∧
      (X2 ≤ 0 → 0 ≤ Y1 → X1 * Y2 = mulLo X1 X2 Y1 Y2 ∧ X2 * Y1 = mulHi X1 X2 Y1 Y2) ∧
      (X2 ≤ 0 → Y2 ≤ 0 → X2 * Y2 = mulLo X1 X2 Y1 Y2 ∧ X1 * Y1 = mulHi X1 X2 Y1 Y2) ∧
      (X2 ≤ 0 → Y1 ≤ 0 → 0 ≤ Y2 → X1 * Y2 = mulLo X1 X2 Y1 Y2 ∧ X1 * Y1 = mulHi X1 X2 Y1 Y2) := by
    intro _
    unfold mulLo mulHi
    refine ⟨fun a b => ?_, fun a b => ?_, fun a b c => ?_, fun a b => ?_, fun a b => ?_, fun a b c => ?_⟩
    · have g1 := f1.1 a; have g2 := f2.1 (by omega); have g3 := f3.1 b; have g4 := f4.1 (by omega)
      clear f1 f2 f3 f4 s11 s12 s21 s22; constructor <;> omega
    · have g1 := f1.1 a; have g2 := f2.1 (by omega); have g3 := f3.2 (by omega); have g4 := f4.2 b
      clear f1 f2 f3 f4 s11 s12 s21 s22; constructor <;> omega
    · have g1 := f1.1 a; have g2 := f2.1 (by omega); have g3 := f3.2 b; have g4 := f4.1 c
      clear f1 f2 f3 f4 s11 s12 s21 s22; constructor <;> omega
    · have g1 := f1.2 (by omega); have g2 := f2.2 a; have g3 := f3.1 b; have g4 := f4.1 (by omega)
      clear f1 f2 f3 f4 s11 s12 s21 s22; constructor <;> omega
    · have g1 := f1.2 (by omega); have g2 := f2.2 a; have g3 := f3.2 (by omega); have g4 := f4.2 b
      clear f1 f2 f3 f4 s11 s12 s21 s22; constructor <;> omega
    · have g1 := f1.2 (by omega); have g2 := f2.2 a; have g3 := f3.2 b; have g4 := f4.1 c
      clear f1 f2 f3 f4 s11 s12 s21 s22; constructor <;> omega
  clear f1 f2 f3 f4
  have fin : ∀ a b, a = mulLo X1 X2 Y1 Y2 ∧ b = mulHi X1 X2 Y1 Y2 → Kp (.tuple [fr (rd p .f a), fr (rd p .c b)]) := by rintro _ _ ⟨rfl, rfl⟩; exact hk
  have fin0 : (X1 = 0 ∧ X2 = 0) ∨ (Y1 = 0 ∧ Y2 = 0) → Kp (.tuple [.tuple [.int 0, .int 0, .int 0, .int 0], .tuple [.int 0, .int 0, .int 0, .int 0]]) := by
    intro h
    have := fin 0 0 (by rcases h with ⟨rfl, rfl⟩ | ⟨rfl, rfl⟩ <;> simp [mulLo, mulHi])
    rwa [rd_zero, rd_zero, fr_z] at this
  have m1 := hx1.sm
  have m2 := hx2.sm
  have m3 := hy1.sm
  have m4 := hy2.sm
  change SE _ _ _ _ _ (.mk 0)
  unfold b229
  simp [start]
  refine sign_of h109 fun S1 hS1 => ?_
  simp
  refine sign_of h109 fun S2 hS2 => ?_
  simp
  refine sign_of h109 fun S3 hS3 => ?_
  simp
  refine sign_of h109 fun S4 hS4 => ?_
  have c1 : (S1 = -1 ∧ X1 < 0) ∨ (S1 = 0 ∧ X1 = 0) ∨ (S1 = 1 ∧ 0 < X1) := by omega
  have c2 : (S2 = -1 ∧ X2 < 0) ∨ (S2 = 0 ∧ X2 = 0) ∨ (S2 = 1 ∧ 0 < X2) := by omega
  have c3 : (S3 = -1 ∧ Y1 < 0) ∨ (S3 = 0 ∧ Y1 = 0) ∨ (S3 = 1 ∧ 0 < Y1) := by omega
  have c4 : (S4 = -1 ∧ Y2 < 0) ∨ (S4 = 0 ∧ Y2 = 0) ∨ (S4 = 1 ∧ 0 < Y2) := by omega
  clear hS1 hS2 hS3 hS4
  have hXY : (X1 < 0 ∧ 0 < X2) → True := fun _ => trivial
  rcases c1 with ⟨k1, d1⟩ | ⟨k1, d1⟩ | ⟨k1, d1⟩ <;> rcases c2 with ⟨k2, d2⟩ | ⟨k2, d2⟩ | ⟨k2, d2⟩ <;> first | (exfalso; omega) | skip
  all_goals (rcases c3 with ⟨k3, d3⟩ | ⟨k3, d3⟩ | ⟨k3, d3⟩ <;> rcases c4 with ⟨k4, d4⟩ | ⟨k4, d4⟩ | ⟨k4, d4⟩ <;> first | (exfalso; omega) | skip)
  all_goals simp [fr_inf, fr_ninf, k1, k2, k3, k4]
  all_goals first
    | exact fin0 (by omega)
    | (refine mul4 (r := .f) h133 (by assumption) (by assumption) (by assumption) (by assumption) ?_
       simp
       refine mul4 (r := .c) h133 (by assumption) (by assumption) (by assumption) (by assumption) ?_
       simp [fr_nan]
       first
         | exact fin _ _ ((tab ()).1 (by omega) (by omega))
         | exact fin _ _ ((tab ()).2.1 (by omega) (by omega))
         | exact fin _ _ ((tab ()).2.2.1 (by omega) (by omega) (by omega))
         | exact fin _ _ ((tab ()).2.2.2.1 (by omega) (by omega))
         | exact fin _ _ ((tab ()).2.2.2.2.1 (by omega) (by omega))
         | exact fin _ _ ((tab ()).2.2.2.2.2 (by omega) (by omega) (by omega)))
    | (refine mul2 h133 (by assumption) (by assumption) (by assumption) (by assumption) ?_
       simp
       refine mul2 h133 (by assumption) (by assumption) (by assumption) (by assumption) ?_
       simp
       refine mul2 h133 (by assumption) (by assumption) (by assumption) (by assumption) ?_
       simp
       refine mul2 h133 (by assumption) (by assumption) (by assumption) (by assumption) ?_
       simp [nan_in]
       refine h86 _ _ ⟨X1 * Y1, [X1 * Y2, X2 * Y1, X2 * Y2], ?_, by simp, rfl, ?_⟩
       · intro y hy
         simp at hy
         rcases hy with rfl | rfl | rfl | rfl <;> assumption
       have hlo : Sm (mulLo X1 X2 Y1 Y2) := by
         simp only [mulLo, Int.min_def]; repeat' split
         all_goals assumption
       have hhi : Sm (mulHi X1 X2 Y1 Y2) := by
         simp only [mulHi, Int.max_def]; repeat' split
         all_goals assumption
       have e1 : [X1 * Y2, X2 * Y1, X2 * Y2].foldl min (X1 * Y1) = mulLo X1 X2 Y1 Y2 := rfl
       have e2 : [X1 * Y2, X2 * Y1, X2 * Y2].foldl max (X1 * Y1) = mulHi X1 X2 Y1 Y2 := rfl
       rw [e1, e2]
       simp
       refine h94 _ _ ⟨_, p, .f, hlo, rfl, ?_⟩
       simp
       refine h94 _ _ ⟨_, p, .c, hhi, rfl, ?_⟩
       simp
       exact hk)
end Mine

end
section
open PySem PySem.W PySem.Calls PyProof.Rows
set_option maxRecDepth 10000
namespace Mine
variable {Γ : Nat → Sp}

theorem fmodN (a b : Nat) : (a : Int).fmod (b : Int) = ((a % b : Nat) : Int) := by
  rw [Int.fmod_eq_emod_of_nonneg _ (Int.natCast_nonneg _)]; simp
theorem fdivM (a b : Nat) : (a : Int).fdiv (b : Int) = ((a / b : Nat) : Int) := by
  rw [Int.fdiv_eq_ediv_of_nonneg _ (Int.natCast_nonneg _)]; simp

def sp244 : Sp := fun ds Kp => ∃ (ns : List Int) (k : Nat), ns.length ≤ 1000 ∧ k ≤ 100 ∧ ds = [.list (ns.map .int), .int k] ∧ ∀ r : Nat, Kp (.int r)
theorem v244 (ds : List PyData) (Kp : PyData → Prop) (h : sp244 ds Kp) : vsL Γ b244 (start 3 (ds ++ [])) (fun _ => Kp .none) Kp := by
  obtain ⟨ns, k, hl, hk, rfl, hK⟩ := h
  change SE _ _ _ _ _ (.mk 0)
  unfold b244
  have hK' : ∀ n : Int, 0 ≤ n → Kp (.int n) := fun n h => by
    have := hK n.toNat
    rwa [show ((n.toNat : Nat) : Int) = n by omega] at this
  have hfin : ∀ n : Int, n < 18446744073709551616 → IntMulOk n 6364136223846793005 ∧ IntMulOk ((k : Int) + 1) 1442695040888963407 ∧ Kp (.int ((n * 6364136223846793005 + ((k : Int) + 1) * 1442695040888963407).fmod 1569275433846670190958947355801916604025588861116008628224)) := by
    intro n _
    refine ⟨IntMulOk.of_right (by decide), IntMulOk.of_right (by decide), hK' _ (Int.fmod_nonneg_of_pos _ (by omega))⟩
  by_cases q : k < ns.length
  · have hget : ∀ K : PyData → Prop, K (.int ns[k]) → ∀ dm, itemW (ns.map .int) (k : Int) K dm := by
      intro K h dm
      unfold itemW itemD
      refine ⟨by omega, by omega, ?_⟩
      simp [List.getElem?_eq_getElem q]; exact h
    simp [start, q, hl]
    refine hget _ ?_ _
    generalize ns[k] = n
    have hb : Builtin.Int.intBits 2 = 2 := by decide
    simp [hb]
    split
    · exact hK' _ (by omega)
    · exact hfin n (by omega)
  · have hb : Builtin.Int.intBits 2 = 2 := by decide
    simp [start, q, hl, hb]
    exact (by simpa using hfin 0 (by omega))

def sp251 : Sp := fun ds Kp => ∃ r : Nat, ds = [.int r, .int 50, .int 30] ∧ ∀ x, Raw x → Kp (fr x)
theorem v251 (ds : List PyData) (Kp : PyData → Prop) (h : sp251 ds Kp) : vsL Γ b251 (start 7 (ds ++ [])) (fun _ => Kp .none) Kp := by
  obtain ⟨r, rfl, hK⟩ := h
  have fin : ∀ man : Nat, man % 2 = 1 → bl man ≤ 50 → Kp (.tuple [.int ((r % 2 : Nat) : Int), .int man, .int (((r / 16 % 61 : Nat) : Int) - 30), .int (bl man)]) := by
    intro man h1 h2
    have := hK (sgn (decide (r % 2 = 1)) (man * 2 ^ (r / 16 % 61 + 34))) (.inr ⟨_, man, _, h1, h2, by omega, by omega, rfl⟩)
    rw [← fr_of (i := r / 16 % 61 + 34) (e := ((r / 16 % 61 : Nat) : Int) - 30) h1 rfl (by omega)] at this
    have e : (if decide (r % 2 = 1) = true then 1 else 0) = ((r % 2 : Nat) : Int) := by
      by_cases q : r % 2 = 1
      · rw [if_pos (by simpa using q), q]; rfl
      · rw [if_neg (by simpa using q), show r % 2 = 0 by omega]; rfl
    rw [e] at this
    exact this
  have k0 : Kp (.tuple [.int 0, .int 0, .int 0, .int 0]) := by have := hK 0 (.inl rfl); rwa [fr_z] at this
  change SE _ _ _ _ _ (.mk 0)
  unfold b251
  have e1 : (r : Int).fdiv 2 = ((r / 2 : Nat) : Int) := fdivM r 2
  have e2 : ((r / 2 : Nat) : Int).fmod 8 = ((r / 2 % 8 : Nat) : Int) := fmodN _ 8
  have e3 : (r : Int).fdiv 16 = ((r / 16 : Nat) : Int) := fdivM r 16
  have e4 : ((r / 16 : Nat) : Int).fmod 61 = ((r / 16 % 61 : Nat) : Int) := fmodN _ 61
  have e5 : (r : Int).fdiv 65536 = ((r / 65536 : Nat) : Int) := fdivM r 65536
  have e6 : (r : Int).fmod 2 = ((r % 2 : Nat) : Int) := fmodN r 2
  generalize r / 2 % 8 = kind at *
  generalize r / 16 % 61 = ex at *
  generalize r / 65536 = m at *
  generalize r / 2 = r2 at *
  generalize r / 16 = r16 at *
  have e7 : (m : Int).fmod 50 = ((m % 50 : Nat) : Int) := fmodN m 50
  have e8 : (m : Int).fmod 49 = ((m % 49 : Nat) : Int) := fmodN m 49
  have b50 : m % 50 < 50 := by omega
  have b49 : m % 49 < 49 := by omega
  generalize m % 50 = t at *
  generalize m % 49 = t9 at *
  have t1 : ((1 : Int) + t).toNat = t + 1 := by omega
  have t2 : ((1 : Int) + t9).toNat = t9 + 1 := by omega
  obtain ⟨q, hq⟩ : ∃ q, q = m % 2 ^ (t + 1) := ⟨_, rfl⟩
  have e9 : (m : Int).fmod (2 ^ (t + 1)) = (q : Int) := by rw [hq, cast_pow2]; exact fmodN m _
  have q2 : (q : Int).fdiv 2 = ((q / 2 : Nat) : Int) := fdivM q 2
  have hqb : q < 2 ^ (t + 1) := by rw [hq]; exact Nat.mod_lt _ (Nat.two_pow_pos _)
  have h50 : 2 ^ (t + 1) ≤ 2 ^ 50 := Nat.pow_le_pow_right (by omega) (by omega)
  have h49 : 2 ^ (t9 + 1) ≤ 2 ^ 49 := Nat.pow_le_pow_right (by omega) (by omega)
  have hev : 2 ^ (t + 1) % 2 = 0 := by rw [Nat.pow_succ]; omega
  have hev9 : 2 ^ (t9 + 1) % 2 = 0 := by rw [Nat.pow_succ]; omega
  have hp1 := Nat.two_pow_pos (t + 1)
  have i2 : Builtin.Int.intBits 2 = 2 := by decide
  have hok : IntMulOk ((q / 2 : Nat) : Int) 2 := IntMulOk.of_right (by decide)
  have A : Kp (.tuple [.int ((r % 2 : Nat) : Int), .int (((q / 2 : Nat) : Int) * 2 + 1), .int ((ex : Int) - 30), .int (Builtin.Int.intBits (((q / 2 : Nat) : Int) * 2 + 1))]) := by
    have := fin (q / 2 * 2 + 1) (by omega) (bl_le (by omega))
    rw [show (((q / 2 * 2 + 1 : Nat)) : Int) = ((q / 2 : Nat) : Int) * 2 + 1 by omega] at this
    rw [intBits_bl, show (((q / 2 : Nat) : Int) * 2 + 1).natAbs = q / 2 * 2 + 1 by omega]; exact this
  have B : Kp (.tuple [.int ((r % 2 : Nat) : Int), .int 1, .int ((ex : Int) - 30), .int 1]) := fin 1 rfl (by decide)
  have C : Kp (.tuple [.int ((r % 2 : Nat) : Int), .int (2 ^ (t + 1) - 1), .int ((ex : Int) - 30), .int (Builtin.Int.intBits (2 ^ (t + 1) - 1))]) := by
    have := fin (2 ^ (t + 1) - 1) (by omega) (bl_le (by omega))
    have e : ((2 ^ (t + 1) - 1 : Nat) : Int) = 2 ^ (t + 1) - 1 := by rw [cast_pow2]; omega
    rw [e] at this
    rw [intBits_bl, ← e, Int.natAbs_natCast, e]; exact this
  have D : Kp (.tuple [.int ((r % 2 : Nat) : Int), .int (2 ^ (t9 + 1) + 1), .int ((ex : Int) - 30), .int (Builtin.Int.intBits (2 ^ (t9 + 1) + 1))]) := by
    have := fin (2 ^ (t9 + 1) + 1) (by omega) (bl_le (by omega))
    have e : ((2 ^ (t9 + 1) + 1 : Nat) : Int) = 2 ^ (t9 + 1) + 1 := by rw [cast_pow2]; omega
    rw [e] at this
    rw [intBits_bl, ← e, Int.natAbs_natCast, e]; exact this
  have w1 : (0 : Int) ≤ 1 + t := by omega
  have w2 : (2 : Int) * (1 + t) ≤ 134217728 := by omega
  have w3 : (0 : Int) ≤ 1 + t9 := by omega
  have w4 : (2 : Int) * (1 + t9) ≤ 134217728 := by omega
  have w5 : ((2 : Int) ^ (t + 1)) ≠ 0 := by rw [cast_pow2]; omega
  generalize ((q / 2 : Nat) : Int) = qq at *
  generalize ((r % 2 : Nat) : Int) = rr at *
  clear fin
  simp [start, e1, e2, e3, e4, e5, e6, i2]
  rw [e7, e8, t1, t2, e9, q2]
  refine ⟨IntMulOk.of_right (by decide), ?_⟩
  split
  · exact k0
  · refine ⟨w1, w2, w5, hok, ?_⟩
    split
    · exact B
    · split
      · exact ⟨w1, w2, C⟩
      · split
        · exact ⟨w3, w4, D⟩
        · exact A

/-- the worth of an end as the law tells it: a whole number over a power of two -/
def Wt (n : Nat) (d : PyData) (x : Int) : Prop := ∃ (v : Int) (k : Nat), d = .tuple [.int v, .int (2 ^ k)] ∧ k ≤ n ∧ v * 2 ^ 64 = x * 2 ^ k
theorem wt_le {v x : Int} {k : Nat} (hk : k ≤ 64) (h : v * 2 ^ 64 = x * 2 ^ k) : v.natAbs ≤ x.natAbs := by
  have h1 : v.natAbs * 2 ^ 64 = x.natAbs * 2 ^ k := by
    have := congrArg Int.natAbs h
    rwa [Int.natAbs_mul, Int.natAbs_mul, Int.natAbs_pow, Int.natAbs_pow] at this
  have h2 : 2 ^ k ≤ 2 ^ 64 := Nat.pow_le_pow_right (by omega) hk
  have h3 : x.natAbs * 2 ^ k ≤ x.natAbs * 2 ^ 64 := Nat.mul_le_mul_left _ h2
  rw [← h1] at h3
  exact Nat.le_of_mul_le_mul_right h3 (Nat.two_pow_pos 64)
theorem wt_bits {v x : Int} {k : Nat} (hx : Sm x) (hk : k ≤ 64) (h : v * 2 ^ 64 = x * 2 ^ k) : Builtin.Int.intBits v ≤ 1000 := by
  rw [intBits_bl]; exact Nat.le_trans (bl_mono (wt_le hk h)) hx
theorem bits_pow (k : Nat) : Builtin.Int.intBits (2 ^ k) = k + 1 := by
  rw [cast_pow2, intBits_nat, bl_pow]
theorem mok {a b : Int} (ha : Builtin.Int.intBits a ≤ 10000) (hb : Builtin.Int.intBits b ≤ 10000) : IntMulOk a b := by
  unfold IntMulOk Builtin.Int.intTooBig
  have : bitsLine = 134217728 := rfl
  simp only [Bool.and_eq_true, decide_eq_true_eq, not_and]
  intro _ hh
  omega

def sp258 : Sp := fun ds Kp => ∃ x, Raw x ∧ ds = [fr x] ∧ ∀ d, Wt 30 d x → Kp d
theorem v258 (ds : List PyData) (Kp : PyData → Prop) (h : sp258 ds Kp) : vsL Γ b258 (start 2 (ds ++ [])) (fun _ => Kp .none) Kp := by
  obtain ⟨x, hx, rfl, hK⟩ := h
  change SE _ _ _ _ _ (.mk 0)
  unfold b258
  rcases hx with rfl | ⟨neg, m, i, hm, hb, h1, h2, rfl⟩
  · rw [fr_z]
    simp [start]
    exact ⟨IntMulOk.of_left (by decide), hK _ ⟨0, 0, rfl, by omega, rfl⟩⟩
  · rw [← fr_of (neg := neg) (i := i) hm rfl rfl]
    unfold q4
    have hf : ∀ v : Int, v = sgn neg m → (64 ≤ i → Kp (.tuple [.int (v * 2 ^ (i - 64)), .int 1])) ∧ (i < 64 → Kp (.tuple [.int v, .int (2 ^ (64 - i))])) := by
      rintro v rfl
      refine ⟨fun h => hK _ ⟨_, 0, rfl, by omega, ?_⟩, fun h => hK _ ⟨_, 64 - i, rfl, by omega, ?_⟩⟩
      · rw [Int.mul_assoc, ← Int.pow_add, show i - 64 + 64 = i by omega, ← sgn_mul, ← cast_pow2]; simp
      · rw [← sgn_mul, ← cast_pow2, Int.mul_assoc, ← Int.pow_add, show i + (64 - i) = 64 by omega]
    have hn : (i : Int) - 64 = i - 64 := rfl
    have i2 : Builtin.Int.intBits 2 = 2 := by decide
    have hbm : Builtin.Int.intBits (m : Int) ≤ 10000 := by rw [intBits_nat]; omega
    have hbm' : Builtin.Int.intBits (-(m : Int)) ≤ 10000 := by rw [intBits_bl, Int.natAbs_neg, Int.natAbs_natCast]; omega
    have hbp : Builtin.Int.intBits (2 ^ (i - 64)) ≤ 10000 := by rw [bits_pow]; omega
    have ht : ((i : Int) - 64).toNat = i - 64 := by omega
    have ht' : (-((i : Int) - 64)).toNat = 64 - i := by omega
    obtain ⟨e, he⟩ : ∃ e : Int, e = (i : Int) - 64 := ⟨_, rfl⟩
    rw [← he] at ht ht' ⊢
    cases neg
    · have := hf (m : Int) rfl
      by_cases q : 64 ≤ i
      · have he0 : 0 ≤ e := by omega
        have he1 : 2 * e ≤ 134217728 := by omega
        simp [start, i2, he0, he1, ht]
        exact ⟨mok hbm hbp, this.1 q⟩
      · have he0 : ¬ 0 ≤ e := by omega
        have he1 : 2 * -e ≤ 134217728 := by omega
        have he2 : e ≤ 0 := by omega
        simp [start, i2, he0, he1, he2, ht']
        exact this.2 (by omega)
    · have := hf (-(m : Int)) rfl
      by_cases q : 64 ≤ i
      · have he0 : 0 ≤ e := by omega
        have he1 : 2 * e ≤ 134217728 := by omega
        simp [start, i2, he0, he1, ht]
        exact ⟨mok hbm' hbp, this.1 q⟩
      · have he0 : ¬ 0 ≤ e := by omega
        have he1 : 2 * -e ≤ 134217728 := by omega
        have he2 : e ≤ 0 := by omega
        simp [start, i2, he0, he1, he2, ht']
        exact this.2 (by omega)

theorem i64 : (18446744073709551616 : Int) = 2 ^ 64 := by decide
def sp279 : Sp := fun ds Kp => ∃ a b x y X Y, Wt 30 a x ∧ Wt 30 b y ∧ Sm x ∧ Sm y ∧ x = X * 2 ^ 32 ∧ y = Y * 2 ^ 32 ∧ ds = [a, b] ∧ ∀ d, Wt 60 d (X * Y) → Kp d
theorem v279 (ds : List PyData) (Kp : PyData → Prop) (h : sp279 ds Kp) : vsL Γ b279 (start 2 (ds ++ [])) (fun _ => Kp .none) Kp := by
  obtain ⟨a, b, x, y, X, Y, ⟨v, k, rfl, hk, e⟩, ⟨v', k', rfl, hk', e'⟩, hx, hy, ex, ey, rfl, hK⟩ := h
  have m1 := mok (Nat.le_trans (wt_bits hx (by omega) e) (by omega)) (Nat.le_trans (wt_bits hy (by omega) e') (by omega))
  have m2 : IntMulOk (2 ^ k) (2 ^ k') := mok (by rw [bits_pow]; omega) (by rw [bits_pow]; omega)
  change SE _ _ _ _ _ (.mk 0)
  unfold b279
  simp [start]
  refine ⟨m1, m2, hK _ ⟨v * v', k + k', by rw [Int.pow_add], by omega, ?_⟩⟩
  have h1 : v * v' * 2 ^ 64 * 2 ^ 64 = X * Y * 2 ^ (k + k') * 2 ^ 64 := by
    have : v * v' * 2 ^ 64 * 2 ^ 64 = (v * 2 ^ 64) * (v' * 2 ^ 64) := by ac_rfl
    rw [this, e, e', ex, ey, Int.pow_add]
    have : (2 : Int) ^ 64 = 2 ^ 32 * 2 ^ 32 := by decide
    rw [this]; ac_rfl
  exact Int.eq_of_mul_eq_mul_right (by decide) h1

def sp286 : Sp := fun ds Kp => ∃ a b x y, Wt 64 a x ∧ Wt 64 b y ∧ Sm x ∧ Sm y ∧ ds = [a, b] ∧ Kp (.bool (decide (x < y)))
theorem wt_lt {v v' x y : Int} {k k' : Nat} (e : v * 2 ^ 64 = x * 2 ^ k) (e' : v' * 2 ^ 64 = y * 2 ^ k') : (v * 2 ^ k' < v' * 2 ^ k) ↔ x < y := by
  have p1 : (0 : Int) < 2 ^ 64 := by decide
  have p2 : (0 : Int) < 2 ^ (k + k') := Int.pow_pos (by omega)
  have h1 : v * 2 ^ k' * 2 ^ 64 = x * 2 ^ (k + k') := by
    rw [show v * 2 ^ k' * 2 ^ 64 = (v * 2 ^ 64) * 2 ^ k' by ac_rfl, e, Int.mul_assoc, ← Int.pow_add]
  have h2 : v' * 2 ^ k * 2 ^ 64 = y * 2 ^ (k + k') := by
    rw [show v' * 2 ^ k * 2 ^ 64 = (v' * 2 ^ 64) * 2 ^ k by ac_rfl, e', Int.mul_assoc, ← Int.pow_add, Nat.add_comm k']
  rw [← Int.mul_lt_mul_right p1, h1, h2]
  exact Int.mul_lt_mul_right p2
theorem v286 (ds : List PyData) (Kp : PyData → Prop) (h : sp286 ds Kp) : vsL Γ b286 (start 2 (ds ++ [])) (fun _ => Kp .none) Kp := by
  obtain ⟨a, b, x, y, ⟨v, k, rfl, hk, e⟩, ⟨v', k', rfl, hk', e'⟩, hx, hy, rfl, hK⟩ := h
  have m1 : IntMulOk v (2 ^ k') := mok (Nat.le_trans (wt_bits hx (by omega) e) (by omega)) (by rw [bits_pow]; omega)
  have m2 : IntMulOk v' (2 ^ k) := mok (Nat.le_trans (wt_bits hy (by omega) e') (by omega)) (by rw [bits_pow]; omega)
  have hd : decide (v * 2 ^ k' < v' * 2 ^ k) = decide (x < y) := by rw [decide_eq_decide]; exact wt_lt e e'
  change SE _ _ _ _ _ (.mk 0)
  unfold b286
  simp [start, hd]
  exact ⟨m1, m2, hK⟩

def sp293 : Sp := fun ds Kp => ∃ (p0 : PyData × Int) (ps : List (PyData × Int)), (∀ p ∈ p0 :: ps, Wt 60 p.1 p.2 ∧ Sm p.2) ∧ ps.length ≤ 100 ∧ ds = [.list ((p0 :: ps).map (·.1))] ∧
  ∀ a b, a ∈ p0 :: ps → b ∈ p0 :: ps → (∀ p ∈ p0 :: ps, a.2 ≤ p.2) → (∀ p ∈ p0 :: ps, p.2 ≤ b.2) → Kp (.tuple [a.1, b.1])
theorem wt_mono {m n : Nat} {d : PyData} {x : Int} (h : m ≤ n) (w : Wt m d x) : Wt n d x := let ⟨v, k, a, b, c⟩ := w; ⟨v, k, a, Nat.le_trans b h, c⟩
theorem v293 (h286 : ∀ ds K, sp286 ds K → Γ 286 ds K) (ds : List PyData) (Kp : PyData → Prop) (h : sp293 ds Kp) : vsL Γ b293 (start 4 (ds ++ [])) (fun _ => Kp .none) Kp := by
  obtain ⟨p0, ps, hw, hl, rfl, hK⟩ := h
  have step : ∀ (f : PyData → En → (En → Prop) → Prop) (K : En → Prop) (s0 : PyData) (l : List (PyData × Int)) (a b : PyData × Int) (w : Option PyData) (D : List (PyData × Int)), (∀ p ∈ l, p ∈ p0 :: ps) → a ∈ p0 :: ps → b ∈ p0 :: ps → (∀ p ∈ D, a.2 ≤ p.2) → (∀ p ∈ D, p.2 ≤ b.2) →
      (∀ (y a b : PyData × Int) w (K' : En → Prop), y ∈ p0 :: ps → a ∈ p0 :: ps → b ∈ p0 :: ps → (∀ w', K' [some s0, some (if y.2 < a.2 then y else a).1, some (if b.2 < y.2 then y else b).1, w']) → f y.1 [some s0, some a.1, some b.1, w] K') →
      (∀ a b w', a ∈ p0 :: ps → b ∈ p0 :: ps → (∀ p ∈ D ++ l, a.2 ≤ p.2) → (∀ p ∈ D ++ l, p.2 ≤ b.2) → K [some s0, some a.1, some b.1, w']) → forD f (l.map (·.1)) [some s0, some a.1, some b.1, w] K := by
    intro f K s0 l
    induction l with
    | nil => intro a b w D _ ha hb h1 h2 _ h; exact h a b w ha hb (by simpa using h1) (by simpa using h2)
    | cons y l ih =>
      intro a b w D hl ha hb h1 h2 hf h
      have hy := hl y (by simp)
      refine hf y a b w _ hy ha hb fun w' => ?_
      refine ih (if y.2 < a.2 then y else a) (if b.2 < y.2 then y else b) w' (D ++ [y]) (fun p hp => hl p (by simp [hp])) (by split <;> assumption) (by split <;> assumption) ?_ ?_ hf ?_
      · intro p hp
        rcases List.mem_append.mp hp with hp | hp
        · have := h1 p hp; split <;> omega
        · simp at hp; subst hp; split <;> omega
      · intro p hp
        rcases List.mem_append.mp hp with hp | hp
        · have := h2 p hp; split <;> omega
        · simp at hp; subst hp; split <;> omega
      · intro a b w' ha hb h1 h2
        exact h a b w' ha hb (by simpa using h1) (by simpa using h2)
  change SE _ _ _ _ _ (.mk 0)
  unfold b293
  simp [start]
  rw [forW_list]
  refine ⟨by simp; omega, ?_⟩
  refine step _ _ _ (p0 :: ps) p0 p0 none [] (fun _ h => h) (by simp) (by simp) (by simp) (by simp) ?_ ?_
  · intro y a b w K' hy ha hb hK'
    simp
    refine h286 _ _ ⟨_, _, y.2, a.2, wt_mono (by omega) (hw y hy).1, wt_mono (by omega) (hw a ha).1, (hw y hy).2, (hw a ha).2, rfl, ?_⟩
    by_cases q1 : y.2 < a.2 <;> by_cases q2 : b.2 < y.2 <;> simp [q1]
    all_goals (refine h286 _ _ ⟨_, _, b.2, y.2, wt_mono (by omega) (hw b hb).1, wt_mono (by omega) (hw y hy).1, (hw b hb).2, (hw y hy).2, rfl, ?_⟩)
    all_goals simp [q2]
    all_goals simp only [q1, q2, if_true, if_false] at hK'
    all_goals exact hK' _
  · intro a b w' ha hb h1 h2
    simp
    exact hK a b ha hb (by simpa using h1) (by simpa using h2)

def sp265 : Sp := fun ds Kp => ∃ (v x : Int) (k p : Nat) (r : Md), k ≤ 64 ∧ v * 2 ^ 64 = x * 2 ^ k ∧ Sm x ∧ 1 ≤ p ∧ p ≤ 1000 ∧ ds = [.int v, .int (2 ^ k), .int p, .str r.s] ∧ Kp (fr (rd p r x))

def sp300 : Sp := fun ds Kp => ∃ (a b : PyData) (x y : Int) (p : Nat), Wt 64 a x ∧ Wt 64 b y ∧ bl x.natAbs ≤ 400 ∧ bl y.natAbs ≤ 400 ∧ p ≤ 400 ∧ ds = [.tuple [fr (rd p .f x), fr (rd p .c y)], a, b, .int p] ∧ Kp (.bool true)
theorem eqv_fr (x : Int) : PyData.eqv (fr x) (fr x) = true := by rw [fr_t, eqv_q4]; simp
theorem v300 (h265 : ∀ ds K, sp265 ds K → Γ 265 ds K) (ds : List PyData) (Kp : PyData → Prop) (h : sp300 ds Kp) : vsL Γ b300 (start 6 (ds ++ [])) (fun _ => Kp .none) Kp := by
  obtain ⟨a, b, x, y, p, ⟨v, k, rfl, hk, e⟩, ⟨v', k', rfl, hk', e'⟩, hx, hy, hp, rfl, hK⟩ := h
  have hq : ∃ q : Nat, (if (0 : Int) < p then (p : Int) else 400) = q ∧ 1 ≤ q ∧ q ≤ 400 ∧ (∀ r z, bl (Int.natAbs z) ≤ 400 → rd q r z = rd p r z) := by
    by_cases h : p = 0
    · refine ⟨400, by rw [if_neg (by omega)]; rfl, by omega, by omega, fun r z hz => ?_⟩
      rw [h, rd_none, rd_fits hz]
    · exact ⟨p, by rw [if_pos (by omega)], by omega, hp, fun _ _ _ => rfl⟩
  obtain ⟨q, hq, hq1, hq2, hq3⟩ := hq
  have hsh : SeqAt.shaped (.tuple [fr (rd p .f x), fr (rd p .c y)]) = true := rfl
  have heq : PyData.eqv (.tuple [fr (rd p .f x), fr (rd p .c y)]) (.tuple [fr (rd p .f x), fr (rd p .c y)]) = true := by
    simp [PyData.eqv, PyData.eqvAll, eqv_fr]
  change SE _ _ _ _ _ (.mk 0)
  unfold b300
  by_cases h0 : 0 < (p : Int)
  · rw [if_pos h0] at hq
    have hpq : p = q := by omega
    subst hpq
    simp [start, show 0 < p by omega]
    refine h265 _ _ ⟨v, x, k, p, .f, hk, e, by unfold Sm; omega, hq1, by omega, rfl, ?_⟩
    simp
    refine h265 _ _ ⟨v', y, k', p, .c, hk', e', by unfold Sm; omega, hq1, by omega, rfl, ?_⟩
    simp [cmpW, cmpD, hsh, heq]
    exact hK
  · rw [if_neg h0] at hq
    have hpq : q = 400 := by omega
    subst hpq
    simp [start, show ¬ 0 < p by omega]
    refine h265 _ _ ⟨v, x, k, 400, .f, hk, e, by unfold Sm; omega, hq1, by omega, rfl, ?_⟩
    rw [hq3 _ _ hx]
    simp
    refine h265 _ _ ⟨v', y, k', 400, .c, hk', e', by unfold Sm; omega, hq1, by omega, rfl, ?_⟩
    rw [hq3 _ _ hy]
    simp [cmpW, cmpD, hsh, heq]
    exact hK
end Mine

end
section
open PySem PySem.W PySem.Calls PyProof.Rows
set_option maxRecDepth 10000
namespace Mine
variable {Γ : Nat → Sp}

def sp272 : Sp := fun ds Kp => ∃ (ns : List Int) (k : Nat), ns.length ≤ 1000 ∧ k ≤ 50 ∧ ds = [.list (ns.map .int), .int k, .int 50, .int 30] ∧ ∀ x y, Raw x → Raw y → x ≤ y → Kp (.tuple [fr x, fr y])
theorem Raw.abs {x : Int} (h : Raw x) : Raw (if x < 0 then -x else x) := by
  split
  · exact h.neg
  · exact h
theorem fr_abs {x : Int} : fr (if x < 0 then -x else x) = .tuple [.int 0, .int (od x.natAbs), .int (if x = 0 then 0 else (tz x.natAbs : Int) - 64), .int (bl (od x.natAbs))] := by
  rw [fr_t]
  have h1 : (if x < 0 then -x else x).natAbs = x.natAbs := by split <;> simp
  have h2 : ¬ (if x < 0 then -x else x) < 0 := by split <;> omega
  have h3 : ((if x < 0 then -x else x) = 0) = (x = 0) := by apply propext; split <;> omega
  rw [h1, if_neg h2]
  simp only [h3]
theorem v272 (h244 : ∀ ds K, sp244 ds K → Γ 244 ds K) (h251 : ∀ ds K, sp251 ds K → Γ 251 ds K) (h258 : ∀ ds K, sp258 ds K → Γ 258 ds K) (ds : List PyData) (Kp : PyData → Prop) (h : sp272 ds Kp) : vsL Γ b272 (start 9 (ds ++ [])) (fun _ => Kp .none) Kp := by
  obtain ⟨ns, k, hl, hk, rfl, hK⟩ := h
  change SE _ _ _ _ _ (.mk 0)
  unfold b272
  obtain ⟨tl, htl⟩ : ∃ tl : SL, tl = (.cons (.unp [7, 8] (.tup (.cons (.call 258 (.cons (.var 5) .nil)) (.cons (.call 258 (.cons (.var 6) .nil)) .nil)))) (.cons (.ret (.ite (.cmp .LtE (.bin .Mult (.idx (.var 7) (.lit (.int 0))) (.idx (.var 8) (.lit (.int 1)))) (.bin .Mult (.idx (.var 8) (.lit (.int 0))) (.idx (.var 7) (.lit (.int 1))))) (.tup (.cons (.var 5) (.cons (.var 6) .nil))) (.tup (.cons (.var 6) (.cons (.var 5) .nil))))) .nil)) := ⟨_, rfl⟩
  rw [← htl]
  simp [start]
  refine h244 _ _ ⟨ns, k + 2, hl, by omega, rfl, fun r => ?_⟩
  simp
  refine h244 _ _ ⟨ns, k, hl, by omega, rfl, fun r1 => ?_⟩
  simp
  refine h251 _ _ ⟨r1, rfl, fun x hx => ?_⟩
  simp
  refine h244 _ _ ⟨ns, k + 1, hl, by omega, rfl, fun r2 => ?_⟩
  simp
  refine h251 _ _ ⟨r2, rfl, fun y hy => ?_⟩
  have e6 : (r : Int).fmod 6 = ((r % 6 : Nat) : Int) := fmodN r 6
  generalize r % 6 = q at *
  -- the end: the two in order
  have E : ∀ x y, Raw x → Raw y → ∀ r' : PyData, SE Γ tl
      [some (.list (ns.map .int)), some (.int k), some (.int 50), some (.int 30), some r', some (fr x), some (fr y), none, none] (fun _ => Kp .none) Kp (.mk 0) := by
    intro x y hx hy r'
    rw [htl]
    simp
    refine h258 _ _ ⟨x, hx, rfl, ?_⟩
    rintro d ⟨v, kk, rfl, hkk, e⟩
    simp
    refine h258 _ _ ⟨y, hy, rfl, ?_⟩
    rintro d ⟨v', kk', rfl, hkk', e'⟩
    have m1 : IntMulOk v (2 ^ kk') := mok (Nat.le_trans (wt_bits hx.sm (by omega) e) (by omega)) (by rw [bits_pow]; omega)
    have m2 : IntMulOk v' (2 ^ kk) := mok (Nat.le_trans (wt_bits hy.sm (by omega) e') (by omega)) (by rw [bits_pow]; omega)
    have hd : (v * 2 ^ kk' ≤ v' * 2 ^ kk) ↔ x ≤ y := by
      have := wt_lt e' e
      omega
    simp [m1, m2, hd]
    split
    · exact hK x y hx hy (by assumption)
    · exact hK y x hy hx (by omega)
  clear hK
  clear htl
  by_cases q0 : q = 0
  · subst q0
    simp [e6]
    exact E x x hx hx _
  · have q0' : ¬ ((q : Int) = 0) := by omega
    by_cases q1 : q = 1
    · subst q1
      rw [fr_t y]
      simp [e6]
      have := E 0 _ (.inl rfl) hy.abs (.int r)
      rw [fr_abs, fr_z] at this
      exact this
    · have q1' : ¬ ((q : Int) = 1) := by omega
      simp [e6, q0', q1', q0]
      exact E x y hx hy _
end Mine

end
section
open PySem PySem.W PySem.Calls PyProof.Rows
set_option maxRecDepth 10000
namespace Mine
variable {Γ : Nat → Sp}

theorem SX_whl {c : X} {u : SL} {ρ : En} {N : En → Prop} {R : PyData → Prop} {dm : Dm N} : SX Γ (.whl c u) ρ N R dm = ∃ (I : En → Prop) (μ : En → Nat), I ρ ∧ ∀ ρ', I ρ' → E2 Γ c ρ' (fun t => if t = true then SE Γ u ρ' (fun ρ'' => I ρ'' ∧ μ ρ'' < μ ρ') R (.mk 0) else N ρ') (.mk 0) := rfl

def wb1 : SL := (.cons (.aug 6 .Add (.lit (.int 1))) (.cons (.asg 9 (.ite (.cmp .Gt (.var 6) (.lit (.int 0))) (.bin .Mult (.var 1) (.bin .Pow (.lit (.int 2)) (.var 6))) (.var 1))) (.cons (.unp [7, 8] (.divmod (.ite (.cmp .Lt (.var 6) (.lit (.int 0))) (.bin .Mult (.var 5) (.bin .Pow (.lit (.int 2)) (.neg (.var 6)))) (.var 5)) (.var 9))) .nil)))
def tl3 : SL := (.cons (.whl (.cmp .Eq (.bin .Mod (.var 7) (.lit (.int 2))) (.lit (.int 0))) (.cons (.unp [7, 6] (.tup (.cons (.bin .FloorDiv (.var 7) (.lit (.int 2))) (.cons (.bin .Add (.var 6) (.lit (.int 1))) .nil)))) .nil)) (.cons (.ret (.tup (.cons (.var 4) (.cons (.var 7) (.cons (.var 6) (.cons (.bitlen (.var 7)) .nil)))))) .nil))
def tl2 (tl : SL) : SL := (.cons (.asg 10 (.or (.cmp .Eq (.var 3) (.lit (.str "u"))) (.or (.and (.cmp .Eq (.var 3) (.lit (.str "c"))) (.cmp .Eq (.var 4) (.lit (.int 0)))) (.and (.cmp .Eq (.var 3) (.lit (.str "f"))) (.cmp .Eq (.var 4) (.lit (.int 1))))))) (.cons (.ifs (.cmp .Eq (.var 3) (.lit (.str "n"))) (.cons (.asg 10 (.or (.cmp .Gt (.bin .Mult (.lit (.int 2)) (.var 8)) (.var 9)) (.and (.cmp .Eq (.bin .Mult (.lit (.int 2)) (.var 8)) (.var 9)) (.cmp .Eq (.bin .Mod (.var 7) (.lit (.int 2))) (.lit (.int 1)))))) .nil) .nil) (.cons (.ifs (.and (.var 10) (.cmp .Gt (.var 8) (.lit (.int 0)))) (.cons (.aug 7 .Add (.lit (.int 1))) .nil) .nil) tl)))
def tl1 (tl : SL) : SL := (.cons (.whl (.cmp .GtE (.var 7) (.bin .Pow (.lit (.int 2)) (.var 2))) wb1) tl)

def muW (ρ : En) : Nat := match ρ[7]? with
  | some (some (PyData.int w)) => w.toNat
  | _ => 0
def muE (E : Int) (ρ : En) : Nat := match ρ[6]? with
  | some (some (PyData.int e)) => (E - e).toNat
  | _ => 0
def Inv2 (L : Int → Int → En) (E : Int) (W0 : Nat) (ρ : En) : Prop := ∃ w t : Nat, w ≠ 0 ∧ W0 = w * 2 ^ t ∧ ρ = L (E + t) w
theorem loop2 {d0 d1 dd2 d3 d5 d8 d9 : PyData} {d10 : Option PyData} {neg : Bool} {E : Int} {W0 : Nat} {Kp : PyData → Prop} {N : En → Prop} {dm : Dm N} (h0 : W0 ≠ 0) (hk : Kp (.tuple [sgd neg, .int (od W0), .int (E + tz W0), .int (bl (od W0))])) :
    SE Γ tl3 [some d0, some d1, some dd2, some d3, some (sgd neg), some d5, some (.int E), some (.int W0), some d8, some d9, d10] N Kp dm := by
  unfold tl3
  rw [SE_cons, SX_whl]
  refine ⟨Inv2 (fun e w => [some d0, some d1, some dd2, some d3, some (sgd neg), some d5, some (.int e), some (.int w), some d8, some d9, d10]) E W0, muW, ⟨W0, 0, h0, by simp, by simp⟩, ?_⟩
  rintro ρ' ⟨w, t, hw, e, rfl⟩
  have f2 : (w : Int).fmod 2 = ((w % 2 : Nat) : Int) := fmodN w 2
  have d2 : (w : Int).fdiv 2 = ((w / 2 : Nat) : Int) := fdivM w 2
  by_cases q : w % 2 = 0
  · rw [q] at f2
    have key : Inv2 (fun e w => [some d0, some d1, some dd2, some d3, some (sgd neg), some d5, some (.int e), some (.int w), some d8, some d9, d10]) E W0 [some d0, some d1, some dd2, some d3, some (sgd neg), some d5, some (.int (E + t + 1)), some (.int ((w / 2 : Nat) : Int)), some d8, some d9, d10] := by
      refine ⟨w / 2, t + 1, by omega, ?_, ?_⟩
      · obtain ⟨u, hu⟩ : ∃ u, w = 2 * u := ⟨w / 2, by omega⟩
        rw [e, hu, Nat.pow_succ, show 2 * u / 2 = u by omega]; ac_rfl
      · simp only
        rw [show E + ((t + 1 : Nat) : Int) = E + t + 1 by omega]
    generalize hw2 : w / 2 = w2 at *
    simp [f2, d2, muW]
    exact ⟨key, by omega⟩
  · have q1 : w % 2 = 1 := by omega
    rw [q1] at f2
    obtain ⟨o1, o2⟩ := od_of q1 e
    rw [o1, o2] at hk
    simp [f2, intBits_nat]
    exact hk

theorem near2 {d0 d1 d2 d5 : PyData} {neg : Bool} {E : Int} {q c D : Nat} {r : Md} {Kp : PyData → Prop} {N : En → Prop} {dm : Dm N} {tl : SL} (hq : q < 2 ^ 1000) (hc : c < 2 ^ 9000)
    (hk : ∀ a, SE Γ tl [some d0, some d1, some d2, some (.str r.s), some (sgd neg), some d5, some (.int E), some (.int ((if (up r neg q c D && decide (0 < c)) = true then q + 1 else q : Nat) : Int)), some (.int c), some (.int D), a] N Kp dm) :
    SE Γ (tl2 tl) [some d0, some d1, some d2, some (.str r.s), some (sgd neg), some d5, some (.int E), some (.int q), some (.int c), some (.int D), none] N Kp dm := by
  unfold tl2
  have hk0 : ¬ ((up r neg q c D && decide (0 < c)) = true) → ∀ a, SE Γ tl [some d0, some d1, some d2, some (.str r.s), some (sgd neg), some d5, some (.int E), some (.int q), some (.int c), some (.int D), a] N Kp (.mk 0) := fun h a => by
    have := hk a; rwa [if_neg h] at this
  have hk1 : ((up r neg q c D && decide (0 < c)) = true) → ∀ a, SE Γ tl [some d0, some d1, some d2, some (.str r.s), some (sgd neg), some d5, some (.int E), some (.int ((q : Int) + 1)), some (.int c), some (.int D), a] N Kp (.mk 0) := fun h a => by
    have := hk a; rwa [if_pos h] at this
  clear hk
  have m2 : IntMulOk 2 (c : Int) := IntMulOk.of_left (by decide)
  have f2 : (q : Int).fmod 2 = ((q % 2 : Nat) : Int) := fmodN q 2
  obtain ⟨b, hb⟩ : ∃ b, b = q % 2 := ⟨_, rfl⟩
  rw [← hb] at f2
  by_cases h0 : 0 < c
  · have h0' : (0 : Int) < c := by omega
    cases r with
    | n =>
      simp [Md.s, m2, f2, h0]
      simp [up, h0, ← hb] at hk0 hk1
      by_cases a1 : (D : Int) < 2 * c
      · simp [a1, h0]
        exact hk1 (.inl (by omega)) _
      · by_cases a2 : 2 * (c : Int) = D
        · by_cases a3 : b = 1
          · have a3' : (b : Int) = 1 := by omega
            simp [a1, a2, a3', h0]
            exact hk1 (.inr ⟨by omega, a3⟩) _
          · have a3' : ¬ (b : Int) = 1 := by omega
            simp [a1, a2, a3', h0]
            exact hk0 (by omega) (fun _ => a3) _
        · simp [a1, a2, h0]
          exact hk0 (by omega) (fun h => absurd h (by omega)) _
    | _ =>
      cases neg <;> simp [Md.s, sgd, h0] <;> simp [up, h0, Md.s, sgd] at hk0 hk1 <;> first | exact hk0 _ | exact hk1 _
  · have h0' : ¬ (0 : Int) < c := by omega
    cases r with
    | n =>
      simp [Md.s, m2, f2, h0]
      simp [h0, Md.s] at hk0
      by_cases a1 : (D : Int) < 2 * c
      · simp [a1, h0]; exact hk0 _
      · by_cases a2 : 2 * (c : Int) = D
        · by_cases a3 : (b : Int) = 1
          · simp [a1, a2, a3, h0]; exact hk0 _
          · simp [a1, a2, a3, h0]; exact hk0 _
        · simp [a1, a2, h0]; exact hk0 _
    | _ =>
      cases neg <;> simp [Md.s, sgd, h0] <;> simp [h0, Md.s, sgd] at hk0 <;> exact hk0 _

theorem body1 {v : Int} {M k p : Nat} {r sg w7 w8 w9 : PyData} {d10 : Option PyData} {R : PyData → Prop} {N : En → Prop} {dm : Dm N} {e e' : Int} (he : e' = e - 1) (hM : bl M ≤ 1000) (hk : k ≤ 64) (h1 : e ≤ 5000) (h2 : -5000 ≤ e)
    (hN : N [some (.int v), some (.int (2 ^ k)), some (.int p), some r, some sg, some (.int M), some (.int e), some (.int ((M * 2 ^ (-e).toNat / (2 ^ k * 2 ^ e.toNat) : Nat) : Int)), some (.int ((M * 2 ^ (-e).toNat % (2 ^ k * 2 ^ e.toNat) : Nat) : Int)), some (.int ((2 ^ k * 2 ^ e.toNat : Nat) : Int)), d10]) :
    SE Γ wb1 [some (.int v), some (.int (2 ^ k)), some (.int p), some r, some sg, some (.int M), some (.int e'), some w7, some w8, some w9, d10] N R dm := by
  subst he
  unfold wb1
  have i2 : Builtin.Int.intBits 2 = 2 := by decide
  obtain ⟨D, hD⟩ : ∃ D : Nat, D = 2 ^ k * 2 ^ e.toNat := ⟨_, rfl⟩
  obtain ⟨A, hA⟩ : ∃ A : Nat, A = M * 2 ^ (-e).toNat := ⟨_, rfl⟩
  rw [← hD, ← hA] at hN
  have hD0 : D ≠ 0 := by rw [hD]; exact Nat.ne_of_gt (Nat.mul_pos (Nat.two_pow_pos _) (Nat.two_pow_pos _))
  have hpy : ∀ a : Int, Builtin.divisionGoesByPylong a (D : Int) = false := fun a => by
    apply PyProof.noPylong_of_log2
    rw [Int.natAbs_natCast, hD, ← Nat.pow_add, Nat.log2_two_pow]; omega
  have m1 : IntMulOk (2 ^ k) (2 ^ e.toNat) := mok (by rw [bits_pow]; omega) (by rw [bits_pow]; omega)
  have m2 : IntMulOk (M : Int) (2 ^ (-e).toNat) := mok (by rw [intBits_nat]; omega) (by rw [bits_pow]; omega)
  have fd : (A : Int).fdiv D = ((A / D : Nat) : Int) := fdivM A D
  have fm : (A : Int).fmod D = ((A % D : Nat) : Int) := fmodN A D
  have eD : (2 : Int) ^ k * 2 ^ e.toNat = D := by rw [hD]; push_cast; rfl
  have eA : (M : Int) * 2 ^ (-e).toNat = A := by rw [hA]; push_cast; rfl
  have s1 : e - 1 + 1 = e := by omega
  rcases Int.lt_trichotomy e 0 with q | q | q
  · have q1 : ¬ 0 < e := by omega
    have q2 : 2 * -e ≤ 134217728 := by omega
    have q3 : e ≤ 0 := by omega
    have eD' : (2 : Int) ^ k = D := by rw [← eD, show e.toNat = 0 by omega]; simp
    simp only [eD'] at hN ⊢
    simp [s1, q1, q, q2, q3, i2, m2, eA, hD0, hpy, fd, fm, -Int.natCast_ediv, -Int.natCast_emod]
    exact hN
  · subst q
    have eD' : (2 : Int) ^ k = D := by rw [← eD]; simp
    have eA' : (M : Int) = A := by rw [← eA]; simp
    simp only [eD', eA'] at hN ⊢
    simp [i2, hD0, hpy, fd, fm, -Int.natCast_ediv, -Int.natCast_emod]
    exact hN
  · have q1 : ¬ e < 0 := by omega
    have q2 : 2 * e ≤ 134217728 := by omega
    have q3 : 0 ≤ e := by omega
    have eA' : (M : Int) = A := by rw [← eA, show (-e).toNat = 0 by omega]; simp
    simp only [eA'] at hN ⊢
    simp [s1, q1, q, q2, q3, i2, m1, eD, hD0, hpy, fd, fm, -Int.natCast_ediv, -Int.natCast_emod]
    exact hN
end Mine

end
section
open PySem PySem.W PySem.Calls PyProof.Rows
set_option maxRecDepth 10000
namespace Mine
variable {Γ : Nat → Sp}

theorem upq_ne {r : Md} {neg : Bool} {a b : Nat} (h : a / b ≠ 0) : upq r neg a b ≠ 0 := by
  unfold upq; generalize a / b = q at *; split <;> omega

/-- the rounding that the law does is the library's -/
theorem fin265 {neg : Bool} {M k p : Nat} {r : Md} {x E : Int} (hM : M ≠ 0) (hk : k ≤ 64) (hx : x = sgn neg (M * 2 ^ (64 - k))) (hE : E = (bl M : Int) - k - p) (hp : 1 ≤ p) :
    PyData.tuple [sgd neg, .int (od (upq r neg (M * 2 ^ (-E).toNat) (2 ^ k * 2 ^ E.toNat))), .int (E + tz (upq r neg (M * 2 ^ (-E).toNat) (2 ^ k * 2 ^ E.toNat))), .int (bl (od (upq r neg (M * 2 ^ (-E).toNat) (2 ^ k * 2 ^ E.toNat))))] = fr (rd p r x) := by
  obtain ⟨a, ha⟩ : ∃ a, a = (-E).toNat := ⟨_, rfl⟩
  obtain ⟨b, hb⟩ : ∃ b, b = E.toNat := ⟨_, rfl⟩
  rw [← ha, ← hb]
  have hX0 : M * 2 ^ (64 - k) ≠ 0 := Nat.ne_of_gt (Nat.mul_pos (by omega) (Nat.two_pow_pos _))
  have hbx : bl (M * 2 ^ (64 - k)) = bl M + (64 - k) := bl_mul _ hM
  by_cases q : bl (M * 2 ^ (64 - k)) ≤ p
  · have hb0 : b = 0 := by omega
    have hW : upq r neg (M * 2 ^ a) (2 ^ k * 2 ^ b) = M * 2 ^ (64 - k) * 2 ^ (a - 64) := by
      have e1 : M * 2 ^ a = (M * 2 ^ (64 - k) * 2 ^ (a - 64)) * 2 ^ k := by
        rw [Nat.mul_assoc, Nat.mul_assoc, ← Nat.pow_add, ← Nat.pow_add]; congr 2; omega
      rw [hb0, e1, Nat.pow_zero, Nat.mul_one, upq_exact _ _ _ _ (Nat.two_pow_pos k)]
    rw [hW, od_mul, tz_mul _ hX0]
    have hr : rd p r x = x := by rw [hx, rd_fits (by rw [sgn_natAbs]; exact q)]
    rw [hr]
    exact fr_of (i := tz (M * 2 ^ (64 - k))) (od_odd hX0) (by rw [hx, ← od_tz]) (by omega)
  · obtain ⟨n, hn⟩ : ∃ n, n = bl (M * 2 ^ (64 - k)) - p := ⟨_, rfl⟩
    have hW : upq r neg (M * 2 ^ a) (2 ^ k * 2 ^ b) = upq r neg (M * 2 ^ (64 - k)) (2 ^ n) := by
      rw [← upq_scale r neg (M * 2 ^ a) (2 ^ k * 2 ^ b) (2 ^ (64 - k)) (Nat.two_pow_pos _), ← upq_scale r neg (M * 2 ^ (64 - k)) (2 ^ n) (2 ^ a) (Nat.two_pow_pos _)]
      congr 1
      · rw [Nat.mul_assoc, Nat.mul_assoc, Nat.mul_comm (2 ^ a)]
      · rw [← Nat.pow_add, ← Nat.pow_add, ← Nat.pow_add]; congr 1; omega
    rw [hW]
    have h1 : 2 ^ n ≤ M * 2 ^ (64 - k) := Nat.le_trans (Nat.pow_le_pow_right (by omega) (by omega)) (bl_ge hX0)
    have h2 : upq r neg (M * 2 ^ (64 - k)) (2 ^ n) ≠ 0 := by have := upq_pos (r := r) (neg := neg) h1; omega
    have hr : rd p r x = sgn neg (upq r neg (M * 2 ^ (64 - k)) (2 ^ n) * 2 ^ n) := by
      rw [hx, rd_sgn (by omega), ← hn]
    rw [hr]
    generalize upq r neg (M * 2 ^ (64 - k)) (2 ^ n) = W at *
    exact fr_of (i := tz W + n) (od_odd h2) (by rw [Nat.pow_add, ← Nat.mul_assoc, ← od_tz]) (by omega)

def Inv1 (a b c ρ : En) : Prop := ρ = a ∨ ρ = b ∨ ρ = c

theorem loop1 {v : Int} {M k p : Nat} {r : Md} {neg : Bool} {x E e0 : Int} {Kp : PyData → Prop} {N : En → Prop} {dm : Dm N} (hM : M ≠ 0) (hMb : bl M ≤ 1000) (hk : k ≤ 64) (hx : x = sgn neg (M * 2 ^ (64 - k))) (hE : E = (bl M : Int) - k - p) (he0 : e0 = E - 2) (hp : 1 ≤ p) (hp1 : p ≤ 1000) (hK : Kp (fr (rd p r x))) :
    SE Γ (tl1 (tl2 tl3)) [some (.int v), some (.int (2 ^ k)), some (.int p), some (.str r.s), some (sgd neg), some (.int M), some (.int e0), some (.int (2 ^ p)), some (.int 0), some (.int 1), none] N Kp dm := by
  subst he0
  unfold tl1
  rw [SE_cons, SX_whl]
  have i2 : Builtin.Int.intBits 2 = 2 := by decide
  have hp2 : (2 : Int) * p ≤ 134217728 := by omega
  have hM1 := bl_ge hM
  have hM2 := bl_lt M
  have hM3 := bl_pos hM
  have big : (2 : Int) ^ p ≤ ((M * 2 ^ (-(E - 1)).toNat / (2 ^ k * 2 ^ (E - 1).toNat) : Nat) : Int) := by
    rw [cast_pow2]
    have : 2 ^ p ≤ M * 2 ^ (-(E - 1)).toNat / (2 ^ k * 2 ^ (E - 1).toNat) := by
      rw [Nat.le_div_iff_mul_le (Nat.mul_pos (Nat.two_pow_pos _) (Nat.two_pow_pos _))]
      refine Nat.le_trans ?_ (Nat.mul_le_mul_right _ hM1)
      rw [← Nat.pow_add, ← Nat.pow_add, ← Nat.pow_add]
      exact Nat.pow_le_pow_right (by omega) (by omega)
    omega
  have small : M * 2 ^ (-E).toNat / (2 ^ k * 2 ^ E.toNat) < 2 ^ p := by
    rw [Nat.div_lt_iff_lt_mul (Nat.mul_pos (Nat.two_pow_pos _) (Nat.two_pow_pos _))]
    refine Nat.lt_of_lt_of_le (Nat.mul_lt_mul_of_pos_right hM2 (Nat.two_pow_pos _)) ?_
    rw [← Nat.pow_add, ← Nat.pow_add, ← Nat.pow_add]
    exact Nat.pow_le_pow_right (by omega) (by omega)
  have notz : M * 2 ^ (-E).toNat / (2 ^ k * 2 ^ E.toNat) ≠ 0 := by
    have : 2 ^ (p - 1) ≤ M * 2 ^ (-E).toNat / (2 ^ k * 2 ^ E.toNat) := by
      rw [Nat.le_div_iff_mul_le (Nat.mul_pos (Nat.two_pow_pos _) (Nat.two_pow_pos _))]
      refine Nat.le_trans ?_ (Nat.mul_le_mul_right _ hM1)
      rw [← Nat.pow_add, ← Nat.pow_add, ← Nat.pow_add]
      exact Nat.pow_le_pow_right (by omega) (by omega)
    have := Nat.two_pow_pos (p - 1)
    omega
  have cb : M * 2 ^ (-E).toNat % (2 ^ k * 2 ^ E.toNat) < 2 ^ 9000 := by
    refine Nat.lt_of_lt_of_le (Nat.mod_lt _ (Nat.mul_pos (Nat.two_pow_pos _) (Nat.two_pow_pos _))) ?_
    rw [← Nat.pow_add]
    exact Nat.pow_le_pow_right (by omega) (by omega)
  have qb : M * 2 ^ (-E).toNat / (2 ^ k * 2 ^ E.toNat) < 2 ^ 1000 := Nat.lt_of_lt_of_le small (Nat.pow_le_pow_right (by omega) hp1)
  refine ⟨Inv1 [some (.int v), some (.int (2 ^ k)), some (.int p), some (.str r.s), some (sgd neg), some (.int M), some (.int (E - 2)), some (.int (2 ^ p)), some (.int 0), some (.int 1), none]
    [some (.int v), some (.int (2 ^ k)), some (.int p), some (.str r.s), some (sgd neg), some (.int M), some (.int (E - 1)), some (.int ((M * 2 ^ (-(E - 1)).toNat / (2 ^ k * 2 ^ (E - 1).toNat) : Nat) : Int)), some (.int ((M * 2 ^ (-(E - 1)).toNat % (2 ^ k * 2 ^ (E - 1).toNat) : Nat) : Int)), some (.int ((2 ^ k * 2 ^ (E - 1).toNat : Nat) : Int)), none]
    [some (.int v), some (.int (2 ^ k)), some (.int p), some (.str r.s), some (sgd neg), some (.int M), some (.int E), some (.int ((M * 2 ^ (-E).toNat / (2 ^ k * 2 ^ E.toNat) : Nat) : Int)), some (.int ((M * 2 ^ (-E).toNat % (2 ^ k * 2 ^ E.toNat) : Nat) : Int)), some (.int ((2 ^ k * 2 ^ E.toNat : Nat) : Int)), none], muE E, .inl rfl, ?_⟩
  rintro ρ' (rfl | rfl | rfl)
  · simp [i2, hp2, -Int.natCast_ediv, -Int.natCast_emod, -Int.natCast_mul, -Int.natCast_pow]
    refine body1 (e := E - 1) (by omega) hMb hk (by omega) (by omega) ⟨.inr (.inl rfl), ?_⟩
    show (E - (E - 1)).toNat < (E - (E - 2)).toNat
    omega
  · generalize hq : M * 2 ^ (-(E - 1)).toNat / (2 ^ k * 2 ^ (E - 1).toNat) = q at big
    have hb' : ((2 : Int) ^ p ≤ (q : Int)) = True := eq_true big
    simp [i2, hp2, hb', -Int.natCast_ediv, -Int.natCast_emod, -Int.natCast_mul, -Int.natCast_pow]
    refine body1 (e := E) rfl hMb hk (by omega) (by omega) ⟨.inr (.inr rfl), ?_⟩
    show (E - E).toNat < (E - (E - 1)).toNat
    omega
  · have hfin := fin265 (r := r) hM hk hx hE hp
    rw [← hfin] at hK
    have hne := upq_ne (r := r) (neg := neg) notz
    have n2 := near2 (Γ := Γ) (d0 := .int v) (d1 := .int (2 ^ k)) (d2 := .int p) (d5 := .int M) (neg := neg) (E := E) (r := r) (Kp := Kp) (N := N) (dm := .mk 0) (tl := tl3) (D := 2 ^ k * 2 ^ E.toNat) qb cb (fun a => loop2 hne hK)
    generalize M * 2 ^ (-E).toNat / (2 ^ k * 2 ^ E.toNat) = q at *
    have hb' : ((2 : Int) ^ p ≤ (q : Int)) = False := by
      apply eq_false
      rw [cast_pow2]; omega
    generalize M * 2 ^ (-E).toNat % (2 ^ k * 2 ^ E.toNat) = c at *
    generalize 2 ^ k * 2 ^ E.toNat = D at *
    simp [i2, hp2, hb']
    exact n2

theorem v265 (ds : List PyData) (Kp : PyData → Prop) (h : sp265 ds Kp) : vsL Γ b265 (start 11 (ds ++ [])) (fun _ => Kp .none) Kp := by
  obtain ⟨v, x, k, p, r, hk, e, hx, hp, hp1, rfl, hK⟩ := h
  have hvx := wt_le hk e
  have hvb : bl v.natAbs ≤ 1000 := Nat.le_trans (bl_mono hvx) hx
  change SE Γ (.cons (.ifs (.cmp .Eq (.var 0) (.lit (.int 0))) (.cons (.ret (.tup (.cons (.lit (.int 0)) (.cons (.lit (.int 0)) (.cons (.lit (.int 0)) (.cons (.lit (.int 0)) .nil)))))) .nil) .nil) (.cons (.unp [4, 5] (.ite (.cmp .Lt (.var 0) (.lit (.int 0))) (.tup (.cons (.lit (.int 1)) (.cons (.neg (.var 0)) .nil))) (.tup (.cons (.lit (.int 0)) (.cons (.var 0) .nil))))) (.cons (.asg 6 (.bin .Sub (.bin .Sub (.bin .Sub (.bitlen (.var 5)) (.bitlen (.var 1))) (.var 2)) (.lit (.int 1)))) (.cons (.unp [7, 8, 9] (.tup (.cons (.bin .Pow (.lit (.int 2)) (.var 2)) (.cons (.lit (.int 0)) (.cons (.lit (.int 1)) .nil))))) (tl1 (tl2 tl3)))))) _ _ _ (.mk 0)
  have i2 : Builtin.Int.intBits 2 = 2 := by decide
  have hp2 : (2 : Int) * p ≤ 134217728 := by omega
  have hb1 := bits_pow k
  by_cases h0 : v = 0
  · subst h0
    have hx0 : x = 0 := by
      rw [Int.zero_mul] at e
      rcases Int.mul_eq_zero.mp e.symm with h | h
      · exact h
      · exact absurd h (Int.ne_of_gt (Int.pow_pos (by omega)))
    subst hx0
    rw [rd_zero, fr_z] at hK
    generalize tl1 (tl2 tl3) = T
    simp [start]
    exact hK
  · obtain ⟨M, hMv⟩ : ∃ M, M = v.natAbs := ⟨_, rfl⟩
    rw [← hMv] at hvb
    have hxs : ∀ neg, v = sgn neg M → x = sgn neg (M * 2 ^ (64 - k)) := by
      intro neg hv
      have h1 : x * 2 ^ k = sgn neg (M * 2 ^ (64 - k)) * 2 ^ k := by
        rw [← e, hv, cast_pow2, cast_pow2, sgn_mul, sgn_mul, Nat.mul_assoc, ← Nat.pow_add, show 64 - k + k = 64 by omega]
      exact Int.eq_of_mul_eq_mul_right (Int.ne_of_gt (Int.pow_pos (by omega))) h1
    have L := fun (neg : Bool) (hv : v = sgn neg M) (e0 : Int) (he : e0 = (bl M : Int) - k - p - 2) => loop1 (Γ := Γ) (v := v) (N := fun _ => Kp .none) (dm := .mk 0) (by omega) hvb hk (hxs neg hv) rfl he hp hp1 hK
    generalize tl1 (tl2 tl3) = T at *
    by_cases hneg : v < 0
    · have hv : v = -(M : Int) := by omega
      have l := L true hv
      have em : -v = (M : Int) := by omega
      simp [start, h0, hneg, em, intBits_nat, hb1, i2, hp2]
      exact l _ (by omega)
    · have hv : v = (M : Int) := by omega
      have l := L false hv
      have ib : Builtin.Int.intBits v = bl M := by rw [hv, intBits_nat]
      simp [start, h0, hneg, ib, hb1, i2, hp2]
      rw [hv] at l ⊢
      exact l _ (by omega)
end Mine

end
section
open PySem PySem.W PySem.Calls PyProof.Rows
set_option maxRecDepth 10000
namespace Mine
variable {Γ : Nat → Sp}

theorem wt_add {v u x y : Int} {k l : Nat} (e : v * 2 ^ 64 = x * 2 ^ k) (e' : u * 2 ^ 64 = y * 2 ^ l) (h : k + l ≤ 64) : Wt 64 (.tuple [.int (v * 2 ^ l + u * 2 ^ k), .int (2 ^ k * 2 ^ l)]) (x + y) := by
  refine ⟨_, k + l, by rw [Int.pow_add], h, ?_⟩
  rw [Int.add_mul, Int.add_mul, show v * 2 ^ l * 2 ^ 64 = (v * 2 ^ 64) * 2 ^ l by ac_rfl, show u * 2 ^ k * 2 ^ 64 = (u * 2 ^ 64) * 2 ^ k by ac_rfl, e, e', Int.mul_assoc, Int.mul_assoc, ← Int.pow_add, ← Int.pow_add, Nat.add_comm l k]
theorem wt_sub {v u x y : Int} {k l : Nat} (e : v * 2 ^ 64 = x * 2 ^ k) (e' : u * 2 ^ 64 = y * 2 ^ l) (h : k + l ≤ 64) : Wt 64 (.tuple [.int (v * 2 ^ l - u * 2 ^ k), .int (2 ^ l * 2 ^ k)]) (x - y) := by
  refine ⟨_, l + k, by rw [Int.pow_add], by omega, ?_⟩
  rw [Int.sub_mul, Int.sub_mul, show v * 2 ^ l * 2 ^ 64 = (v * 2 ^ 64) * 2 ^ l by ac_rfl, show u * 2 ^ k * 2 ^ 64 = (u * 2 ^ 64) * 2 ^ k by ac_rfl, e, e', Int.mul_assoc, Int.mul_assoc, ← Int.pow_add, ← Int.pow_add, Nat.add_comm l k]
theorem wt_neg {u y : Int} {l : Nat} (e : u * 2 ^ 64 = y * 2 ^ l) : (-u) * 2 ^ 64 = (-y) * 2 ^ l := by rw [Int.neg_mul, Int.neg_mul, e]
theorem wt_sgn {v x : Int} {k : Nat} (e : v * 2 ^ 64 = x * 2 ^ k) : (v ≤ 0 ↔ x ≤ 0) ∧ (0 ≤ v ↔ 0 ≤ x) ∧ (v < 0 ↔ x < 0) := by
  have h1 := wt_lt (v := v) (v' := 0) (x := x) (y := 0) (k := k) (k' := 0) e (by simp)
  have h2 := wt_lt (v' := v) (v := 0) (y := x) (x := 0) (k' := k) (k := 0) (by simp) e
  have p1 : (0 : Int) < 2 ^ k := Int.pow_pos (by omega)
  simp at h1 h2
  omega
theorem wt_abs {v x : Int} {k : Nat} (e : v * 2 ^ 64 = x * 2 ^ k) : (if v < 0 then -v else v) * 2 ^ 64 = (if x < 0 then -x else x) * 2 ^ k := by
  have h := (wt_sgn e).2.2
  by_cases q : x < 0
  · rw [if_pos q, if_pos (h.mpr q)]; exact wt_neg e
  · rw [if_neg q, if_neg (fun z => q (h.mp z))]; exact e

def sp312 : Sp := fun ds Kp => ∃ (x1 x2 y1 y2 : Int) (a1 a2 b1 b2 : PyData), Raw x1 ∧ Raw x2 ∧ Raw y1 ∧ Raw y2 ∧ x1 ≤ x2 ∧ y1 ≤ y2 ∧ Wt 30 a1 x1 ∧ Wt 30 a2 x2 ∧ Wt 30 b1 y1 ∧ Wt 30 b2 y2 ∧
  ds = [.tuple [fr x1, fr x2], .tuple [fr y1, fr y2], .list [a1, a2], .list [b1, b2]] ∧ Kp (.bool true)

theorem eq4lo {a b c d m : Int} (h : m = a ∨ m = b ∨ m = c ∨ m = d) (h1 : m ≤ a) (h2 : m ≤ b) (h3 : m ≤ c) (h4 : m ≤ d) : min (min (min a b) c) d = m := by omega
theorem eq4hi {a b c d m : Int} (h : m = a ∨ m = b ∨ m = c ∨ m = d) (h1 : a ≤ m) (h2 : b ≤ m) (h3 : c ≤ m) (h4 : d ≤ m) : max (max (max a b) c) d = m := by omega
theorem mulLo_comm (X1 X2 Y1 Y2 : Int) : mulLo Y1 Y2 X1 X2 = mulLo X1 X2 Y1 Y2 := by
  unfold mulLo; rw [Int.mul_comm Y1 X1, Int.mul_comm Y1 X2, Int.mul_comm Y2 X1, Int.mul_comm Y2 X2]; omega
theorem mulHi_comm (X1 X2 Y1 Y2 : Int) : mulHi Y1 Y2 X1 X2 = mulHi X1 X2 Y1 Y2 := by
  unfold mulHi; rw [Int.mul_comm Y1 X1, Int.mul_comm Y1 X2, Int.mul_comm Y2 X1, Int.mul_comm Y2 X2]; omega

variable {K : PyData → Prop} {dm : Dm K}
theorem ne_fr {x : Int} : cmpW .NotEq (fr x) (fr x) K dm = K (.bool false) := by
  simp [cmpW, cmpD, eqv_fr, shp_fr]

theorem raw_sum {x y : Int} (hx : Raw x) (hy : Raw y) : bl (x + y).natAbs ≤ 400 ∧ bl (x - y).natAbs ≤ 400 := by
  have h1 := bl_le_iff.mp hx.bl
  have h2 := bl_le_iff.mp hy.bl
  constructor <;> (refine bl_le (Nat.lt_of_lt_of_le (m := 2 ^ 145) (by omega) (Nat.pow_le_pow_right (by omega) (by omega))))
theorem raw_mul {x y X Y : Int} (hx : Raw x) (hy : Raw y) (e1 : x = X * 2 ^ 32) (e2 : y = Y * 2 ^ 32) : bl (X * Y).natAbs ≤ 400 := by
  have h1 := bl_le_iff.mp hx.bl
  have h2 := bl_le_iff.mp hy.bl
  have h3 : X.natAbs < 2 ^ 144 := by omega
  have h4 : Y.natAbs < 2 ^ 144 := by omega
  refine bl_le (Nat.lt_of_lt_of_le (?_ : _ < 2 ^ 144 * 2 ^ 144) (by rw [← Nat.pow_add]; exact Nat.pow_le_pow_right (by omega) (by omega)))
  rw [Int.natAbs_mul]
  exact Nat.mul_lt_mul'' h3 h4

def sp317 : Sp := fun ds Kp => ∃ ns : List Int, ns.length ≤ 1000 ∧ ds = [.list (ns.map .int)] ∧ Kp (.bool true)
theorem v317 (h244 : ∀ ds K, sp244 ds K → Γ 244 ds K) (h272 : ∀ ds K, sp272 ds K → Γ 272 ds K) (h258 : ∀ ds K, sp258 ds K → Γ 258 ds K) (h176 : ∀ ds K, sp176 ds K → Γ 176 ds K) (h184 : ∀ ds K, sp184 ds K → Γ 184 ds K) (h300 : ∀ ds K, sp300 ds K → Γ 300 ds K)
    (h279 : ∀ ds K, sp279 ds K → Γ 279 ds K) (h293 : ∀ ds K, sp293 ds K → Γ 293 ds K) (h229 : ∀ ds K, sp229 ds K → Γ 229 ds K) (h221 : ∀ ds K, sp221 ds K → Γ 221 ds K) (h237 : ∀ ds K, sp237 ds K → Γ 237 ds K) (h213 : ∀ ds K, sp213 ds K → Γ 213 ds K) (h205 : ∀ ds K, sp205 ds K → Γ 205 ds K)
    (h198 : ∀ ds K, sp198 ds K → Γ 198 ds K) (h191 : ∀ ds K, sp191 ds K → Γ 191 ds K) (h265 : ∀ ds K, sp265 ds K → Γ 265 ds K) (h312 : ∀ ds K, sp312 ds K → Γ 312 ds K)
    (ds : List PyData) (Kp : PyData → Prop) (h : sp317 ds Kp) : vsL Γ b317 (start 15 (ds ++ [])) (fun _ => Kp .none) Kp := by
  obtain ⟨ns, hl, rfl, hK⟩ := h
  change SE _ _ _ _ _ (.mk 0)
  unfold b317
  simp [start]
  refine h244 _ _ ⟨ns, 0, hl, by omega, rfl, fun r0 => ?_⟩
  have e0 : (r0 : Int).fmod 91 = ((r0 % 91 : Nat) : Int) := fmodN r0 91
  have hp : r0 % 91 ≤ 90 := by omega
  generalize r0 % 91 = p at *
  simp [e0]
  refine h272 _ _ ⟨ns, 1, hl, by omega, rfl, fun x1 x2 hx1 hx2 hx => ?_⟩
  simp [e0]
  refine h272 _ _ ⟨ns, 4, hl, by omega, rfl, fun y1 y2 hy1 hy2 hy => ?_⟩
  simp [e0]
  refine h258 _ _ ⟨x1, hx1, rfl, ?_⟩
  rintro _ ⟨v1, k1, rfl, hk1, ev1⟩
  simp [e0]
  refine h258 _ _ ⟨x2, hx2, rfl, ?_⟩
  rintro _ ⟨v2, k2, rfl, hk2, ev2⟩
  simp [e0]
  refine h258 _ _ ⟨y1, hy1, rfl, ?_⟩
  rintro _ ⟨u1, l1, rfl, hl1, eu1⟩
  simp [e0]
  refine h258 _ _ ⟨y2, hy2, rfl, ?_⟩
  rintro _ ⟨u2, l2, rfl, hl2, eu2⟩
  obtain ⟨n1, hn1⟩ : ∃ n1, -u1 = n1 := ⟨_, rfl⟩
  obtain ⟨n2, hn2⟩ : ∃ n2, -u2 = n2 := ⟨_, rfl⟩
  have en1 := wt_neg eu1
  have en2 := wt_neg eu2
  rw [hn1] at en1
  rw [hn2] at en2
  obtain ⟨X1, eX1⟩ := hx1.q
  obtain ⟨X2, eX2⟩ := hx2.q
  obtain ⟨Y1, eY1⟩ := hy1.q
  obtain ⟨Y2, eY2⟩ := hy2.q
  have bv1 := wt_bits hx1.sm (by omega) ev1
  have bv2 := wt_bits hx2.sm (by omega) ev2
  have bu1 := wt_bits hy1.sm (by omega) eu1
  have bu2 := wt_bits hy2.sm (by omega) eu2
  have bn1 := wt_bits hy1.neg.sm (by omega) en1
  have bn2 := wt_bits hy2.neg.sm (by omega) en2
  have P : ∀ (v : Int) (k : Nat), Builtin.Int.intBits v ≤ 1000 → k ≤ 30 → IntMulOk v (2 ^ k) := fun v k h h' => mok (by omega) (by rw [bits_pow]; omega)
  have P2 : ∀ (k l : Nat), k ≤ 30 → l ≤ 30 → IntMulOk (2 ^ k) (2 ^ l) := fun k l h h' => mok (by rw [bits_pow]; omega) (by rw [bits_pow]; omega)
  have q1 := P v1 l1 bv1 hl1
  have q2 := P u1 k1 bu1 hk1
  have q3 := P2 k1 l1 hk1 hl1
  have q4 := P v2 l2 bv2 hl2
  have q5 := P u2 k2 bu2 hk2
  have q6 := P2 k2 l2 hk2 hl2
  have q7 := P v1 l2 bv1 hl2
  have q8 := P n2 k1 bn2 hk1
  have q9 := P2 k1 l2 hk1 hl2
  have q10 := P v2 l1 bv2 hl1
  have q11 := P n1 k2 bn1 hk2
  have q12 := P2 k2 l1 hk2 hl1
  have W1 := wt_add ev1 eu1 (by omega)
  have W2 := wt_add ev2 eu2 (by omega)
  have W3 := wt_add ev1 en2 (by omega)
  have W4 := wt_add ev2 en1 (by omega)
  rw [← Int.sub_eq_add_neg] at W3 W4
  simp [e0, hn1, hn2, q1, q2, q3, q4, q5, q6, q7, q8, q9, q10, q11, q12]
  refine h176 _ _ ⟨x1, x2, y1, y2, p, hx1, hx2, hy1, hy2, by omega, rfl, ?_⟩
  simp [e0]
  refine h300 _ _ ⟨_, _, _, _, p, W1, W2, (raw_sum hx1 hy1).1, (raw_sum hx2 hy2).1, by omega, rfl, ?_⟩
  simp [e0]
  refine h184 _ _ ⟨x1, x2, y1, y2, p, hx1, hx2, hy1, hy2, by omega, rfl, ?_⟩
  simp [e0]
  refine h300 _ _ ⟨_, _, _, _, p, W3, W4, (raw_sum hx1 hy2).2, (raw_sum hx2 hy1).2, by omega, rfl, ?_⟩
  simp [e0]
  refine h279 _ _ ⟨_, _, x1, y1, X1, Y1, ⟨v1, k1, rfl, hk1, ev1⟩, ⟨u1, l1, rfl, hl1, eu1⟩, hx1.sm, hy1.sm, eX1, eY1, rfl, fun d1 w1 => ?_⟩
  simp
  refine h279 _ _ ⟨_, _, x1, y2, X1, Y2, ⟨v1, k1, rfl, hk1, ev1⟩, ⟨u2, l2, rfl, hl2, eu2⟩, hx1.sm, hy2.sm, eX1, eY2, rfl, fun d2 w2 => ?_⟩
  simp
  refine h279 _ _ ⟨_, _, x2, y1, X2, Y1, ⟨v2, k2, rfl, hk2, ev2⟩, ⟨u1, l1, rfl, hl1, eu1⟩, hx2.sm, hy1.sm, eX2, eY1, rfl, fun d3 w3 => ?_⟩
  simp
  refine h279 _ _ ⟨_, _, x2, y2, X2, Y2, ⟨v2, k2, rfl, hk2, ev2⟩, ⟨u2, l2, rfl, hl2, eu2⟩, hx2.sm, hy2.sm, eX2, eY2, rfl, fun d4 w4 => ?_⟩
  simp
  have s11 := raw_mul hx1 hy1 eX1 eY1
  have s12 := raw_mul hx1 hy2 eX1 eY2
  have s21 := raw_mul hx2 hy1 eX2 eY1
  have s22 := raw_mul hx2 hy2 eX2 eY2
  have sm4 : ∀ z : Int, bl z.natAbs ≤ 400 → Sm z := fun z h => by unfold Sm; omega
  have hin : ∀ q ∈ [(d1, X1 * Y1), (d2, X1 * Y2), (d3, X2 * Y1), (d4, X2 * Y2)], Wt 60 q.1 q.2 ∧ bl q.2.natAbs ≤ 400 ∧ (q.2 = X1 * Y1 ∨ q.2 = X1 * Y2 ∨ q.2 = X2 * Y1 ∨ q.2 = X2 * Y2) := by
    intro q hq
    simp at hq
    rcases hq with rfl | rfl | rfl | rfl
    · exact ⟨w1, s11, .inl rfl⟩
    · exact ⟨w2, s12, .inr (.inl rfl)⟩
    · exact ⟨w3, s21, .inr (.inr (.inl rfl))⟩
    · exact ⟨w4, s22, .inr (.inr (.inr rfl))⟩
  refine h293 _ _ ⟨(d1, X1 * Y1), [(d2, X1 * Y2), (d3, X2 * Y1), (d4, X2 * Y2)], fun q hq => ⟨(hin q hq).1, sm4 _ (hin q hq).2.1⟩, by simp, rfl, fun a b ha hb hmin hmax => ?_⟩
  have eLo : mulLo X1 X2 Y1 Y2 = a.2 := eq4lo (hin a ha).2.2 (hmin (d1, X1 * Y1) (by simp)) (hmin (d2, X1 * Y2) (by simp)) (hmin (d3, X2 * Y1) (by simp)) (hmin (d4, X2 * Y2) (by simp))
  have eHi : mulHi X1 X2 Y1 Y2 = b.2 := eq4hi (hin b hb).2.2 (hmax (d1, X1 * Y1) (by simp)) (hmax (d2, X1 * Y2) (by simp)) (hmax (d3, X2 * Y1) (by simp)) (hmax (d4, X2 * Y2) (by simp))
  have wa := (hin a ha).1
  have wb := (hin b hb).1
  have ba := (hin a ha).2.1
  have bb := (hin b hb).2.1
  obtain ⟨a, za⟩ := a
  obtain ⟨b, zb⟩ := b
  simp only at eLo eHi wa wb ba bb
  clear hin hmin hmax ha hb
  simp [e0]
  refine h229 _ _ ⟨x1, x2, y1, y2, X1, X2, Y1, Y2, p, hx1, hx2, hy1, hy2, hx, hy, eX1, eX2, eY1, eY2, rfl, ?_⟩
  rw [eLo, eHi]
  simp [e0]
  refine h300 _ _ ⟨a, b, za, zb, p, wt_mono (by omega) wa, wt_mono (by omega) wb, ba, bb, by omega, rfl, ?_⟩
  simp [e0]
  refine h229 _ _ ⟨y1, y2, x1, x2, Y1, Y2, X1, X2, p, hy1, hy2, hx1, hx2, hy, hx, eY1, eY2, eX1, eX2, rfl, ?_⟩
  rw [mulLo_comm, mulHi_comm, eLo, eHi]
  simp [e0]
  refine h300 _ _ ⟨a, b, za, zb, p, wt_mono (by omega) wa, wt_mono (by omega) wb, ba, bb, by omega, rfl, ?_⟩
  -- sizes
  have ea1 := wt_abs ev1
  have ea2 := wt_abs ev2
  obtain ⟨A1, hA1⟩ : ∃ A, (if v1 < 0 then -v1 else v1) = A := ⟨_, rfl⟩
  obtain ⟨A2, hA2⟩ : ∃ A, (if v2 < 0 then -v2 else v2) = A := ⟨_, rfl⟩
  obtain ⟨z1, hz1⟩ : ∃ A, (if x1 < 0 then -x1 else x1) = A := ⟨_, rfl⟩
  obtain ⟨z2, hz2⟩ : ∃ A, (if x2 < 0 then -x2 else x2) = A := ⟨_, rfl⟩
  have hz1' : (x1 < 0 ∧ z1 = -x1) ∨ (0 ≤ x1 ∧ z1 = x1) := by by_cases q : x1 < 0 <;> simp [q] at hz1 <;> omega
  have hz2' : (x2 < 0 ∧ z2 = -x2) ∨ (0 ≤ x2 ∧ z2 = x2) := by by_cases q : x2 < 0 <;> simp [q] at hz2 <;> omega
  have rz1 : Raw z1 := hz1 ▸ hx1.abs
  have rz2 : Raw z2 := hz2 ▸ hx2.abs
  rw [hA1, hz1] at ea1
  rw [hA2, hz2] at ea2
  have sg1 := wt_sgn ev1
  have sg2 := wt_sgn ev2
  have w0 : Wt 30 (.tuple [.int 0, .int 1]) 0 := ⟨0, 0, rfl, by omega, by simp⟩
  have rlo : Raw (absLo x1 x2) := by
    unfold absLo; split
    · exact hx1
    · split
      · exact .inl rfl
      · exact hx2.neg
  have rhi : Raw (absHi x1 x2) := by
    unfold absHi; split
    · exact hx2
    · split
      · rcases Int.le_total (-x1) x2 with q | q
        · rw [Int.max_eq_right q]; exact hx2
        · rw [Int.max_eq_left q]; exact hx1.neg
      · exact hx1.neg
  have hlo : ∀ z : Int, (z = z1 ∨ z = z2 ∨ (z = 0 ∧ x1 ≤ 0 ∧ 0 ≤ x2)) → z ≤ z1 → z ≤ z2 → (x1 ≤ 0 → 0 ≤ x2 → z ≤ 0) → z = absLo x1 x2 := by
    intro z h1 h2 h3 h4
    unfold absLo
    split
    · omega
    · split <;> omega
  have hhi : ∀ z : Int, (z = z1 ∨ z = z2 ∨ (z = 0 ∧ x1 ≤ 0 ∧ 0 ≤ x2)) → z1 ≤ z → z2 ≤ z → z = absHi x1 x2 := by
    intro z h1 h2 h3
    unfold absHi
    split
    · omega
    · split <;> omega
  simp [e0, hA1, hA2]
  have end2 : ∀ K : PyData → Prop, (∀ a b, Wt 30 a (absLo x1 x2) → Wt 30 b (absHi x1 x2) → K (.tuple [a, b])) → ¬ (x1 ≤ 0 ∧ 0 ≤ x2) → Γ 293 [.list [.tuple [.int A1, .int (2 ^ k1)], .tuple [.int A2, .int (2 ^ k2)]]] K := by
    intro K hk hn
    have hin : ∀ q ∈ [((.tuple [.int A1, .int (2 ^ k1)] : PyData), z1), (.tuple [.int A2, .int (2 ^ k2)], z2)], Wt 30 q.1 q.2 ∧ Sm q.2 ∧ (q.2 = z1 ∨ q.2 = z2 ∨ (q.2 = 0 ∧ x1 ≤ 0 ∧ 0 ≤ x2)) := by
      intro q hq
      simp at hq
      rcases hq with rfl | rfl
      · exact ⟨⟨A1, k1, rfl, hk1, ea1⟩, rz1.sm, .inl rfl⟩
      · exact ⟨⟨A2, k2, rfl, hk2, ea2⟩, rz2.sm, .inr (.inl rfl)⟩
    refine h293 _ _ ⟨(.tuple [.int A1, .int (2 ^ k1)], z1), [(.tuple [.int A2, .int (2 ^ k2)], z2)], fun q hq => ⟨wt_mono (by omega) (hin q hq).1, (hin q hq).2.1⟩, by simp, rfl, fun a b ha hb hmin hmax => ?_⟩
    have c1 := hmin (.tuple [.int A1, .int (2 ^ k1)], z1) (by simp)
    have c2 := hmin (.tuple [.int A2, .int (2 ^ k2)], z2) (by simp)
    have c3 := hmax (.tuple [.int A1, .int (2 ^ k1)], z1) (by simp)
    have c4 := hmax (.tuple [.int A2, .int (2 ^ k2)], z2) (by simp)
    refine hk _ _ ?_ ?_
    · rw [← hlo a.2 (hin a ha).2.2 c1 c2 (fun p q => absurd ⟨p, q⟩ hn)]; exact (hin a ha).1
    · rw [← hhi b.2 (hin b hb).2.2 c3 c4]; exact (hin b hb).1
  have end3 : ∀ K : PyData → Prop, (∀ a b, Wt 30 a (absLo x1 x2) → Wt 30 b (absHi x1 x2) → K (.tuple [a, b])) → (x1 ≤ 0 ∧ 0 ≤ x2) → Γ 293 [.list [.tuple [.int A1, .int (2 ^ k1)], .tuple [.int A2, .int (2 ^ k2)], .tuple [.int 0, .int 1]]] K := by
    intro K hk hn
    have hin : ∀ q ∈ [((.tuple [.int A1, .int (2 ^ k1)] : PyData), z1), (.tuple [.int A2, .int (2 ^ k2)], z2), (.tuple [.int 0, .int 1], 0)], Wt 30 q.1 q.2 ∧ Sm q.2 ∧ (q.2 = z1 ∨ q.2 = z2 ∨ (q.2 = 0 ∧ x1 ≤ 0 ∧ 0 ≤ x2)) := by
      intro q hq
      simp at hq
      rcases hq with rfl | rfl | rfl
      · exact ⟨⟨A1, k1, rfl, hk1, ea1⟩, rz1.sm, .inl rfl⟩
      · exact ⟨⟨A2, k2, rfl, hk2, ea2⟩, rz2.sm, .inr (.inl rfl)⟩
      · exact ⟨w0, Raw.sm (.inl rfl), .inr (.inr ⟨rfl, hn⟩)⟩
    refine h293 _ _ ⟨(.tuple [.int A1, .int (2 ^ k1)], z1), [(.tuple [.int A2, .int (2 ^ k2)], z2), (.tuple [.int 0, .int 1], 0)], fun q hq => ⟨wt_mono (by omega) (hin q hq).1, (hin q hq).2.1⟩, by simp, rfl, fun a b ha hb hmin hmax => ?_⟩
    have c1 := hmin (.tuple [.int A1, .int (2 ^ k1)], z1) (by simp)
    have c2 := hmin (.tuple [.int A2, .int (2 ^ k2)], z2) (by simp)
    have c5 := hmin (.tuple [.int 0, .int 1], 0) (by simp)
    have c3 := hmax (.tuple [.int A1, .int (2 ^ k1)], z1) (by simp)
    have c4 := hmax (.tuple [.int A2, .int (2 ^ k2)], z2) (by simp)
    refine hk _ _ ?_ ?_
    · rw [← hlo a.2 (hin a ha).2.2 c1 c2 (fun _ _ => c5)]; exact (hin a ha).1
    · rw [← hhi b.2 (hin b hb).2.2 c3 c4]; exact (hin b hb).1
  -- the rest
  have aLH : absLo x1 x2 = absLo X1 X2 * 2 ^ 32 ∧ absLo X1 X2 * absLo X1 X2 = sqLo X1 X2 := by
    unfold absLo sqLo
    by_cases c1 : 0 ≤ X1
    · rw [if_pos (show 0 ≤ x1 by omega), if_pos c1, if_pos c1]; exact ⟨eX1, rfl⟩
    · rw [if_neg (show ¬ 0 ≤ x1 by omega), if_neg c1, if_neg c1]
      by_cases c2 : 0 ≤ X2
      · rw [if_pos (show 0 ≤ x2 by omega), if_pos c2]
        by_cases c3 : X2 ≤ 0
        · rw [if_pos c3, show X2 = 0 by omega]; simp
        · rw [if_neg c3]; simp
      · rw [if_neg (show ¬ 0 ≤ x2 by omega), if_neg c2, if_pos (show X2 ≤ 0 by omega)]
        exact ⟨by rw [eX2, Int.neg_mul], by rw [Int.neg_mul_neg]⟩
  have aHH : absHi x1 x2 = absHi X1 X2 * 2 ^ 32 ∧ absHi X1 X2 * absHi X1 X2 = sqHi X1 X2 := by
    unfold absHi sqHi
    by_cases c1 : 0 ≤ X1
    · rw [if_pos (show 0 ≤ x1 by omega), if_pos c1, if_pos c1]; exact ⟨eX2, rfl⟩
    · rw [if_neg (show ¬ 0 ≤ x1 by omega), if_neg c1, if_neg c1]
      by_cases c2 : 0 ≤ X2
      · rw [if_pos (show 0 ≤ x2 by omega), if_pos c2]
        by_cases c3 : X2 ≤ 0
        · have m1 : max (-X1) 0 = -X1 := by omega
          rw [if_pos c3, show X2 = 0 by omega, m1]
          exact ⟨by omega, by rw [Int.neg_mul_neg]⟩
        · rw [if_neg c3]; exact ⟨by omega, rfl⟩
      · rw [if_neg (show ¬ 0 ≤ x2 by omega), if_neg c2, if_pos (show X2 ≤ 0 by omega)]
        exact ⟨by rw [eX1, Int.neg_mul], by rw [Int.neg_mul_neg]⟩
  have bl4 : ∀ z, Raw z → bl z.natAbs ≤ 400 := fun z h => by have := h.bl; omega
  have slo := raw_mul rlo rlo aLH.1 aLH.1
  have shi := raw_mul rhi rhi aHH.1 aHH.1
  rw [aLH.2] at slo
  rw [aHH.2] at shi
  obtain ⟨few, hfew⟩ : ∃ few : Nat, (p : Int) + 1 = few := ⟨p + 1, by simp⟩
  have hfb : 1 ≤ few ∧ few ≤ 1000 := by omega
  obtain ⟨H1, hH1⟩ := hx1.even
  obtain ⟨H2, hH2⟩ := hx2.even
  have hz : x1 + x2 = (H1 + H2) * 2 := by omega
  have q13 := P v1 k2 bv1 hk2
  have q14 := P v2 k1 bv2 hk1
  have q15 : IntMulOk 2 (2 ^ k1) := mok (by decide) (by rw [bits_pow]; omega)
  have q16 : IntMulOk (2 * 2 ^ k1) (2 ^ k2) := mok (by rw [show (2 : Int) * 2 ^ k1 = 2 ^ (k1 + 1) by rw [Int.pow_succ]; ac_rfl, bits_pow]; omega) (by rw [bits_pow]; omega)
  have q17 := P2 k1 k2 hk1 hk2
  have pw1 : (2 : Int) * 2 ^ k1 * 2 ^ k2 = 2 ^ (k1 + k2 + 1) := by rw [Int.pow_succ, Int.pow_add]; ac_rfl
  have pw2 : (2 : Int) ^ k1 * 2 ^ k2 = 2 ^ (k1 + k2) := by rw [Int.pow_add]
  have eb : (v1 * 2 ^ k2 + v2 * 2 ^ k1) * 2 ^ 64 = (H1 + H2) * 2 ^ (k1 + k2 + 1) := by
    obtain ⟨v, k, e1, _, e2⟩ := wt_add ev1 ev2 (by omega)
    simp only [PyData.tuple.injEq, List.cons.injEq, PyData.int.injEq, and_true] at e1
    rw [e1.1, e2, ← e1.2, hz, Int.pow_succ, Int.pow_add]; ac_rfl
  have ew : (v2 * 2 ^ k1 - v1 * 2 ^ k2) * 2 ^ 64 = (x2 - x1) * 2 ^ (k1 + k2) := by
    obtain ⟨v, k, e1, _, e2⟩ := wt_sub ev2 ev1 (by omega)
    simp only [PyData.tuple.injEq, List.cons.injEq, PyData.int.injEq, and_true] at e1
    rw [e1.1, e2, ← e1.2, Int.pow_add]
  have smz : Sm (H1 + H2) := by
    have h1 := (raw_sum hx1 hx2).1
    have : (H1 + H2).natAbs ≤ (x1 + x2).natAbs := by omega
    have := bl_mono this
    unfold Sm; omega
  have smw : Sm (x2 - x1) := sm4 _ (raw_sum hx2 hx1).2
  clear hlo hhi hz1' hz2'
  repeat' split
  · refine end3 _ (fun a b wa wb => ?_) ⟨sg1.1.mp (by assumption), sg2.2.1.mp (by assumption)⟩
    simp [e0]
    refine h221 _ _ ⟨x1, x2, p, hx1, hx2, rfl, ?_⟩
    simp [e0]
    refine h300 _ _ ⟨a, b, _, _, p, wt_mono (by omega) wa, wt_mono (by omega) wb, bl4 _ rlo, bl4 _ rhi, by omega, rfl, ?_⟩
    simp [e0]
    refine h237 _ _ ⟨x1, x2, X1, X2, p, hx1, hx2, eX1, eX2, rfl, ?_⟩
    simp [e0]
    refine h279 _ _ ⟨a, a, _, _, _, _, wa, wa, rlo.sm, rlo.sm, aLH.1, aLH.1, rfl, fun c wc => ?_⟩
    rw [aLH.2] at wc
    simp [e0]
    refine h279 _ _ ⟨b, b, _, _, _, _, wb, wb, rhi.sm, rhi.sm, aHH.1, aHH.1, rfl, fun d wd => ?_⟩
    rw [aHH.2] at wd
    simp [e0]
    refine h300 _ _ ⟨c, d, _, _, p, wt_mono (by omega) wc, wt_mono (by omega) wd, slo, shi, by omega, rfl, ?_⟩
    simp [e0]
    refine h213 _ _ ⟨y1, y2, p, hy1, hy2, rfl, ?_⟩
    simp [e0, hn1, hn2]
    refine h300 _ _ ⟨_, _, _, _, p, ⟨n2, l2, rfl, by omega, en2⟩, ⟨n1, l1, rfl, by omega, en1⟩, bl4 _ hy2.neg, bl4 _ hy1.neg, by omega, rfl, ?_⟩
    simp [e0]
    refine h205 _ _ ⟨y1, y2, p, hy1, hy2, rfl, ?_⟩
    simp [e0]
    refine h300 _ _ ⟨_, _, _, _, p, ⟨u1, l1, rfl, by omega, eu1⟩, ⟨u2, l2, rfl, by omega, eu2⟩, bl4 _ hy1, bl4 _ hy2, by omega, rfl, ?_⟩
    simp [e0, q13, q14, q15, q16, q17, pw1, pw2, hfew]
    refine h198 _ _ ⟨x1, x2, H1 + H2, few, hx1, hx2, hfb.2, hz, rfl, ?_⟩
    simp [e0, q13, q14, q15, q16, q17, pw1, pw2, hfew]
    refine h265 _ _ ⟨_, H1 + H2, k1 + k2 + 1, few, .n, by omega, eb, smz, hfb.1, hfb.2, rfl, ?_⟩
    simp [e0, ne_fr, q13, q14, q15, q16, q17, pw1, pw2, hfew]
    refine h191 _ _ ⟨x1, x2, few, hx1, hx2, hfb.2, rfl, ?_⟩
    simp [e0, ne_fr, q13, q14, q15, q16, q17, pw1, pw2, hfew]
    refine h265 _ _ ⟨_, x2 - x1, k1 + k2, few, .u, by omega, ew, smw, hfb.1, hfb.2, rfl, ?_⟩
    simp [e0, ne_fr]
    refine h312 _ _ ⟨x1, x2, y1, y2, _, _, _, _, hx1, hx2, hy1, hy2, hx, hy, ⟨v1, k1, rfl, hk1, ev1⟩, ⟨v2, k2, rfl, hk2, ev2⟩, ⟨u1, l1, rfl, hl1, eu1⟩, ⟨u2, l2, rfl, hl2, eu2⟩, rfl, ?_⟩
    exact hK
  · refine end2 _ (fun a b wa wb => ?_) (by omega)
    simp [e0]
    refine h221 _ _ ⟨x1, x2, p, hx1, hx2, rfl, ?_⟩
    simp [e0]
    refine h300 _ _ ⟨a, b, _, _, p, wt_mono (by omega) wa, wt_mono (by omega) wb, bl4 _ rlo, bl4 _ rhi, by omega, rfl, ?_⟩
    simp [e0]
    refine h237 _ _ ⟨x1, x2, X1, X2, p, hx1, hx2, eX1, eX2, rfl, ?_⟩
    simp [e0]
    refine h279 _ _ ⟨a, a, _, _, _, _, wa, wa, rlo.sm, rlo.sm, aLH.1, aLH.1, rfl, fun c wc => ?_⟩
    rw [aLH.2] at wc
    simp [e0]
    refine h279 _ _ ⟨b, b, _, _, _, _, wb, wb, rhi.sm, rhi.sm, aHH.1, aHH.1, rfl, fun d wd => ?_⟩
    rw [aHH.2] at wd
    simp [e0]
    refine h300 _ _ ⟨c, d, _, _, p, wt_mono (by omega) wc, wt_mono (by omega) wd, slo, shi, by omega, rfl, ?_⟩
    simp [e0]
    refine h213 _ _ ⟨y1, y2, p, hy1, hy2, rfl, ?_⟩
    simp [e0, hn1, hn2]
    refine h300 _ _ ⟨_, _, _, _, p, ⟨n2, l2, rfl, by omega, en2⟩, ⟨n1, l1, rfl, by omega, en1⟩, bl4 _ hy2.neg, bl4 _ hy1.neg, by omega, rfl, ?_⟩
    simp [e0]
    refine h205 _ _ ⟨y1, y2, p, hy1, hy2, rfl, ?_⟩
    simp [e0]
    refine h300 _ _ ⟨_, _, _, _, p, ⟨u1, l1, rfl, by omega, eu1⟩, ⟨u2, l2, rfl, by omega, eu2⟩, bl4 _ hy1, bl4 _ hy2, by omega, rfl, ?_⟩
    simp [e0, q13, q14, q15, q16, q17, pw1, pw2, hfew]
    refine h198 _ _ ⟨x1, x2, H1 + H2, few, hx1, hx2, hfb.2, hz, rfl, ?_⟩
    simp [e0, q13, q14, q15, q16, q17, pw1, pw2, hfew]
    refine h265 _ _ ⟨_, H1 + H2, k1 + k2 + 1, few, .n, by omega, eb, smz, hfb.1, hfb.2, rfl, ?_⟩
    simp [e0, ne_fr, q13, q14, q15, q16, q17, pw1, pw2, hfew]
    refine h191 _ _ ⟨x1, x2, few, hx1, hx2, hfb.2, rfl, ?_⟩
    simp [e0, ne_fr, q13, q14, q15, q16, q17, pw1, pw2, hfew]
    refine h265 _ _ ⟨_, x2 - x1, k1 + k2, few, .u, by omega, ew, smw, hfb.1, hfb.2, rfl, ?_⟩
    simp [e0, ne_fr]
    refine h312 _ _ ⟨x1, x2, y1, y2, _, _, _, _, hx1, hx2, hy1, hy2, hx, hy, ⟨v1, k1, rfl, hk1, ev1⟩, ⟨v2, k2, rfl, hk2, ev2⟩, ⟨u1, l1, rfl, hl1, eu1⟩, ⟨u2, l2, rfl, hl2, eu2⟩, rfl, ?_⟩
    exact hK
  · refine end2 _ (fun a b wa wb => ?_) (by omega)
    simp [e0]
    refine h221 _ _ ⟨x1, x2, p, hx1, hx2, rfl, ?_⟩
    simp [e0]
    refine h300 _ _ ⟨a, b, _, _, p, wt_mono (by omega) wa, wt_mono (by omega) wb, bl4 _ rlo, bl4 _ rhi, by omega, rfl, ?_⟩
    simp [e0]
    refine h237 _ _ ⟨x1, x2, X1, X2, p, hx1, hx2, eX1, eX2, rfl, ?_⟩
    simp [e0]
    refine h279 _ _ ⟨a, a, _, _, _, _, wa, wa, rlo.sm, rlo.sm, aLH.1, aLH.1, rfl, fun c wc => ?_⟩
    rw [aLH.2] at wc
    simp [e0]
    refine h279 _ _ ⟨b, b, _, _, _, _, wb, wb, rhi.sm, rhi.sm, aHH.1, aHH.1, rfl, fun d wd => ?_⟩
    rw [aHH.2] at wd
    simp [e0]
    refine h300 _ _ ⟨c, d, _, _, p, wt_mono (by omega) wc, wt_mono (by omega) wd, slo, shi, by omega, rfl, ?_⟩
    simp [e0]
    refine h213 _ _ ⟨y1, y2, p, hy1, hy2, rfl, ?_⟩
    simp [e0, hn1, hn2]
    refine h300 _ _ ⟨_, _, _, _, p, ⟨n2, l2, rfl, by omega, en2⟩, ⟨n1, l1, rfl, by omega, en1⟩, bl4 _ hy2.neg, bl4 _ hy1.neg, by omega, rfl, ?_⟩
    simp [e0]
    refine h205 _ _ ⟨y1, y2, p, hy1, hy2, rfl, ?_⟩
    simp [e0]
    refine h300 _ _ ⟨_, _, _, _, p, ⟨u1, l1, rfl, by omega, eu1⟩, ⟨u2, l2, rfl, by omega, eu2⟩, bl4 _ hy1, bl4 _ hy2, by omega, rfl, ?_⟩
    simp [e0, q13, q14, q15, q16, q17, pw1, pw2, hfew]
    refine h198 _ _ ⟨x1, x2, H1 + H2, few, hx1, hx2, hfb.2, hz, rfl, ?_⟩
    simp [e0, q13, q14, q15, q16, q17, pw1, pw2, hfew]
    refine h265 _ _ ⟨_, H1 + H2, k1 + k2 + 1, few, .n, by omega, eb, smz, hfb.1, hfb.2, rfl, ?_⟩
    simp [e0, ne_fr, q13, q14, q15, q16, q17, pw1, pw2, hfew]
    refine h191 _ _ ⟨x1, x2, few, hx1, hx2, hfb.2, rfl, ?_⟩
    simp [e0, ne_fr, q13, q14, q15, q16, q17, pw1, pw2, hfew]
    refine h265 _ _ ⟨_, x2 - x1, k1 + k2, few, .u, by omega, ew, smw, hfb.1, hfb.2, rfl, ?_⟩
    simp [e0, ne_fr]
    refine h312 _ _ ⟨x1, x2, y1, y2, _, _, _, _, hx1, hx2, hy1, hy2, hx, hy, ⟨v1, k1, rfl, hk1, ev1⟩, ⟨v2, k2, rfl, hk2, ev2⟩, ⟨u1, l1, rfl, hl1, eu1⟩, ⟨u2, l2, rfl, hl2, eu2⟩, rfl, ?_⟩
    exact hK
end Mine

end
section
open PySem PySem.W PyProof.Rows
namespace Mine

def intsChk : List Value → List PyData → Bool
  | [], [] => true
  | .int i _ :: vs, .int j :: ds => (i == j) && intsChk vs ds
  | _, _ => false
theorem intsChk_ok : ∀ {vs : List Value} {ds : List PyData} {g : Vw}, intsChk vs ds = true → RdL g vs ds
  | [], [], _, _ => .nil
  | .int i t :: vs, .int j :: ds, g, h => by
    unfold intsChk at h
    rw [Bool.and_eq_true, beq_iff_eq] at h
    obtain ⟨rfl, h2⟩ := h
    exact .cons (.int _ _) (intsChk_ok h2)
  | .none :: _, [], _, h => by cases h
  | .none :: _, _ :: _, _, h => by unfold intsChk at h; cases h
  | [], _ :: _, _, h => by unfold intsChk at h; cases h
  | .int _ _ :: _, [], _, h => by cases h
  | .int _ _ :: _, .none :: _, _, h => by unfold intsChk at h; cases h
  | .int _ _ :: _, .bool _ :: _, _, h => by unfold intsChk at h; cases h
  | .int _ _ :: _, .str _ :: _, _, h => by unfold intsChk at h; cases h
  | .int _ _ :: _, .list _ :: _, _, h => by unfold intsChk at h; cases h
  | .int _ _ :: _, .tuple _ :: _, _, h => by unfold intsChk at h; cases h
  | .int _ _ :: _, .dict _ :: _, _, h => by unfold intsChk at h; cases h
def constChk (K : Frag) : Value → PyData → Bool
  | .int i _, .int j => i == j
  | .str x _, .str y => x == y
  | .ref a, .tuple ds => match K.lookup a with
    | some ⟨.type "tuple", _, .seq vs _, _⟩ => intsChk vs.toList ds
    | _ => false
  | _, _ => false
theorem constChk_ok {K : Frag} {v : Value} {d : PyData} (h : constChk K v d = true) {g : Vw} (hg : ∀ a o, K.lookup a = some o → g a = some o) : Rd g v d := by
  unfold constChk at h
  split at h
  · rw [beq_iff_eq] at h; subst h; exact .int _ _
  · rw [beq_iff_eq] at h; subst h; exact .str _ _
  · split at h
    · rename_i e
      exact .tuple (hg _ _ e) rfl rfl (intsChk_ok h)
    · cases h
  · cases h

def giChk (K : Frag) (p : Str × GI) : Bool := match p.2 with
  | .const d => match nsIn K mainGlobals p.1 with
    | some (some v) => constChk K v d
    | _ => false
  | .fn a => (match nsIn K mainGlobals p.1 with
    | some (some (.ref b)) => a == b
    | _ => false) && (match K.lookup a with
    | some ⟨_, _, .func _, _⟩ => true
    | _ => false)
  | .bt b => (match nsIn K mainGlobals p.1 with
    | some none => true
    | _ => false) && (match bootBuiltins p.1 with
    | some (.builtin c) => b == c
    | _ => false) && !(p.1 == Str.ofString "__name__")

theorem lookup_mem {α : Type} : ∀ {l : List (Str × α)} {x : Str} {y : α}, l.lookup x = some y → (x, y) ∈ l
  | (k, v) :: l, x, y, h => by
    rw [List.lookup_cons] at h
    split at h
    · rename_i e
      have : x = k := eq_of_beq e
      cases h; subst this; exact List.mem_cons_self
    · exact List.mem_cons_of_mem _ (lookup_mem h)

theorem tb_of {prog : Program} {w : World} {K : Frag} {mg mb : Str → Option Value} {n : Nat} {Γ : Nat → Sp} {tb : List (Str × GI)} (h : tb.all (giChk K) = true) (hs : SdOK w K) (hok : ∀ a, CallOK prog w K mg mb n a (Γ a)) : TbOK prog w K mg mb n Γ tb where
  const := fun x d e => by
    have := List.all_eq_true.mp h _ (lookup_mem e)
    unfold giChk at this
    simp only at this
    split at this
    · rename_i v hv
      exact ⟨v, hv, fun g hg => constChk_ok this hg⟩
    · cases this
  fn := fun x a e => by
    have := List.all_eq_true.mp h _ (lookup_mem e)
    unfold giChk at this
    simp only [Bool.and_eq_true] at this
    obtain ⟨h1, h2⟩ := this
    split at h1
    · rename_i b hb
      have := eq_of_beq h1
      subst this
      refine ⟨hb, ?_⟩
      split at h2
      · rename_i e; exact ⟨_, _, _, _, e⟩
      · cases h2
    · cases h1
  bt := fun x b e => by
    have := List.all_eq_true.mp h _ (lookup_mem e)
    unfold giChk at this
    simp only [Bool.and_eq_true, Bool.not_eq_true', beq_eq_false_iff_ne] at this
    obtain ⟨⟨h1, h2⟩, h3⟩ := this
    refine ⟨?_, ?_, h3⟩
    · split at h1
      · assumption
      · cases h1
    · split at h2
      · rename_i c hc
        have := eq_of_beq h2
        subst this; exact hc
      · cases h2
  sd := hs
  ok := hok

theorem CallOK.le {prog : Program} {w : World} {K : Frag} {mg mb : Str → Option Value} {m n : Nat} {f : Addr} {sp : Sp} (h : CallOK prog w K mg mb m f sp) (hmn : m ≤ n) : CallOK prog w K mg mb n f sp := by
  intro A s g vs ds Kp Q E hr
  exact h A s g vs ds Kp Q E ⟨hr.hh, by have := hr.hd; omega, by have := hr.hu; omega⟩

set_option maxRecDepth 100000
set_option maxHeartbeats 8000000
theorem tblChk (P : Params) : tbl.all (giChk (hd.heap_39 P)) = true := by kernel_rfl
theorem sdOK (w : World) : SdOK w (hd.heap_39 w.params) := by
  refine ⟨_, _, _, rfl, rfl, ⟨⟨_, _, rfl, rfl⟩, ⟨_, _, rfl, rfl⟩, ⟨_, _, rfl, rfl⟩, ⟨_, _, rfl, rfl⟩, trivial⟩, fun r i j h => ?_⟩
  simp only [List.mem_cons, Prod.mk.injEq, List.not_mem_nil, or_false] at h
  rcases h with ⟨rfl, rfl, rfl⟩ | ⟨rfl, rfl, rfl⟩ | ⟨rfl, rfl, rfl⟩ | ⟨rfl, rfl, rfl⟩ <;> exact ⟨_, _, _, _, _, _, rfl, rfl⟩
end Mine

end
section
open PySem PySem.W PyProof.Rows
namespace Mine

def GL (L : List (Nat × Sp)) (a : Nat) : Sp := match L.lookup a with
  | some sp => sp
  | none => fun _ _ => False
def AllOK (prog : Program) (w : World) (K : Frag) (mg mb : Str → Option Value) (n : Nat) (L : List (Nat × Sp)) : Prop := ∀ p ∈ L, CallOK prog w K mg mb n p.1 p.2
section
variable {prog : Program} {w : World} {K : Frag} {mg mb : Str → Option Value} {n : Nat} {L : List (Nat × Sp)}
theorem lookupN_mem {α : Type} : ∀ {l : List (Nat × α)} {x : Nat} {y : α}, l.lookup x = some y → (x, y) ∈ l
  | (k, v) :: l, x, y, h => by
    rw [List.lookup_cons] at h
    split at h
    · rename_i e
      have : x = k := eq_of_beq e
      cases h; subst this; exact List.mem_cons_self
    · exact List.mem_cons_of_mem _ (lookupN_mem h)
theorem AllOK.gl (h : AllOK prog w K mg mb n L) (a : Nat) : CallOK prog w K mg mb n a (GL L a) := by
  unfold GL
  split
  · rename_i e; exact h _ (lookupN_mem e)
  · intro A s g vs ds Kp Q E _ _ _ _ _ h _; exact h.elim
theorem AllOK.nil : AllOK prog w K mg mb n [] := fun _ h => absurd h List.not_mem_nil
theorem AllOK.cons {a : Nat} {sp : Sp} (h : AllOK prog w K mg mb n L) (c : CallOK prog w K mg mb (n + 1) a sp) : AllOK prog w K mg mb (n + 1) ((a, sp) :: L) := by
  intro p hp
  rcases List.mem_cons.mp hp with rfl | hp
  · exact c
  · exact (h p hp).le (Nat.le_succ n)
theorem fn_ok {tb : Tb} {Γ : Nat → Sp} (T : TbOK prog w K mg mb n Γ tb) {a : Addr} {np m k : Nat} {body : SL} {dds : List PyData} {sp : Sp} (hc : chk K tb a = some (np, m, body)) (hb : Binds K a k dds) (hk : k + dds.length = np)
    (hl : ∀ ds Kp, sp ds Kp → ds.length = k) (hsp : ∀ ds Kp, sp ds Kp → vsL Γ body (start m (ds ++ dds)) (fun _ => Kp .none) Kp) : CallOK prog w K mg mb (n + 1) a sp :=
  fun A s g vs ds Kp Q E h1 h2 h3 h4 h5 h6 h7 => call_ok T hc hb hk (fun ds Kp _ h => hsp ds Kp h) A s g vs ds Kp Q E h1 h2 h3 h4 h5 (hl _ _ h6) h6 h7
end
set_option maxRecDepth 100000
set_option maxHeartbeats 8000000
section
variable {prog : Program} {w : World} {mg mb : Str → Option Value}

def L0 : List (Nat × Sp) := []
theorem ok0 : AllOK prog w (hd.heap_39 w.params) mg mb 0 L0 := .nil
theorem T0 (h : AllOK prog w (hd.heap_39 w.params) mg mb n L) : TbOK prog w (hd.heap_39 w.params) mg mb n (GL L) tbl := tb_of (tblChk _) (sdOK w) h.gl
theorem c21 (P : Params) : chk (hd.heap_39 P) tbl 21 = some (1, 1, b21) := by kernel_rfl
theorem bn21_1 (P : Params) : Binds (hd.heap_39 P) 21 1 [] := by
  refine ⟨_, _, _, _, rfl, fun s vs hv hX => ?_⟩
  match vs, hv with
  | [v0], _ => exact ⟨[], fun _ _ => .nil, .of_eq rfl⟩
def L1 : List (Nat × Sp) := (21, sp21) :: L0
theorem ok1 : AllOK prog w (hd.heap_39 w.params) mg mb 1 L1 := by
  have h := ok0 (prog := prog) (w := w) (mg := mg) (mb := mb)
  refine h.cons (fn_ok (T0 h) (c21 _) (bn21_1 _) rfl (fun ds Kp h => ?_) (fun ds Kp h => ?_))
  · obtain ⟨_, _, rfl, _⟩ := h; rfl
  · exact v21 _ ds Kp h
theorem c37 (P : Params) : chk (hd.heap_39 P) tbl 37 = some (6, 8, b37) := by kernel_rfl
theorem bn37_6 (P : Params) : Binds (hd.heap_39 P) 37 6 [] := by
  refine ⟨_, _, _, _, rfl, fun s vs hv hX => ?_⟩
  match vs, hv with
  | [v0, v1, v2, v3, v4, v5], _ => exact ⟨[], fun _ _ => .nil, .of_eq rfl⟩
def L2 : List (Nat × Sp) := (37, sp37) :: L1
theorem ok2 : AllOK prog w (hd.heap_39 w.params) mg mb 2 L2 := by
  have h := ok1 (prog := prog) (w := w) (mg := mg) (mb := mb)
  refine h.cons (fn_ok (T0 h) (c37 _) (bn37_6 _) rfl (fun ds Kp h => ?_) (fun ds Kp h => ?_))
  · obtain ⟨_, _, _, _, _, rfl, _⟩ := h; rfl
  · exact v37 (fun _ _ h => h) ds Kp h
theorem c44 (P : Params) : chk (hd.heap_39 P) tbl 44 = some (6, 6, b44) := by kernel_rfl
theorem bn44_6 (P : Params) : Binds (hd.heap_39 P) 44 6 [] := by
  refine ⟨_, _, _, _, rfl, fun s vs hv hX => ?_⟩
  match vs, hv with
  | [v0, v1, v2, v3, v4, v5], _ => exact ⟨[], fun _ _ => .nil, .of_eq rfl⟩
def L3 : List (Nat × Sp) := (44, sp37) :: L2
theorem ok3 : AllOK prog w (hd.heap_39 w.params) mg mb 3 L3 := by
  have h := ok2 (prog := prog) (w := w) (mg := mg) (mb := mb)
  refine h.cons (fn_ok (T0 h) (c44 _) (bn44_6 _) rfl (fun ds Kp h => ?_) (fun ds Kp h => ?_))
  · obtain ⟨_, _, _, _, _, rfl, _⟩ := h; rfl
  · exact v44 (fun _ _ h => h) ds Kp h
theorem c109 (P : Params) : chk (hd.heap_39 P) tbl 109 = some (1, 5, b109) := by kernel_rfl
theorem bn109_1 (P : Params) : Binds (hd.heap_39 P) 109 1 [] := by
  refine ⟨_, _, _, _, rfl, fun s vs hv hX => ?_⟩
  match vs, hv with
  | [v0], _ => exact ⟨[], fun _ _ => .nil, .of_eq rfl⟩
def L4 : List (Nat × Sp) := (109, sp109) :: L3
theorem ok4 : AllOK prog w (hd.heap_39 w.params) mg mb 4 L4 := by
  have h := ok3 (prog := prog) (w := w) (mg := mg) (mb := mb)
  refine h.cons (fn_ok (T0 h) (c109 _) (bn109_1 _) rfl (fun ds Kp h => ?_) (fun ds Kp h => ?_))
  · obtain ⟨_, rfl, _⟩ := h; rfl
  · exact v109 ds Kp h
theorem c102 (P : Params) : chk (hd.heap_39 P) tbl 102 = some (3, 7, b102) := by kernel_rfl
theorem bn102_1 (P : Params) : Binds (hd.heap_39 P) 102 1 [.int 0, .str (Str.ofString "d")] := by
  refine ⟨_, _, _, _, rfl, fun s vs hv hX => ?_⟩
  match vs, hv with
  | [v0], _ => exact ⟨[.int 0 _, .str (Str.ofString "d") _], fun _ _ => .cons (.int _ _) (.cons (.str _ _) .nil), .of_defaults rfl (hX 95 _ rfl) rfl rfl rfl⟩
theorem bn102_3 (P : Params) : Binds (hd.heap_39 P) 102 3 [] := by
  refine ⟨_, _, _, _, rfl, fun s vs hv hX => ?_⟩
  match vs, hv with
  | [v0, v1, v2], _ => exact ⟨[], fun _ _ => .nil, .of_defaults rfl (hX 95 _ rfl) rfl rfl rfl⟩
def L5 : List (Nat × Sp) := (102, sp102) :: L4
theorem ok5 : AllOK prog w (hd.heap_39 w.params) mg mb 5 L5 := by
  have h := ok4 (prog := prog) (w := w) (mg := mg) (mb := mb)
  refine h.cons fun A s g vs ds Kp Q E h1 h2 h3 h4 h5 h6 h7 => ?_
  have H44 : ∀ ds K, sp37 ds K → GL L4 44 ds K := fun _ _ h => h
  obtain ⟨x, hx, ⟨rfl, hk⟩ | ⟨p, r, rfl, hk⟩⟩ := h6
  · exact fn_ok (T0 h) (c102 _) (bn102_1 _) rfl (sp := fun ds Kp => ds = [fr x] ∧ Kp (fr (-x))) (fun ds Kp h => by rw [h.1]; rfl) (fun ds Kp h => by obtain ⟨rfl, h⟩ := h; exact v102 (p := 0) H44 hx Kp (.inl ⟨rfl, h⟩)) A s g vs _ Kp Q E h1 h2 h3 h4 h5 ⟨rfl, hk⟩ h7
  · exact fn_ok (T0 h) (c102 _) (bn102_3 _) rfl (sp := fun ds Kp => ds = [fr x, .int p, .str r.s] ∧ Kp (fr (rd p r (-x)))) (fun ds Kp h => by rw [h.1]; rfl) (fun ds Kp h => by obtain ⟨rfl, h⟩ := h; exact v102 H44 hx Kp (.inr ⟨r, rfl, h⟩)) A s g vs _ Kp Q E h1 h2 h3 h4 h5 ⟨rfl, hk⟩ h7
theorem c94 (P : Params) : chk (hd.heap_39 P) tbl 94 = some (3, 7, b94) := by kernel_rfl
theorem bn94_3 (P : Params) : Binds (hd.heap_39 P) 94 3 [] := by
  refine ⟨_, _, _, _, rfl, fun s vs hv hX => ?_⟩
  match vs, hv with
  | [v0, v1, v2], _ => exact ⟨[], fun _ _ => .nil, .of_defaults rfl (hX 87 _ rfl) rfl rfl rfl⟩
def L6 : List (Nat × Sp) := (94, sp94) :: L5
theorem ok6 : AllOK prog w (hd.heap_39 w.params) mg mb 6 L6 := by
  have h := ok5 (prog := prog) (w := w) (mg := mg) (mb := mb)
  refine h.cons (fn_ok (T0 h) (c94 _) (bn94_3 _) rfl (fun ds Kp h => ?_) (fun ds Kp h => ?_))
  · obtain ⟨_, _, _, _, rfl, _⟩ := h; rfl
  · exact v94 (fun _ _ h => h) ds Kp h
theorem c140 (P : Params) : chk (hd.heap_39 P) tbl 140 = some (2, 6, b140) := by kernel_rfl
theorem bn140_2 (P : Params) : Binds (hd.heap_39 P) 140 2 [] := by
  refine ⟨_, _, _, _, rfl, fun s vs hv hX => ?_⟩
  match vs, hv with
  | [v0, v1], _ => exact ⟨[], fun _ _ => .nil, .of_eq rfl⟩
def L7 : List (Nat × Sp) := (140, sp140) :: L6
theorem ok7 : AllOK prog w (hd.heap_39 w.params) mg mb 7 L7 := by
  have h := ok6 (prog := prog) (w := w) (mg := mg) (mb := mb)
  refine h.cons (fn_ok (T0 h) (c140 _) (bn140_2 _) rfl (fun ds Kp h => ?_) (fun ds Kp h => ?_))
  · obtain ⟨_, rfl, _⟩ := h; rfl
  · exact v140 ds Kp h
theorem c117 (P : Params) : chk (hd.heap_39 P) tbl 117 = some (5, 17, b117) := by kernel_rfl
theorem bn117_4 (P : Params) : Binds (hd.heap_39 P) 117 4 [.int 0] := by
  refine ⟨_, _, _, _, rfl, fun s vs hv hX => ?_⟩
  match vs, hv with
  | [v0, v1, v2, v3], _ => exact ⟨[.int 0 _], fun _ _ => .cons (.int _ _) .nil, .of_defaults rfl (hX 110 _ rfl) rfl rfl rfl⟩
theorem bn117_5 (P : Params) : Binds (hd.heap_39 P) 117 5 [] := by
  refine ⟨_, _, _, _, rfl, fun s vs hv hX => ?_⟩
  match vs, hv with
  | [v0, v1, v2, v3, v4], _ => exact ⟨[], fun _ _ => .nil, .of_defaults rfl (hX 110 _ rfl) rfl rfl rfl⟩
def L8 : List (Nat × Sp) := (117, sp117c) :: L7
theorem ok8 : AllOK prog w (hd.heap_39 w.params) mg mb 8 L8 := by
  have h := ok7 (prog := prog) (w := w) (mg := mg) (mb := mb)
  refine h.cons fun A s g vs ds Kp Q E h1 h2 h3 h4 h5 h6 h7 => ?_
  have H44 : ∀ ds K, sp37 ds K → GL L7 44 ds K := fun _ _ h => h
  have H102 : ∀ ds K, sp102 ds K → GL L7 102 ds K := fun _ _ h => h
  rcases h6 with h6 | ⟨h6, h6'⟩
  · exact fn_ok (T0 h) (c117 _) (bn117_5 _) rfl (sp := sp117) (fun ds Kp h => by obtain ⟨_, _, _, _, _, _, _, _, _, rfl, _⟩ := h; rfl) (fun ds Kp h => v117 H44 H102 ds Kp h) A s g vs _ Kp Q E h1 h2 h3 h4 h5 h6 h7
  · exact fn_ok (T0 h) (c117 _) (bn117_4 _) rfl (sp := fun ds Kp => ds.length = 4 ∧ sp117 (ds ++ [.int 0]) Kp) (fun ds Kp h => h.1) (fun ds Kp h => by have := v117 H44 H102 (ds ++ [.int 0]) Kp h.2; rwa [List.append_nil] at this) A s g vs _ Kp Q E h1 h2 h3 h4 h5 ⟨h6, h6'⟩ h7
theorem c125 (P : Params) : chk (hd.heap_39 P) tbl 125 = some (4, 4, b125) := by kernel_rfl
theorem bn125_4 (P : Params) : Binds (hd.heap_39 P) 125 4 [] := by
  refine ⟨_, _, _, _, rfl, fun s vs hv hX => ?_⟩
  match vs, hv with
  | [v0, v1, v2, v3], _ => exact ⟨[], fun _ _ => .nil, .of_defaults rfl (hX 118 _ rfl) rfl rfl rfl⟩
def L9 : List (Nat × Sp) := (125, sp125) :: L8
theorem ok9 : AllOK prog w (hd.heap_39 w.params) mg mb 9 L9 := by
  have h := ok8 (prog := prog) (w := w) (mg := mg) (mb := mb)
  refine h.cons (fn_ok (T0 h) (c125 _) (bn125_4 _) rfl (fun ds Kp h => ?_) (fun ds Kp h => ?_))
  · obtain ⟨_, _, _, _, _, _, _, _, rfl, _⟩ := h; rfl
  · exact v125 (fun ds K h => show sp117c ds K from .inl h) ds Kp h
theorem c133 (P : Params) : chk (hd.heap_39 P) tbl 133 = some (4, 17, b133) := by kernel_rfl
theorem bn133_2 (P : Params) : Binds (hd.heap_39 P) 133 2 [.int 0, .str (Str.ofString "d")] := by
  refine ⟨_, _, _, _, rfl, fun s vs hv hX => ?_⟩
  match vs, hv with
  | [v0, v1], _ => exact ⟨[.int 0 _, .str (Str.ofString "d") _], fun _ _ => .cons (.int _ _) (.cons (.str _ _) .nil), .of_defaults rfl (hX 126 _ rfl) rfl rfl rfl⟩
theorem bn133_4 (P : Params) : Binds (hd.heap_39 P) 133 4 [] := by
  refine ⟨_, _, _, _, rfl, fun s vs hv hX => ?_⟩
  match vs, hv with
  | [v0, v1, v2, v3], _ => exact ⟨[], fun _ _ => .nil, .of_defaults rfl (hX 126 _ rfl) rfl rfl rfl⟩
def L10 : List (Nat × Sp) := (133, sp133) :: L9
theorem ok10 : AllOK prog w (hd.heap_39 w.params) mg mb 10 L10 := by
  have h := ok9 (prog := prog) (w := w) (mg := mg) (mb := mb)
  refine h.cons fun A s g vs ds Kp Q E h1 h2 h3 h4 h5 h6 h7 => ?_
  have H44 : ∀ ds K, sp37 ds K → GL L9 44 ds K := fun _ _ h => h
  obtain ⟨X, Y, hx, hy, ⟨rfl, hk⟩ | ⟨p, r, rfl, hk⟩⟩ := h6
  · exact fn_ok (T0 h) (c133 _) (bn133_2 _) rfl (sp := fun ds Kp => ds = [fr (X * 2 ^ 32), fr (Y * 2 ^ 32)] ∧ Kp (fr (X * Y))) (fun ds Kp h => by rw [h.1]; rfl) (fun ds Kp h => by obtain ⟨rfl, h⟩ := h; exact v133 (p := 0) H44 hx hy Kp (.inl ⟨rfl, h⟩)) A s g vs _ Kp Q E h1 h2 h3 h4 h5 ⟨rfl, hk⟩ h7
  · exact fn_ok (T0 h) (c133 _) (bn133_4 _) rfl (sp := fun ds Kp => ds = [fr (X * 2 ^ 32), fr (Y * 2 ^ 32), .int p, .str r.s] ∧ Kp (fr (rd p r (X * Y)))) (fun ds Kp h => by rw [h.1]; rfl) (fun ds Kp h => by obtain ⟨rfl, h⟩ := h; exact v133 H44 hx hy Kp (.inr ⟨r, rfl, h⟩)) A s g vs _ Kp Q E h1 h2 h3 h4 h5 ⟨rfl, hk⟩ h7
theorem c51 (P : Params) : chk (hd.heap_39 P) tbl 51 = some (2, 13, b51) := by kernel_rfl
theorem bn51_2 (P : Params) : Binds (hd.heap_39 P) 51 2 [] := by
  refine ⟨_, _, _, _, rfl, fun s vs hv hX => ?_⟩
  match vs, hv with
  | [v0, v1], _ => exact ⟨[], fun _ _ => .nil, .of_eq rfl⟩
def L11 : List (Nat × Sp) := (51, sp51) :: L10
theorem ok11 : AllOK prog w (hd.heap_39 w.params) mg mb 11 L11 := by
  have h := ok10 (prog := prog) (w := w) (mg := mg) (mb := mb)
  refine h.cons (fn_ok (T0 h) (c51 _) (bn51_2 _) rfl (fun ds Kp h => ?_) (fun ds Kp h => ?_))
  · obtain ⟨_, _, _, _, rfl, _⟩ := h; rfl
  · exact v51 (fun _ _ h => h) (fun _ _ h => h) ds Kp h
theorem c58 (P : Params) : chk (hd.heap_39 P) tbl 58 = some (2, 2, b58) := by kernel_rfl
theorem bn58_2 (P : Params) : Binds (hd.heap_39 P) 58 2 [] := by
  refine ⟨_, _, _, _, rfl, fun s vs hv hX => ?_⟩
  match vs, hv with
  | [v0, v1], _ => exact ⟨[], fun _ _ => .nil, .of_eq rfl⟩
def L12 : List (Nat × Sp) := (58, (spc fun x y => decide (x < y))) :: L11
theorem ok12 : AllOK prog w (hd.heap_39 w.params) mg mb 12 L12 := by
  have h := ok11 (prog := prog) (w := w) (mg := mg) (mb := mb)
  refine h.cons (fn_ok (T0 h) (c58 _) (bn58_2 _) rfl (fun ds Kp h => ?_) (fun ds Kp h => ?_))
  · obtain ⟨_, _, _, _, rfl, _⟩ := h; rfl
  · exact v58 (fun _ _ h => h) ds Kp h
theorem c65 (P : Params) : chk (hd.heap_39 P) tbl 65 = some (2, 2, b65) := by kernel_rfl
theorem bn65_2 (P : Params) : Binds (hd.heap_39 P) 65 2 [] := by
  refine ⟨_, _, _, _, rfl, fun s vs hv hX => ?_⟩
  match vs, hv with
  | [v0, v1], _ => exact ⟨[], fun _ _ => .nil, .of_eq rfl⟩
def L13 : List (Nat × Sp) := (65, (spc fun x y => decide (x ≤ y))) :: L12
theorem ok13 : AllOK prog w (hd.heap_39 w.params) mg mb 13 L13 := by
  have h := ok12 (prog := prog) (w := w) (mg := mg) (mb := mb)
  refine h.cons (fn_ok (T0 h) (c65 _) (bn65_2 _) rfl (fun ds Kp h => ?_) (fun ds Kp h => ?_))
  · obtain ⟨_, _, _, _, rfl, _⟩ := h; rfl
  · exact v65 (fun _ _ h => h) ds Kp h
theorem c72 (P : Params) : chk (hd.heap_39 P) tbl 72 = some (2, 2, b72) := by kernel_rfl
theorem bn72_2 (P : Params) : Binds (hd.heap_39 P) 72 2 [] := by
  refine ⟨_, _, _, _, rfl, fun s vs hv hX => ?_⟩
  match vs, hv with
  | [v0, v1], _ => exact ⟨[], fun _ _ => .nil, .of_eq rfl⟩
def L14 : List (Nat × Sp) := (72, (spc fun x y => decide (y < x))) :: L13
theorem ok14 : AllOK prog w (hd.heap_39 w.params) mg mb 14 L14 := by
  have h := ok13 (prog := prog) (w := w) (mg := mg) (mb := mb)
  refine h.cons (fn_ok (T0 h) (c72 _) (bn72_2 _) rfl (fun ds Kp h => ?_) (fun ds Kp h => ?_))
  · obtain ⟨_, _, _, _, rfl, _⟩ := h; rfl
  · exact v72 (fun _ _ h => h) ds Kp h
theorem c79 (P : Params) : chk (hd.heap_39 P) tbl 79 = some (2, 2, b79) := by kernel_rfl
theorem bn79_2 (P : Params) : Binds (hd.heap_39 P) 79 2 [] := by
  refine ⟨_, _, _, _, rfl, fun s vs hv hX => ?_⟩
  match vs, hv with
  | [v0, v1], _ => exact ⟨[], fun _ _ => .nil, .of_eq rfl⟩
def L15 : List (Nat × Sp) := (79, (spc fun x y => decide (y ≤ x))) :: L14
theorem ok15 : AllOK prog w (hd.heap_39 w.params) mg mb 15 L15 := by
  have h := ok14 (prog := prog) (w := w) (mg := mg) (mb := mb)
  refine h.cons (fn_ok (T0 h) (c79 _) (bn79_2 _) rfl (fun ds Kp h => ?_) (fun ds Kp h => ?_))
  · obtain ⟨_, _, _, _, rfl, _⟩ := h; rfl
  · exact v79 (fun _ _ h => h) ds Kp h
theorem c86 (P : Params) : chk (hd.heap_39 P) tbl 86 = some (1, 4, b86) := by kernel_rfl
theorem bn86_1 (P : Params) : Binds (hd.heap_39 P) 86 1 [] := by
  refine ⟨_, _, _, _, rfl, fun s vs hv hX => ?_⟩
  match vs, hv with
  | [v0], _ => exact ⟨[], fun _ _ => .nil, .of_eq rfl⟩
def L16 : List (Nat × Sp) := (86, sp86) :: L15
theorem ok16 : AllOK prog w (hd.heap_39 w.params) mg mb 16 L16 := by
  have h := ok15 (prog := prog) (w := w) (mg := mg) (mb := mb)
  refine h.cons (fn_ok (T0 h) (c86 _) (bn86_1 _) rfl (fun ds Kp h => ?_) (fun ds Kp h => ?_))
  · obtain ⟨_, _, _, _, rfl, _⟩ := h; rfl
  · exact v86 (fun _ _ h => h) (fun _ _ h => h) ds Kp h
theorem c176 (P : Params) : chk (hd.heap_39 P) tbl 176 = some (3, 9, b176) := by kernel_rfl
theorem bn176_3 (P : Params) : Binds (hd.heap_39 P) 176 3 [] := by
  refine ⟨_, _, _, _, rfl, fun s vs hv hX => ?_⟩
  match vs, hv with
  | [v0, v1, v2], _ => exact ⟨[], fun _ _ => .nil, .of_defaults rfl (hX 169 _ rfl) rfl rfl rfl⟩
def L17 : List (Nat × Sp) := (176, sp176) :: L16
theorem ok17 : AllOK prog w (hd.heap_39 w.params) mg mb 17 L17 := by
  have h := ok16 (prog := prog) (w := w) (mg := mg) (mb := mb)
  refine h.cons (fn_ok (T0 h) (c176 _) (bn176_3 _) rfl (fun ds Kp h => ?_) (fun ds Kp h => ?_))
  · obtain ⟨_, _, _, _, _, _, _, _, _, _, rfl, _⟩ := h; rfl
  · exact v176 (fun _ _ h => h) ds Kp h
theorem c184 (P : Params) : chk (hd.heap_39 P) tbl 184 = some (3, 9, b184) := by kernel_rfl
theorem bn184_3 (P : Params) : Binds (hd.heap_39 P) 184 3 [] := by
  refine ⟨_, _, _, _, rfl, fun s vs hv hX => ?_⟩
  match vs, hv with
  | [v0, v1, v2], _ => exact ⟨[], fun _ _ => .nil, .of_defaults rfl (hX 177 _ rfl) rfl rfl rfl⟩
def L18 : List (Nat × Sp) := (184, sp184) :: L17
theorem ok18 : AllOK prog w (hd.heap_39 w.params) mg mb 18 L18 := by
  have h := ok17 (prog := prog) (w := w) (mg := mg) (mb := mb)
  refine h.cons (fn_ok (T0 h) (c184 _) (bn184_3 _) rfl (fun ds Kp h => ?_) (fun ds Kp h => ?_))
  · obtain ⟨_, _, _, _, _, _, _, _, _, _, rfl, _⟩ := h; rfl
  · exact v184 (fun _ _ h => h) ds Kp h
theorem c191 (P : Params) : chk (hd.heap_39 P) tbl 191 = some (2, 4, b191) := by kernel_rfl
theorem bn191_2 (P : Params) : Binds (hd.heap_39 P) 191 2 [] := by
  refine ⟨_, _, _, _, rfl, fun s vs hv hX => ?_⟩
  match vs, hv with
  | [v0, v1], _ => exact ⟨[], fun _ _ => .nil, .of_eq rfl⟩
def L19 : List (Nat × Sp) := (191, sp191) :: L18
theorem ok19 : AllOK prog w (hd.heap_39 w.params) mg mb 19 L19 := by
  have h := ok18 (prog := prog) (w := w) (mg := mg) (mb := mb)
  refine h.cons (fn_ok (T0 h) (c191 _) (bn191_2 _) rfl (fun ds Kp h => ?_) (fun ds Kp h => ?_))
  · obtain ⟨_, _, _, _, _, _, rfl, _⟩ := h; rfl
  · exact v191 (fun _ _ h => h) ds Kp h
theorem c198 (P : Params) : chk (hd.heap_39 P) tbl 198 = some (2, 4, b198) := by kernel_rfl
theorem bn198_2 (P : Params) : Binds (hd.heap_39 P) 198 2 [] := by
  refine ⟨_, _, _, _, rfl, fun s vs hv hX => ?_⟩
  match vs, hv with
  | [v0, v1], _ => exact ⟨[], fun _ _ => .nil, .of_eq rfl⟩
def L20 : List (Nat × Sp) := (198, sp198) :: L19
theorem ok20 : AllOK prog w (hd.heap_39 w.params) mg mb 20 L20 := by
  have h := ok19 (prog := prog) (w := w) (mg := mg) (mb := mb)
  refine h.cons (fn_ok (T0 h) (c198 _) (bn198_2 _) rfl (fun ds Kp h => ?_) (fun ds Kp h => ?_))
  · obtain ⟨_, _, _, _, _, _, _, _, rfl, _⟩ := h; rfl
  · exact v198 (fun _ _ h => h) (fun _ _ h => h) ds Kp h
theorem c205 (P : Params) : chk (hd.heap_39 P) tbl 205 = some (2, 6, b205) := by kernel_rfl
theorem bn205_2 (P : Params) : Binds (hd.heap_39 P) 205 2 [] := by
  refine ⟨_, _, _, _, rfl, fun s vs hv hX => ?_⟩
  match vs, hv with
  | [v0, v1], _ => exact ⟨[], fun _ _ => .nil, .of_eq rfl⟩
def L21 : List (Nat × Sp) := (205, sp205) :: L20
theorem ok21 : AllOK prog w (hd.heap_39 w.params) mg mb 21 L21 := by
  have h := ok20 (prog := prog) (w := w) (mg := mg) (mb := mb)
  refine h.cons (fn_ok (T0 h) (c205 _) (bn205_2 _) rfl (fun ds Kp h => ?_) (fun ds Kp h => ?_))
  · obtain ⟨_, _, _, _, _, rfl, _⟩ := h; rfl
  · exact v205 (fun _ _ h => h) ds Kp h
theorem c213 (P : Params) : chk (hd.heap_39 P) tbl 213 = some (2, 6, b213) := by kernel_rfl
theorem bn213_2 (P : Params) : Binds (hd.heap_39 P) 213 2 [] := by
  refine ⟨_, _, _, _, rfl, fun s vs hv hX => ?_⟩
  match vs, hv with
  | [v0, v1], _ => exact ⟨[], fun _ _ => .nil, .of_defaults rfl (hX 206 _ rfl) rfl rfl rfl⟩
def L22 : List (Nat × Sp) := (213, sp213) :: L21
theorem ok22 : AllOK prog w (hd.heap_39 w.params) mg mb 22 L22 := by
  have h := ok21 (prog := prog) (w := w) (mg := mg) (mb := mb)
  refine h.cons (fn_ok (T0 h) (c213 _) (bn213_2 _) rfl (fun ds Kp h => ?_) (fun ds Kp h => ?_))
  · obtain ⟨_, _, _, _, _, rfl, _⟩ := h; rfl
  · exact v213 (fun _ _ h => h) ds Kp h
theorem c221 (P : Params) : chk (hd.heap_39 P) tbl 221 = some (2, 9, b221) := by kernel_rfl
theorem bn221_2 (P : Params) : Binds (hd.heap_39 P) 221 2 [] := by
  refine ⟨_, _, _, _, rfl, fun s vs hv hX => ?_⟩
  match vs, hv with
  | [v0, v1], _ => exact ⟨[], fun _ _ => .nil, .of_defaults rfl (hX 214 _ rfl) rfl rfl rfl⟩
def L23 : List (Nat × Sp) := (221, sp221) :: L22
theorem ok23 : AllOK prog w (hd.heap_39 w.params) mg mb 23 L23 := by
  have h := ok22 (prog := prog) (w := w) (mg := mg) (mb := mb)
  refine h.cons (fn_ok (T0 h) (c221 _) (bn221_2 _) rfl (fun ds Kp h => ?_) (fun ds Kp h => ?_))
  · obtain ⟨_, _, _, _, _, rfl, _⟩ := h; rfl
  · exact v221 (fun _ _ h => h) (fun _ _ h => h) (fun _ _ h => h) (fun _ _ h => h) ds Kp h
theorem c237 (P : Params) : chk (hd.heap_39 P) tbl 237 = some (2, 6, b237) := by kernel_rfl
theorem bn237_2 (P : Params) : Binds (hd.heap_39 P) 237 2 [] := by
  refine ⟨_, _, _, _, rfl, fun s vs hv hX => ?_⟩
  match vs, hv with
  | [v0, v1], _ => exact ⟨[], fun _ _ => .nil, .of_defaults rfl (hX 230 _ rfl) rfl rfl rfl⟩
def L24 : List (Nat × Sp) := (237, sp237) :: L23
theorem ok24 : AllOK prog w (hd.heap_39 w.params) mg mb 24 L24 := by
  have h := ok23 (prog := prog) (w := w) (mg := mg) (mb := mb)
  refine h.cons (fn_ok (T0 h) (c237 _) (bn237_2 _) rfl (fun ds Kp h => ?_) (fun ds Kp h => ?_))
  · obtain ⟨_, _, _, _, _, _, _, _, _, rfl, _⟩ := h; rfl
  · exact v237 (fun _ _ h => h) (fun _ _ h => h) (fun _ _ h => h) (fun _ _ h => h) (fun _ _ h => h) ds Kp h
theorem c229 (P : Params) : chk (hd.heap_39 P) tbl 229 = some (3, 14, b229) := by kernel_rfl
theorem bn229_3 (P : Params) : Binds (hd.heap_39 P) 229 3 [] := by
  refine ⟨_, _, _, _, rfl, fun s vs hv hX => ?_⟩
  match vs, hv with
  | [v0, v1, v2], _ => exact ⟨[], fun _ _ => .nil, .of_defaults rfl (hX 222 _ rfl) rfl rfl rfl⟩
def L25 : List (Nat × Sp) := (229, sp229) :: L24
theorem ok25 : AllOK prog w (hd.heap_39 w.params) mg mb 25 L25 := by
  have h := ok24 (prog := prog) (w := w) (mg := mg) (mb := mb)
  refine h.cons (fn_ok (T0 h) (c229 _) (bn229_3 _) rfl (fun ds Kp h => ?_) (fun ds Kp h => ?_))
  · obtain ⟨_, _, _, _, _, _, _, _, _, _, _, _, _, _, _, _, _, _, _, rfl, _⟩ := h; rfl
  · exact v229 (fun _ _ h => h) (fun _ _ h => h) (fun _ _ h => h) (fun _ _ h => h) ds Kp h
theorem c244 (P : Params) : chk (hd.heap_39 P) tbl 244 = some (2, 3, b244) := by kernel_rfl
theorem bn244_2 (P : Params) : Binds (hd.heap_39 P) 244 2 [] := by
  refine ⟨_, _, _, _, rfl, fun s vs hv hX => ?_⟩
  match vs, hv with
  | [v0, v1], _ => exact ⟨[], fun _ _ => .nil, .of_eq rfl⟩
def L26 : List (Nat × Sp) := (244, sp244) :: L25
theorem ok26 : AllOK prog w (hd.heap_39 w.params) mg mb 26 L26 := by
  have h := ok25 (prog := prog) (w := w) (mg := mg) (mb := mb)
  refine h.cons (fn_ok (T0 h) (c244 _) (bn244_2 _) rfl (fun ds Kp h => ?_) (fun ds Kp h => ?_))
  · obtain ⟨_, _, _, _, rfl, _⟩ := h; rfl
  · exact v244 ds Kp h
theorem c251 (P : Params) : chk (hd.heap_39 P) tbl 251 = some (3, 7, b251) := by kernel_rfl
theorem bn251_3 (P : Params) : Binds (hd.heap_39 P) 251 3 [] := by
  refine ⟨_, _, _, _, rfl, fun s vs hv hX => ?_⟩
  match vs, hv with
  | [v0, v1, v2], _ => exact ⟨[], fun _ _ => .nil, .of_eq rfl⟩
def L27 : List (Nat × Sp) := (251, sp251) :: L26
theorem ok27 : AllOK prog w (hd.heap_39 w.params) mg mb 27 L27 := by
  have h := ok26 (prog := prog) (w := w) (mg := mg) (mb := mb)
  refine h.cons (fn_ok (T0 h) (c251 _) (bn251_3 _) rfl (fun ds Kp h => ?_) (fun ds Kp h => ?_))
  · obtain ⟨_, rfl, _⟩ := h; rfl
  · exact v251 ds Kp h
theorem c258 (P : Params) : chk (hd.heap_39 P) tbl 258 = some (1, 2, b258) := by kernel_rfl
theorem bn258_1 (P : Params) : Binds (hd.heap_39 P) 258 1 [] := by
  refine ⟨_, _, _, _, rfl, fun s vs hv hX => ?_⟩
  match vs, hv with
  | [v0], _ => exact ⟨[], fun _ _ => .nil, .of_eq rfl⟩
def L28 : List (Nat × Sp) := (258, sp258) :: L27
theorem ok28 : AllOK prog w (hd.heap_39 w.params) mg mb 28 L28 := by
  have h := ok27 (prog := prog) (w := w) (mg := mg) (mb := mb)
  refine h.cons (fn_ok (T0 h) (c258 _) (bn258_1 _) rfl (fun ds Kp h => ?_) (fun ds Kp h => ?_))
  · obtain ⟨_, _, rfl, _⟩ := h; rfl
  · exact v258 ds Kp h
theorem c265 (P : Params) : chk (hd.heap_39 P) tbl 265 = some (4, 11, b265) := by kernel_rfl
theorem bn265_4 (P : Params) : Binds (hd.heap_39 P) 265 4 [] := by
  refine ⟨_, _, _, _, rfl, fun s vs hv hX => ?_⟩
  match vs, hv with
  | [v0, v1, v2, v3], _ => exact ⟨[], fun _ _ => .nil, .of_eq rfl⟩
def L29 : List (Nat × Sp) := (265, sp265) :: L28
theorem ok29 : AllOK prog w (hd.heap_39 w.params) mg mb 29 L29 := by
  have h := ok28 (prog := prog) (w := w) (mg := mg) (mb := mb)
  refine h.cons (fn_ok (T0 h) (c265 _) (bn265_4 _) rfl (fun ds Kp h => ?_) (fun ds Kp h => ?_))
  · obtain ⟨_, _, _, _, _, _, _, _, _, _, rfl, _⟩ := h; rfl
  · exact v265 ds Kp h
theorem c272 (P : Params) : chk (hd.heap_39 P) tbl 272 = some (4, 9, b272) := by kernel_rfl
theorem bn272_4 (P : Params) : Binds (hd.heap_39 P) 272 4 [] := by
  refine ⟨_, _, _, _, rfl, fun s vs hv hX => ?_⟩
  match vs, hv with
  | [v0, v1, v2, v3], _ => exact ⟨[], fun _ _ => .nil, .of_eq rfl⟩
def L30 : List (Nat × Sp) := (272, sp272) :: L29
theorem ok30 : AllOK prog w (hd.heap_39 w.params) mg mb 30 L30 := by
  have h := ok29 (prog := prog) (w := w) (mg := mg) (mb := mb)
  refine h.cons (fn_ok (T0 h) (c272 _) (bn272_4 _) rfl (fun ds Kp h => ?_) (fun ds Kp h => ?_))
  · obtain ⟨_, _, _, _, rfl, _⟩ := h; rfl
  · exact v272 (fun _ _ h => h) (fun _ _ h => h) (fun _ _ h => h) ds Kp h
theorem c279 (P : Params) : chk (hd.heap_39 P) tbl 279 = some (2, 2, b279) := by kernel_rfl
theorem bn279_2 (P : Params) : Binds (hd.heap_39 P) 279 2 [] := by
  refine ⟨_, _, _, _, rfl, fun s vs hv hX => ?_⟩
  match vs, hv with
  | [v0, v1], _ => exact ⟨[], fun _ _ => .nil, .of_eq rfl⟩
def L31 : List (Nat × Sp) := (279, sp279) :: L30
theorem ok31 : AllOK prog w (hd.heap_39 w.params) mg mb 31 L31 := by
  have h := ok30 (prog := prog) (w := w) (mg := mg) (mb := mb)
  refine h.cons (fn_ok (T0 h) (c279 _) (bn279_2 _) rfl (fun ds Kp h => ?_) (fun ds Kp h => ?_))
  · obtain ⟨_, _, _, _, _, _, _, _, _, _, _, _, rfl, _⟩ := h; rfl
  · exact v279 ds Kp h
theorem c286 (P : Params) : chk (hd.heap_39 P) tbl 286 = some (2, 2, b286) := by kernel_rfl
theorem bn286_2 (P : Params) : Binds (hd.heap_39 P) 286 2 [] := by
  refine ⟨_, _, _, _, rfl, fun s vs hv hX => ?_⟩
  match vs, hv with
  | [v0, v1], _ => exact ⟨[], fun _ _ => .nil, .of_eq rfl⟩
def L32 : List (Nat × Sp) := (286, sp286) :: L31
theorem ok32 : AllOK prog w (hd.heap_39 w.params) mg mb 32 L32 := by
  have h := ok31 (prog := prog) (w := w) (mg := mg) (mb := mb)
  refine h.cons (fn_ok (T0 h) (c286 _) (bn286_2 _) rfl (fun ds Kp h => ?_) (fun ds Kp h => ?_))
  · obtain ⟨_, _, _, _, _, _, _, _, rfl, _⟩ := h; rfl
  · exact v286 ds Kp h
theorem c293 (P : Params) : chk (hd.heap_39 P) tbl 293 = some (1, 4, b293) := by kernel_rfl
theorem bn293_1 (P : Params) : Binds (hd.heap_39 P) 293 1 [] := by
  refine ⟨_, _, _, _, rfl, fun s vs hv hX => ?_⟩
  match vs, hv with
  | [v0], _ => exact ⟨[], fun _ _ => .nil, .of_eq rfl⟩
def L33 : List (Nat × Sp) := (293, sp293) :: L32
theorem ok33 : AllOK prog w (hd.heap_39 w.params) mg mb 33 L33 := by
  have h := ok32 (prog := prog) (w := w) (mg := mg) (mb := mb)
  refine h.cons (fn_ok (T0 h) (c293 _) (bn293_1 _) rfl (fun ds Kp h => ?_) (fun ds Kp h => ?_))
  · obtain ⟨_, _, _, _, rfl, _⟩ := h; rfl
  · exact v293 (fun _ _ h => h) ds Kp h
theorem c300 (P : Params) : chk (hd.heap_39 P) tbl 300 = some (4, 6, b300) := by kernel_rfl
theorem bn300_4 (P : Params) : Binds (hd.heap_39 P) 300 4 [] := by
  refine ⟨_, _, _, _, rfl, fun s vs hv hX => ?_⟩
  match vs, hv with
  | [v0, v1, v2, v3], _ => exact ⟨[], fun _ _ => .nil, .of_eq rfl⟩
def L34 : List (Nat × Sp) := (300, sp300) :: L33
theorem ok34 : AllOK prog w (hd.heap_39 w.params) mg mb 34 L34 := by
  have h := ok33 (prog := prog) (w := w) (mg := mg) (mb := mb)
  refine h.cons (fn_ok (T0 h) (c300 _) (bn300_4 _) rfl (fun ds Kp h => ?_) (fun ds Kp h => ?_))
  · obtain ⟨_, _, _, _, _, _, _, _, _, _, rfl, _⟩ := h; rfl
  · exact v300 (fun _ _ h => h) ds Kp h
end
end Mine

end
section
open PySem PySem.W PySem.Calls PyProof.Rows
namespace Mine

section
variable {prog : Program} {w : World} {K : Frag} {mg mb : Str → Option Value} {n : Nat}

/-- a ValueError on its way out of the frames l, seen from a heap h before it -/
structure Fly (h : Heap) (g : Vw) (l : List Env) (e : Addr) (h' : Heap) : Prop where
  ex : ∃ base a0, Heap.FlyingW base l e (.type "ValueError") a0 h' ∧ (∀ b o, g b = some o → base.get? b = some o) ∧
    ∀ b o, h.get? b = some o → (b ∈ l.filterMap (·.frame) ∧ ∃ es ep, o.data = .dict es ep) ∨ ∃ sl, base.get? b = some { o with slots := sl } ∧ ((∀ es ep, o.data ≠ .dict es ep) → sl = o.slots)
  up : h.UpToSlots h'

theorem up_of_keep {h h' : Heap} (k : Keep h h') : h.UpToSlots h' := fun b o e _ => let ⟨sl, x, _⟩ := k b o e; ⟨sl, x⟩

/-- what stands behind it -/
theorem keep_of {h h' base : Heap} {l : List Env} (hs : base.StaysIn h') (hu : h.UpToSlots h')
    (hb : ∀ b o, h.get? b = some o → (b ∈ l.filterMap (·.frame) ∧ ∃ es ep, o.data = .dict es ep) ∨ ∃ sl, base.get? b = some { o with slots := sl } ∧ ((∀ es ep, o.data ≠ .dict es ep) → sl = o.slots)) : Keep h h' := by
  intro b o e
  rcases hb b o e with ⟨_, es, ep, hd⟩ | ⟨sl, x, c⟩
  · obtain ⟨sl, y⟩ := hu b o e fun vs q => by rw [hd] at q; cases q
    exact ⟨sl, y, fun q => absurd hd (q es ep)⟩
  · exact ⟨sl, hs _ _ x, c⟩

theorem Fly.gx {h : Heap} {g : Vw} {l : List Env} {e : Addr} {h' : Heap} (x : Fly h g l e h') : GX h g h' g := by
  obtain ⟨⟨base, a0, f, hg, hb⟩, up⟩ := x
  exact ⟨keep_of f.1 up hb, fun _ _ e => e, fun a o e => f.1 _ _ (hg a o e), fun _ _ e => .inl e⟩

theorem Fly.back {h0 h : Heap} {g0 g : Vw} {l : List Env} {e : Addr} {h' : Heap} (x : Fly h g l e h') (k : GX h0 g0 h g) : Fly h0 g0 l e h' := by
  obtain ⟨⟨base, a0, f, hg, hb⟩, up⟩ := x
  refine ⟨⟨base, a0, f, fun b o q => hg b o (k.grow b o q), fun b o q => ?_⟩, (up_of_keep k.keep).trans up⟩
  obtain ⟨sl, y, c⟩ := k.keep b o q
  rcases hb b _ y with ⟨h1, h2⟩ | ⟨sl2, y2, c2⟩
  · exact .inl ⟨h1, h2⟩
  · exact .inr ⟨sl2, y2, fun q => (c2 q).trans (c q)⟩

def PostE (A : Around) (g : Vw) (s : Shared) (Pe : Prop) (E : Value → Shared → Prop) : Prop :=
  Pe → ∀ outer e h' tk, A.frames = some outer → Fly s.heap g outer e h' → E (.ref e) { s with heap := h', toks := tk }
theorem PostE.ext {A : Around} {g g' : Vw} {s : Shared} {Pe : Prop} {E : Value → Shared → Prop} (p : PostE A g s Pe E) {h' : Heap} (k : GX s.heap g h' g') (tk : Nat) : PostE A g' { s with heap := h', toks := tk } Pe E :=
  fun pe outer e h2 t2 hf x => p pe outer e h2 t2 hf (x.back k)

def CallR (prog : Program) (w : World) (K : Frag) (mg mb : Str → Option Value) (n : Nat) (f : Addr) (sp : List PyData → (PyData → Prop) → Prop → Prop) : Prop :=
  ∀ (A : Around) (s : Shared) (g : Vw) (vs : List Value) (ds : List PyData) (Kp : PyData → Prop) (Pe : Prop) (Q E : Value → Shared → Prop),
    Rm A n → Fro A s.heap g → Sub g s.heap → Gr K mg mb g → RdL g vs ds → sp ds Kp Pe → Post g s Kp Q → PostE A g s Pe E → wpAny (model prog w) A (call (.ref f) vs) Q E s

theorem call_gen {a : Addr} {k : Nat} {fd : FuncData} {bd : List Stmt} {dds : List PyData} {oc : Value} {od : Option Addr} {osl : Array (Option Value)} (ho : K.lookup a = some ⟨oc, od, .func fd, osl⟩) (hbody : fd.body = .stmts bd) (h1 : scopeOK fd.scope = true) (h2 : fd.scope.isCoroutine = false) (h3 : fd.scope.isGenerator = false)
    (h4 : fd.globals = mainGlobals) (h5 : fd.builtins = builtinsNs) (h6 : codeIn K fd.code fd.qualname = true) (h7 : nodupS (ownNames fd.scope) = true) (h8 : (ownNames fd.scope).take (fd.params.args.map (·.arg)).length = fd.params.args.map (·.arg))
    (hb : Binds K a k dds) (hk : k + dds.length = (fd.params.args.map (·.arg)).length) {A : Around} {s : Shared} {g : Vw} {vs : List Value} {ds : List PyData} {Kp : PyData → Prop} {Q E : Value → Shared → Prop}
    (hrm : Rm A (n + 1)) (hfro : Fro A s.heap g) (hsub : Sub g s.heap) (hgr : Gr K mg mb g) (hr : RdL g vs ds) (hlen : ds.length = k) (p : Post g s Kp Q)
    (hrun : ∀ (outer : List Env) (env : Env) (h₁ : Heap) (tk : Nat), A.frames = some outer → Fm K mg mb n fd.scope.names (ownNames fd.scope) (A.deeper env) env g { s with heap := h₁, toks := tk } (start (ownNames fd.scope).length (ds ++ dds)) → g env.locals = none → env.frame = some env.locals →
      (∀ b o, s.heap.get? b = some o → h₁.get? b = some o) → s.heap.get? env.locals = none → ∀ (Q' : Flow → Shared → Prop) (E' : Value → Shared → Prop), PostS (ownNames fd.scope) env.locals g { s with heap := h₁, toks := tk } (fun _ => Kp .none) Kp Q' →
      (∀ e s2, wpAny (model prog w) (A.deeper env) (leaving env e) (fun _ s3 => E e s3) (fun e' s3 => E e' s3) s2 → E' e s2) → wpAny (model prog w) (A.deeper env) (execs bd env) Q' E' { s with heap := h₁, toks := tk }) :
    wpAny (model prog w) A (call (.ref a) vs) Q E s := by
  obtain ⟨oc', od', fd', osl', ho', hbind⟩ := hb
  rw [ho] at ho'
  obtain ⟨rfl, rfl, rfl, rfl⟩ : oc = oc' ∧ od = od' ∧ fd = fd' ∧ osl = osl' := by
    simp only [Option.some.injEq, Obj.mk.injEq, Data.func.injEq] at ho'; exact ho'
  have G := hgr.hold _ hsub
  have hX := G.X
  obtain ⟨dvs, hdv, hB⟩ := hbind s vs (by rw [hr.length, hlen]) hX
  have hrd : RdL g (vs ++ dvs) (ds ++ dds) := hr.append (hdv g hgr.frag)
  have hnd := nodupS_ok h7
  have hlenp : (vs ++ dvs).length = (fd.params.args.map (·.arg)).length := by
    rw [hrd.length, List.length_append, hlen, hk]
  generalize hps : fd.params.args.map (·.arg) = ps at *
  have hpsn : ps.Nodup := by rw [← h8]; exact hnd.sublist (List.take_sublist _ _)
  have hmemown : ∀ x ∈ ownNames fd.scope, fd.scope.names.lookup x = some .local := by
    intro x hx
    obtain ⟨y, hy, rfl⟩ := List.mem_map.mp hx
    obtain ⟨hy1, hy2⟩ := List.mem_filter.mp hy
    exact scopeOK.names h1 y hy1 (by simpa using hy2)
  refine wpAny_call (codeAny_call_def (fd := fd) (body := bd) (binds := ps.zip (vs ++ dvs)) (by have := hrm.hd; unfold recursionLimit; omega) (hX _ _ ho) rfl G.nolimit (codeRec_of hX h6) hbody hB (scopeOK.cell h1) ?_ (fun h₁ hns hk₁ => ?_) h2 h3 (scopeOK.kind h1))
  · intro x hx
    have : x.1 ∈ ps := (List.of_mem_zip hx).1
    rw [← h8] at this
    exact hmemown _ (List.mem_of_mem_take this)
  · have hL : g s.heap.objs.size = none := hsub.fresh (Nat.le_refl _)
    have sub1 : Sub g h₁ := fun b o e => hk₁ b o (hsub b o e)
    obtain ⟨outer, ha, hbo⟩ := hfro
    have hL0 : s.heap.get? s.heap.objs.size = none := by
      cases q : s.heap.get? s.heap.objs.size with
      | none => rfl
      | some o => exact absurd (Heap.lt_size q) (Nat.lt_irrefl _)
    refine hrun outer (callEnv fd s.heap.objs.size a) h₁ _ ha ⟨⟨hrm.hh, ?_, ?_⟩, ?_, ⟨rfl, scopeOK.kind h1, h4, h5⟩, sub1, hgr, ⟨_, hns, ?_⟩⟩ hL rfl hk₁ hL0 _ _ ⟨fun h' tk g' ρ' k1 X l => ?_, fun v d h' tk g' k1 X r => ?_⟩ (fun e s2 h => h)
    · have := hrm.hd; rw [depth_deeper]; omega
    · have := hrm.hu; rw [units_deeper]; omega
    · obtain ⟨o, es, ep, e, d, _⟩ := hns
      refine ⟨_, Around.frames_deeper ha, fun env he => ?_⟩
      rcases List.mem_cons.mp he with rfl | he
      · exact ⟨by rw [show (callEnv fd s.heap.objs.size a).scope = fd.scope from rfl, scopeOK.kind h1]; decide, _, o, es, ep, rfl, e, d, hL⟩
      · obtain ⟨k1, L, o', es', ep', k2, k3, k4, k5⟩ := hbo env he
        exact ⟨k1, L, o', es', ep', k2, hk₁ _ _ k3, k4, k5⟩
    · intro i x d hi hd
      unfold start at hd
      have hilt : i < (ds ++ dds).length := by
        by_cases q : i < (ds ++ dds).length
        · exact q
        · exfalso
          rw [List.getElem?_append_right (by simpa using q)] at hd
          rw [List.getElem?_replicate] at hd
          split at hd <;> simp at hd
      rw [List.getElem?_append_left (by simpa using hilt), List.getElem?_map] at hd
      obtain ⟨d', hd', e⟩ := Option.map_eq_some_iff.mp hd
      cases e
      obtain ⟨v, hv, r⟩ := hrd.get hd'
      refine ⟨v, ?_, r⟩
      have hlp : i < ps.length := by rw [← hlenp, hrd.length]; exact hilt
      have hx : ps[i]? = some x := by
        rw [← h8, List.getElem?_take_of_lt (by exact hlp)]; exact hi
      refine lookup_nodup ?_ (List.mem_reverse.mpr ?_)
      · rw [List.map_reverse, List.map_fst_zip (by omega)]
        exact List.pairwise_reverse.mpr (hpsn.imp fun h => Ne.symm h)
      · refine List.mem_of_getElem? (i := i) ?_
        rw [List.getElem?_zip_eq_some]
        exact ⟨hx, hv⟩
    · refine p .none h' tk .none g' k1 ⟨fun b o e => X.keep b o (Nat.ne_of_lt (Heap.lt_size e)) (hk₁ b o e), X.grow, X.sub, fun b o e => ?_⟩ .none
      rcases X.new b o e with e' | e'
      · exact .inl e'
      · right
        cases q : s.heap.get? b with
        | none => rfl
        | some o' => have := hk₁ _ _ q; rw [e'] at this; cases this
    · refine p v h' tk d g' k1 ⟨fun b o e => X.keep b o (Nat.ne_of_lt (Heap.lt_size e)) (hk₁ b o e), X.grow, X.sub, fun b o e => ?_⟩ r
      rcases X.new b o e with e' | e'
      · exact .inl e'
      · right
        cases q : s.heap.get? b with
        | none => rfl
        | some o' => have := hk₁ _ _ q; rw [e'] at this; cases this
end
end Mine

end
section
open PySem PySem.W PySem.Calls PyProof.Rows
namespace Mine

section
variable {prog : Program} {w : World} {K : Frag} {mg mb : Str → Option Value} {n : Nat}

theorem keep_in {h h₁ h2 : Heap} {L : Addr} {g g' : Vw} (k : ∀ b o, h.get? b = some o → h₁.get? b = some o) (hL : h.get? L = none) (x : FX L h₁ g h2 g') : Keep h h2 := fun b o e =>
  x.keep b o (by rintro rfl; rw [hL] at e; cases e) (k b o e)

theorem leave_on {A : Around} {env : Env} {outer : List Env} {h : Heap} {g g1 : Vw} {s1 : Shared} {e : Addr} {h2 : Heap} {L : Addr} {Q : Unit → Shared → Prop} {E : Value → Shared → Prop}
    (hf : A.frames = some outer) (hfr : env.frame = some L) (hL : h.get? L = none) (kp : Keep h s1.heap) (gg : ∀ a o, g a = some o → g1 a = some o) (x : Fly s1.heap g1 (env :: outer) e h2) {s2 : Shared} (hs2 : s2.heap = h2)
    (hQ : ∀ h3, Fly h g outer e h3 → Q () { s2 with heap := h3 }) : wpAny (model prog w) (A.deeper env) (leaving env (.ref e)) Q E s2 := by
  subst hs2
  obtain ⟨⟨base, a0, f, hg, hb⟩, up⟩ := x
  refine wpAny_leaves_onW (Around.frames_deeper hf) hfr f fun h3 f3 u3 => hQ h3 ⟨⟨base, a0, f3, fun b o q => hg b o (gg b o q), fun b o q => ?_⟩, ((up_of_keep kp).trans up).trans u3⟩
  obtain ⟨sl, y, c⟩ := kp b o q
  rcases hb b _ y with ⟨m1, m2⟩ | ⟨sl2, y2, c2⟩
  · rw [List.filterMap_cons, hfr] at m1
    rcases List.mem_cons.mp m1 with r | m1
    · subst r; rw [hL] at q; cases q
    · exact .inl ⟨m1, m2⟩
  · exact .inr ⟨sl2, y2, fun q => (c2 q).trans (c q)⟩

theorem fro_fun {h hx : Heap} {g : Vw} {as : List Addr} (k : ∀ b o, h.get? b = some o → hx.get? b = some o) : ∀ {l : List Env}, (∀ env ∈ l, FrOK h g env) → (∀ env ∈ l, ∀ a, env.frame = some a → a ∈ as) → hx.FunFrames (hideAll h as) l
  | [], _, _ => trivial
  | env :: r, hl, hin => by
    obtain ⟨k1, L, o, es, ep, k2, k3, k4, k5⟩ := hl env (.head _)
    exact ⟨k1, ⟨L, o, k2, hideAll_none _ (hin env (.head _) L k2), k _ _ k3, fun vs q => by rw [k4] at q; cases q⟩, fro_fun k (fun e he => hl e (.tail _ he)) fun e he => hin e (.tail _ he)⟩

theorem leave_new {A : Around} {env : Env} {outer : List Env} {h : Heap} {g g1 : Vw} {s1 : Shared} {e : Addr} {hx : Heap} {L : Addr} {Q : Unit → Shared → Prop} {E : Value → Shared → Prop}
    (hf : A.frames = some outer) (hfr : env.frame = some L) (hL : h.get? L = none) (kp : Keep h s1.heap) (gg : ∀ a o, g a = some o → g1 a = some o) (sub : Sub g1 s1.heap) (fro0 : Fro A h g) (fro : Fro (A.deeper env) s1.heap g1) (hn : Heap.NewExc s1.heap hx e "ValueError")
    {s2 : Shared} (hs2 : s2.heap = hx) (hQ : ∀ h3, Fly h g outer e h3 → Q () { s2 with heap := h3 }) : wpAny (model prog w) (A.deeper env) (leaving env (.ref e)) Q E s2 := by
  subst hs2
  obtain ⟨ob, t, he, hcls, hd⟩ := hn.there
  obtain ⟨l, hl, hfl⟩ := fro
  rw [Around.frames_deeper hf] at hl
  obtain rfl := Option.some.inj hl
  have hin : ∀ x ∈ (env :: outer), ∀ a, x.frame = some a → a ∈ (env :: outer).filterMap (·.frame) := fun x hx a ha => List.mem_filterMap.mpr ⟨x, hx, ha⟩
  have hno : ∀ a, a ∈ (env :: outer).filterMap (·.frame) → g1 a = none := fun a ha => by
    obtain ⟨x, hx, hxa⟩ := List.mem_filterMap.mp ha
    obtain ⟨_, L', _, _, _, k2, _, _, k5⟩ := hfl x hx
    rw [hxa] at k2; obtain rfl := Option.some.inj k2; exact k5
  refine wpAny_leaving_firstW (base := hideAll s1.heap ((env :: outer).filterMap (·.frame))) (a0 := t) (Around.frames_deeper hf) (fro_fun hn.keeps hfl hin) hfr he (fun b o q => hn.keeps _ _ (of_hideAll _ q)) ?_ hd rfl rfl fun h3 hL3 => ?_
  · cases q : (hideAll s1.heap ((env :: outer).filterMap (·.frame))).get? e with
    | none => rfl
    | some o => have := of_hideAll _ q; rw [hn.new] at this; cases this
  · obtain ⟨k1, ⟨_, _, k2⟩, k3, k4⟩ := hL3
    rw [hcls] at k3
    refine hQ h3 ⟨⟨_, _, ⟨k1, ?_, k2, k3⟩, fun b o q => ?_, fun b o q => ?_⟩, ((up_of_keep kp).trans (Heap.UpToSlots.of_keeps hn.keeps)).trans k4⟩
    · cases q : (hideAll s1.heap ((env :: outer).filterMap (·.frame))).get? e with
      | none => rfl
      | some o => have := of_hideAll _ q; rw [hn.new] at this; cases this
    · have q1 := gg b o q
      exact hideAll_get _ (sub _ _ q1) fun hm => by rw [hno b hm] at q1; cases q1
    · by_cases hm : b ∈ outer.filterMap (·.frame)
      · left
        refine ⟨hm, ?_⟩
        obtain ⟨x, hx, hxa⟩ := List.mem_filterMap.mp hm
        obtain ⟨l2, hl2, hfl2⟩ := fro0
        rw [hf] at hl2; obtain rfl := Option.some.inj hl2
        obtain ⟨_, L', o', es, ep, k2', k3', k4', _⟩ := hfl2 x hx
        rw [hxa] at k2'; obtain rfl := Option.some.inj k2'
        rw [q] at k3'; obtain rfl := Option.some.inj k3'
        exact ⟨es, ep, k4'⟩
      · right
        obtain ⟨sl, y, c⟩ := kp b o q
        refine ⟨sl, hideAll_get _ y fun hm2 => ?_, c⟩
        rw [List.filterMap_cons, hfr] at hm2
        rcases List.mem_cons.mp hm2 with r | hm2
        · subst r; rw [hL] at q; cases q
        · exact hm hm2

/-- a call of a name whose def may raise -/
theorem eval_callR {f : Addr} {sp : List PyData → (PyData → Prop) → Prop → Prop} {scn : List (Str × NameKind)} {names : List Str} {Γ : Nat → Sp} (C : CallR prog w K mg mb n f sp) {x : Str} {p1 pos : Pos} {e : Expr} {es : List Expr} {l : XL} {c : Value} {dd : Option Addr} {fd : FuncData} {sl : Array (Option Value)}
    (hl : scn.lookup x = some .globalImplicit) (hd : (x == ("__debug__" : Str)) = false) (hv : nsIn K mainGlobals x = some (some (.ref f))) (hk : K.lookup f = some ⟨c, dd, .func fd, sl⟩) (hs : starred e = false)
    (ha : OkL prog w K mg mb n Γ scn names (e :: es) l) {A : Around} {env : Env} {g : Vw} {s : Shared} {ρ : En} {Kp : PyData → Prop} {Pe : Prop} {Q E : Value → Shared → Prop} (fm : Fm K mg mb n scn names A env g s ρ) (h : vcL Γ l ρ [] fun ds => sp ds Kp Pe) (p : Post g s Kp Q) (pe : PostE A g s Pe E) :
    wpAny (model prog w) A (eval (.Call (.Name x p1) (e :: es) [] pos) env) Q E s := by
  have G := fm.gr.hold _ fm.sub
  refine Call_ (Name_function_global fm.ev.hk (by unfold Env.kindOf; rw [fm.ev.hn]; exact hl) (loadGlobal_global (by rw [fm.ev.hg]; exact G.g) (mg_of G.X G.g hv) ?_) hd)
  have step := ha A env g s ρ pos [] _ (fun vs s₁ => (s₁.heap.get? f = some ⟨c, dd, .func fd, sl⟩ ∧ (Data.func fd = Data.func fd)) ∧ wpAny (model prog w) A (PySem.call (.ref f) ([] ++ vs)) Q E s₁) E fm h fun vs ds h1 t1 g1 k1 e1 r1 => ⟨⟨(fm.gr.up e1.grow |>.hold _ e1.sub).X _ _ hk, rfl⟩, C A _ _ _ _ _ _ _ _ fm.rm (fm.fro.ext e1) e1.sub (fm.gr.up e1.grow) r1 k1 (p.ext e1 t1) (pe.ext e1 t1)⟩
  rw [starEach_of hs] at step ⊢
  exact callWith_function (o := ⟨c, dd, .func fd, sl⟩) (fd := fd) (evalArgs_plain step)

theorem pre_ok {Γ : Nat → Sp} {scn : List (Str × NameKind)} {names : List Str} {c : Stmt → S} (k : ∀ st, OkS prog w K mg mb n Γ scn names st (c st)) {b : List Stmt} {A : Around} {env : Env} {Kr : PyData → Prop} {Kn : En → Prop} {Q : Flow → Shared → Prop} {E : Value → Shared → Prop} :
    ∀ {a : List Stmt} {g : Vw} {s : Shared} {ρ : En}, Fm K mg mb n scn names A env g s ρ → g env.locals = none → vsL Γ (toSL (a.map c)) ρ Kn Kr →
      (∀ h' tk g' ρ', Kn ρ' → FX env.locals s.heap g h' g' → Lc names h' g' env.locals ρ' → wpAny (model prog w) A (execs b env) Q E { s with heap := h', toks := tk }) →
      (∀ v d h' tk g', Kr d → FX env.locals s.heap g h' g' → Rd g' v d → Q (.ret v) { s with heap := h', toks := tk }) → wpAny (model prog w) A (execs (a ++ b) env) Q E s
  | [], g, s, ρ, f, hg, h, hn, _ => hn s.heap s.toks g ρ h (.refl f.sub hg f.live) f.lc
  | st :: a, g, s, ρ, f, hg, h, hn, hr =>
    wpAny_execs_cons (k st A env g s ρ _ Kr _ E f hg h ⟨fun h1 t1 g1 ρ1 k1 x1 l1 => pre_ok k (f.fx x1 l1 t1) x1.gl k1 (fun h2 t2 g2 ρ2 k2 x2 l2 => hn h2 t2 g2 ρ2 k2 (x1.trans x2) l2) (fun v d h2 t2 g2 k2 x2 r2 => hr v d h2 t2 g2 k2 (x1.trans x2) r2),
      fun v d h1 t1 g1 k1 x1 r1 => hr v d h1 t1 g1 k1 x1 r1⟩)
end
end Mine

end
section
open PySem PySem.W PySem.Calls PyProof.Rows
namespace Mine

section
variable {prog : Program} {w : World} {K : Frag} {mg mb : Str → Option Value} {n : Nat}

theorem vs_of {Γ : Nat → Sp} {x y : SL} {ρ : En} {Kn : En → Prop} {Kr : PyData → Prop} (e : x = y) (h : vsL Γ y ρ Kn Kr) : vsL Γ x ρ Kn Kr := e ▸ h

theorem name_builtin {scn : List (Str × NameKind)} {names : List Str} {A : Around} {env : Env} {g : Vw} {s : Shared} {ρ : En} {E : Value → Shared → Prop} (fm : Fm K mg mb n scn names A env g s ρ) {x : Str} {p : Pos} {v : Value} (hl : scn.lookup x = some .globalImplicit) (hd : (x == ("__debug__" : Str)) = false)
    (hn : nsIn K mainGlobals x = some none) (hb : bootBuiltins x = some v) (hne : x ≠ "__name__") {Q : Value → Shared → Prop} (h : Q v s) : wpAny (model prog w) A (eval (.Name x p) env) Q E s := by
  have G := fm.gr.hold _ fm.sub
  exact Name_function_global fm.ev.hk (by unfold Env.kindOf; rw [fm.ev.hn]; exact hl) (loadGlobal_builtin (by rw [fm.ev.hg]; exact G.g) (mg_none_of G.X G.g hn) (by rw [fm.ev.hb]; exact G.b) ((G.bt x hne).trans hb) h) hd

def VE : Str := Str.ofString "ValueError"
theorem boot_VE : bootBuiltins VE = some (.type "ValueError") := by kernel_rfl
theorem ne_VE : VE ≠ Str.ofString "__name__" := by decide +kernel
theorem db_VE : (VE == Str.ofString "__debug__") = false := by decide +kernel

theorem raise_fn {Γ : Nat → Sp} {tb : Tb} (T : TbOK prog w K mg mb n Γ tb) {a : Addr} {k : Nat} {fd : FuncData} {s1 s2 s3 s4 : Stmt} {np pos : Pos} {oc : Value} {od : Option Addr} {osl : Array (Option Value)} {sp : List PyData → (PyData → Prop) → Prop → Prop}
    (ho : K.lookup a = some ⟨oc, od, .func fd, osl⟩) (hbody : fd.body = .stmts [s1, s2, s3, s4, .Raise (some (.Name VE np)) none pos]) (h1 : scopeOK fd.scope = true) (h2 : fd.scope.isCoroutine = false) (h3 : fd.scope.isGenerator = false)
    (h4 : fd.globals = mainGlobals) (h5 : fd.builtins = builtinsNs) (h6 : codeIn K fd.code fd.qualname = true) (h7 : nodupS (ownNames fd.scope) = true) (h8 : (ownNames fd.scope).take (fd.params.args.map (·.arg)).length = fd.params.args.map (·.arg))
    (hb : Binds K a k []) (hk : k + ([] : List PyData).length = (fd.params.args.map (·.arg)).length) (hsc : fd.scope.names.lookup VE = some .globalImplicit) (hnv : nsIn K mainGlobals VE = some none) {px : SL} (hpx : toSL ([s1, s2, s3, s4].map (compS tb 60 fd.scope.names (ownNames fd.scope))) = px)
    (hlen : ∀ ds Kp Pe, sp ds Kp Pe → ds.length = k) (hvc : ∀ ds Kp Pe, sp ds Kp Pe → vsL Γ px (start (ownNames fd.scope).length (ds ++ [])) (fun _ => Pe) Kp) : CallR prog w K mg mb (n + 1) a sp := by
  intro A s g vs ds Kp Pe Q E hrm hfro hsub hgr hr hs p pe
  refine call_gen ho hbody h1 h2 h3 h4 h5 h6 h7 h8 hb hk hrm hfro hsub hgr hr (hlen _ _ _ hs) p fun outer env h₁ tk hf fm hg hfr hke hL Q' E' ps hE => ?_
  refine pre_ok (a := [s1, s2, s3, s4]) (b := [_]) (fun st => compS_ok T (nodupS_ok h7) 60 st) fm hg (vs_of hpx (hvc _ _ _ hs)) (fun h' tk' g' ρ' kn x l => ?_) (fun v d h' tk' g' k1 x r => ps.ret v d h' tk' g' k1 x r)
  have fm' := fm.fx x l tk'
  refine wpAny_execs_cons (Raise_classB fm.rm.hh excClass_ValueError (by rw [isSubtype_type]; kernel_rfl) (name_builtin fm' hsc db_VE hnv boot_VE ne_VE ⟨rfl, rfl⟩) fun hx e hn => hE _ _ ?_)
  exact leave_new hf hfr hL (keep_in hke hL x) x.grow x.sub hfro fm'.fro hn rfl fun h3 fl => pe kn outer e h3 _ hf fl

theorem swap_fn {Γ : Nat → Sp} {tb : Tb} (T : TbOK prog w K mg mb n Γ tb) {a f : Addr} {fd : FuncData} {x : Str} {px0 cp pos : Pos} {e1 e2 : Expr} {oc : Value} {od : Option Addr} {osl : Array (Option Value)} {sp : List PyData → (PyData → Prop) → Prop → Prop} (C : CallR prog w K mg mb n f sp)
    {c : Value} {dd : Option Addr} {fd2 : FuncData} {sl2 : Array (Option Value)} (hf2 : K.lookup f = some ⟨c, dd, .func fd2, sl2⟩) (hv : nsIn K mainGlobals x = some (some (.ref f))) (hsx : fd.scope.names.lookup x = some .globalImplicit) (hdx : (x == Str.ofString "__debug__") = false)
    (ho : K.lookup a = some ⟨oc, od, .func fd, osl⟩) (hbody : fd.body = .stmts [.Return (some (.Call (.Name x px0) [e1, e2] [] cp)) pos]) (h1 : scopeOK fd.scope = true) (h2 : fd.scope.isCoroutine = false) (h3 : fd.scope.isGenerator = false)
    (h4 : fd.globals = mainGlobals) (h5 : fd.builtins = builtinsNs) (h6 : codeIn K fd.code fd.qualname = true) (h7 : nodupS (ownNames fd.scope) = true) (h8 : (ownNames fd.scope).take (fd.params.args.map (·.arg)).length = fd.params.args.map (·.arg))
    (hb : Binds K a 2 []) (hk : 2 + ([] : List PyData).length = (fd.params.args.map (·.arg)).length) (hs1 : starred e1 = false) (hs2 : starred e2 = false) (hown : (ownNames fd.scope).length = 2)
    (he1 : compE tb 59 fd.scope.names (ownNames fd.scope) e1 = .var 1) (he2 : compE tb 59 fd.scope.names (ownNames fd.scope) e2 = .var 0) : CallR prog w K mg mb (n + 1) a (fun ds Kp Pe => ∃ S T, ds = [S, T] ∧ sp [T, S] Kp Pe) := by
  intro A s g vs ds Kp Pe Q E hrm hfro hsub hgr hr hs p pe
  obtain ⟨S, U, rfl, hs⟩ := hs
  refine call_gen ho hbody h1 h2 h3 h4 h5 h6 h7 h8 hb hk hrm hfro hsub hgr hr rfl p fun outer env h₁ tk hf fm hg hfr hke hL Q' E' ps hE => ?_
  have o1 := compE_ok T 59 fd.scope.names (ownNames fd.scope) e1
  have o2 := compE_ok T 59 fd.scope.names (ownNames fd.scope) e2
  rw [he1] at o1
  rw [he2] at o2
  have ol : OkL prog w K mg mb n Γ fd.scope.names (ownNames fd.scope) [e1, e2] (.cons (.var 1) (.cons (.var 0) .nil)) := OkL.cons hs1 o1.oe (OkL.cons hs2 o2.oe OkL.nil)
  refine wpAny_execs_cons (wpAny_Return_some (eval_callR C hsx hdx hv hf2 hs1 ol fm (Kp := Kp) (Pe := Pe) ?_ (fun v h' tk' d g' kd X r => ?_) (fun pe0 outer' e h' tk' hf' fl => ?_)))
  · rw [hown]; exact hs
  · exact ps.ret v d h' tk' g' kd (FX.of X hg fm.live) r
  · rw [Around.frames_deeper hf] at hf'
    obtain rfl := Option.some.inj hf'
    exact hE _ _ (leave_on hf hfr hL (Keep.of hke) (fun _ _ e => e) fl rfl fun h3 fl3 => pe pe0 outer e h3 _ hf fl3)
end
end Mine

end
section
open PySem PySem.W PySem.Calls PyProof.Rows
set_option maxRecDepth 100000
set_option maxHeartbeats 8000000
namespace Mine
def p147 : SL := (.cons (.unp [2, 3] (.var 0)) (.cons (.unp [4, 5] (.var 1)) (.cons (.ifs (.call 58 (.cons (.var 3) (.cons (.var 4) .nil))) (.cons (.ret (.lit (.bool true))) .nil) .nil) (.cons (.ifs (.call 79 (.cons (.var 2) (.cons (.var 5) .nil))) (.cons (.ret (.lit (.bool false))) .nil) .nil) .nil))))
def p154 : SL := (.cons (.unp [2, 3] (.var 0)) (.cons (.unp [4, 5] (.var 1)) (.cons (.ifs (.call 65 (.cons (.var 3) (.cons (.var 4) .nil))) (.cons (.ret (.lit (.bool true))) .nil) .nil) (.cons (.ifs (.call 72 (.cons (.var 2) (.cons (.var 5) .nil))) (.cons (.ret (.lit (.bool false))) .nil) .nil) .nil))))
def sp147 : List PyData → (PyData → Prop) → Prop → Prop := fun ds Kp Pe => ∃ x1 x2 y1 y2, Sm x1 ∧ Sm x2 ∧ Sm y1 ∧ Sm y2 ∧ ds = [.tuple [fr x1, fr x2], .tuple [fr y1, fr y2]] ∧ (x2 < y1 → Kp (.bool true)) ∧ (¬ x2 < y1 → y2 ≤ x1 → Kp (.bool false)) ∧ (¬ x2 < y1 → ¬ y2 ≤ x1 → Pe)
def sp154 : List PyData → (PyData → Prop) → Prop → Prop := fun ds Kp Pe => ∃ x1 x2 y1 y2, Sm x1 ∧ Sm x2 ∧ Sm y1 ∧ Sm y2 ∧ ds = [.tuple [fr x1, fr x2], .tuple [fr y1, fr y2]] ∧ (x2 ≤ y1 → Kp (.bool true)) ∧ (¬ x2 ≤ y1 → y2 < x1 → Kp (.bool false)) ∧ (¬ x2 ≤ y1 → ¬ y2 < x1 → Pe)

theorem w147 {Γ : Nat → Sp} (h58 : ∀ ds K, spc (fun x y => decide (x < y)) ds K → Γ 58 ds K) (h79 : ∀ ds K, spc (fun x y => decide (y ≤ x)) ds K → Γ 79 ds K) (ds : List PyData) (Kp : PyData → Prop) (Pe : Prop) (h : sp147 ds Kp Pe) : vsL Γ p147 (start 6 (ds ++ [])) (fun _ => Pe) Kp := by
  obtain ⟨x1, x2, y1, y2, hx1, hx2, hy1, hy2, rfl, k1, k2, k3⟩ := h
  change SE _ _ _ _ _ (.mk 0)
  unfold p147
  simp [start]
  refine h58 _ _ ⟨x2, y1, hx2, hy1, rfl, ?_⟩
  by_cases q : x2 < y1
  · simp [q]; exact k1 q
  · simp [q]
    refine h79 _ _ ⟨x1, y2, hx1, hy2, rfl, ?_⟩
    by_cases q2 : y2 ≤ x1
    · simp [q2]; exact k2 q q2
    · simp [q2]; exact k3 q q2
theorem w154 {Γ : Nat → Sp} (h65 : ∀ ds K, spc (fun x y => decide (x ≤ y)) ds K → Γ 65 ds K) (h72 : ∀ ds K, spc (fun x y => decide (y < x)) ds K → Γ 72 ds K) (ds : List PyData) (Kp : PyData → Prop) (Pe : Prop) (h : sp154 ds Kp Pe) : vsL Γ p154 (start 6 (ds ++ [])) (fun _ => Pe) Kp := by
  obtain ⟨x1, x2, y1, y2, hx1, hx2, hy1, hy2, rfl, k1, k2, k3⟩ := h
  change SE _ _ _ _ _ (.mk 0)
  unfold p154
  simp [start]
  refine h65 _ _ ⟨x2, y1, hx2, hy1, rfl, ?_⟩
  by_cases q : x2 ≤ y1
  · simp [q]; exact k1 q
  · simp [q]
    refine h72 _ _ ⟨x1, y2, hx1, hy2, rfl, ?_⟩
    by_cases q2 : y2 < x1
    · simp [q2]; exact k2 q q2
    · simp [q2]; exact k3 q q2

theorem bnN2 (P : Params) : Binds (hd.heap_39 P) 147 2 [] := by
  refine ⟨_, _, _, _, rfl, fun s vs hv hX => ?_⟩
  match vs, hv with
  | [v0, v1], _ => exact ⟨[], fun _ _ => .nil, .of_eq rfl⟩
theorem bn154 (P : Params) : Binds (hd.heap_39 P) 154 2 [] := by
  refine ⟨_, _, _, _, rfl, fun s vs hv hX => ?_⟩
  match vs, hv with
  | [v0, v1], _ => exact ⟨[], fun _ _ => .nil, .of_eq rfl⟩
theorem bn161 (P : Params) : Binds (hd.heap_39 P) 161 2 [] := by
  refine ⟨_, _, _, _, rfl, fun s vs hv hX => ?_⟩
  match vs, hv with
  | [v0, v1], _ => exact ⟨[], fun _ _ => .nil, .of_eq rfl⟩
theorem bn168 (P : Params) : Binds (hd.heap_39 P) 168 2 [] := by
  refine ⟨_, _, _, _, rfl, fun s vs hv hX => ?_⟩
  match vs, hv with
  | [v0, v1], _ => exact ⟨[], fun _ _ => .nil, .of_eq rfl⟩
section
variable {prog : Program} {w : World} {mg mb : Str → Option Value}
theorem r147 : CallR prog w (hd.heap_39 w.params) mg mb 35 147 sp147 :=
  raise_fn (T0 ok34) (px := p147) rfl rfl (by kernel_rfl) rfl rfl rfl rfl (by kernel_rfl) (by kernel_rfl) (by kernel_rfl) (bnN2 _) rfl (by kernel_rfl) (by kernel_rfl) (by kernel_rfl)
    (fun ds Kp Pe h => by obtain ⟨_, _, _, _, _, _, _, _, rfl, _⟩ := h; rfl) (w147 (fun _ _ h => h) (fun _ _ h => h))
theorem r154 : CallR prog w (hd.heap_39 w.params) mg mb 35 154 sp154 :=
  raise_fn (T0 ok34) (px := p154) rfl rfl (by kernel_rfl) rfl rfl rfl rfl (by kernel_rfl) (by kernel_rfl) (by kernel_rfl) (bn154 _) rfl (by kernel_rfl) (by kernel_rfl) (by kernel_rfl)
    (fun ds Kp Pe h => by obtain ⟨_, _, _, _, _, _, _, _, rfl, _⟩ := h; rfl) (w154 (fun _ _ h => h) (fun _ _ h => h))
theorem ok34b : AllOK prog w (hd.heap_39 w.params) mg mb 35 L34 := fun p hp => (ok34 p hp).le (by omega)
theorem r161 : CallR prog w (hd.heap_39 w.params) mg mb 36 161 (fun ds Kp Pe => ∃ S T, ds = [S, T] ∧ sp147 [T, S] Kp Pe) :=
  swap_fn (T0 ok34b) r147 rfl (by kernel_rfl) (by kernel_rfl) (by kernel_rfl) rfl rfl (by kernel_rfl) rfl rfl rfl rfl (by kernel_rfl) (by kernel_rfl) (by kernel_rfl) (bn161 _) rfl rfl rfl (by kernel_rfl) (by kernel_rfl) (by kernel_rfl)
theorem r168 : CallR prog w (hd.heap_39 w.params) mg mb 36 168 (fun ds Kp Pe => ∃ S T, ds = [S, T] ∧ sp154 [T, S] Kp Pe) :=
  swap_fn (T0 ok34b) r154 rfl (by kernel_rfl) (by kernel_rfl) (by kernel_rfl) rfl rfl (by kernel_rfl) rfl rfl rfl rfl (by kernel_rfl) (by kernel_rfl) (by kernel_rfl) (bn168 _) rfl rfl rfl (by kernel_rfl) (by kernel_rfl) (by kernel_rfl)
end
end Mine

end
section
open PySem PySem.W PySem.Calls PyProof.Rows
set_option maxRecDepth 100000
set_option maxHeartbeats 8000000
namespace Mine
section
variable {prog : Program} {w : World} {K : Frag} {mg mb : Str → Option Value} {n : Nat}

theorem ifR {Γ : Nat → Sp} {tb : Tb} (T : TbOK prog w K mg mb n Γ tb) {scn : List (Str × NameKind)} {names : List Str} {t : Expr} {B O : List Stmt} {pos : Pos} {c : X} {b : Bool} (hc : compE tb 59 scn names t = c) {A : Around} {env : Env} {g : Vw} {s : Shared} {ρ : En} {Q : Flow → Shared → Prop} {E : Value → Shared → Prop}
    (fm : Fm K mg mb n scn names A env g s ρ) (hb : (vc Γ c ρ).2 fun t => t = b) (h : ∀ h' tk g', GX s.heap g h' g' → wpAny (model prog w) A (execs (if b = true then B else O) env) Q E { s with heap := h', toks := tk }) : wpAny (model prog w) A (exec (.If t B O pos) env) Q E s := by
  have o := compE_ok T 59 scn names t
  rw [hc] at o
  refine wpAny_If (o.ot A env g s ρ _ _ E fm hb fun c h1 t1 g1 k1 e1 => ?_)
  subst k1
  have := h h1 t1 g1 e1
  cases c <;> exact this

theorem asgR {f : Addr} {sp : List PyData → (PyData → Prop) → Prop → Prop} {scn : List (Str × NameKind)} {names : List Str} {Γ : Nat → Sp} (C : CallR prog w K mg mb n f sp) {x y : Str} {p1 py pos cp : Pos} {e : Expr} {es : List Expr} {l : XL} {c : Value} {dd : Option Addr} {fd : FuncData} {sl : Array (Option Value)} {i : Nat}
    (hl : scn.lookup x = some .globalImplicit) (hd : (x == ("__debug__" : Str)) = false) (hv : nsIn K mainGlobals x = some (some (.ref f))) (hk : K.lookup f = some ⟨c, dd, .func fd, sl⟩) (hs : starred e = false)
    (hy : scn.lookup y = some .local) (hi : names[i]? = some y) (hnd : names.Nodup)
    (ha : OkL prog w K mg mb n Γ scn names (e :: es) l) {A : Around} {env : Env} {g : Vw} {s : Shared} {ρ : En} {Kd : PyData → Prop} {Pe : Prop} {Q : Flow → Shared → Prop} {E : Value → Shared → Prop} (fm : Fm K mg mb n scn names A env g s ρ) (hg : g env.locals = none) (h : vcL Γ l ρ [] fun ds => sp ds Kd Pe) (pe : PostE A g s Pe E)
    (hn : ∀ d h' tk g', Kd d → FX env.locals s.heap g h' g' → Lc names h' g' env.locals (ρ.set i (some d)) → Q .next { s with heap := h', toks := tk }) :
    wpAny (model prog w) A (exec (.Assign [.Name y py] (.Call (.Name x p1) (e :: es) [] cp) pos) env) Q E s := by
  refine wpAny_Assign_Name (eval_callR C hl hd hv hk hs ha fm h (fun v h1 t1 d1 g1 k1 e1 r1 => ?_) pe) (noswap rfl _ _ _)
  have x1 := FX.of e1 hg fm.live
  refine store_ok (s := { s with heap := h1, toks := t1 }) fm.ev e1.sub (fm.lc.ext e1) x1.gl hy hi hnd r1 fun h2 x2 l2 => ?_
  exact hn d1 h2 _ g1 k1 (x1.trans x2) l2

theorem VE_sub : isSubtype (.type "ValueError") (.type "BaseException") = pure true := by rw [isSubtype_type]; kernel_rfl
theorem VE_self : isSubtype (.type "ValueError") (.type "ValueError") = pure true := by rw [isSubtype_type]; kernel_rfl
theorem VE_meta : isSubtype (.type ((Manifest.find? "ValueError").elim "type" fun y => y.metatype)) (.type "tuple") = pure false := by
  rw [isSubtype_type]; kernel_rfl

/-- a ValueError is met by the suite that returns 2 -/
theorem caught2 {scn : List (Str × NameKind)} {names : List Str} {A : Around} {env : Env} {outer : List Env} {g : Vw} {s : Shared} {ρ : En} {Q : Flow → Shared → Prop} {E : Value → Shared → Prop} {np p1 p2 pos : Pos} {kk : Nat} (fm : Fm K mg mb n scn names A env g s ρ) (hg : g env.locals = none)
    (hf : A.frames = some (env :: outer)) (hfr : env.frame = some env.locals) (hsc : scn.lookup VE = some .globalImplicit) (hnv : nsIn K mainGlobals VE = some none) {Pe : Prop}
    (hQ : Pe → ∀ h' tk tk', FX env.locals s.heap g h' g → Q (.ret (.int 2 tk')) { s with heap := h', toks := tk }) :
    PostE A g s Pe fun e s1 => wpAny (model prog w) A (noteFrame e env) (fun _ s2 => wpAny (model prog w) A (setFlight e none) (fun _ s3 => wpAny (model prog w) A (handleBy e env [.ExceptHandler (some (.Name VE np)) none [.Return (some (.Constant (.int 2) kk p1)) p2] pos]) Q E s3) E s2) E s1 := by
  intro pe outer' e h' tk hf' fl
  rw [hf] at hf'
  obtain rfl := Option.some.inj hf'
  obtain ⟨⟨base, a0, f, hgb, hb⟩, up⟩ := fl
  refine wpAny_looks_onW hf hfr f fun h4 held4 sm4 => ?_
  refine wpAny_landsW held4 fun h5 fl5 sm5 => ?_
  obtain ⟨ob, hob, hobc⟩ := fl5.there
  have sub5 : Sub g h5 := fun a o e => fl5.1 _ _ (hgb a o e)
  have G := fm.gr.hold _ sub5
  refine wpAny_handleBy_builtin (X := "ValueError") (T := "ValueError") (b := true) VE_sub VE_meta VE_self ?_
  refine Name_function_global fm.ev.hk (by unfold Env.kindOf; rw [fm.ev.hn]; exact hsc) (loadGlobal_builtin (by rw [fm.ev.hg]; exact G.g) (mg_none_of G.X G.g hnv) (by rw [fm.ev.hb]; exact G.b) ((G.bt VE ne_VE).trans boot_VE) ?_) db_VE
  refine ⟨rfl, ⟨ob, hob, hobc⟩, ?_⟩
  rw [if_pos rfl]
  refine lands_againW fl5 fun h6 fl6 sm6 => ?_
  have kp : Keep s.heap h6 := keep_of fl6.1 (((up.trans sm4).trans sm5).trans sm6) hb
  have gx : GX s.heap g h6 g := ⟨kp, fun _ _ e => e, fun a o e => fl6.1 _ _ (hgb a o e), fun _ _ e => .inl e⟩
  refine wpAny_execs_cons (wpAny_Return_some (wpAny_Constant_int ?_))
  exact hQ pe h6 _ _ (FX.of gx hg fm.live)
end
end Mine

end
section
open PySem PySem.W PySem.Calls PyProof.Rows
set_option maxRecDepth 100000
set_option maxHeartbeats 8000000
namespace Mine
def askV (k : Nat) (x1 x2 y1 y2 : Int) : Int :=
  if k = 0 then (if x2 < y1 then 1 else if y2 ≤ x1 then 0 else 2)
  else if k = 1 then (if x2 ≤ y1 then 1 else if y2 < x1 then 0 else 2)
  else if k = 2 then (if y2 < x1 then 1 else if x2 ≤ y1 then 0 else 2)
  else (if y2 ≤ x1 then 1 else if x2 < y1 then 0 else 2)
def sp307 : Sp := fun ds Kp => ∃ (k : Nat) (x1 x2 y1 y2 : Int), Sm x1 ∧ Sm x2 ∧ Sm y1 ∧ Sm y2 ∧ k < 4 ∧ ds = [.int k, .tuple [fr x1, fr x2], .tuple [fr y1, fr y2]] ∧ Kp (.int (askV k x1 x2 y1 y2))
theorem bn307 (P : Params) : Binds (hd.heap_39 P) 307 3 [] := by
  refine ⟨_, _, _, _, rfl, fun s vs hv hX => ?_⟩
  match vs, hv with
  | [v0, v1, v2], _ => exact ⟨[], fun _ _ => .nil, .of_eq rfl⟩
section
variable {prog : Program} {w : World} {mg mb : Str → Option Value} {K : Frag}
theorem CallR.le {m n : Nat} {f : Addr} {sp : List PyData → (PyData → Prop) → Prop → Prop} (h : CallR prog w K mg mb m f sp) (hmn : m ≤ n) : CallR prog w K mg mb n f sp := by
  intro A s g vs ds Kp Pe Q E hr
  exact h A s g vs ds Kp Pe Q E ⟨hr.hh, by have := hr.hd; omega, by have := hr.hu; omega⟩
theorem ok34c : AllOK prog w (hd.heap_39 w.params) mg mb 36 L34 := fun p hp => (ok34 p hp).le (by omega)
theorem okl2 {n : Nat} {Γ : Nat → Sp} {tb : Tb} (T : TbOK prog w K mg mb n Γ tb) {scn : List (Str × NameKind)} {names : List Str} {e1 e2 : Expr} {i j : Nat} (h1 : compE tb 59 scn names e1 = .var i) (h2 : compE tb 59 scn names e2 = .var j) (s1 : starred e1 = false) (s2 : starred e2 = false) :
    OkL prog w K mg mb n Γ scn names [e1, e2] (.cons (.var i) (.cons (.var j) .nil)) := by
  have o1 := compE_ok T 59 scn names e1
  have o2 := compE_ok T 59 scn names e2
  rw [h1] at o1
  rw [h2] at o2
  exact OkL.cons s1 o1.oe (OkL.cons s2 o2.oe OkL.nil)

/-- what is known of one of the four calls -/
structure Arm (K : Frag) (tb : Tb) (scn : List (Str × NameKind)) (names : List Str) (f : Addr) (x : Str) (e1 e2 : Expr) : Prop where
  fn : ∃ c dd fd sl, K.lookup f = some ⟨c, dd, .func fd, sl⟩
  ns : nsIn K mainGlobals x = some (some (.ref f))
  sc : scn.lookup x = some .globalImplicit
  db : (x == Str.ofString "__debug__") = false
  c1 : compE tb 59 scn names e1 = .var 1
  c2 : compE tb 59 scn names e2 = .var 2
  s1 : starred e1 = false
  s2 : starred e2 = false

theorem asked_gen {n : Nat} {Γ : Nat → Sp} {tb : Tb} (T : TbOK prog w K mg mb n Γ tb) {a : Addr} {fd : FuncData} {oc : Value} {od : Option Addr} {osl : Array (Option Value)}
    {f0 f1 f2 f3 : Addr} (C0 : CallR prog w K mg mb n f0 sp147) (C1 : CallR prog w K mg mb n f1 sp154) (C2 : CallR prog w K mg mb n f2 (fun ds Kp Pe => ∃ S T, ds = [S, T] ∧ sp147 [T, S] Kp Pe)) (C3 : CallR prog w K mg mb n f3 (fun ds Kp Pe => ∃ S T, ds = [S, T] ∧ sp154 [T, S] Kp Pe))
    {t0 t1 t2 re : Expr} {n0 n1 n2 n3 : Str} {d0 e0 d1 e1 d2 e2 d3 e3 : Expr} {told : Str} {q1 q2 q3 q4 q5 q6 q7 q8 q9 q10 q11 q12 q13 q14 q15 q16 q17 q18 q19 q20 q21 q22 q23 q24 q25 : Pos} {kk : Nat}
    (ho : K.lookup a = some ⟨oc, od, .func fd, osl⟩) (hbody : fd.body = .stmts [
      .Try [.If t0 [.Assign [.Name told q1] (.Call (.Name n0 q2) [d0, e0] [] q3) q4]
        [.If t1 [.Assign [.Name told q5] (.Call (.Name n1 q6) [d1, e1] [] q7) q8]
          [.If t2 [.Assign [.Name told q9] (.Call (.Name n2 q10) [d2, e2] [] q11) q12] [.Assign [.Name told q13] (.Call (.Name n3 q14) [d3, e3] [] q15) q16] q17] q18] q19]
        [.ExceptHandler (some (.Name VE q20)) none [.Return (some (.Constant (.int 2) kk q21)) q22] q23] [] [] q24, .Return (some re) q25])
    (h1 : scopeOK fd.scope = true) (h2 : fd.scope.isCoroutine = false) (h3 : fd.scope.isGenerator = false)
    (h4 : fd.globals = mainGlobals) (h5 : fd.builtins = builtinsNs) (h6 : codeIn K fd.code fd.qualname = true) (h7 : nodupS (ownNames fd.scope) = true) (h8 : (ownNames fd.scope).take (fd.params.args.map (·.arg)).length = fd.params.args.map (·.arg))
    (hb : Binds K a 3 []) (hk : 3 + ([] : List PyData).length = (fd.params.args.map (·.arg)).length) (hown : (ownNames fd.scope).length = 4) (hto : (ownNames fd.scope)[3]? = some told) (htl : fd.scope.names.lookup told = some .local)
    (hsc : fd.scope.names.lookup VE = some .globalImplicit) (hnv : nsIn K mainGlobals VE = some none)
    (A0 : Arm K tb fd.scope.names (ownNames fd.scope) f0 n0 d0 e0) (A1 : Arm K tb fd.scope.names (ownNames fd.scope) f1 n1 d1 e1) (A2 : Arm K tb fd.scope.names (ownNames fd.scope) f2 n2 d2 e2) (A3 : Arm K tb fd.scope.names (ownNames fd.scope) f3 n3 d3 e3)
    (ht0 : compE tb 59 fd.scope.names (ownNames fd.scope) t0 = .cmp .Eq (.var 0) (.lit (.int 0))) (ht1 : compE tb 59 fd.scope.names (ownNames fd.scope) t1 = .cmp .Eq (.var 0) (.lit (.int 1))) (ht2 : compE tb 59 fd.scope.names (ownNames fd.scope) t2 = .cmp .Eq (.var 0) (.lit (.int 2)))
    (hre : toSL ([.Return (some re) q25].map (compS tb 60 fd.scope.names (ownNames fd.scope))) = .cons (.ret (.ite (.var 3) (.lit (.int 1)) (.lit (.int 0)))) .nil) : CallOK prog w K mg mb (n + 1) a sp307 := by
  intro A s g vs ds Kp Q E hrm hfro hsub hgr hr hs p
  obtain ⟨k, x1, x2, y1, y2, hx1, hx2, hy1, hy2, hk4, rfl, hK⟩ := hs
  refine call_gen ho hbody h1 h2 h3 h4 h5 h6 h7 h8 hb hk hrm hfro hsub hgr hr rfl p fun outer env h₁ tk hf fm hg hfr hke hL Q' E' ps hE => ?_
  have hnd := nodupS_ok h7
  rw [hown] at fm
  have hend : ∀ (d : PyData) (h' : Heap) (tk' : Nat) (g' : Vw), (∃ b : Bool, d = .bool b ∧ Kp (.int (if b = true then 1 else 0))) → FX env.locals h₁ g h' g' → Lc (ownNames fd.scope) h' g' env.locals ((start 4 [.int k, .tuple [fr x1, fr x2], .tuple [fr y1, fr y2]]).set 3 (some d)) → wpAny (model prog w) (A.deeper env) (execs [.Return (some re) q25] env) Q' E' { s with heap := h', toks := tk' } := by
    rintro _ h' tk' g' ⟨b, rfl, hb⟩ x l
    have fm' := fm.fx x l tk'
    refine OkB.of (fun st => compS_ok T hnd 60 st) (b := [.Return (some re) q25]) _ _ _ _ _ (fun _ => Kp .none) Kp _ _ fm' x.gl (vs_of hre ?_) (ps.ext x tk')
    cases b <;> exact hb
  refine wpAny_execs_cons (wpAny_Try_except ?_)
  have PE := caught2 (prog := prog) (w := w) (kk := kk) (np := q20) (p1 := q21) (p2 := q22) (pos := q23) (Pe := Kp (.int 2)) (E := E') (Q := fun f s' => match f with | .next => wpAny (model prog w) (A.deeper env) (execs [.Return (some re) q25] env) Q' E' s' | f => Q' f s') fm hg (Around.frames_deeper hf) hfr hsc hnv
    (fun pe h' tk' tk2 x => ps.ret (.int 2 tk2) (.int 2) h' tk' g pe x (.int _ _))
  have hsh : ∀ i j : Int, cmpD .Eq (.int i) (.int j) fun d => truthD d fun t => t = decide (i = j) := fun i j => by simp [cmpD, shp_int, PyData.eqv, truthD]; rfl
  have k0 : (vc Γ (.cmp .Eq (.var 0) (.lit (.int 0))) (start 4 [.int k, .tuple [fr x1, fr x2], .tuple [fr y1, fr y2]])).2 fun t => t = decide ((k : Int) = 0) := hsh _ _
  have k1 : (vc Γ (.cmp .Eq (.var 0) (.lit (.int 1))) (start 4 [.int k, .tuple [fr x1, fr x2], .tuple [fr y1, fr y2]])).2 fun t => t = decide ((k : Int) = 1) := hsh _ _
  have k2 : (vc Γ (.cmp .Eq (.var 0) (.lit (.int 2))) (start 4 [.int k, .tuple [fr x1, fr x2], .tuple [fr y1, fr y2]])).2 fun t => t = decide ((k : Int) = 2) := hsh _ _
  have hv : ∀ i : Int, askV k x1 x2 y1 y2 = i → Kp (.int i) := fun i h => h ▸ hK
  have hfin : ∀ (d : PyData) (s1 : Shared) (g1 : Vw) (h' : Heap) (tk' : Nat) (g' : Vw), (∃ h1 t1, s1 = { s with heap := h1, toks := t1 } ∧ GX h₁ g h1 g1) → (∃ b : Bool, d = .bool b ∧ Kp (.int (if b = true then 1 else 0))) → FX env.locals s1.heap g1 h' g' →
      Lc (ownNames fd.scope) h' g' env.locals ((start 4 [.int k, .tuple [fr x1, fr x2], .tuple [fr y1, fr y2]]).set 3 (some d)) → wpAny (model prog w) (A.deeper env) (execs [.Return (some re) q25] env) Q' E' { s with heap := h', toks := tk' } := by
    rintro d _ g1 h' tk' g' ⟨h1, t1, rfl, X⟩ kd x l
    exact hend d h' tk' g' kd ((FX.of X hg fm.live).trans x) l
  rcases (show k = 0 ∨ k = 1 ∨ k = 2 ∨ k = 3 by omega) with hkk | hkk | hkk | hkk
  · subst hkk
    refine wpAny_execs_cons (ifR T (b := true) ht0 fm k0 fun h1 t1 g1 X0 => ?_)
    rw [if_pos rfl]
    obtain ⟨c, dd, fd2, sl, hfn⟩ := A0.fn
    refine wpAny_execs_cons (asgR C0 A0.sc A0.db A0.ns hfn A0.s1 htl hto hnd (okl2 T A0.c1 A0.c2 A0.s1 A0.s2) (fm.ext X0 t1) (FX.of X0 hg fm.live).gl (Kd := fun d => ∃ b : Bool, d = .bool b ∧ Kp (.int (if b = true then 1 else 0))) (Pe := Kp (.int 2)) (⟨x1, x2, y1, y2, hx1, hx2, hy1, hy2, rfl, fun c1 => ⟨true, rfl, hv 1 (by simp [askV, c1])⟩, fun c1 c2 => ⟨false, rfl, hv 0 (by simp [askV, c1, c2])⟩, fun c1 c2 => hv 2 (by simp [askV, c1, c2])⟩) (PE.ext X0 t1) fun d h' tk' g' kd x l => ?_)
    exact wpAny_execs_nil (wpAny_execs_nil (wpAny_execs_nil (hfin d _ _ h' tk' g' ⟨_, _, rfl, X0⟩ kd x l)))
  · subst hkk
    refine wpAny_execs_cons (ifR T (b := false) ht0 fm k0 fun h1 t1 g1 X0 => ?_)
    rw [if_neg (by simp)]
    refine wpAny_execs_cons (ifR T (b := true) ht1 (fm.ext X0 t1) k1 fun h2 t2 g2 X1 => ?_)
    rw [if_pos rfl]
    obtain ⟨c, dd, fd2, sl, hfn⟩ := A1.fn
    refine wpAny_execs_cons (asgR C1 A1.sc A1.db A1.ns hfn A1.s1 htl hto hnd (okl2 T A1.c1 A1.c2 A1.s1 A1.s2) (fm.ext (X0.trans X1) t2) (FX.of (X0.trans X1) hg fm.live).gl (Kd := fun d => ∃ b : Bool, d = .bool b ∧ Kp (.int (if b = true then 1 else 0))) (Pe := Kp (.int 2)) (⟨x1, x2, y1, y2, hx1, hx2, hy1, hy2, rfl, fun c1 => ⟨true, rfl, hv 1 (by simp [askV, c1])⟩, fun c1 c2 => ⟨false, rfl, hv 0 (by simp [askV, c1, c2])⟩, fun c1 c2 => hv 2 (by simp [askV, c1, c2])⟩) (PE.ext (X0.trans X1) t2) fun d h' tk' g' kd x l => ?_)
    exact wpAny_execs_nil (wpAny_execs_nil (wpAny_execs_nil (wpAny_execs_nil (hfin d _ _ h' tk' g' ⟨_, _, rfl, (X0.trans X1)⟩ kd x l))))
  · subst hkk
    refine wpAny_execs_cons (ifR T (b := false) ht0 fm k0 fun h1 t1 g1 X0 => ?_)
    rw [if_neg (by simp)]
    refine wpAny_execs_cons (ifR T (b := false) ht1 (fm.ext X0 t1) k1 fun h2 t2 g2 X1 => ?_)
    rw [if_neg (by simp)]
    refine wpAny_execs_cons (ifR T (b := true) ht2 (fm.ext (X0.trans X1) t2) k2 fun h3 t3 g3 X2 => ?_)
    rw [if_pos rfl]
    obtain ⟨c, dd, fd2, sl, hfn⟩ := A2.fn
    refine wpAny_execs_cons (asgR C2 A2.sc A2.db A2.ns hfn A2.s1 htl hto hnd (okl2 T A2.c1 A2.c2 A2.s1 A2.s2) (fm.ext ((X0.trans X1).trans X2) t3) (FX.of ((X0.trans X1).trans X2) hg fm.live).gl (Kd := fun d => ∃ b : Bool, d = .bool b ∧ Kp (.int (if b = true then 1 else 0))) (Pe := Kp (.int 2)) (⟨_, _, rfl, y1, y2, x1, x2, hy1, hy2, hx1, hx2, rfl, fun c1 => ⟨true, rfl, hv 1 (by simp [askV, c1])⟩, fun c1 c2 => ⟨false, rfl, hv 0 (by simp [askV, c1, c2])⟩, fun c1 c2 => hv 2 (by simp [askV, c1, c2])⟩) (PE.ext ((X0.trans X1).trans X2) t3) fun d h' tk' g' kd x l => ?_)
    exact wpAny_execs_nil (wpAny_execs_nil (wpAny_execs_nil (wpAny_execs_nil (wpAny_execs_nil (hfin d _ _ h' tk' g' ⟨_, _, rfl, ((X0.trans X1).trans X2)⟩ kd x l)))))
  · subst hkk
    refine wpAny_execs_cons (ifR T (b := false) ht0 fm k0 fun h1 t1 g1 X0 => ?_)
    rw [if_neg (by simp)]
    refine wpAny_execs_cons (ifR T (b := false) ht1 (fm.ext X0 t1) k1 fun h2 t2 g2 X1 => ?_)
    rw [if_neg (by simp)]
    refine wpAny_execs_cons (ifR T (b := false) ht2 (fm.ext (X0.trans X1) t2) k2 fun h3 t3 g3 X2 => ?_)
    rw [if_neg (by simp)]
    obtain ⟨c, dd, fd2, sl, hfn⟩ := A3.fn
    refine wpAny_execs_cons (asgR C3 A3.sc A3.db A3.ns hfn A3.s1 htl hto hnd (okl2 T A3.c1 A3.c2 A3.s1 A3.s2) (fm.ext ((X0.trans X1).trans X2) t3) (FX.of ((X0.trans X1).trans X2) hg fm.live).gl (Kd := fun d => ∃ b : Bool, d = .bool b ∧ Kp (.int (if b = true then 1 else 0))) (Pe := Kp (.int 2)) (⟨_, _, rfl, y1, y2, x1, x2, hy1, hy2, hx1, hx2, rfl, fun c1 => ⟨true, rfl, hv 1 (by simp [askV, c1])⟩, fun c1 c2 => ⟨false, rfl, hv 0 (by simp [askV, c1, c2])⟩, fun c1 c2 => hv 2 (by simp [askV, c1, c2])⟩) (PE.ext ((X0.trans X1).trans X2) t3) fun d h' tk' g' kd x l => ?_)
    exact wpAny_execs_nil (wpAny_execs_nil (wpAny_execs_nil (wpAny_execs_nil (wpAny_execs_nil (hfin d _ _ h' tk' g' ⟨_, _, rfl, ((X0.trans X1).trans X2)⟩ kd x l)))))

theorem asked_ok : CallOK prog w (hd.heap_39 w.params) mg mb 37 307 sp307 := by
  refine asked_gen (T0 (ok34c (prog := prog) (w := w) (mg := mg) (mb := mb))) (r147.le (by omega)) (r154.le (by omega)) r161 r168 rfl rfl (by kernel_rfl) rfl rfl rfl rfl (by kernel_rfl) (by kernel_rfl) (by kernel_rfl) (bn307 _) rfl (by kernel_rfl) (by kernel_rfl) (by kernel_rfl) (by kernel_rfl) (by kernel_rfl)
    ⟨⟨_, _, _, _, rfl⟩, by kernel_rfl, by kernel_rfl, by kernel_rfl, by kernel_rfl, by kernel_rfl, rfl, rfl⟩ ⟨⟨_, _, _, _, rfl⟩, by kernel_rfl, by kernel_rfl, by kernel_rfl, by kernel_rfl, by kernel_rfl, rfl, rfl⟩
    ⟨⟨_, _, _, _, rfl⟩, by kernel_rfl, by kernel_rfl, by kernel_rfl, by kernel_rfl, by kernel_rfl, rfl, rfl⟩ ⟨⟨_, _, _, _, rfl⟩, by kernel_rfl, by kernel_rfl, by kernel_rfl, by kernel_rfl, by kernel_rfl, rfl, rfl⟩
    (by kernel_rfl) (by kernel_rfl) (by kernel_rfl) (by kernel_rfl)
end
end Mine

end
section
open PySem PySem.W PySem.Calls PyProof.Rows
set_option maxRecDepth 100000
set_option maxHeartbeats 8000000
namespace Mine
section
variable {prog : Program} {w : World} {K : Frag} {mg mb : Str → Option Value} {n : Nat}
theorem compF_loop {A : Around} {g : Vw} {s : Shared} {R : Result → Shared → Prop} {elt iter : Expr} {x : Str} {px : Pos} {scope : Scope} {scn : List (Str × NameKind)} {pos : Pos} {I C D : Addr} {St : Nat → Heap → Prop} {P : Nat → Value → Prop} {N : Nat} {ds : List PyData} {cenv : Env} {Kl : List PyData → Prop} {h0 : Heap} {F : PyData → (PyData → Prop) → Prop}
    (W : Walks prog w A I [I] [I] N P St) (rl : ∀ i v, i < N → P i v → ∃ d, ds[i]? = some d ∧ ∀ g : Vw, Rd g v d) (hlen : N = ds.length) (hz : ds.length ≤ 1000)
    (hCD : C ≠ D) (hCI : C ≠ I) (hDI : D ≠ I) (hC0 : h0.get? C = none) (hD0 : h0.get? D = none) (hI0 : h0.get? I = none) (ev : Ev scn cenv) (hL : cenv.locals = C) (hgr : Gr K mg mb g)
    (hrm : Rm A n) (hx : scn.lookup x = some .local) (he : ∀ (s : Shared) (g' : Vw) (d : PyData) (Kp : PyData → Prop) (Q E : Value → Shared → Prop), Fm K mg mb n scn [x] A cenv g' s [some d] → (∀ a o, g a = some o → g' a = some o) → F d Kp → Post g' s Kp Q → wpAny (model prog w) A (eval elt cenv) Q E s) (hlive : ∀ i h, St i h → ∃ o, h.get? I = some o) (hdict : ∀ i h, St i h → ∀ b ∈ [I], ∀ o, h.get? b = some o → ∀ es ep, o.data ≠ .dict es ep) (hfro : Fro A h0 g)
    (hQ : ∀ rs h' tk g' m, Kl rs → GX h0 g h' g' → Rd g' (.ref D) (.list rs) → h'.Ns C m → g' C = none → R (.ok .next) { s with heap := h', toks := tk }) :
    ∀ (k : Nat) (s' : Shared), (∃ i rs, k = N + 1 - i ∧ i ≤ N ∧ rs.length = i ∧ CompAt C D I h0 g St s i rs s' ∧ mapD F (ds.drop i) rs Kl) →
    codeAny (model prog w) A (.compLoop (.ListComp elt [⟨.Name x px, iter, [], 0⟩] scope pos) 0 (.ref I) (.ref D) cenv)
        R s' := by
  intro k s' hI
  refine codeAny_compLoop_list (fun k s' => ∃ i rs, k = N + 1 - i ∧ i ≤ N ∧ rs.length = i ∧ CompAt C D I h0 g St s i rs s' ∧ mapD F (ds.drop i) rs Kl) ?_ k hI
  rintro k s' ⟨i, rs, rfl, hi, hri, ⟨h, tk, g', m, ys, rfl, hst, hns, hli, hrs, X, gI, gC, gD⟩, hm⟩
  by_cases hlt : i < N
  · refine W.item i _ _ _ hlt hst fun v h1 t1 hv hst1 hk1 => ?_
    obtain ⟨d, hd, rd⟩ := rl i v hlt hv
    rw [drop_cons hd] at hm
    have X1 := X.but hI0 gI (h' := h1) fun a o ne e => hk1 a o (by simpa using ne) e
    have hns1 : h1.Ns C m := hns.at' fun o e => hk1 C o (by simpa using hCI) e
    have hli1 : h1.IsList D ys := list_keep hli fun o e => hk1 D o (by simpa using hDI) e
    refine wpAny_assign_Name (wpAny_storeName_local (m := m) (by unfold Env.kindOf; rw [ev.hn]; exact hx) (by rw [hL]; exact hns1) (fun h2 hns2 hsb2 => ?_) (by rw [ev.hk]; rfl))
    rw [hL] at hns2 hsb2
    have X2 := X1.but hC0 gC (h' := h2) fun a o ne e => hsb2.extBut a o ne e
    have hli2 : h2.IsList D ys := list_keep hli1 fun o e => hsb2.extBut D o (Ne.symm hCD) e
    have hstK : ∀ b o, b ≠ C → h1.get? b = some o → h2.get? b = some o := fun b o ne e => hsb2.extBut b o ne e
    have hst2 : St (i + 1) h2 := W.frame _ _ _ hst1 fun b hb o e => by
      obtain rfl := List.mem_singleton.mp hb
      exact hstK b o (Ne.symm hCI) e
    refine he { s with heap := h2, toks := t1 + 1 } g' d _ _ _ ⟨hrm, hfro.ext X2, ev, X2.sub, hgr.up X.grow, ⟨_, by rw [hL]; exact hns2, ?_⟩⟩ X.grow hm fun y h3 t3 dy g3 k3 e3 r3 => ?_
    · intro j z d' hj hd'
      cases j with
      | zero =>
        simp at hj hd'
        subst hj; subst hd'
        exact ⟨v, by simp, rd _⟩
      | succ j => simp at hj
    have hns3 : h3.Ns C _ := e3.keep.ns hns2
    have hli3 : h3.IsList D ys := list_kp hli2 e3.keep
    obtain ⟨oI2, hoI2⟩ := hlive _ _ hst2
    obtain ⟨oC2, _, _, hoC2, _⟩ := id hns2
    obtain ⟨oD2, hoD2, _⟩ := id hli2
    have gI3 := e3.fresh hoI2 gI
    have gC3 := e3.fresh hoC2 gC
    have gD3 := e3.fresh hoD2 gD
    have X3 := X2.trans e3
    have hys := hrs.length
    rw [Array.length_toList] at hys
    refine wpAny_list_append (s := { s with heap := h3, toks := t3 }) hli3 (fun h4 hli4 hsb4 => ?_) (sizeLine_big (by omega))
    have X4 := X3.but hD0 gD3 (h' := h4) fun a o ne e => hsb4.extBut a o ne e
    refine ⟨N + 1 - (i + 1), by omega, i + 1, rs ++ [dy], rfl, hlt, by rw [List.length_append, hri]; rfl, ⟨h4, t3, g3, _, ys.push y, rfl, ?_, hns3.at' fun o e => hsb4.extBut C o hCD e, hli4, ?_, X4, gI3, gC3, gD3⟩, k3⟩
    · refine W.frame _ _ _ hst2 fun b hb o e => hsb4.extBut b o ?_ (e3.keep.exact e (hdict _ _ hst2 b hb o e))
      obtain rfl := List.mem_singleton.mp hb
      exact Ne.symm hDI
    · rw [Array.toList_push]
      exact (hrs.up e3.grow).snoc r3
  · obtain rfl : i = N := by omega
    refine W.done _ _ _ hst fun h1 t1 hk1 => ?_
    have X1 := X.but hI0 gI (h' := h1) fun a o ne e => hk1 a o (by simpa using ne) e
    have hns1 : h1.Ns C m := hns.at' fun o e => hk1 C o (by simpa using hCI) e
    have hli1 : h1.IsList D ys := list_keep hli fun o e => hk1 D o (by simpa using hDI) e
    obtain ⟨oD, hoD, hcD, nD, hdD⟩ := id hli1
    rw [List.drop_eq_nil_of_le (by omega)] at hm
    have gg : ∀ a o, g' a = some o → put g' D oD a = some o := fun a o e => by
      unfold put; rw [if_neg]; exact e
      rintro rfl; rw [gD] at e; cases e
    refine hQ rs h1 t1 (put g' D oD) m hm ⟨X1.keep, fun a o e => gg _ _ (X1.grow _ _ e), fun a o e => ?_, fun a o e => ?_⟩ (.list put_self hcD hdD (hrs.up gg)) hns1 (by unfold put; rw [if_neg hCD]; exact gC)
    · unfold put at e
      split at e
      · rename_i q; subst q; cases e; exact hoD
      · exact X1.sub _ _ e
    · unfold put at e
      split at e
      · rename_i q; subst q; exact .inr hD0
      · exact X1.new _ _ e


end
end Mine

end
section
open PySem PySem.W PySem.Calls PyProof.Rows
set_option maxRecDepth 100000
set_option maxHeartbeats 8000000
namespace Mine
section
variable {prog : Program} {w : World} {K : Frag} {mg mb : Str → Option Value} {n : Nat}
theorem comp_openF {A : Around} {env : Env} {g : Vw} {s : Shared} {E : Value → Shared → Prop} {RR : Value → Env → Result → Shared → Prop} {elt target iter : Expr} {scope : Scope} {pos : Pos} {I : Addr} {St : Nat → Heap → Prop} {nn : Nat} {P : Nat → Value → Prop} {cl : List (Str × Addr)}
    (hk : scope.kind = .function) (hnc : ∀ x ∈ scope.names, x.2 ≠ .cell) (hsub : Sub g s.heap) (W : Walks prog w A I [I] [I] nn P St) (hst : St 0 s.heap) (hI : ∃ o, s.heap.get? I = some o) (hgI : g I = none)
    (hrd : Rm A n) (hg : env.globals = mainGlobals) (hb : env.builtins = builtinsNs)
    (hloop : ∀ C D h tk cenv, C ≠ D → C ≠ I → D ≠ I → s.heap.get? C = none → s.heap.get? D = none → Ev (relabel scope env).names cenv → cenv.locals = C → cenv.scope = relabel scope env → cenv.cells = cl →
      CompAt C D I (s.heap.hide I) g St s 0 [] { s with heap := h, toks := tk } →
      codeAny (model prog w) A (.compLoop (.ListComp elt [⟨target, iter, [], 0⟩] scope pos) 0 (.ref I) (.ref D) cenv)
        (RR (.ref D) cenv) { s with heap := h, toks := tk }) :
    wpAny (model prog w) A (newList []) (fun acc s₃ =>
      wpAny (model prog w) A (newFunctionEnv scope env.globals cl [] env.qual none .none (some env)) (fun cenv s₄ =>
        codeAny (model prog w) A (.compStart (.ListComp elt [⟨target, iter, [], 0⟩] scope pos) 0 (.ref I) acc { cenv with scope := relabel scope env })
          (RR acc { cenv with scope := relabel scope env }) s₄) E s₃) E s := by
  obtain ⟨oI, hoI⟩ := hI
  have hIlt := Heap.lt_size hoI
  refine wpAny_newObj_type (wpAny_newFunctionEnv hnc (by intro y hy; simp at hy) (fun h₁ hns₁ hsb₁ => ?_) hk)
  dsimp only at hns₁ hsb₁ ⊢
  generalize hH2 : s.heap.push { cls := .type "list", dict := none, data := .seq ([] : List Value).toArray } = H2 at hns₁ hsb₁ ⊢
  have hC : H2.objs.size = s.heap.objs.size + 1 := by rw [← hH2, Heap.size_push]
  have old : ∀ b o, s.heap.get? b = some o → h₁.get? b = some o := fun b o e =>
    hsb₁.extBut b o (by rw [hC]; exact Nat.ne_of_lt (Nat.lt_succ_of_lt (Heap.lt_size e))) (Heap.get?_push_of_some _ (hH2 ▸ Heap.get?_push_of_some _ e))
  have hD : h₁.IsList s.heap.objs.size #[] := ⟨_, hsb₁.extBut _ _ (by rw [hC]; exact Nat.ne_of_lt (Nat.lt_succ_self _)) (Heap.get?_push_of_some _ (hH2 ▸ Heap.get?_push_size _ rfl)), rfl, _, rfl⟩
  have hst₁ : St 0 h₁ := W.frame _ _ _ hst fun b _ o e => old b o e
  have cat : CompAt H2.objs.size s.heap.objs.size I (s.heap.hide I) g St s 0 [] { s with heap := h₁, toks := s.toks + ([] : List (Str × Value)).length } :=
    ⟨h₁, _, g, _, #[], rfl, hst₁, hns₁, hD, .nil, ⟨.of fun b o e => old b o (Heap.of_hide e), fun _ _ e => e, fun a o e => old a o (hsub a o e), fun _ _ e => .inl e⟩, hgI, hsub.fresh (by rw [hC]; exact Nat.le_succ _), hsub.fresh (Nat.le_refl _)⟩
  have lp := hloop H2.objs.size s.heap.objs.size h₁ (s.toks + ([] : List (Str × Value)).length) ({ newEnv scope H2.objs.size env.globals cl env.qual none .none (some env) builtinsNs with scope := relabel scope env }) (by rw [hC]; exact Nat.ne_of_gt (Nat.lt_succ_self _)) (by rw [hC]; exact Nat.ne_of_gt (Nat.lt_succ_of_lt hIlt)) (Nat.ne_of_gt hIlt)
    (heap_fresh (by rw [hC]; exact Nat.le_succ _)) (heap_fresh (Nat.le_refl _)) ⟨rfl, hk, hg, hb⟩ rfl rfl rfl cat
  exact codeAny_compStart_list lp (W.self 0 _ _ _ hst₁ lp)


end
end Mine

end
section
open PySem PySem.W PySem.Calls PyProof.Rows
set_option maxRecDepth 100000
set_option maxHeartbeats 8000000
namespace Mine
section
variable {prog : Program} {w : World} {K : Frag} {mg mb : Str → Option Value} {n : Nat}

def RG : Str := Str.ofString "range"
theorem boot_RG : bootBuiltins RG = some (.type "range") := by kernel_rfl
theorem ne_RG : RG ≠ Str.ofString "__name__" := by decide +kernel
theorem db_RG : (RG == Str.ofString "__debug__") = false := by decide +kernel

theorem freeComp {scn : List (Str × NameKind)} {names : List Str} {A : Around} {env : Env} {g : Vw} {s : Shared} {ρ : En} {Q E : Value → Shared → Prop} (fm : Fm K mg mb n scn names A env g s ρ) {elt : Expr} {x : Str} {px p1 p2 p3 pos : Pos} {kk : Nat} {scope : Scope} {cl : List (Str × Addr)} {F : PyData → (PyData → Prop) → Prop} {Kl : List PyData → Prop}
    (hsr : scn.lookup RG = some .globalImplicit) (hnr : nsIn K mainGlobals RG = some none) (hclos : closureFor scope env = pure cl) (hk : scope.kind = .function) (hnc : ∀ x ∈ scope.names, x.2 ≠ .cell) (hnames : ∀ x ∈ scope.names, x.2 = .local → scope.names.lookup x.1 = some .local)
    (hx : (relabel scope env).names.lookup x = some .local)
    (he : ∀ (cenv : Env) (s : Shared) (g' : Vw) (d : PyData) (Kp : PyData → Prop) (Q E : Value → Shared → Prop), cenv.scope = relabel scope env → cenv.cells = cl → Fm K mg mb n (relabel scope env).names [x] A cenv g' s [some d] → (∀ a o, g a = some o → g' a = some o) → F d Kp → Post g' s Kp Q → wpAny (model prog w) A (eval elt cenv) Q E s)
    (hm : mapD F [.int 0, .int 1, .int 2, .int 3] [] Kl) (hQ : Post g s (fun d => ∃ rs, d = .list rs ∧ Kl rs) Q) :
    wpAny (model prog w) A (eval (.ListComp elt [⟨.Name x px, .Call (.Name RG p1) [.Constant (.int 4) kk p2] [] p3, [], 0⟩] scope pos) env) Q E s := by
  have hh := fm.rm.hh
  refine wpAny_comprehension_free (use := none) (g := ⟨.Name x px, .Call (.Name RG p1) [.Constant (.int 4) kk p2] [] p3, [], 0⟩) (gs := []) rfl (fun _ => rfl) hclos hk hnames ?_
  refine Call_ (name_builtin fm hsr db_RG hnr boot_RG ne_RG ?_)
  refine callWith_type1 (Calls.spliced_cons (wpAny_Constant_int (k := kk) (pos := p2) (Calls.spliced_nil ?_)))
  refine call_range_1 ?_
  refine wpAny_pyIter_range (a := 0) (b := 4) (c := 1) (IsRange.new _ _ _ _ _ _ _) (by decide +kernel) ?_
  generalize hH1 : s.heap.push { cls := .type "range", data := .fields #[.int 0 (s.toks + 1), .int 4 s.toks, .int 1 (s.toks + 1 + 1)] } = H1
  have X1 : GX s.heap g H1 g := hH1 ▸ GX.skip fm.sub _
  have X2 := GX.skip X1.sub { cls := .type "range_iterator", data := .fields #[rawInt 0, rawInt (Builtin.Range.rangeSize 0 4 1), rawInt 1] }
  have gI : g H1.objs.size = none := X1.sub.fresh (Nat.le_refl _)
  have W := Walks.range (prog := prog) (w := w) (A := A) hh H1.objs.size 0 1 4
  have B : GX H1 g ((H1.push { cls := .type "range_iterator", data := .fields #[rawInt 0, rawInt (Builtin.Range.rangeSize 0 4 1), rawInt 1] }).hide H1.objs.size) g :=
    ⟨.of fun b o e => (Heap.hide_ne _ (Nat.ne_of_lt (Heap.lt_size e))).trans (Heap.get?_push_of_some _ e), fun _ _ e => e, sub_hide X2.sub gI, fun _ _ e => .inl e⟩
  have hst : IsRangeIter (H1.push { cls := .type "range_iterator", data := .fields #[rawInt 0, rawInt (Builtin.Range.rangeSize 0 4 1), rawInt 1] }) H1.objs.size (0 + (0 : Nat) * 1) (((4 : Nat) : Int) - (0 : Nat)) 1 := by
    have e : Builtin.Range.rangeSize 0 4 1 = ((4 : Nat) : Int) - (0 : Nat) := by decide +kernel
    rw [e]
    exact Heap.get?_push_size _ rfl
  refine comp_openF (n := n) (cl := cl) (RR := fun acc cenv => compPost (model prog w) A E none Q acc cenv.locals) hk hnc X2.sub W hst ⟨_, Heap.get?_push_size _ rfl⟩ gI fm.rm fm.ev.hg fm.ev.hb ?_
  intro C D hC tC cenv hCD hCI hDI hC0 hD0 hev hL hS hcl hat
  have base0 : ∀ {b : Addr}, (H1.push { cls := .type "range_iterator", data := .fields #[rawInt 0, rawInt (Builtin.Range.rangeSize 0 4 1), rawInt 1] }).get? b = none → ((H1.push { cls := .type "range_iterator", data := .fields #[rawInt 0, rawInt (Builtin.Range.rangeSize 0 4 1), rawInt 1] }).hide H1.objs.size).get? b = none := fun {b} e => by
    cases q : ((H1.push { cls := .type "range_iterator", data := .fields #[rawInt 0, rawInt (Builtin.Range.rangeSize 0 4 1), rawInt 1] }).hide H1.objs.size).get? b with
    | none => rfl
    | some o => rw [Heap.of_hide q] at e; cases e
  refine compF_loop (K := K) (mg := mg) (mb := mb) (n := n) (ds := [.int 0, .int 1, .int 2, .int 3]) (F := F) W (fun i v hi hp => ?_) rfl (by decide) hCD hCI hDI (base0 hC0) (base0 hD0) (Heap.hide_self _ _) hev hL fm.gr fm.rm hx (fun s g' d Kp Q E f gg hF p => he cenv s g' d Kp Q E hS hcl f gg hF p) (fun i h st => ⟨_, st⟩) (fun i h st b hb o e es ep q => ?_) ((fm.fro.ext X1).ext B) ?_ _ _ ⟨0, [], rfl, Nat.zero_le _, rfl, hat, hm⟩
  · obtain ⟨t, rfl⟩ := hp
    refine ⟨.int (0 + (i : Int) * 1), ?_, fun g => .int _ _⟩
    rcases (show i = 0 ∨ i = 1 ∨ i = 2 ∨ i = 3 by omega) with rfl | rfl | rfl | rfl <;> rfl
  · obtain rfl := List.mem_singleton.mp hb
    have st' : h.get? H1.objs.size = _ := st
    rw [st'] at e; cases e; cases q
  · intro rs h' tk g' m hkl X r hns hgC
    refine ⟨m, by rw [hL]; exact hns, fun h2 hsb2 => ?_⟩
    rw [hL] at hsb2
    exact hQ _ _ _ _ _ ⟨rs, rfl, hkl⟩ ((X1.trans B).trans (X.but (base0 hC0) hgC fun a o ne e => hsb2.extBut a o ne e)) r
end
end Mine

end
section
open PySem PySem.W PySem.Calls PyProof.Rows
set_option maxRecDepth 100000
set_option maxHeartbeats 8000000
namespace Mine
def q1s : S := .asg 2 (.ite (.call 286 (.cons (.idx (.var 0) (.lit (.int 1))) (.cons (.idx (.var 1) (.lit (.int 0))) .nil))) (.lit (.int 1)) (.ite (.not (.call 286 (.cons (.idx (.var 0) (.lit (.int 0))) (.cons (.idx (.var 1) (.lit (.int 1))) .nil)))) (.lit (.int 0)) (.lit (.int 2))))
def q2s : S := .asg 3 (.ite (.not (.call 286 (.cons (.idx (.var 1) (.lit (.int 0))) (.cons (.idx (.var 0) (.lit (.int 1))) .nil)))) (.lit (.int 1)) (.ite (.call 286 (.cons (.idx (.var 1) (.lit (.int 1))) (.cons (.idx (.var 0) (.lit (.int 0))) .nil))) (.lit (.int 0)) (.lit (.int 2))))
def q3s : S := .asg 4 (.ite (.call 286 (.cons (.idx (.var 1) (.lit (.int 1))) (.cons (.idx (.var 0) (.lit (.int 0))) .nil))) (.lit (.int 1)) (.ite (.not (.call 286 (.cons (.idx (.var 1) (.lit (.int 0))) (.cons (.idx (.var 0) (.lit (.int 1))) .nil)))) (.lit (.int 0)) (.lit (.int 2))))
def q4s : S := .asg 5 (.ite (.not (.call 286 (.cons (.idx (.var 0) (.lit (.int 0))) (.cons (.idx (.var 1) (.lit (.int 1))) .nil)))) (.lit (.int 1)) (.ite (.call 286 (.cons (.idx (.var 0) (.lit (.int 1))) (.cons (.idx (.var 1) (.lit (.int 0))) .nil))) (.lit (.int 0)) (.lit (.int 2))))
def p312 : SL := .cons q1s (.cons q2s (.cons q3s (.cons q4s .nil)))

section
variable {Γ : Nat → Sp} {x1 x2 y1 y2 : Int} {a1 a2 b1 b2 : PyData} {z2 z3 z4 z5 : Option PyData} {N : En → Prop} {R : PyData → Prop} {dm : Dm N}
theorem q1v (h286 : ∀ ds K, sp286 ds K → Γ 286 ds K) (hx1 : Sm x1) (hx2 : Sm x2) (hy1 : Sm y1) (hy2 : Sm y2) (wa1 : Wt 64 a1 x1) (wa2 : Wt 64 a2 x2) (wb1 : Wt 64 b1 y1) (wb2 : Wt 64 b2 y2) (h : N [some (.list [a1, a2]), some (.list [b1, b2]), some (.int (askV 0 x1 x2 y1 y2)), z3, z4, z5]) :
    SX Γ q1s [some (.list [a1, a2]), some (.list [b1, b2]), z2, z3, z4, z5] N R dm := by
  unfold q1s
  simp
  refine h286 _ _ ⟨a2, b1, x2, y1, wa2, wb1, hx2, hy1, rfl, ?_⟩
  by_cases q : x2 < y1
  · simp [q]; simpa [askV, q] using h
  · simp [q]
    refine h286 _ _ ⟨a1, b2, x1, y2, wa1, wb2, hx1, hy2, rfl, ?_⟩
    by_cases q2 : x1 < y2
    · have q3 : ¬ y2 ≤ x1 := by omega
      simp [q2]; simpa [askV, q, q3] using h
    · have q3 : y2 ≤ x1 := by omega
      simp [q2]; simpa [askV, q, q3] using h
theorem q2v (h286 : ∀ ds K, sp286 ds K → Γ 286 ds K) (hx1 : Sm x1) (hx2 : Sm x2) (hy1 : Sm y1) (hy2 : Sm y2) (wa1 : Wt 64 a1 x1) (wa2 : Wt 64 a2 x2) (wb1 : Wt 64 b1 y1) (wb2 : Wt 64 b2 y2) (h : N [some (.list [a1, a2]), some (.list [b1, b2]), z2, some (.int (askV 1 x1 x2 y1 y2)), z4, z5]) :
    SX Γ q2s [some (.list [a1, a2]), some (.list [b1, b2]), z2, z3, z4, z5] N R dm := by
  unfold q2s
  simp
  refine h286 _ _ ⟨b1, a2, y1, x2, wb1, wa2, hy1, hx2, rfl, ?_⟩
  by_cases q : y1 < x2
  · have q3 : ¬ x2 ≤ y1 := by omega
    simp [q]
    refine h286 _ _ ⟨b2, a1, y2, x1, wb2, wa1, hy2, hx1, rfl, ?_⟩
    by_cases q2 : y2 < x1
    · simp [q2]; simpa [askV, q3, q2] using h
    · simp [q2]; simpa [askV, q3, q2] using h
  · have q3 : x2 ≤ y1 := by omega
    simp [q]; simpa [askV, q3] using h
theorem q3v (h286 : ∀ ds K, sp286 ds K → Γ 286 ds K) (hx1 : Sm x1) (hx2 : Sm x2) (hy1 : Sm y1) (hy2 : Sm y2) (wa1 : Wt 64 a1 x1) (wa2 : Wt 64 a2 x2) (wb1 : Wt 64 b1 y1) (wb2 : Wt 64 b2 y2) (h : N [some (.list [a1, a2]), some (.list [b1, b2]), z2, z3, some (.int (askV 2 x1 x2 y1 y2)), z5]) :
    SX Γ q3s [some (.list [a1, a2]), some (.list [b1, b2]), z2, z3, z4, z5] N R dm := by
  unfold q3s
  simp
  refine h286 _ _ ⟨b2, a1, y2, x1, wb2, wa1, hy2, hx1, rfl, ?_⟩
  by_cases q : y2 < x1
  · simp [q]; simpa [askV, q] using h
  · simp [q]
    refine h286 _ _ ⟨b1, a2, y1, x2, wb1, wa2, hy1, hx2, rfl, ?_⟩
    by_cases q2 : y1 < x2
    · have q3 : ¬ x2 ≤ y1 := by omega
      simp [q2]; simpa [askV, q, q3] using h
    · have q3 : x2 ≤ y1 := by omega
      simp [q2]; simpa [askV, q, q3] using h
theorem q4v (h286 : ∀ ds K, sp286 ds K → Γ 286 ds K) (hx1 : Sm x1) (hx2 : Sm x2) (hy1 : Sm y1) (hy2 : Sm y2) (wa1 : Wt 64 a1 x1) (wa2 : Wt 64 a2 x2) (wb1 : Wt 64 b1 y1) (wb2 : Wt 64 b2 y2) (h : N [some (.list [a1, a2]), some (.list [b1, b2]), z2, z3, z4, some (.int (askV 3 x1 x2 y1 y2))]) :
    SX Γ q4s [some (.list [a1, a2]), some (.list [b1, b2]), z2, z3, z4, z5] N R dm := by
  unfold q4s
  simp
  refine h286 _ _ ⟨a1, b2, x1, y2, wa1, wb2, hx1, hy2, rfl, ?_⟩
  by_cases q : x1 < y2
  · have q3 : ¬ y2 ≤ x1 := by omega
    simp [q]
    refine h286 _ _ ⟨a2, b1, x2, y1, wa2, wb1, hx2, hy1, rfl, ?_⟩
    by_cases q2 : x2 < y1
    · simp [q2]; simpa [askV, q3, q2] using h
    · simp [q2]; simpa [askV, q3, q2] using h
  · have q3 : y2 ≤ x1 := by omega
    simp [q]; simpa [askV, q3] using h

theorem w312 (h286 : ∀ ds K, sp286 ds K → Γ 286 ds K) (hx1 : Sm x1) (hx2 : Sm x2) (hy1 : Sm y1) (hy2 : Sm y2) (wa1 : Wt 64 a1 x1) (wa2 : Wt 64 a2 x2) (wb1 : Wt 64 b1 y1) (wb2 : Wt 64 b2 y2) :
    vsL Γ p312 [some (.list [a1, a2]), some (.list [b1, b2]), none, none, none, none] (fun ρ => ρ = [some (.list [a1, a2]), some (.list [b1, b2]), some (.int (askV 0 x1 x2 y1 y2)), some (.int (askV 1 x1 x2 y1 y2)), some (.int (askV 2 x1 x2 y1 y2)), some (.int (askV 3 x1 x2 y1 y2))]) R := by
  change SE Γ p312 _ _ _ (.mk 0)
  unfold p312
  rw [SE_cons]
  refine q1v h286 hx1 hx2 hy1 hy2 wa1 wa2 wb1 wb2 ?_
  rw [SE_cons]
  refine q2v h286 hx1 hx2 hy1 hy2 wa1 wa2 wb1 wb2 ?_
  rw [SE_cons]
  refine q3v h286 hx1 hx2 hy1 hy2 wa1 wa2 wb1 wb2 ?_
  rw [SE_cons]
  refine q4v h286 hx1 hx2 hy1 hy2 wa1 wa2 wb1 wb2 ?_
  rw [SE_nil]
end
end Mine

end
section
open PySem PySem.W PySem.Calls PyProof.Rows
set_option maxRecDepth 100000
set_option maxHeartbeats 8000000
namespace Mine
section
variable {prog : Program} {w : World} {K : Frag} {mg mb : Str → Option Value} {n : Nat}

def sN : Str := Str.ofString "s"
def tN : Str := Str.ofString "t"
def aN : Str := Str.ofString "a"
def bN : Str := Str.ofString "b"
def kN : Str := Str.ofString "kind"

theorem put_ne {g : Vw} {a b : Addr} {o : Obj} (h : b ≠ a) : put g a o b = g b := by unfold put; rw [if_neg h]

theorem cl_s (m k : Addr) : ([(tN, m), (sN, k)] : List (Str × Addr)).lookup sN = some k := by
  rw [List.lookup_cons, show (sN == tN) = false from by decide +kernel, List.lookup_cons, show (sN == sN) = true from by decide +kernel]
theorem cl_t (m k : Addr) : ([(tN, m), (sN, k)] : List (Str × Addr)).lookup tN = some m := by
  rw [List.lookup_cons, show (tN == tN) = true from by decide +kernel]

/-- the three arguments of the asked law, two of them from cells -/
theorem asked_args {A : Around} {cenv : Env} {g : Vw} {s : Shared} {ρ : En} {scn : List (Str × NameKind)} {names : List Str} (fm : Fm K mg mb n scn names A cenv g s ρ) {f : Addr} (C : CallOK prog w K mg mb n f sp307) {nm : Str} {q1 q2 q3 q4 q5 : Pos} {c : Value} {dd : Option Addr} {fd : FuncData} {sl : Array (Option Value)}
    (hl : scn.lookup nm = some .globalImplicit) (hd : (nm == ("__debug__" : Str)) = false) (hv : nsIn K mainGlobals nm = some (some (.ref f))) (hk : K.lookup f = some ⟨c, dd, .func fd, sl⟩)
    (hkl : scn.lookup kN = some .local) (hki : names[0]? = some kN) (hs : scn.lookup sN = some .cell) (ht : scn.lookup tN = some .cell) {cs ct : Addr} (hcs : cenv.cells.lookup sN = some cs) (hct : cenv.cells.lookup tN = some ct) {os ot : Obj} {vs vt : Value} (gs : g cs = some os) (gt : g ct = some ot) (ds : os.data = .cell (some vs)) (dt : ot.data = .cell (some vt))
    {k d1 d2 : PyData} (rs : Rd g vs d1) (rt : Rd g vt d2) (hρ : ρ[0]? = some (some k)) {Kp : PyData → Prop} {Q E : Value → Shared → Prop} (h : sp307 [k, d1, d2] Kp) (p : Post g s Kp Q) :
    wpAny (model prog w) A (eval (.Call (.Name nm q1) [.Name kN q2, .Name sN q3, .Name tN q4] [] q5) cenv) Q E s := by
  have G := fm.gr.hold _ fm.sub
  obtain ⟨m, hm, hmv⟩ := fm.lc
  obtain ⟨vk, hvk, rk⟩ := hmv 0 kN k hki hρ
  refine Call_ (Name_function_global fm.ev.hk (by unfold Env.kindOf; rw [fm.ev.hn]; exact hl) (loadGlobal_global (by rw [fm.ev.hg]; exact G.g) (mg_of G.X G.g hv) ?_) hd)
  have step : wpAny (model prog w) A (spliced (backTo q5 (starEach [.Name kN q2, .Name sN q3, .Name tN q4] cenv))) (fun vs s₁ => (s₁.heap.get? f = some ⟨c, dd, .func fd, sl⟩ ∧ (Data.func fd = Data.func fd)) ∧ wpAny (model prog w) A (PySem.call (.ref f) ([] ++ vs)) Q E s₁) E s := by
    refine Calls.spliced_cons (wpAny_Name (wpAny_loadName_local fm.ev.hk (by unfold Env.kindOf; rw [fm.ev.hn]; exact hkl) hm hvk ?_) (by decide +kernel))
    refine Calls.spliced_cons (wpAny_Name (wpAny_loadName_cell fm.ev.hk (by unfold Env.kindOf; rw [fm.ev.hn]; exact hs) hcs ⟨os, fm.sub _ _ gs, ds⟩ ?_) (by decide +kernel))
    refine Calls.spliced_cons (wpAny_Name (wpAny_loadName_cell fm.ev.hk (by unfold Env.kindOf; rw [fm.ev.hn]; exact ht) hct ⟨ot, fm.sub _ _ gt, dt⟩ ?_) (by decide +kernel))
    exact Calls.spliced_nil ⟨⟨G.X _ _ hk, rfl⟩, C A _ g _ _ _ _ _ fm.rm fm.fro fm.sub fm.gr (.cons rk (.cons rs (.cons rt .nil))) h p⟩
  rw [starEach_of rfl] at step ⊢
  exact callWith_function (o := ⟨c, dd, .func fd, sl⟩) (fd := fd) (evalArgs_plain step)

theorem order_gen {Γ : Nat → Sp} {tb : Tb} (T : TbOK prog w K mg mb n Γ tb) (h286 : ∀ ds K, sp286 ds K → Γ 286 ds K) {f : Addr} (C : CallOK prog w K mg mb n f sp307) {a : Addr} {fd fda : FuncData} {oc ca : Value} {od dda : Option Addr} {osl sla : Array (Option Value)} {s1 s2 s3 s4 : Stmt} {nm : Str} {q1 q2 q3 q4 q5 q6 q7 q8 px p1 p2 p3 pos : Pos} {kk : Nat} {scope : Scope} {es : List Expr} {n3 n4 n5 n6 : Str}
    (ho : K.lookup a = some ⟨oc, od, .func fd, osl⟩) (hbody : fd.body = .stmts [s1, s2, s3, s4, .Return (some (.Compare (.ListComp (.Call (.Name nm q1) [.Name kN q2, .Name sN q3, .Name tN q4] [] q5) [⟨.Name kN px, .Call (.Name RG p1) [.Constant (.int 4) kk p2] [] p3, [], 0⟩] scope pos) [.Eq] [.List es q6] q7)) q8])
    (h1 : fd.scope.kind = .function) (h2 : fd.scope.isCoroutine = false) (h3 : fd.scope.isGenerator = false) (h4 : fd.globals = mainGlobals) (h5 : fd.builtins = builtinsNs) (h6 : codeIn K fd.code fd.qualname = true) (hclo : fd.closure = [])
    (hown : ownNames fd.scope = [aN, bN, n3, n4, n5, n6]) (h7 : nodupS [aN, bN, n3, n4, n5, n6] = true) (hbind : ∀ v1 v2 v3 v4, bindArgs fd ⟨[v1, v2, v3, v4], []⟩ = pure [(sN, v1), (tN, v2), (aN, v3), (bN, v4)])
    (ls : fd.scope.names.lookup sN = some .cell) (lt : fd.scope.names.lookup tN = some .cell) (la : fd.scope.names.lookup aN = some .local) (lb : fd.scope.names.lookup bN = some .local)
    (hcells : ∀ m, cellsFrom m fd.scope.names [] = [(tN, m + 1), (sN, m)]) (hpx : toSL ([s1, s2, s3, s4].map (compS tb 60 fd.scope.names [aN, bN, n3, n4, n5, n6])) = p312)
    (hes : compE tb 59 fd.scope.names [aN, bN, n3, n4, n5, n6] (.List es q6) = .lst (.cons (.var 2) (.cons (.var 3) (.cons (.var 4) (.cons (.var 5) .nil)))))
    (hsr : fd.scope.names.lookup RG = some .globalImplicit) (hnr : nsIn K mainGlobals RG = some none) (hclos : ∀ L, closureFor scope (callEnvC fd L a) = pure [(tN, L + 1 + 1), (sN, L + 1)]) (hk : scope.kind = .function) (hnc : ∀ x ∈ scope.names, x.2 ≠ .cell) (hnames : ∀ x ∈ scope.names, x.2 = .local → scope.names.lookup x.1 = some .local)
    (rl : ∀ L, (relabel scope (callEnvC fd L a)).names.lookup nm = some .globalImplicit ∧ (relabel scope (callEnvC fd L a)).names.lookup kN = some .local ∧ (relabel scope (callEnvC fd L a)).names.lookup sN = some .cell ∧ (relabel scope (callEnvC fd L a)).names.lookup tN = some .cell)
    (hd : (nm == ("__debug__" : Str)) = false) (hv : nsIn K mainGlobals nm = some (some (.ref f))) (hkf : K.lookup f = some ⟨ca, dda, .func fda, sla⟩) (hmk : behindInMarks .Eq (.List es q6) = false) : CallOK prog w K mg mb (n + 1) a sp312 := by
  intro A s g vs ds Kp Q E hrm hfro hsub hgr hr hs p
  obtain ⟨x1, x2, y1, y2, a1, a2, b1, b2, hx1, hx2, hy1, hy2, hx, hy, wa1, wa2, wb1, wb2, rfl, hK⟩ := hs
  cases hr with | cons r1 hr =>
  cases hr with | cons r2 hr =>
  cases hr with | cons r3 hr =>
  cases hr with | cons r4 hr =>
  cases hr
  rename_i v1 v2 v3 v4
  have G := hgr.hold _ hsub
  have nst : sN ≠ tN := by decide +kernel
  have nab : aN ≠ bN := by decide +kernel
  refine wpAny_call (codeAny_call_cells (fd := fd) (by have := hrm.hd; unfold recursionLimit; omega) (G.X _ _ ho) rfl G.nolimit (codeRec_of G.X h6) hbody (hbind v1 v2 v3 v4) hclo ?_ (fun s₁ x => ?_) h2 h3 h1)
  · intro y hy
    rw [hcells]
    simp only [List.mem_cons, List.not_mem_nil, or_false] at hy
    rcases hy with rfl | rfl | rfl | rfl
    · exact .inr ⟨ls, by rw [cl_s]; rfl⟩
    · exact .inr ⟨lt, by rw [cl_t]; rfl⟩
    · exact .inl la
    · exact .inl lb
  · obtain ⟨h₁, tk, rfl⟩ := x.toInCall.same
    have ns := x.toInCall.ns
    have keep := x.toInCall.keep
    dsimp only at ns keep
    have nsa : sN ≠ aN := by decide +kernel
    have nsb : sN ≠ bN := by decide +kernel
    have nta : tN ≠ aN := by decide +kernel
    have ntb : tN ≠ bN := by decide +kernel
    have kS : (callEnvC fd s.heap.objs.size a).kindOf sN = some .cell := ls
    have kT : (callEnvC fd s.heap.objs.size a).kindOf tN = some .cell := lt
    have kA : (callEnvC fd s.heap.objs.size a).kindOf aN = some .local := la
    have kB : (callEnvC fd s.heap.objs.size a).kindOf bN = some .local := lb
    have hce : (callEnvC fd s.heap.objs.size a).cells = [(tN, s.heap.objs.size + 1 + 1), (sN, s.heap.objs.size + 1)] := hcells _
    have cS : bindC (callEnvC fd s.heap.objs.size a).kindOf [(sN, v1), (tN, v2), (aN, v3), (bN, v4)] (fun _ => none) sN = some v1 := by
      simp [bindC, kS, kT, kA, kB, nst]
    have cT : bindC (callEnvC fd s.heap.objs.size a).kindOf [(sN, v1), (tN, v2), (aN, v3), (bN, v4)] (fun _ => none) tN = some v2 := by
      simp [bindC, kS, kT, kA, kB]
    have mA : bindL (callEnvC fd s.heap.objs.size a).kindOf [(sN, v1), (tN, v2), (aN, v3), (bN, v4)] (fun _ => none) aN = some v3 := by
      simp [bindL, kS, kT, kA, kB, nab]
    have mB : bindL (callEnvC fd s.heap.objs.size a).kindOf [(sN, v1), (tN, v2), (aN, v3), (bN, v4)] (fun _ => none) bN = some v4 := by
      simp [bindL, kS, kT, kA, kB]
    obtain ⟨os, hos, dos⟩ := x.cell sN (s.heap.objs.size + 1) (by rw [hce]; exact cl_s _ _)
    obtain ⟨ot, hot, dot⟩ := x.cell tN (s.heap.objs.size + 1 + 1) (by rw [hce]; exact cl_t _ _)
    rw [cS] at dos
    rw [cT] at dot
    dsimp only at hos hot
    have hL : g s.heap.objs.size = none := hsub.fresh (Nat.le_refl _)
    have fr1 : g (s.heap.objs.size + 1) = none := hsub.fresh (Nat.le_succ _)
    have fr2 : g (s.heap.objs.size + 1 + 1) = none := hsub.fresh (Nat.le_trans (Nat.le_succ _) (Nat.le_succ _))
    obtain ⟨g1, hg1⟩ : ∃ g1, g1 = put (put g (s.heap.objs.size + 1) os) (s.heap.objs.size + 1 + 1) ot := ⟨_, rfl⟩
    have gS : g1 (s.heap.objs.size + 1) = some os := by rw [hg1, put_ne (Nat.ne_of_lt (Nat.lt_succ_self _))]; exact put_self
    have gT : g1 (s.heap.objs.size + 1 + 1) = some ot := by rw [hg1]; exact put_self
    have grow : ∀ b o, g b = some o → g1 b = some o := fun b o e => by
      rw [hg1, put_ne (by rintro rfl; rw [fr2] at e; cases e), put_ne (by rintro rfl; rw [fr1] at e; cases e)]; exact e
    have sub1 : Sub g1 h₁ := fun b o e => by
      rw [hg1] at e
      unfold put at e
      split at e
      · rename_i q; subst q; cases e; exact hot
      · split at e
        · rename_i q; subst q; cases e; exact hos
        · exact keep _ _ (hsub _ _ e)
    have new1 : ∀ b o, g1 b = some o → g b = some o ∨ s.heap.get? b = none := fun b o e => by
      rw [hg1] at e
      unfold put at e
      split at e
      · rename_i q; subst q; exact .inr (heap_fresh (Nat.le_trans (Nat.le_succ _) (Nat.le_succ _)))
      · split at e
        · rename_i q; subst q; exact .inr (heap_fresh (Nat.le_succ _))
        · exact .inl e
    have hL1 : g1 s.heap.objs.size = none := by
      rw [hg1, put_ne (Nat.ne_of_lt (Nat.lt_succ_of_lt (Nat.lt_succ_self _))), put_ne (Nat.ne_of_lt (Nat.lt_succ_self _))]; exact hL
    obtain ⟨outer, ha, hbo⟩ := hfro
    have X0 : GX s.heap g h₁ g1 := ⟨.of keep, grow, sub1, new1⟩
    have hnd := nodupS_ok h7
    have fm : Fm K mg mb n fd.scope.names [aN, bN, n3, n4, n5, n6] (A.deeper (callEnvC fd s.heap.objs.size a)) (callEnvC fd s.heap.objs.size a) g1 { s with heap := h₁, toks := tk } [some (.list [a1, a2]), some (.list [b1, b2]), none, none, none, none] := by
      refine ⟨⟨hrm.hh, ?_, ?_⟩, ⟨_, Around.frames_deeper ha, fun env he => ?_⟩, ⟨rfl, h1, h4, h5⟩, sub1, hgr.up grow, ⟨_, ns, ?_⟩⟩
      · have := hrm.hd; rw [depth_deeper]; omega
      · have := hrm.hu; rw [units_deeper]; omega
      · obtain ⟨o, es, ep, e, d, _⟩ := ns
        rcases List.mem_cons.mp he with rfl | he
        · exact ⟨by rw [show (callEnvC fd s.heap.objs.size a).scope = fd.scope from rfl, h1]; decide, _, o, es, ep, rfl, e, d, hL1⟩
        · exact (hbo env he).ext X0
      · intro i y d hi hd
        rcases i with _ | _ | _ | _ | _ | _ | i
        · simp at hi hd; subst hi hd; exact ⟨v3, mA, r3.up grow⟩
        · simp at hi hd; subst hi hd; exact ⟨v4, mB, r4.up grow⟩
        · simp at hd
        · simp at hd
        · simp at hd
        · simp at hd
        · simp at hd
    refine pre_ok (a := [s1, s2, s3, s4]) (b := [_]) (fun st => compS_ok T hnd 60 st) fm hL1 (vs_of hpx (w312 (R := fun _ => False) h286 hx1.sm hx2.sm hy1.sm hy2.sm (wt_mono (by omega) wa1) (wt_mono (by omega) wa2) (wt_mono (by omega) wb1) (wt_mono (by omega) wb2))) (fun h' tk' g' ρ' kn X l => ?_) (fun v d h' tk' g' k1 X r => k1.elim)
    subst kn
    have fm2 := fm.fx X l tk'
    obtain ⟨rl1, rl2, rl3, rl4⟩ := rl s.heap.objs.size
    refine wpAny_execs_cons (wpAny_Return_some (wpAny_Compare1 (freeComp fm2 (F := fun d Kp => sp307 [d, .tuple [fr x1, fr x2], .tuple [fr y1, fr y2]] Kp) (Kl := fun rs => rs = [.int (askV 0 x1 x2 y1 y2), .int (askV 1 x1 x2 y1 y2), .int (askV 2 x1 x2 y1 y2), .int (askV 3 x1 x2 y1 y2)]) hsr hnr (hclos _) hk hnc hnames rl2 (fun cenv s2 g2 d Kp2 Q2 E2 hce2 hcl2 f2 gg hF p2 => ?_) ?_ (fun u h3 t3 d3 g3 k3 X3 r3' => ?_)) hmk))
    · refine asked_args f2 C rl1 hd hv hkf rl2 rfl rl3 rl4 (cs := s.heap.objs.size + 1) (ct := s.heap.objs.size + 1 + 1) (by rw [hcl2]; exact cl_s _ _) (by rw [hcl2]; exact cl_t _ _) (gg _ _ (X.grow _ _ gS)) (gg _ _ (X.grow _ _ gT)) dos dot ((r1.up grow).up fun b o e => gg _ _ (X.grow _ _ e)) ((r2.up grow).up fun b o e => gg _ _ (X.grow _ _ e)) rfl hF p2
    · refine ⟨0, x1, x2, y1, y2, hx1.sm, hx2.sm, hy1.sm, hy2.sm, by omega, rfl, ?_⟩
      refine ⟨1, x1, x2, y1, y2, hx1.sm, hx2.sm, hy1.sm, hy2.sm, by omega, rfl, ?_⟩
      refine ⟨2, x1, x2, y1, y2, hx1.sm, hx2.sm, hy1.sm, hy2.sm, by omega, rfl, ?_⟩
      refine ⟨3, x1, x2, y1, y2, hx1.sm, hx2.sm, hy1.sm, hy2.sm, by omega, rfl, ?_⟩
      rfl
    · obtain ⟨rs, rfl, rfl⟩ := k3
      have o := (compE_ok T 59 fd.scope.names [aN, bN, n3, n4, n5, n6] (.List es q6)).oe
      rw [hes] at o
      have fm3 := fm2.ext X3 t3
      refine o _ _ _ _ _ (fun d => d = .list [.int (askV 0 x1 x2 y1 y2), .int (askV 1 x1 x2 y1 y2), .int (askV 2 x1 x2 y1 y2), .int (askV 3 x1 x2 y1 y2)]) _ _ fm3 ⟨by simp, rfl⟩ fun u2 h4 t4 d4 g4 k4 X4 r4' => ?_
      subst k4
      have hsh : SeqAt.shaped (.list [.int (askV 0 x1 x2 y1 y2), .int (askV 1 x1 x2 y1 y2), .int (askV 2 x1 x2 y1 y2), .int (askV 3 x1 x2 y1 y2)]) = true := rfl
      refine cmp_ok (Kp := fun d => d = .bool true) X4.sub (by have := fm3.rm.hu; omega) (r3'.up X4.grow) r4' ⟨hsh, hsh, by simp [PyData.eqv, PyData.eqvAll]⟩ fun v5 h5 t5 d5 g5 k5 X5 r5 => ?_
      subst k5
      have X6 := (X.trans (FX.of X3 X.gl fm2.live)).trans (FX.of (X4.trans X5) (FX.of X3 X.gl fm2.live).gl fm3.live)
      refine p v5 h5 t5 (.bool true) g5 hK ⟨keep_in keep (heap_fresh (Nat.le_refl _)) X6, fun b o e => X6.grow _ _ (grow _ _ e), X6.sub, fun b o e => ?_⟩ r5
      rcases X6.new b o e with e' | e'
      · exact new1 b o e'
      · right
        cases q : s.heap.get? b with
        | none => rfl
        | some o' => have := keep _ _ q; rw [e'] at this; cases this
end
section
variable {prog : Program} {w : World} {mg mb : Str → Option Value}
theorem ok34d : AllOK prog w (hd.heap_39 w.params) mg mb 37 L34 := fun p hp => (ok34 p hp).le (by omega)
theorem order_ok38 : CallOK prog w (hd.heap_39 w.params) mg mb 38 312 sp312 := by
  refine order_gen (n3 := Str.ofString "below") (n4 := Str.ofString "most") (n5 := Str.ofString "above") (n6 := Str.ofString "least") (T0 (ok34d (prog := prog) (w := w) (mg := mg) (mb := mb))) (fun _ _ h => h) asked_ok rfl rfl rfl rfl rfl rfl rfl (by kernel_rfl) rfl (by kernel_rfl) (by kernel_rfl) (fun v1 v2 v3 v4 => rfl) (by kernel_rfl) (by kernel_rfl) (by kernel_rfl) (by kernel_rfl)
    (fun m => rfl) (by kernel_rfl) (by kernel_rfl) (by kernel_rfl) (by kernel_rfl) (fun L => rfl) rfl (by decide +kernel) (by decide +kernel) (fun L => ⟨by rfl, by rfl, by rfl, by rfl⟩) (by decide +kernel) (by kernel_rfl) rfl (by kernel_rfl)
theorem order_ok : CallOK prog w (hd.heap_39 w.params) mg mb 40 312 sp312 := order_ok38.le (by omega)
end
end Mine

end
section
open PySem PySem.W PySem.Calls PyProof.Rows
namespace Mine
set_option maxRecDepth 100000
set_option maxHeartbeats 8000000

theorem rdl_ints {g : Vw} : ∀ {vs : List Value} {ns : List Int}, IntsAre vs ns → RdL g vs (ns.map .int)
  | _, _, .nil => .nil
  | _, _, .cons _ _ r => .cons (.int _ _) (rdl_ints r)

theorem law_run {prog : Program} {w : World} {mg mb : Str → Option Value} {n : Nat} {Γ : Nat → Sp} {h0 : Heap} {s : Shared} {l : Addr} {vs : List Value} {ns : List Int} {A : Around} {env : Env} {m : Str → Option Value} {body : List Stmt} {Q : Flow → Shared → Prop} {E : Value → Shared → Prop}
    (T : TbOK prog w (hd.heap_39 w.params) mg mb n Γ tbl) (hsp : ∀ Kp : PyData → Prop, Kp (.bool true) → vsL Γ b317 (start 15 [.list (ns.map .int)]) (fun _ => Kp .none) Kp)
    (hb : toSL (body.map (compS tbl 60 env.scope.names (ownNames env.scope))) = b317) (hnd : nodupS (ownNames env.scope) = true) (h15 : (ownNames env.scope) = (Str.ofString "script") :: (ownNames env.scope).tail)
    (hA : A.handled = none) (hdp : A.depth + 5 * n ≤ 900) (hu : A.units + 40 * n ≤ 9000) (hfr : A.frames = some [env]) (hframe : env.frame = some env.locals) (hglob : env.globals = mainGlobals) (hbi : env.builtins = builtinsNs) (hkind : env.scope.kind = .function)
    (KX : (hd.heap_39 w.params).In h0) (tg : h0.Ns mainGlobals mg) (tb : h0.Ns builtinsNs mb) (tbi : ∀ x : Str, x ≠ "__name__" → mb x = bootBuiltins x) (tn : h0.NoLimit)
    (F : Fr h0 env.locals s.heap m) (hm : m (Str.ofString "script") = some (.ref l)) (hL : h0.IsList l vs.toArray) (hI : IntsAre vs ns) (hg0 : h0.get? env.locals = none)
    (post : ∀ h' tk, (∀ b o, h0.get? b = some o → h'.get? b = some o) → Q (.ret (.bool true)) { s with heap := h', toks := tk }) : wpAny (model prog w) A (execs body env) Q E s := by
  have okb := OkB.of (prog := prog) (w := w) (K := hd.heap_39 w.params) (mg := mg) (mb := mb) (nn := n) (Γ := Γ) (scn := env.scope.names) (names := ownNames env.scope) (fun st => compS_ok T (nodupS_ok hnd) 60 st) (b := body)
  rw [hb] at okb
  have hgr : Gr (hd.heap_39 w.params) mg mb h0.get? :=
    ⟨fun h k => ⟨KX.keeps k, tg.keeps k, tb.keeps k, tbi, tn.keeps k⟩, fun a o e => KX a o e⟩
  obtain ⟨o, ho, hc, nn, hdt⟩ := hL
  refine okb A env h0.get? s (start 15 [.list (ns.map .int)]) (fun _ => PyData.none = .bool true) (fun d => d = .bool true) Q E ⟨⟨hA, hdp, hu⟩, ⟨[env], hfr, fun e he => ?_⟩, ⟨rfl, hkind, hglob, hbi⟩, F.keep, hgr, ⟨m, F.ns, ?_⟩⟩ hg0 (hsp (fun d => d = .bool true) rfl) ⟨fun _ _ _ _ h => absurd h (by simp), fun v d h' tk g' hd x r => ?_⟩
  · have : e = env := by simpa using he
    subst this
    obtain ⟨o, es, ep, e1, e2, _⟩ := F.ns
    exact ⟨by rw [hkind]; decide, _, o, es, ep, hframe, e1, e2, hg0⟩
  · intro i x d hi hd
    rw [h15] at hi
    cases i with
    | zero =>
      simp [start] at hi hd
      subst hi hd
      exact ⟨_, hm, .list ho hc hdt (rdl_ints (by simpa using hI))⟩
    | succ i =>
      exfalso
      have e : (start 15 [.list (ns.map .int)])[i + 1]? = (List.replicate 14 (none : Option PyData))[i]? := rfl
      rw [e, List.getElem?_replicate] at hd
      split at hd <;> simp at hd
  · subst hd
    obtain rfl := r.bool_inv
    exact post h' tk fun b o e => x.sub b o (x.grow b o e)

def L35 : List (Nat × Sp) := (312, sp312) :: L34
theorem ok35 {prog : Program} {w : World} {mg mb : Str → Option Value} : AllOK prog w (hd.heap_39 w.params) mg mb 40 L35 := by
  intro p hp
  rcases List.mem_cons.mp hp with rfl | hp
  · exact order_ok
  · exact (ok34 p hp).le (by omega)
theorem law_vs {ns : List Int} (hl : ns.length ≤ 1000) (Kp : PyData → Prop) (h : Kp (.bool true)) : vsL (GL L35) b317 (start 15 [.list (ns.map .int)]) (fun _ => Kp .none) Kp :=
  v317 (fun _ _ h => h) (fun _ _ h => h) (fun _ _ h => h) (fun _ _ h => h) (fun _ _ h => h) (fun _ _ h => h) (fun _ _ h => h) (fun _ _ h => h) (fun _ _ h => h) (fun _ _ h => h) (fun _ _ h => h) (fun _ _ h => h) (fun _ _ h => h) (fun _ _ h => h) (fun _ _ h => h) (fun _ _ h => h) (fun _ _ h => h)
    [.list (ns.map .int)] Kp ⟨ns, hl, rfl, h⟩

theorem get_size (h : Heap) : h.get? h.objs.size = none := by
  cases q : h.get? h.objs.size with
  | none => rfl
  | some o => exact absurd (Heap.lt_size q) (Nat.lt_irrefl _)
theorem holds : PySem.Challenge.rw_ah5010_01.Holds := hd (by
  k_go0
  rename Top _ _ _ _ _ _ => T
  rename Heap.IsList _ _ _ => hL
  rename IntsAre _ _ => hI
  rename Fr _ _ _ _ => F
  rename Frag.In _ _ => KX
  rename ¬ _ < _ => hlen
  refine law_run (n := 40) (T0 ok35) (law_vs ?_) ?_ ?_ ?_ ?_ ?_ ?_ ?_ ?_ ?_ ?_ ?_ KX T.g T.b T.builtins T.nolimit F ?_ hL hI ?_ ?_
  · omega
  · kernel_rfl
  · kernel_rfl
  · kernel_rfl
  · rfl
  · rw [depth_deeper]; decide
  · rw [units_deeper]; decide
  · exact Around.frames_deeper rfl
  · rfl
  · rfl
  · rfl
  · rfl
  · rfl
  · exact get_size _
  · intro h' tk hkeep
    dsimp only
    refine ⟨.inl ⟨_, .bool true, [], rfl, raisesW_false ?_, .bool true, ?_, unshared_nil⟩, hkeep, rfl, by assumption⟩
    · wrow_none_raised
    · wrow_post)
end Mine

end
set_option maxRecDepth 100000 in
set_option maxHeartbeats 8000000 in
theorem PySem.Challenge.cw_ah5010_01_holds : PySem.Challenge.rw_ah5010_01.Holds := by
  exact Mine.holds
