import PyProof.Rows.All
import Wide.All
import OpenK.AllK
import Wide.FinOn
import Lean
import PySem.Challenge.RW_pm0010_01
open PySem PySem.W PyProof.Rows
set_option Elab.async false
set_option maxRecDepth 100000
set_option linter.all false
set_option genSizeOf false
set_option genInjectivity false
section R1
open PySem PySem.W PyProof.Rows
namespace Mine

/-! # A small language: values, expressions, statements; its weakest preconditions -/

/-- an element of an own list: read alone, or a list that is owned too -/
inductive Elt where
  | flat (d : PyData)
  | deep (es : List PyData)
noncomputable def Elt.dat : Elt → PyData
  | .flat d => d
  | .deep es => .list es
inductive Slot where
  | un
  | imm (d : PyData)
  | own (ds : List PyData)
  | deep (xs : List Elt)

noncomputable abbrev Ev := List Slot

noncomputable def getS : Ev → Nat → Slot
  | [], _ => .un
  | s :: _, 0 => s
  | _ :: r, n + 1 => getS r n
noncomputable def setS : Ev → Nat → Slot → Ev
  | [], _, _ => []
  | _ :: r, 0, s => s :: r
  | x :: r, n + 1, s => x :: setS r n s

noncomputable def Slot.all : Slot → Option PyData
  | .un => none
  | .imm d => some d
  | .own ds => some (.list ds)
  | .deep xs => some (.list (xs.map Elt.dat))
noncomputable def Slot.still : Slot → Option PyData
  | .imm d => some d
  | _ => none
noncomputable def Slot.froze : Slot → Slot
  | .own ds => .imm (.list ds)
  | .deep xs => .imm (.list (xs.map Elt.dat))
  | s => s
noncomputable def Slot.held : Slot → Option (List Elt)
  | .own ds => some (ds.map Elt.flat)
  | .deep xs => some xs
  | _ => none

noncomputable abbrev Vw := Nat → Option PyData
noncomputable def allV (ρ : Ev) : Vw := fun i => (getS ρ i).all
noncomputable def stillV (ρ : Ev) : Vw := fun i => (getS ρ i).still
noncomputable def updV (v : Vw) (x : Nat) (d : PyData) : Vw := fun i => if i = x then some d else v i

inductive Bi where
  | len | min2 | minL | sum | ord | chr | abs | str | isint | lower | join
  deriving DecidableEq

inductive MX where
  | lit (d : PyData)
  | var (i : Nat)
  | bin (op : Operator) (a b : MX)
  | neg (a : MX)
  | no (a : MX)
  | and (a b : MX)
  | or (a b : MX)
  | cmp (op : CmpOp) (a b : MX)
  | ite (t a b : MX)
  | idx (a i : MX)
  | slc (a lo hi : MX)
  | call (f : String) (as : List MX)
  | bi (b : Bi) (as : List MX)
  | lst (as : List MX)
  | tup (as : List MX)
  | rng (as : List MX)
  | comp (x : Nat) (elt src : MX) (conds : List MX)

inductive MS where
  | asg (x : Nat) (e : MX)
  | asgS (x : Nat) (e : MX)
  | asgO (x : Nat) (as : List MX)
  | asgR (x : Nat) (as : List MX)
  | asg2 (x y : Nat) (e : MX)
  | unp (x y : Nat) (e : MX)
  | swp (x y : Nat) (a b : MX)
  | aug (x : Nat) (op : Operator) (e : MX)
  | augL (x : Nat) (as : List MX)
  | app (x : Nat) (e : MX)
  | appS (x : Nat) (e : MX)
  | sti (x : Nat) (i e : MX)
  | frz (x : Nat)
  | ifs (t : MX) (a b : List MS)
  | whl (t : MX) (body : List MS)
  | forE (x : Nat) (src : MX) (body : List MS)
  | asgD (x : Nat) (ass : List (List MX))
  | apD (x : Nat) (i e : MX)
  | apN (x : Nat) (as : List MX)
  | forD (y x : Nat) (i : MX) (body : List MS)
  | ret (e : MX)

/-- an index as Python reads it -/
noncomputable def pyIdx {α : Type} (l : List α) (i : Int) : Option α :=
  (seqIndex? i l.length).bind (l[·]?)
noncomputable def pySlice {α : Type} (l : List α) (lo hi : Option Int) : List α :=
  (l.drop (lo.elim 0 (clipAt l.length))).take (hi.elim l.length (clipAt l.length) - lo.elim 0 (clipAt l.length))

noncomputable def sOf (l : List Nat) : Str := ⟨l.toArray⟩

noncomputable def truK (d : PyData) (k : Bool → Prop) : Prop := match d with
  | .none => k false
  | .bool b => k b
  | .int i => k (i != 0)
  | .str x => x.length < 2 ^ 24 ∧ k (x.cps.size != 0)
  | .list ds => ds.length < 2 ^ 24 ∧ k (!ds.isEmpty)
  | _ => False

noncomputable def binK (op : Operator) (x y : PyData) (k : PyData → Prop) : Prop := match x, y with
  | .int a, .int b => (match op with
    | .Add => k (.int (a + b))
    | .Sub => k (.int (a - b))
    | .Mult => (a.natAbs < 2 ^ 64 ∨ b.natAbs < 2 ^ 64) ∧ k (.int (a * b))
    | .FloorDiv => (b ≠ 0 ∧ b.natAbs < 1073741824) ∧ k (.int (a.fdiv b))
    | .Mod => b ≠ 0 ∧ k (.int (a.fmod b))
    | .BitAnd => (0 ≤ a ∧ 0 ≤ b) ∧ k (.int ((a.toNat &&& b.toNat : Nat) : Int))
    | .BitXor => (0 ≤ a ∧ 0 ≤ b) ∧ k (.int ((a.toNat ^^^ b.toNat : Nat) : Int))
    | .LShift => (0 ≤ a ∧ 0 ≤ b ∧ b ≤ 100000 ∧ a.toNat < 2 ^ 1000) ∧ k (.int ((a.toNat <<< b.toNat : Nat) : Int))
    | .RShift => (0 ≤ a ∧ 0 ≤ b) ∧ k (.int ((a.toNat >>> b.toNat : Nat) : Int))
    | _ => False)
  | .str a, .str b => op = .Add ∧ a.length + b.length ≤ 2 ^ 24 ∧ k (.str (a ++ b))
  | .list a, .list b => op = .Add ∧ a.length + b.length ≤ 2 ^ 24 ∧ k (.list (a ++ b))
  | _, _ => False

/-- the data whose equality the layer asks -/
noncomputable def eqOk (d : PyData) : Prop := d.canLay0 = true ∧ d.depth ≤ 64

noncomputable def inK (op : CmpOp) (d : PyData) (b : List PyData) (k : PyData → Prop) : Prop := match op with
  | .In => (eqOk d ∧ PyData.canLayAll0 b = true) ∧ k (.bool (b.any fun y => PyData.eqv y d))
  | .NotIn => (eqOk d ∧ PyData.canLayAll0 b = true) ∧ k (.bool (!(b.any fun y => PyData.eqv y d)))
  | _ => False
noncomputable def cmpK (op : CmpOp) (x y : PyData) (k : PyData → Prop) : Prop := match x, y with
  | .int a, .int b => (match op with
    | .Eq => k (.bool (a == b))
    | .NotEq => k (.bool (a != b))
    | .Lt => k (.bool (decide (a < b)))
    | .LtE => k (.bool (decide (a ≤ b)))
    | .Gt => k (.bool (decide (b < a)))
    | .GtE => k (.bool (decide (b ≤ a)))
    | _ => False)
  | .str a, .str b => (match op with
    | .Eq => k (.bool (a == b))
    | .NotEq => k (.bool (a != b))
    | _ => False)
  | .list a, .list b => (match op with
    | .Eq => (eqOk (.list a) ∧ eqOk (.list b)) ∧ k (.bool (PyData.eqvAll a b))
    | .NotEq => (eqOk (.list a) ∧ eqOk (.list b)) ∧ k (.bool (!PyData.eqvAll a b))
    | _ => False)
  | d, .list b => inK op d b k
  | _, _ => False

noncomputable def idxK (x i : PyData) (k : PyData → Prop) : Prop := match x, i with
  | .str a, .int j => (-(2 ^ 62) < j ∧ j < 2 ^ 62) ∧ (match pyIdx a.cps.toList j with | some c => k (.str ⟨#[c]⟩) | none => False)
  | .list a, .int j => (-(2 ^ 62) < j ∧ j < 2 ^ 62) ∧ (match pyIdx a j with | some d => k d | none => False)
  | .tuple a, .int j => (-(2 ^ 62) < j ∧ j < 2 ^ 62) ∧ (match pyIdx a j with | some d => k d | none => False)
  | _, _ => False

noncomputable def partOf : PyData → Option (Option Int)
  | .none => some none
  | .int i => some (some i)
  | _ => none

noncomputable def slcK (x lo hi : PyData) (k : PyData → Prop) : Prop := match partOf lo, partOf hi with
  | some l, some h => (match x with
    | .str a => a.length ≤ 2 ^ 24 ∧ k (.str (sOf (pySlice a.cps.toList l h)))
    | .list a => a.length ≤ 2 ^ 24 ∧ k (.list (pySlice a l h))
    | _ => False)
  | _, _ => False

noncomputable def intsOf (ns : List Int) : List PyData := ns.map .int

noncomputable def on1 (as : List PyData) (f : PyData → Prop) : Prop := match as with
  | [d] => f d
  | _ => False
noncomputable def on2 (as : List PyData) (f : PyData → PyData → Prop) : Prop := match as with
  | [d, e] => f d e
  | _ => False
noncomputable def onI (d : PyData) (f : Int → Prop) : Prop := match d with
  | .int i => f i
  | _ => False
noncomputable def onS (d : PyData) (f : Str → Prop) : Prop := match d with
  | .str i => f i
  | _ => False
noncomputable def onL (d : PyData) (f : List PyData → Prop) : Prop := match d with
  | .list i => f i
  | _ => False
noncomputable def biK (b : Bi) (as : List PyData) (k : PyData → Prop) : Prop := match b with
  | .len => on1 as fun d => (match d with
    | .str x => x.length < 2 ^ 24 ∧ k (.int x.cps.size)
    | .list ds => ds.length < 2 ^ 24 ∧ k (.int ds.length)
    | _ => False)
  | .min2 => on2 as fun d e => onI d fun a => onI e fun b => k (.int (if b < a then b else a))
  | .minL => on1 as fun d => onL d fun ds => ∃ ns, (ds = intsOf ns ∧ ns ≠ []) ∧ ∀ M ∈ ns, (∀ a ∈ ns, M ≤ a) → k (.int M)
  | .sum => on1 as fun d => onL d fun ds => ∃ ns, ds = intsOf ns ∧ k (.int ns.sum)
  | .ord => on1 as fun d => onS d fun x => ∃ c, x = ⟨#[c]⟩ ∧ k (.int (c : Nat))
  | .chr => on1 as fun d => onI d fun i => (0 ≤ i ∧ i ≤ 1114111) ∧ k (.str ⟨#[i.toNat]⟩)
  | .abs => on1 as fun d => onI d fun a => k (.int (if a < 0 then -a else a))
  | .str => on1 as fun d => onL d fun ds => ((PyData.list ds).showable = true ∧ (PyData.list ds).hasDict = false ∧ (PyData.list ds).depth ≤ 64 ∧ (PyData.list ds).shown.length ≤ sizeLine) ∧ k (.str (PyData.list ds).shown)
  | .isint => on1 as fun d => onI d fun _ => k (.bool true)
  | .lower => on1 as fun d => onS d fun x => (x.length ≤ 2 ^ 20) ∧ k (.str (Txt.lower x))
  | .join => on2 as fun d e => onS d fun s => onL e fun ds => s = sOf [] ∧ ∃ cs : List Nat, ds = cs.map (fun c => PyData.str ⟨#[c]⟩) ∧ cs.length ≤ 2 ^ 20 ∧ k (.str (sOf cs))

/-- the ints of a range -/
noncomputable def upI (a : Int) : Nat → List Int
  | 0 => []
  | n + 1 => a :: upI (a + 1) n
noncomputable def downI (a : Int) : Nat → List Int
  | 0 => []
  | n + 1 => a :: downI (a - 1) n
noncomputable def rngK (as : List PyData) (k : List Int → Prop) : Prop := match as with
  | [.int b] => (-(2 ^ 40) < b ∧ b < 2 ^ 20) ∧ k (upI 0 b.toNat)
  | [.int a, .int b] => (-(2 ^ 40) < a ∧ a < 2 ^ 40 ∧ -(2 ^ 40) < b ∧ b < 2 ^ 40 ∧ b - a < 2 ^ 20) ∧ k (upI a (b - a).toNat)
  | [.int a, .int b, .int c] => (-(2 ^ 40) < a ∧ a < 2 ^ 40 ∧ -(2 ^ 40) < b ∧ b < 2 ^ 40) ∧
      ((c = -1 ∧ a - b < 2 ^ 20 ∧ k (downI a (a - b).toNat)) ∨
       (c = 2 ∧ b - a < 2 ^ 20 ∧ k ((upI 0 ((b - a + 1).fdiv 2).toNat).map fun j => a + 2 * j)))
  | _ => False

noncomputable def scalarD : PyData → Bool
  | .none => true
  | .bool _ => true
  | .int _ => true
  | .str _ => true
  | _ => false

section
variable (Sp : String → List PyData → PyData → Prop)

/-- items that an iteration over a datum gives -/
noncomputable def itemsK (d : PyData) (k : List PyData → Prop) : Prop := match d with
  | .list ds => ds.length ≤ 2 ^ 20 ∧ k ds
  | .str x => x.length ≤ 2 ^ 20 ∧ k (x.cps.toList.map fun c => .str ⟨#[c]⟩)
  | _ => False

/-- a datum handed on: as it is, or (m) as a test reads it -/
noncomputable def finK (m : Bool) (k : PyData → Prop) (d : PyData) : Prop := match m with
  | false => k d
  | true => truK d fun t => k (.bool t)
noncomputable def asB (k : Bool → Prop) (d : PyData) : Prop := match d with
  | .bool t => k t
  | _ => False
mutual
noncomputable def wpM : Bool → MX → Vw → (PyData → Prop) → Prop
  | m, .lit d, _, k => finK m k d
  | m, .var i, v, k => (match v i with | some d => finK m k d | none => False)
  | m, .bin op a b, v, k => wpM false a v fun x => wpM false b v fun y => binK op x y (finK m k)
  | m, .neg a, v, k => wpM false a v fun x => (match x with | .int i => finK m k (.int (-i)) | _ => False)
  | true, .no a, v, k => wpM true a v (asB fun t => k (.bool (!t)))
  | false, .no a, v, k => wpM false a v fun x => truK x fun t => k (.bool (!t))
  | true, .and a b, v, k => wpM true a v (asB fun t => (t = true → wpM true b v k) ∧ (t = false → k (.bool false)))
  | false, .and a b, v, k => wpM false a v fun x => truK x fun t => (t = true → wpM false b v k) ∧ (t = false → k x)
  | true, .or a b, v, k => wpM true a v (asB fun t => (t = true → k (.bool true)) ∧ (t = false → wpM true b v k))
  | false, .or a b, v, k => wpM false a v fun x => truK x fun t => (t = true → k x) ∧ (t = false → wpM false b v k)
  | m, .cmp op a b, v, k => wpM false a v fun x => wpM false b v fun y => cmpK op x y (finK m k)
  | m, .ite t a b, v, k => wpM true t v (asB fun c => (c = true → wpM m a v k) ∧ (c = false → wpM m b v k))
  | m, .idx a i, v, k => wpM false a v fun x => wpM false i v fun y => idxK x y (finK m k)
  | m, .slc a lo hi, v, k => wpM false a v fun x => wpM false lo v fun l => wpM false hi v fun h => slcK x l h (finK m k)
  | m, .call f as, v, k => wpL as v fun ds => ∃ d, Sp f ds d ∧ finK m k d
  | m, .bi b as, v, k => wpL as v fun ds => biK b ds (finK m k)
  | m, .lst as, v, k => wpL as v fun ds => ds.length ≤ 2 ^ 20 ∧ finK m k (.list ds)
  | m, .tup as, v, k => wpL as v fun ds => ds.length ≤ 2 ^ 20 ∧ finK m k (.tuple ds)
  | _, .rng _, _, _ => False
  | m, .comp x elt src conds, v, k =>
    let rest : List PyData → Prop := fun ds => ∃ keep : PyData → Bool, ∃ out : PyData → PyData,
        (∀ d ∈ ds, wpC conds (updV v x d) fun c => c = keep d) ∧
        (∀ d ∈ ds, keep d = true → wpM false elt (updV v x d) fun r => r = out d ∧ scalarD r = true) ∧ finK m k (.list ((ds.filter keep).map out))
    (match src with
    | .rng as => wpL as v fun ds => rngK ds fun ns => rest (intsOf ns)
    | src => wpM false src v fun d => itemsK d rest)
noncomputable def wpC : List MX → Vw → (Bool → Prop) → Prop
  | [], _, k => k true
  | c :: cs, v, k => wpM true c v (asB fun t => (t = true → wpC cs v k) ∧ (t = false → k false))
noncomputable def wpL : List MX → Vw → (List PyData → Prop) → Prop
  | [], _, k => k []
  | e :: r, v, k => wpM false e v fun d => wpL r v fun ds => k (d :: ds)
end
noncomputable def wpLL : List (List MX) → Vw → (List (List PyData) → Prop) → Prop
  | [], _, k => k []
  | as :: r, v, k => wpL Sp as v fun ds => ds.length ≤ 2 ^ 20 ∧ wpLL r v fun dss => k (ds :: dss)
/-- an element of an own list of own lists -/
noncomputable def eltK (xs : List Elt) (j : PyData) (k : Nat → List PyData → Prop) : Prop := match j with
  | .int j => (0 ≤ j ∧ j < 2 ^ 40 ∧ xs.length ≤ 2 ^ 20) ∧ (match xs[j.toNat]? with
    | some (.deep es) => es.length ≤ 2 ^ 20 ∧ k j.toNat es
    | _ => False)
  | _ => False
/-- a source of an iteration -/
noncomputable def wpR : MX → Vw → (List PyData → Prop) → Prop
  | .rng as, v, k => wpL Sp as v fun ds => rngK ds fun ns => k (intsOf ns)
  | e, v, k => wpM Sp false e v fun d => itemsK d k
abbrev wpE (e : MX) (v : Vw) (k : PyData → Prop) : Prop := wpM Sp false e v k
abbrev wpT (e : MX) (v : Vw) (k : Bool → Prop) : Prop := wpM Sp true e v (asB k)

noncomputable def forK (f : Ev → (Ev → Prop) → Prop) (x : Nat) : List PyData → Ev → (Ev → Prop) → Prop
  | [], ρ, kn => kn ρ
  | d :: ds, ρ, kn => f (setS ρ x (.imm d)) fun ρ' => forK f x ds ρ' kn
noncomputable def whlK (t : Ev → (Bool → Prop) → Prop) (f : Ev → (Ev → Prop) → Prop) : Nat → Ev → (Ev → Prop) → Prop
  | 0, _, _ => False
  | n + 1, ρ, kn => t ρ fun b => (b = true → f ρ fun ρ' => whlK t f n ρ' kn) ∧ (b = false → kn ρ)

mutual
noncomputable def wpS : MS → Ev → (Ev → Prop) → (PyData → Prop) → Prop
  | .asg x e, ρ, kn, _ => wpE Sp e (stillV ρ) fun d => kn (setS ρ x (.imm d))
  | .asgS x e, ρ, kn, _ => wpE Sp e (allV ρ) fun d => scalarD d = true ∧ kn (setS ρ x (.imm d))
  | .asgO x as, ρ, kn, _ => wpL Sp as (stillV ρ) fun ds => ds.length ≤ 2 ^ 20 ∧ kn (setS ρ x (.own ds))
  | .asgR x as, ρ, kn, _ => wpL Sp as (allV ρ) fun ds => rngK ds fun ns => kn (setS ρ x (.own (intsOf ns)))
  | .asg2 x y e, ρ, kn, _ => wpE Sp e (allV ρ) fun d => scalarD d = true ∧ kn (setS (setS ρ x (.imm d)) y (.imm d))
  | .unp x y e, ρ, kn, _ => wpE Sp e (stillV ρ) fun d => (match d with | .tuple [a, b] => kn (setS (setS ρ x (.imm a)) y (.imm b)) | _ => False)
  | .swp x y a b, ρ, kn, _ => wpE Sp a (stillV ρ) fun p => wpE Sp b (stillV ρ) fun q => kn (setS (setS ρ x (.imm p)) y (.imm q))
  | .aug x op e, ρ, kn, _ => (match stillV ρ x with
    | some o => wpE Sp e (allV ρ) fun d => (scalarD o = true ∧ scalarD d = true) ∧ binK op o d fun r => kn (setS ρ x (.imm r))
    | none => False)
  | .augL x as, ρ, kn, _ => (match getS ρ x with
    | .own ds => wpL Sp as (stillV ρ) fun es => (ds.length ≤ 2 ^ 20 ∧ es.length ≤ 2 ^ 20) ∧ kn (setS ρ x (.own (ds ++ es)))
    | _ => False)
  | .app x e, ρ, kn, _ => (match getS ρ x with
    | .own ds => wpE Sp e (allV ρ) fun d => (ds.length ≤ 2 ^ 20 ∧ scalarD d = true) ∧ kn (setS ρ x (.own (ds ++ [d])))
    | _ => False)
  | .appS x e, ρ, kn, _ => (match getS ρ x with
    | .own ds => wpE Sp e (stillV ρ) fun d => ds.length ≤ 2 ^ 20 ∧ kn (setS ρ x (.own (ds ++ [d])))
    | _ => False)
  | .sti x i e, ρ, kn, _ => (match getS ρ x with
    | .own ds => wpE Sp e (allV ρ) fun d => wpE Sp i (allV ρ) fun j => scalarD d = true ∧ (match j with
      | .int j => (0 ≤ j ∧ j < ds.length ∧ ds.length ≤ 2 ^ 20) ∧ kn (setS ρ x (.own (ds.set j.toNat d)))
      | _ => False)
    | _ => False)
  | .frz x, ρ, kn, _ => kn (setS ρ x (getS ρ x).froze)
  | .ifs t a b, ρ, kn, kr => wpT Sp t (allV ρ) fun c => (c = true → wpB a ρ kn kr) ∧ (c = false → wpB b ρ kn kr)
  | .whl t body, ρ, kn, kr => ∃ n, whlK (fun ρ k => wpT Sp t (allV ρ) k) (fun ρ k => wpB body ρ k kr) n ρ kn
  | .forE x src body, ρ, kn, kr => wpR Sp src (stillV ρ) fun ds => forK (fun ρ k => wpB body ρ k kr) x ds ρ kn
  | .asgD x ass, ρ, kn, _ => wpLL Sp ass (stillV ρ) fun dss => dss.length ≤ 2 ^ 20 ∧ kn (setS ρ x (.deep (dss.map Elt.deep)))
  | .apD x i e, ρ, kn, _ => (match getS ρ x with
    | .deep xs => wpE Sp i (stillV ρ) fun j => eltK xs j fun n es => wpE Sp e (stillV ρ) fun d => kn (setS ρ x (.deep (xs.set n (.deep (es ++ [d])))))
    | _ => False)
  | .apN x as, ρ, kn, _ => (match getS ρ x with
    | .deep xs => wpL Sp as (stillV ρ) fun ds => (xs.length ≤ 2 ^ 20 ∧ ds.length ≤ 2 ^ 20) ∧ kn (setS ρ x (.deep (xs ++ [.deep ds])))
    | _ => False)
  | .forD y x i body, ρ, kn, kr => (match getS ρ x with
    | .deep xs => wpE Sp i (stillV ρ) fun j => eltK xs j fun n es => forK (fun ρ k => wpB body ρ k kr) y es (setS ρ x (.deep (xs.set n (.flat (.list es))))) kn
    | _ => False)
  | .ret e, ρ, _, kr => wpE Sp e (allV ρ) kr
noncomputable def wpB : List MS → Ev → (Ev → Prop) → (PyData → Prop) → Prop
  | [], ρ, kn, _ => kn ρ
  | st :: r, ρ, kn, kr => wpS st ρ (fun ρ' => wpB r ρ' kn kr) kr
end
end
end Mine
end R1

section EQ
open PySem PySem.W PyProof.Rows
namespace Mine
section
variable {Sp : String → List PyData → PyData → Prop} {m : Bool} {v : Vw} {k : PyData → Prop}
theorem wm_litT {d : PyData} : wpM Sp true (.lit d) v k = finK true k d := rfl
theorem wm_litF {d : PyData} : wpM Sp false (.lit d) v k = finK false k d := rfl
theorem wm_varT {i : Nat} : wpM Sp true (.var i) v k = (match v i with | some d => finK true k d | none => False) := rfl
theorem wm_varF {i : Nat} : wpM Sp false (.var i) v k = (match v i with | some d => finK false k d | none => False) := rfl
theorem wm_binT {op : Operator} {a b : MX} : wpM Sp true (.bin op a b) v k = wpM Sp false a v fun x => wpM Sp false b v fun y => binK op x y (finK true k) := rfl
theorem wm_binF {op : Operator} {a b : MX} : wpM Sp false (.bin op a b) v k = wpM Sp false a v fun x => wpM Sp false b v fun y => binK op x y (finK false k) := rfl
theorem wm_negT {a : MX} : wpM Sp true (.neg a) v k = wpM Sp false a v fun x => (match x with | .int i => finK true k (.int (-i)) | _ => False) := rfl
theorem wm_negF {a : MX} : wpM Sp false (.neg a) v k = wpM Sp false a v fun x => (match x with | .int i => finK false k (.int (-i)) | _ => False) := rfl
theorem wm_noT {a : MX} : wpM Sp true (.no a) v k = wpM Sp true a v (asB fun t => k (.bool (!t))) := rfl
theorem wm_noF {a : MX} : wpM Sp false (.no a) v k = wpM Sp false a v fun x => truK x fun t => k (.bool (!t)) := rfl
theorem wm_andT {a b : MX} : wpM Sp true (.and a b) v k = wpM Sp true a v (asB fun t => (t = true → wpM Sp true b v k) ∧ (t = false → k (.bool false))) := rfl
theorem wm_andF {a b : MX} : wpM Sp false (.and a b) v k = wpM Sp false a v fun x => truK x fun t => (t = true → wpM Sp false b v k) ∧ (t = false → k x) := rfl
theorem wm_orT {a b : MX} : wpM Sp true (.or a b) v k = wpM Sp true a v (asB fun t => (t = true → k (.bool true)) ∧ (t = false → wpM Sp true b v k)) := rfl
theorem wm_orF {a b : MX} : wpM Sp false (.or a b) v k = wpM Sp false a v fun x => truK x fun t => (t = true → k x) ∧ (t = false → wpM Sp false b v k) := rfl
theorem wm_cmpT {op : CmpOp} {a b : MX} : wpM Sp true (.cmp op a b) v k = wpM Sp false a v fun x => wpM Sp false b v fun y => cmpK op x y (finK true k) := rfl
theorem wm_cmpF {op : CmpOp} {a b : MX} : wpM Sp false (.cmp op a b) v k = wpM Sp false a v fun x => wpM Sp false b v fun y => cmpK op x y (finK false k) := rfl
theorem wm_iteT {t a b : MX} : wpM Sp true (.ite t a b) v k = wpM Sp true t v (asB fun c => (c = true → wpM Sp true a v k) ∧ (c = false → wpM Sp true b v k)) := rfl
theorem wm_iteF {t a b : MX} : wpM Sp false (.ite t a b) v k = wpM Sp true t v (asB fun c => (c = true → wpM Sp false a v k) ∧ (c = false → wpM Sp false b v k)) := rfl
theorem wm_idxT {a i : MX} : wpM Sp true (.idx a i) v k = wpM Sp false a v fun x => wpM Sp false i v fun y => idxK x y (finK true k) := rfl
theorem wm_idxF {a i : MX} : wpM Sp false (.idx a i) v k = wpM Sp false a v fun x => wpM Sp false i v fun y => idxK x y (finK false k) := rfl
theorem wm_slcT {a lo hi : MX} : wpM Sp true (.slc a lo hi) v k = wpM Sp false a v fun x => wpM Sp false lo v fun l => wpM Sp false hi v fun h => slcK x l h (finK true k) := rfl
theorem wm_slcF {a lo hi : MX} : wpM Sp false (.slc a lo hi) v k = wpM Sp false a v fun x => wpM Sp false lo v fun l => wpM Sp false hi v fun h => slcK x l h (finK false k) := rfl
theorem wm_callT {f : String} {as : List MX} : wpM Sp true (.call f as) v k = wpL Sp as v fun ds => ∃ d, Sp f ds d ∧ finK true k d := rfl
theorem wm_callF {f : String} {as : List MX} : wpM Sp false (.call f as) v k = wpL Sp as v fun ds => ∃ d, Sp f ds d ∧ finK false k d := rfl
theorem wm_biT {b : Bi} {as : List MX} : wpM Sp true (.bi b as) v k = wpL Sp as v fun ds => biK b ds (finK true k) := rfl
theorem wm_biF {b : Bi} {as : List MX} : wpM Sp false (.bi b as) v k = wpL Sp as v fun ds => biK b ds (finK false k) := rfl
theorem wm_lstT {as : List MX} : wpM Sp true (.lst as) v k = wpL Sp as v fun ds => ds.length ≤ 2 ^ 20 ∧ finK true k (.list ds) := rfl
theorem wm_lstF {as : List MX} : wpM Sp false (.lst as) v k = wpL Sp as v fun ds => ds.length ≤ 2 ^ 20 ∧ finK false k (.list ds) := rfl
theorem wm_tupT {as : List MX} : wpM Sp true (.tup as) v k = wpL Sp as v fun ds => ds.length ≤ 2 ^ 20 ∧ finK true k (.tuple ds) := rfl
theorem wm_tupF {as : List MX} : wpM Sp false (.tup as) v k = wpL Sp as v fun ds => ds.length ≤ 2 ^ 20 ∧ finK false k (.tuple ds) := rfl
theorem wm_comp {x : Nat} {elt src : MX} {conds : List MX} : wpM Sp m (.comp x elt src conds) v k = wpR Sp src v fun ds => ∃ keep : PyData → Bool, ∃ out : PyData → PyData,
        (∀ d ∈ ds, wpC Sp conds (updV v x d) fun c => c = keep d) ∧
        (∀ d ∈ ds, keep d = true → wpM Sp false elt (updV v x d) fun r => r = out d ∧ scalarD r = true) ∧ finK m k (.list ((ds.filter keep).map out)) := by cases m <;> cases src <;> rfl
theorem wl_n {k : List PyData → Prop} : wpL Sp [] v k = k [] := rfl
theorem wl_c {e : MX} {r : List MX} {k : List PyData → Prop} : wpL Sp (e :: r) v k = wpM Sp false e v fun d => wpL Sp r v fun ds => k (d :: ds) := rfl
theorem wc_n {k : Bool → Prop} : wpC Sp [] v k = k true := rfl
theorem wc_c {e : MX} {r : List MX} {k : Bool → Prop} : wpC Sp (e :: r) v k = wpM Sp true e v (asB fun t => (t = true → wpC Sp r v k) ∧ (t = false → k false)) := rfl
theorem wr_rng {as : List MX} {k : List PyData → Prop} : wpR Sp (.rng as) v k = wpL Sp as v fun ds => rngK ds fun ns => k (intsOf ns) := rfl
theorem wr_var {i : Nat} {k : List PyData → Prop} : wpR Sp (.var i) v k = wpM Sp false (.var i) v fun d => itemsK d k := rfl
theorem wr_slc {a b c : MX} {k : List PyData → Prop} : wpR Sp (.slc a b c) v k = wpM Sp false (.slc a b c) v fun d => itemsK d k := rfl
theorem wr_call {f : String} {as : List MX} {k : List PyData → Prop} : wpR Sp (.call f as) v k = wpM Sp false (.call f as) v fun d => itemsK d k := rfl
theorem wr_idx {a b : MX} {k : List PyData → Prop} : wpR Sp (.idx a b) v k = wpM Sp false (.idx a b) v fun d => itemsK d k := rfl
theorem wr_bin {o : Operator} {a b : MX} {k : List PyData → Prop} : wpR Sp (.bin o a b) v k = wpM Sp false (.bin o a b) v fun d => itemsK d k := rfl
theorem wr_lst {as : List MX} {k : List PyData → Prop} : wpR Sp (.lst as) v k = wpM Sp false (.lst as) v fun d => itemsK d k := rfl
theorem wr_tup {as : List MX} {k : List PyData → Prop} : wpR Sp (.tup as) v k = wpM Sp false (.tup as) v fun d => itemsK d k := rfl
theorem wr_comp {x : Nat} {a b : MX} {c : List MX} {k : List PyData → Prop} : wpR Sp (.comp x a b c) v k = wpM Sp false (.comp x a b c) v fun d => itemsK d k := rfl
theorem wr_bi {f : Bi} {as : List MX} {k : List PyData → Prop} : wpR Sp (.bi f as) v k = wpM Sp false (.bi f as) v fun d => itemsK d k := rfl
theorem fi_f {d : PyData} : finK false k d = k d := rfl
theorem fi_t {d : PyData} : finK true k d = truK d fun t => k (.bool t) := rfl
theorem as_b {k : Bool → Prop} {t : Bool} : asB k (.bool t) = k t := rfl
theorem cm_iEq {a b : Int} : cmpK .Eq (.int a) (.int b) k = k (.bool (a == b)) := rfl
theorem cm_iNotEq {a b : Int} : cmpK .NotEq (.int a) (.int b) k = k (.bool (a != b)) := rfl
theorem cm_iLt {a b : Int} : cmpK .Lt (.int a) (.int b) k = k (.bool (decide (a < b))) := rfl
theorem cm_iLtE {a b : Int} : cmpK .LtE (.int a) (.int b) k = k (.bool (decide (a ≤ b))) := rfl
theorem cm_iGt {a b : Int} : cmpK .Gt (.int a) (.int b) k = k (.bool (decide (b < a))) := rfl
theorem cm_iGtE {a b : Int} : cmpK .GtE (.int a) (.int b) k = k (.bool (decide (b ≤ a))) := rfl
theorem cm_sEq {a b : Str} : cmpK .Eq (.str a) (.str b) k = k (.bool (a == b)) := rfl
theorem cm_sNotEq {a b : Str} : cmpK .NotEq (.str a) (.str b) k = k (.bool (a != b)) := rfl
theorem cm_lEq {a b : List PyData} : cmpK .Eq (.list a) (.list b) k = ((eqOk (.list a) ∧ eqOk (.list b)) ∧ k (.bool (PyData.eqvAll a b))) := rfl
theorem cm_lNe {a b : List PyData} : cmpK .NotEq (.list a) (.list b) k = ((eqOk (.list a) ∧ eqOk (.list b)) ∧ k (.bool (!PyData.eqvAll a b))) := rfl
theorem cm_in_i {op : CmpOp} {a : Int} {b : List PyData} : cmpK op (.int a) (.list b) k = inK op (.int a) b k := rfl
theorem cm_in_s {op : CmpOp} {a : Str} {b : List PyData} : cmpK op (.str a) (.list b) k = inK op (.str a) b k := rfl
theorem tr_n {k : Bool → Prop} : truK .none k = k false := rfl
theorem tr_b {k : Bool → Prop} {b : Bool} : truK (.bool b) k = k b := rfl
theorem tr_i {k : Bool → Prop} {i : Int} : truK (.int i) k = k (i != 0) := rfl
theorem tr_s {k : Bool → Prop} {x : Str} : truK (.str x) k = (x.length < 2 ^ 24 ∧ k (x.cps.size != 0)) := rfl
theorem tr_l {k : Bool → Prop} {ds : List PyData} : truK (.list ds) k = (ds.length < 2 ^ 24 ∧ k (!ds.isEmpty)) := rfl
theorem bn_Add {a b : Int} : binK .Add (.int a) (.int b) k = k (.int (a + b)) := rfl
theorem bn_Sub {a b : Int} : binK .Sub (.int a) (.int b) k = k (.int (a - b)) := rfl
theorem bn_Mult {a b : Int} : binK .Mult (.int a) (.int b) k = ((a.natAbs < 2 ^ 64 ∨ b.natAbs < 2 ^ 64) ∧ k (.int (a * b))) := rfl
theorem bn_FloorDiv {a b : Int} : binK .FloorDiv (.int a) (.int b) k = ((b ≠ 0 ∧ b.natAbs < 1073741824) ∧ k (.int (a.fdiv b))) := rfl
theorem bn_Mod {a b : Int} : binK .Mod (.int a) (.int b) k = (b ≠ 0 ∧ k (.int (a.fmod b))) := rfl
theorem bn_BitAnd {a b : Int} : binK .BitAnd (.int a) (.int b) k = ((0 ≤ a ∧ 0 ≤ b) ∧ k (.int ((a.toNat &&& b.toNat : Nat) : Int))) := rfl
theorem bn_BitXor {a b : Int} : binK .BitXor (.int a) (.int b) k = ((0 ≤ a ∧ 0 ≤ b) ∧ k (.int ((a.toNat ^^^ b.toNat : Nat) : Int))) := rfl
theorem bn_LShift {a b : Int} : binK .LShift (.int a) (.int b) k = ((0 ≤ a ∧ 0 ≤ b ∧ b ≤ 100000 ∧ a.toNat < 2 ^ 1000) ∧ k (.int ((a.toNat <<< b.toNat : Nat) : Int))) := rfl
theorem bn_RShift {a b : Int} : binK .RShift (.int a) (.int b) k = ((0 ≤ a ∧ 0 ≤ b) ∧ k (.int ((a.toNat >>> b.toNat : Nat) : Int))) := rfl
theorem bn_s {op : Operator} {a b : Str} : binK op (.str a) (.str b) k = (op = .Add ∧ a.length + b.length ≤ 2 ^ 24 ∧ k (.str (a ++ b))) := rfl
theorem bn_l {op : Operator} {a b : List PyData} : binK op (.list a) (.list b) k = (op = .Add ∧ a.length + b.length ≤ 2 ^ 24 ∧ k (.list (a ++ b))) := rfl
theorem ix_s {a : Str} {j : Int} : idxK (.str a) (.int j) k = ((-(2 ^ 62) < j ∧ j < 2 ^ 62) ∧ (match pyIdx a.cps.toList j with | some c => k (.str ⟨#[c]⟩) | none => False)) := rfl
theorem ix_l {a : List PyData} {j : Int} : idxK (.list a) (.int j) k = ((-(2 ^ 62) < j ∧ j < 2 ^ 62) ∧ (match pyIdx a j with | some d => k d | none => False)) := rfl
theorem ix_t {a : List PyData} {j : Int} : idxK (.tuple a) (.int j) k = ((-(2 ^ 62) < j ∧ j < 2 ^ 62) ∧ (match pyIdx a j with | some d => k d | none => False)) := rfl
theorem bi_lenS {x : Str} : biK .len [.str x] k = (x.length < 2 ^ 24 ∧ k (.int x.cps.size)) := rfl
theorem bi_lenL {ds : List PyData} : biK .len [.list ds] k = (ds.length < 2 ^ 24 ∧ k (.int ds.length)) := rfl
theorem bi_min2 {a b : Int} : biK .min2 [.int a, .int b] k = k (.int (if b < a then b else a)) := rfl
theorem bi_minL {ds : List PyData} : biK .minL [.list ds] k = (∃ ns, (ds = intsOf ns ∧ ns ≠ []) ∧ ∀ M ∈ ns, (∀ a ∈ ns, M ≤ a) → k (.int M)) := rfl
theorem bi_sum {ds : List PyData} : biK .sum [.list ds] k = (∃ ns, ds = intsOf ns ∧ k (.int ns.sum)) := rfl
theorem bi_ord {x : Str} : biK .ord [.str x] k = (∃ c, x = ⟨#[c]⟩ ∧ k (.int (c : Nat))) := rfl
theorem bi_chr {i : Int} : biK .chr [.int i] k = ((0 ≤ i ∧ i ≤ 1114111) ∧ k (.str ⟨#[i.toNat]⟩)) := rfl
theorem bi_abs {a : Int} : biK .abs [.int a] k = k (.int (if a < 0 then -a else a)) := rfl
theorem bi_isint {a : Int} : biK .isint [.int a] k = k (.bool true) := rfl
theorem bi_lower {x : Str} : biK .lower [.str x] k = ((x.length ≤ 2 ^ 20) ∧ k (.str (Txt.lower x))) := rfl
theorem bi_join {s : Str} {ds : List PyData} : biK .join [.str s, .list ds] k = (s = sOf [] ∧ ∃ cs : List Nat, ds = cs.map (fun c => PyData.str ⟨#[c]⟩) ∧ cs.length ≤ 2 ^ 20 ∧ k (.str (sOf cs))) := rfl
theorem bi_str {ds : List PyData} : biK .str [.list ds] k = (((PyData.list ds).showable = true ∧ (PyData.list ds).hasDict = false ∧ (PyData.list ds).depth ≤ 64 ∧ (PyData.list ds).shown.length ≤ sizeLine) ∧ k (.str (PyData.list ds).shown)) := rfl
theorem sd_n : scalarD .none = true := rfl
theorem sd_b {b : Bool} : scalarD (.bool b) = true := rfl
theorem sd_i {b : Int} : scalarD (.int b) = true := rfl
theorem sd_s {b : Str} : scalarD (.str b) = true := rfl
theorem sd_l {b : List PyData} : scalarD (.list b) = false := rfl
theorem sd_t {b : List PyData} : scalarD (.tuple b) = false := rfl
end
end Mine
end EQ

section VW
open PySem PySem.W PyProof.Rows
namespace Mine
/-! # Views: what a tree is, told as an option -/
noncomputable def view (e : Expr) : Nat × Str × List Expr × List (Option Expr) × Pos := match e with
  | .Name x p => (1, x, [], [], p)
  | .Call fn as kws p => (if kws.isEmpty then 2 else 0, ⟨#[]⟩, fn :: as, [], p)
  | .Attribute o nm p => (3, nm, [o], [], p)
  | .Slice lo hi st p => (4, ⟨#[]⟩, [], [lo, hi, st], p)
  | .List es p => (5, ⟨#[]⟩, es, [], p)
  | .Tuple es _ p => (6, ⟨#[]⟩, es, [], p)
  | .Subscript o i p => (7, ⟨#[]⟩, [o, i], [], p)
  | e => (0, ⟨#[]⟩, [], [], e.pos)
noncomputable def ViewOk (e : Expr) (t : Nat) (s : Str) (x : List Expr) (o : List (Option Expr)) (p : Pos) : Prop :=
  t = 0 ∨ (t = 1 ∧ e = .Name s p) ∨ (t = 2 ∧ ∃ fn as, x = fn :: as ∧ e = .Call fn as [] p) ∨ (t = 3 ∧ ∃ v, x = [v] ∧ e = .Attribute v s p) ∨
    (t = 4 ∧ ∃ a b c, o = [a, b, c] ∧ e = .Slice a b c p) ∨ (t = 5 ∧ e = .List x p) ∨ (t = 6 ∧ ∃ k, e = .Tuple x k p) ∨ (t = 7 ∧ ∃ v i, x = [v, i] ∧ e = .Subscript v i p)
theorem view_ (e : Expr) : ViewOk e (view e).1 (view e).2.1 (view e).2.2.1 (view e).2.2.2.1 (view e).2.2.2.2 := by
  cases e with
  | Name x p => exact .inr (.inl ⟨rfl, rfl⟩)
  | Call f a k p =>
    cases k with
    | nil => exact .inr (.inr (.inl ⟨rfl, _, _, rfl, rfl⟩))
    | cons _ _ => exact .inl rfl
  | Attribute o n p => exact .inr (.inr (.inr (.inl ⟨rfl, _, rfl, rfl⟩)))
  | Slice a b c p => exact .inr (.inr (.inr (.inr (.inl ⟨rfl, _, _, _, rfl, rfl⟩))))
  | List es p => exact .inr (.inr (.inr (.inr (.inr (.inl ⟨rfl, rfl⟩)))))
  | Tuple es k p => exact .inr (.inr (.inr (.inr (.inr (.inr (.inl ⟨rfl, _, rfl⟩))))))
  | Subscript o i p => exact .inr (.inr (.inr (.inr (.inr (.inr (.inr ⟨rfl, _, _, rfl, rfl⟩))))))
  | _ => exact .inl rfl
/-- a piece of an option's way -/
theorem bnd {α β : Type} {x : Option α} {f : α → Option β} {b : β} (h : x.bind f = some b) : ∃ a, x = some a ∧ f a = some b := Option.bind_eq_some_iff.mp h
theorem iff_ {β : Type} {c : Bool} {x : Option β} {b : β} (h : (if c = true then x else none) = some b) : c = true ∧ x = some b := by
  cases c with
  | true => exact ⟨rfl, h⟩
  | false => cases h
theorem som1 {α β : Type} {x : Option α} {f : α → β} {m : β} (h : (x.bind fun a => some (f a)) = some m) : ∃ a, x = some a ∧ f a = m := by
  obtain ⟨a, ha, h⟩ := bnd h
  exact ⟨a, ha, Option.some.inj h⟩
theorem som2 {α β γ : Type} {x : Option α} {y : α → Option β} {f : α → β → γ} {m : γ} (h : (x.bind fun a => (y a).bind fun b => some (f a b)) = some m) : ∃ a, x = some a ∧ ∃ b, y a = some b ∧ f a b = m := by
  obtain ⟨a, ha, h⟩ := bnd h
  exact ⟨a, ha, som1 h⟩
theorem som3 {α β γ δ : Type} {x : Option α} {y : α → Option β} {z : α → β → Option δ} {f : α → β → δ → γ} {m : γ} (h : (x.bind fun a => (y a).bind fun b => (z a b).bind fun c => some (f a b c)) = some m) : ∃ a, x = some a ∧ ∃ b, y a = some b ∧ ∃ c, z a b = some c ∧ f a b c = m := by
  obtain ⟨a, ha, h⟩ := bnd h
  exact ⟨a, ha, som2 h⟩
theorem nop {β : Type} {x : Option β} {b : β} {P : Prop} (e : x = none) (h : x = some b) : P := by rw [e] at h; cases h
noncomputable def tagged (e : Expr) (t : Nat) : Option (Str × List Expr × List (Option Expr) × Pos) := if (view e).1 == t then some (view e).2 else none
theorem tagged_ {e : Expr} {t : Nat} {s : Str} {x : List Expr} {o : List (Option Expr)} {p : Pos} (h : tagged e t = some (s, x, o, p)) : ViewOk e t s x o p := by
  obtain ⟨h1, h2⟩ := iff_ h
  have v := view_ e
  rw [beq_iff_eq.mp h1, Option.some.inj h2] at v
  exact v
noncomputable def hd1 {α : Type} (l : List α) : Option α := match l with
  | x :: _ => some x
  | _ => none
noncomputable def asName (e : Expr) : Option Str := (tagged e 1).bind fun q => some q.1
theorem asName_ {e : Expr} {x : Str} (h : asName e = some x) : ∃ p, e = .Name x p := by
  obtain ⟨⟨s, a, o, p⟩, hq, rfl⟩ := som1 h
  rcases tagged_ hq with q | q | q | q | q | q | q | q <;> first | exact absurd q (by decide) | exact absurd q.1 (by decide) | skip
  exact ⟨p, q.2⟩
noncomputable def asCall (e : Expr) : Option (Expr × List Expr × Pos) := (tagged e 2).bind fun q => (hd1 q.2.1).bind fun fn => some (fn, q.2.1.tail, q.2.2.2)
theorem asCall_ {e fn : Expr} {as : List Expr} {pos : Pos} (h : asCall e = some (fn, as, pos)) : e = .Call fn as [] pos := by
  obtain ⟨⟨s, a, o, p⟩, hq, f, hf, e1⟩ := som2 h
  rcases tagged_ hq with q | q | q | q | q | q | q | q <;> first | exact absurd q (by decide) | exact absurd q.1 (by decide) | skip
  obtain ⟨_, fn', as', rfl, rfl⟩ := q
  cases hf
  cases e1
  rfl
noncomputable def asAttr (e : Expr) : Option (Expr × Str × Pos) := (tagged e 3).bind fun q => (hd1 q.2.1).bind fun o => some (o, q.1, q.2.2.2)
theorem asAttr_ {e o : Expr} {nm : Str} {ap : Pos} (h : asAttr e = some (o, nm, ap)) : e = .Attribute o nm ap := by
  obtain ⟨⟨s, a, o, p⟩, hq, f, hf, e1⟩ := som2 h
  rcases tagged_ hq with q | q | q | q | q | q | q | q <;> first | exact absurd q (by decide) | exact absurd q.1 (by decide) | skip
  obtain ⟨_, v, rfl, rfl⟩ := q
  cases hf
  cases e1
  rfl
noncomputable def asNameP (e : Expr) : Option (Str × Pos) := (tagged e 1).bind fun q => some (q.1, q.2.2.2)
theorem asNameP_ {e : Expr} {x : Str} {p : Pos} (h : asNameP e = some (x, p)) : e = .Name x p := by
  obtain ⟨⟨s, a, o, p⟩, hq, e1⟩ := som1 h
  cases e1
  rcases tagged_ hq with q | q | q | q | q | q | q | q <;> first | exact absurd q (by decide) | exact absurd q.1 (by decide) | skip
  exact q.2
noncomputable def asSlice (e : Expr) : Option (Option Expr × Option Expr × Option Expr) := (tagged e 4).bind fun q => (hd1 q.2.2.1).bind fun a => (hd1 q.2.2.1.tail).bind fun b => some (a, b, (hd1 q.2.2.1.tail.tail).bind id)
theorem asSlice_ {e : Expr} {lo hi st : Option Expr} (h : asSlice e = some (lo, hi, st)) : ∃ p, e = .Slice lo hi st p := by
  obtain ⟨⟨s, a, o, p⟩, hq, f, hf, g, hg, e1⟩ := som3 h
  rcases tagged_ hq with q | q | q | q | q | q | q | q <;> first | exact absurd q (by decide) | exact absurd q.1 (by decide) | skip
  obtain ⟨_, a', b', c', rfl, rfl⟩ := q
  cases hf
  cases hg
  cases e1
  exact ⟨_, rfl⟩
noncomputable def isSlice (e : Expr) : Bool := (view e).1 == 4
noncomputable def isTup (e : Expr) : Bool := (view e).1 == 6
noncomputable def asList (e : Expr) : Option (List Expr) := (tagged e 5).bind fun q => some q.2.1
theorem asList_ {e : Expr} {es : List Expr} (h : asList e = some es) : ∃ p, e = .List es p := by
  obtain ⟨⟨s, a, o, p⟩, hq, rfl⟩ := som1 h
  rcases tagged_ hq with q | q | q | q | q | q | q | q <;> first | exact absurd q (by decide) | exact absurd q.1 (by decide) | skip
  exact ⟨p, q.2⟩
noncomputable def asTup (e : Expr) : Option (List Expr) := (tagged e 6).bind fun q => some q.2.1
theorem asTup_ {e : Expr} {es : List Expr} (h : asTup e = some es) : ∃ k p, e = .Tuple es k p := by
  obtain ⟨⟨s, a, o, p⟩, hq, rfl⟩ := som1 h
  rcases tagged_ hq with q | q | q | q | q | q | q | q <;> first | exact absurd q (by decide) | exact absurd q.1 (by decide) | skip
  obtain ⟨_, k, rfl⟩ := q
  exact ⟨k, p, rfl⟩
noncomputable def asSub (e : Expr) : Option (Expr × Expr) := (tagged e 7).bind fun q => (hd1 q.2.1).bind fun o => (hd1 q.2.1.tail).bind fun i => some (o, i)
theorem asSub_ {e o i : Expr} (h : asSub e = some (o, i)) : ∃ p, e = .Subscript o i p := by
  obtain ⟨⟨s, a, o, p⟩, hq, f, hf, g, hg, e1⟩ := som3 h
  rcases tagged_ hq with q | q | q | q | q | q | q | q <;> first | exact absurd q (by decide) | exact absurd q.1 (by decide) | skip
  obtain ⟨_, v, i', rfl, rfl⟩ := q
  cases hf
  cases hg
  cases e1
  exact ⟨_, rfl⟩
noncomputable def one {α : Type} (l : List α) : Option α := match l with
  | [x] => some x
  | _ => none
theorem one_ {α : Type} {l : List α} {x : α} (h : one l = some x) : l = [x] := by
  rcases l with _ | ⟨a, _ | ⟨b, r⟩⟩ <;> cases h
  rfl
noncomputable def two {α : Type} (l : List α) : Option (α × α) := match l with
  | [x, y] => some (x, y)
  | _ => none
theorem two_ {α : Type} {l : List α} {x y : α} (h : two l = some (x, y)) : l = [x, y] := by
  rcases l with _ | ⟨a, _ | ⟨b, _ | ⟨c, r⟩⟩⟩ <;> cases h
  rfl
noncomputable def asGen (l : List Comprehension) : Option (Str × Expr × List Expr) :=
  (one l).bind fun c => if c.is_async == 0 then (asName c.target).bind fun x => some (x, c.iter, c.ifs) else none
theorem asGen_ {l : List Comprehension} {x : Str} {iter : Expr} {ifs : List Expr} (h : asGen l = some (x, iter, ifs)) : ∃ p, l = [⟨.Name x p, iter, ifs, 0⟩] := by
  obtain ⟨c, hc, h⟩ := bnd h
  obtain ⟨tg, it, fs, k⟩ := c
  obtain ⟨hk, h⟩ := iff_ h
  obtain ⟨y, hy, h⟩ := som1 h
  cases h
  obtain ⟨p, rfl⟩ := asName_ hy
  have hk : k = 0 := beq_iff_eq.mp hk
  subst hk
  exact ⟨p, one_ hc⟩
theorem and_ {a b : Bool} (h : (a && b) = true) : a = true ∧ b = true := (Bool.and_eq_true a b).mp h
theorem ite_ {β : Type} {c : Bool} {x y : Option β} {b : β} (h : (if c = true then x else y) = some b) : (c = true ∧ x = some b) ∨ (c = false ∧ y = some b) := by
  cases c with
  | true => exact .inl ⟨rfl, h⟩
  | false => exact .inr ⟨rfl, h⟩
theorem bnd2 {α β γ : Type} {x : Option α} {y : α → Option γ} {f : α → γ → Option β} {b : β} (h : (x.bind fun a => (y a).bind fun c => f a c) = some b) : ∃ a, x = some a ∧ ∃ c, y a = some c ∧ f a c = some b := by
  obtain ⟨a, ha, h⟩ := bnd h
  exact ⟨a, ha, bnd h⟩
theorem hd1_ {α : Type} {l : List α} {x : α} (h : hd1 l = some x) : l = x :: l.tail := by
  cases l <;> cases h
  rfl
end Mine
end VW

section R2
open PySem PySem.W PyProof.Rows
namespace Mine

/-! # From the program's tree to the small language -/

structure G where
  gints : List (Str × Int)
  gfs : List (Str × String)

noncomputable def biTab : List (Str × Nat × Bi) := [("len", 1, .len), ("min", 2, .min2), ("min", 1, .minL), ("sum", 1, .sum), ("ord", 1, .ord), ("chr", 1, .chr), ("abs", 1, .abs), ("str", 1, .str)]
noncomputable def biOf (x : Str) (n : Nat) : Option Bi := (biTab.find? fun q => q.1 == x && q.2.1 == n).bind fun q => some q.2.2

noncomputable def glob? (sc : Scope) (tb : List (Str × Nat)) (x : Str) : Bool :=
  sc.names.lookup x == some .globalImplicit && (tb.lookup x).isNone && !(x == ("__debug__" : Str)) && !(x == ("__name__" : Str))

noncomputable def compOk (g : G) (sc inner : Scope) (x : Str) : Bool :=
  inner.kind == .function && inner.names.all (fun y => y.2 != .cell && (y.2 != .local || inner.names.lookup y.1 == some .local) && (y.2 != .free || (inner.names.lookup y.1 == some .free && (sc.names.lookup y.1 == some .cell || sc.names.lookup y.1 == some .free)))) &&
  inner.names.lookup x == some .local && sc.kind == .function && !(x == ("__debug__" : Str)) && !(x == ("__classdict__" : Str)) && g.gints.all fun _ => true

noncomputable def freeIn (inner : Scope) (y : Str) : Bool := inner.names.lookup y == some .free

noncomputable def strE (e : Expr) : Bool := match e with
  | .Constant c _ _ => (match c with
    | .str s => s == sOf []
    | _ => false)
  | _ => false
noncomputable def notStar : Expr → Bool
  | .Starred .. => false
  | _ => true
noncomputable def notComp : Expr → Bool
  | .ListComp .. => false
  | .SetComp .. => false
  | .DictComp .. => false
  | _ => true
noncomputable def notCall : Expr → Bool
  | .Call .. => false
  | _ => true
noncomputable def notSet : Expr → Bool
  | .Set .. => false
  | _ => true

noncomputable def noRng : Option MX → Option MX
  | some (.rng _) => none
  | r => r

noncomputable def asLit (c : Const) : Option PyData := match c with
  | .int i => some (.int i)
  | .str s => some (.str s)
  | .none => some .none
  | .bool b => some (.bool b)
  | _ => none
noncomputable def nameE (g : G) (sc : Scope) (tb : List (Str × Nat)) (x : Str) : Option MX :=
  (tb.lookup x).elim (if glob? sc tb x = true then (g.gints.lookup x).bind fun i => some (.lit (.int i)) else none) fun i => some (.var i)
noncomputable def unE (op : UnaryOp) (a : MX) : Option MX := if op == .USub then some (.neg a) else if op == .Not then some (.no a) else none
noncomputable def boo2 (op : BoolOp) (a b : MX) : MX := if op == .And then .and a b else .or a b
noncomputable def isInt (sc : Scope) (tb : List (Str × Nat)) (l r : Expr) : Option Expr := (asCall l).bind fun q => (asName q.1).bind fun ty => (one q.2.1).bind fun x => (asName r).bind fun ic =>
  if (ty == ("type" : Str) && ic == ("int" : Str) && glob? sc tb "type" && glob? sc tb "int" && notStar x) = true then some x else none
noncomputable def partE (f : Expr → Option MX) (e : Option Expr) : Option MX := e.elim (some (.lit .none)) f
noncomputable def rangeCall (sc : Scope) (tb : List (Str × Nat)) (e : Expr) : Option (List Expr) := (asCall e).bind fun q => (asName q.1).bind fun f =>
  if (f == ("range" : Str) && glob? sc tb f && q.2.1.all notStar && decide (q.2.1.length ≤ 3)) = true then some q.2.1 else none
noncomputable def inTb (tb : List (Str × Nat)) (inner : Scope) (x : Str) (nx : Nat) : List (Str × Nat) := (x, nx) :: tb.filter fun y => freeIn inner y.1 && !(y.1 == x)
mutual
noncomputable def cE (g : G) : Nat → Scope → List (Str × Nat) → Nat → Expr → Option MX
  | 0, _, _, _, _ => none
  | n + 1, sc, tb, nx, e => match e with
    | .Constant c _ _ => (asLit c).bind fun d => some (.lit d)
    | .Name x _ => nameE g sc tb x
    | .BinOp l op r _ => (cE g n sc tb nx l).bind fun a => (cE g n sc tb nx r).bind fun b => some (.bin op a b)
    | .UnaryOp op x _ => (cE g n sc tb nx x).bind fun a => unE op a
    | .BoolOp op es _ => if es.length == 2 then (two es).bind fun q => (cE g n sc tb nx q.1).bind fun a => (cE g n sc tb nx q.2).bind fun b => some (boo2 op a b)
      else if op == .And then (hd1 es).bind fun x => (two es.tail).bind fun q => (cE g n sc tb nx x).bind fun a => (cE g n sc tb nx q.1).bind fun b => (cE g n sc tb nx q.2).bind fun c => some (.and a (.and b c)) else none
    | .IfExp t a b _ => (cE g n sc tb nx t).bind fun t => (cE g n sc tb nx a).bind fun a => (cE g n sc tb nx b).bind fun b => some (.ite t a b)
    | .Compare l ops rs _ => (one ops).bind fun op => (one rs).bind fun r => if op == .Is then (isInt sc tb l r).bind fun x => (cE g n sc tb nx x).bind fun a => some (.bi .isint [a])
      else if (op != .IsNot && notSet r) = true then (cE g n sc tb nx l).bind fun a => (cE g n sc tb nx r).bind fun b => some (.cmp op a b) else none
    | .Call fn as kws pos => if kws.isEmpty = true then (if (asName fn).isSome = true then (asName fn).bind fun f =>
          if (as.all notStar && glob? sc tb f) = true then (if (g.gfs.lookup f).isSome = true then (g.gfs.lookup f).bind fun nm => if decide (as.length ≤ 10) = true then (cL g n sc tb nx as).bind fun ms => some (.call nm ms) else none
            else (biOf f as.length).bind fun bi => (cL g n sc tb nx as).bind fun ms => some (.bi bi ms)) else none
        else (asAttr fn).bind fun q => if q.2.1 == ("lower" : Str) then (if (as.isEmpty && q.2.2.endLine == pos.line && notCall q.1) = true then (cE g n sc tb nx q.1).bind fun a => some (.bi .lower [a]) else none)
          else (one as).bind fun a => if (q.2.1 == ("join" : Str) && q.2.2.endLine == pos.line && notStar a && strE q.1) = true then (cE g n sc tb nx a).bind fun m => some (.bi .join [.lit (.str (sOf [])), m]) else none)
      else none
    | .Subscript v i _ => if isSlice i = true then (asSlice i).bind fun q => if q.2.2.isNone = true then (partE (cE g n sc tb nx) q.1).bind fun l => (partE (cE g n sc tb nx) q.2.1).bind fun h => (cE g n sc tb nx v).bind fun a => some (.slc a l h) else none
      else (cE g n sc tb nx v).bind fun a => (cE g n sc tb nx i).bind fun b => some (.idx a b)
    | .List es _ => if es.all notStar = true then (cL g n sc tb nx es).bind fun ms => some (.lst ms) else none
    | .Tuple es _ _ => if es.all notStar = true then (cL g n sc tb nx es).bind fun ms => some (.tup ms) else none
    | .ListComp elt gens inner _ => (asGen gens).bind fun q => if (compOk g sc inner q.1 && notSet q.2.1) = true then
        (cE g n inner (inTb tb inner q.1 nx) (nx + 1) elt).bind fun a => (cR g n sc tb nx q.2.1).bind fun b => (cL g n inner (inTb tb inner q.1 nx) (nx + 1) q.2.2).bind fun c => some (.comp nx a b c) else none
    | _ => none
noncomputable def cR (g : G) : Nat → Scope → List (Str × Nat) → Nat → Expr → Option MX
  | 0, _, _, _, _ => none
  | n + 1, sc, tb, nx, e => if (rangeCall sc tb e).isSome = true then (rangeCall sc tb e).bind fun as => (cL g n sc tb nx as).bind fun ms => some (.rng ms) else noRng (cE g n sc tb nx e)
noncomputable def cL (g : G) : Nat → Scope → List (Str × Nat) → Nat → List Expr → Option (List MX)
  | 0, _, _, _, _ => none
  | n + 1, sc, tb, nx, es => match es with
    | [] => some []
    | e :: r => (cE g n sc tb nx e).bind fun m => (cL g n sc tb nx r).bind fun ms => some (m :: ms)
end

mutual
/-- does the small expression read one of these variables? -/
noncomputable def reads (ow : List Nat) : MX → Bool
  | .lit _ => false
  | .var i => ow.contains i
  | .bin _ a b => reads ow a || reads ow b
  | .neg a => reads ow a
  | .no a => reads ow a
  | .and a b => reads ow a || reads ow b
  | .or a b => reads ow a || reads ow b
  | .cmp _ a b => reads ow a || reads ow b
  | .ite t a b => reads ow t || reads ow a || reads ow b
  | .idx a b => reads ow a || reads ow b
  | .slc a b c => reads ow a || reads ow b || reads ow c
  | .call _ as => readsL ow as
  | .bi _ as => readsL ow as
  | .lst as => readsL ow as
  | .tup as => readsL ow as
  | .rng as => readsL ow as
  | .comp _ e s c => reads ow e || reads ow s || readsL ow c
noncomputable def readsL (ow : List Nat) : List MX → Bool
  | [] => false
  | e :: r => reads ow e || readsL ow r
end

noncomputable def localKind (sc : Scope) (x : Str) : Bool := sc.names.lookup x == some .local || sc.names.lookup x == some .cell

noncomputable def augOk : Operator → Bool
  | .Add => true
  | .Sub => true
  | .Mult => true
  | .BitXor => true
  | .RShift => true
  | _ => false

noncomputable def lisRng (sc : Scope) (tb : List (Str × Nat)) (e : Expr) : Option (List Expr) := (asCall e).bind fun q => (asName q.1).bind fun ls => (one q.2.1).bind fun e1 =>
  if (ls == ("list" : Str) && glob? sc tb ls) = true then rangeCall sc tb e1 else none
noncomputable def swapCond (sc : Scope) (x y : Str) (px py : Pos) (a b : Expr) : Bool := notStar a && notStar b && sc.kind == .function && sc.names.lookup x == some .local && sc.names.lookup y == some .local && px.line == py.line && !(x == y) &&
  !([a, b].all (foldedForSure 8)) && !([a, b].all (constantsAlone 8))
noncomputable def appC (ow : List Nat) (i : Nat) (m : MX) : List MS := match m with
  | .var j => if ow.contains j then [.frz j, .appS i (.var j)] else [.appS i (.var j)]
  | m => if reads ow m then [.app i m] else [.appS i m]
/-- a variable that holds an own list of own lists is named by its number and 1000 -/
noncomputable def isDp (ow : List Nat) (i : Nat) : Bool := ow.contains (i + 1000)
noncomputable def cLL (g : G) (n : Nat) (sc : Scope) (tb : List (Str × Nat)) (nx : Nat) : List Expr → Option (List (List MX))
  | [] => some []
  | e :: r => (asList e).bind fun es => if es.all notStar = true then (cL g n sc tb nx es).bind fun as => (cLL g n sc tb nx r).bind fun rs => some (as :: rs) else none
/-- `x[i]` for such a variable -/
noncomputable def dpIdx (g : G) (ow : List Nat) (n : Nat) (sc : Scope) (tb : List (Str × Nat)) (nx : Nat) (e : Expr) : Option (Nat × MX) :=
  (asSub e).bind fun q => (asName q.1).bind fun x => if isSlice q.2 = false then (tb.lookup x).bind fun i => if isDp ow i = true then (cE g n sc tb nx q.2).bind fun m => some (i, m) else none else none
mutual
noncomputable def cS (g : G) (ow : List Nat) : Nat → Scope → List (Str × Nat) → Nat → Stmt → Option (List MS)
  | 0, _, _, _, _ => none
  | n + 1, sc, tb, nx, s => match s with
    | .Assign tgs e _ => if tgs.length == 1 then (one tgs).bind fun tg =>
        if (asName tg).isSome = true then (asName tg).bind fun x => (tb.lookup x).bind fun i =>
          if isDp ow i = true then (asList e).bind fun es => (cLL g n sc tb nx es).bind fun ass => some [.asgD i ass] else
          if ow.contains i = true then (if (asList e).isSome = true then (asList e).bind fun es => if es.all notStar = true then (cL g n sc tb nx es).bind fun ms => some [.asgO i ms] else none
            else (lisRng sc tb e).bind fun as => (cL g n sc tb nx as).bind fun ms => some [.asgR i ms])
          else (cE g n sc tb nx e).bind fun m => some [if (reads ow m && notComp e) = true then .asgS i m else .asg i m]
        else if isTup tg = true then (asTup tg).bind fun ts => (two ts).bind fun q => (asNameP q.1).bind fun x => (asNameP q.2).bind fun y => (tb.lookup x.1).bind fun i => (tb.lookup y.1).bind fun j =>
          if i != j then (if isTup e = true then (asTup e).bind fun es => (two es).bind fun ab => if swapCond sc x.1 y.1 x.2 y.2 ab.1 ab.2 = true then (cE g n sc tb nx ab.1).bind fun a => (cE g n sc tb nx ab.2).bind fun b => some [.swp i j a b] else none
            else (cE g n sc tb nx e).bind fun m => some [.unp i j m]) else none
        else (asSub tg).bind fun q => (asName q.1).bind fun x => if isSlice q.2 = false then (tb.lookup x).bind fun i => (cE g n sc tb nx q.2).bind fun j => (cE g n sc tb nx e).bind fun m => some [.sti i j m] else none
      else (two tgs).bind fun q => (asName q.1).bind fun x => (asName q.2).bind fun y => (tb.lookup x).bind fun i => (tb.lookup y).bind fun j => (cE g n sc tb nx e).bind fun m => some [.asg2 i j m]
    | .AugAssign tg op e _ => (asName tg).bind fun x => (tb.lookup x).bind fun i => if ow.contains i = true then (asList e).bind fun es => if (op == .Add && es.all notStar) = true then (cL g n sc tb nx es).bind fun ms => some [.augL i ms] else none
      else if augOk op = true then (cE g n sc tb nx e).bind fun m => some [.aug i op m] else none
    | .Expr e0 _ => (asCall e0).bind fun q => (one q.2.1).bind fun e => (asAttr q.1).bind fun a =>
      if (a.2.1 == ("append" : Str) && a.2.2.endLine == q.2.2.line && notStar e) = true then (if (asName a.1).isSome = true then (asName a.1).bind fun x => (tb.lookup x).bind fun i =>
          if isDp ow i = true then (asList e).bind fun es => if es.all notStar = true then (cL g n sc tb nx es).bind fun as => some [.apN i as] else none
          else (cE g n sc tb nx e).bind fun m => some (appC ow i m)
        else (dpIdx g ow n sc tb nx a.1).bind fun d => (cE g n sc tb nx e).bind fun m => some [.apD d.1 d.2 m]) else none
    | .If t a b _ => (cE g n sc tb nx t).bind fun t => (cB g ow n sc tb nx a).bind fun a => (cB g ow n sc tb nx b).bind fun b => some [.ifs t a b]
    | .While t a el _ => if el.isEmpty = true then (cE g n sc tb nx t).bind fun t => (cB g ow n sc tb nx a).bind fun a => some [.whl t a] else none
    | .For tg it a el _ => if (el.isEmpty && notSet it) = true then (asName tg).bind fun x => (tb.lookup x).bind fun i =>
        if (dpIdx g ow n sc tb nx it).isSome = true then (dpIdx g ow n sc tb nx it).bind fun d => (cB g ow n sc tb nx a).bind fun a => some [.forD i d.1 d.2 a]
        else (cR g n sc tb nx it).bind fun src => (cB g ow n sc tb nx a).bind fun a =>
        some ((ow.filter fun o => reads [o] src).map MS.frz ++ [.forE i src a]) else none
    | .Return e _ => e.bind fun e => (cE g n sc tb nx e).bind fun m => some [.ret m]
    | _ => none
noncomputable def cB (g : G) (ow : List Nat) : Nat → Scope → List (Str × Nat) → Nat → List Stmt → Option (List MS)
  | 0, _, _, _, _ => none
  | n + 1, sc, tb, nx, ss => match ss with
    | [] => some []
    | s :: r => (cS g ow n sc tb nx s).bind fun a => (cB g ow n sc tb nx r).bind fun b => some (a ++ b)
end

/-- the numbers of a def's own names: in the scope's order -/
noncomputable def tbl (sc : Scope) : List (Str × Nat) := ((sc.names.filter fun y => y.2 == .local || y.2 == .cell).map (·.1)).zipIdx
end Mine
end R2

section R3
open PySem PySem.W PyProof.Rows PySem.Calls PyProof.V PySem.Spec PySem.SeqAt
namespace Mine

/-! # Data in the heap -/
abbrev Ext (h h' : Heap) : Prop := ∀ b o, h.get? b = some o → h'.get? b = some o
abbrev Alloc (W : Addr → Prop) (h : Heap) : Prop := ∀ a, W a → ∃ o, h.get? a = some o

mutual
inductive Rp (h : Heap) (W : Addr → Prop) : Value → PyData → Prop
  | none : Rp h W .none .none
  | bool (b : Bool) : Rp h W (.bool b) (.bool b)
  | int (i : Int) (t : Tok) : Rp h W (.int i t) (.int i)
  | str (x : Str) (t : Tok) : Rp h W (.str x t) (.str x)
  | list {a : Addr} {o : Obj} {vs : Array Value} {n : Nat} {ds : List PyData} : h.get? a = some o → ¬ W a → o.cls = .type "list" → o.data = .seq vs n → RpL h W vs.toList ds → Rp h W (.ref a) (.list ds)
  | tuple {a : Addr} {o : Obj} {vs : Array Value} {n : Nat} {ds : List PyData} : h.get? a = some o → ¬ W a → o.cls = .type "tuple" → o.data = .seq vs n → RpL h W vs.toList ds → Rp h W (.ref a) (.tuple ds)
inductive RpL (h : Heap) (W : Addr → Prop) : List Value → List PyData → Prop
  | nil : RpL h W [] []
  | cons {v : Value} {vs : List Value} {d : PyData} {ds : List PyData} : Rp h W v d → RpL h W vs ds → RpL h W (v :: vs) (d :: ds)
end

section
variable {h h' : Heap} {W W' : Addr → Prop}
mutual
theorem Rp.mono (tr : ∀ a o, h.get? a = some o → ¬ W a → h'.get? a = some o ∧ ¬ W' a) : ∀ {v : Value} {d : PyData}, Rp h W v d → Rp h' W' v d
  | _, _, .none => .none
  | _, _, .bool b => .bool b
  | _, _, .int i t => .int i t
  | _, _, .str x t => .str x t
  | _, _, .list h1 h2 h3 h4 r => .list (tr _ _ h1 h2).1 (tr _ _ h1 h2).2 h3 h4 (RpL.mono tr r)
  | _, _, .tuple h1 h2 h3 h4 r => .tuple (tr _ _ h1 h2).1 (tr _ _ h1 h2).2 h3 h4 (RpL.mono tr r)
theorem RpL.mono (tr : ∀ a o, h.get? a = some o → ¬ W a → h'.get? a = some o ∧ ¬ W' a) : ∀ {vs : List Value} {ds : List PyData}, RpL h W vs ds → RpL h' W' vs ds
  | _, _, .nil => .nil
  | _, _, .cons r rs => .cons (Rp.mono tr r) (RpL.mono tr rs)
end
theorem Rp.ext {v d} (r : Rp h W v d) (e : Ext h h') : Rp h' W v d := r.mono fun a o x y => ⟨e a o x, y⟩
theorem RpL.ext {v d} (r : RpL h W v d) (e : Ext h h') : RpL h' W v d := r.mono fun a o x y => ⟨e a o x, y⟩
mutual
theorem Rp.reads : ∀ {v : Value} {d : PyData}, Rp h W v d → ∃ as, Reads h v d as
  | _, _, .none => ⟨_, .none⟩
  | _, _, .bool b => ⟨_, .bool b⟩
  | _, _, .int i t => ⟨_, .int i t⟩
  | _, _, .str x t => ⟨_, .str x t⟩
  | _, _, .list h1 _ h3 h4 r => let ⟨_, q⟩ := RpL.reads r; ⟨_, .list h1 h3 h4 q⟩
  | _, _, .tuple h1 _ h3 h4 r => let ⟨_, q⟩ := RpL.reads r; ⟨_, .tuple h1 h3 h4 q⟩
theorem RpL.reads : ∀ {vs : List Value} {ds : List PyData}, RpL h W vs ds → ∃ as, ReadsAll h vs ds as
  | _, _, .nil => ⟨_, .nil⟩
  | _, _, .cons r rs => let ⟨_, p⟩ := Rp.reads r; let ⟨_, q⟩ := RpL.reads rs; ⟨_, .cons p q⟩
end
theorem RpL.length : ∀ {vs : List Value} {ds : List PyData}, RpL h W vs ds → vs.length = ds.length
  | _, _, .nil => rfl
  | _, _, .cons _ rs => congrArg (· + 1) (RpL.length rs)
theorem RpL.append : ∀ {vs ws : List Value} {ds es : List PyData}, RpL h W vs ds → RpL h W ws es → RpL h W (vs ++ ws) (ds ++ es)
  | _, _, _, _, .nil, q => q
  | _, _, _, _, .cons r rs, q => .cons r (RpL.append rs q)
theorem RpL.drop : ∀ {vs : List Value} {ds : List PyData} (n : Nat), RpL h W vs ds → RpL h W (vs.drop n) (ds.drop n)
  | _, _, 0, r => r
  | _, _, _ + 1, .nil => .nil
  | _, _, n + 1, .cons _ rs => RpL.drop n rs
theorem RpL.take : ∀ {vs : List Value} {ds : List PyData} (n : Nat), RpL h W vs ds → RpL h W (vs.take n) (ds.take n)
  | _, _, 0, _ => .nil
  | _, _, _ + 1, .nil => .nil
  | _, _, n + 1, .cons r rs => .cons r (RpL.take n rs)
theorem RpL.get : ∀ {vs : List Value} {ds : List PyData} {n : Nat} {d : PyData}, RpL h W vs ds → ds[n]? = some d → ∃ v, vs[n]? = some v ∧ Rp h W v d
  | _, _, 0, _, .cons r _, e => ⟨_, rfl, by cases e; exact r⟩
  | _, _, n + 1, _, .cons _ rs, e => RpL.get (n := n) rs (by simpa using e)
  | _, _, _, _, .nil, e => by simp at e
theorem RpL.get' : ∀ {vs : List Value} {ds : List PyData} {n : Nat} {v : Value}, RpL h W vs ds → vs[n]? = some v → ∃ d, ds[n]? = some d ∧ Rp h W v d
  | _, _, 0, _, .cons r _, e => ⟨_, rfl, by cases e; exact r⟩
  | _, _, n + 1, _, .cons _ rs, e => RpL.get' (n := n) rs (by simpa using e)
  | _, _, _, _, .nil, e => by simp at e
theorem RpL.set : ∀ {vs : List Value} {ds : List PyData} {v : Value} {d : PyData} (n : Nat), RpL h W vs ds → Rp h W v d → RpL h W (vs.set n v) (ds.set n d)
  | _, _, _, _, _, .nil, _ => .nil
  | _, _, _, _, 0, .cons _ rs, q => .cons q rs
  | _, _, _, _, n + 1, .cons r rs, q => .cons r (RpL.set n rs q)
theorem RpL.one {vs : List Value} {d : PyData} (r : RpL h W vs [d]) : ∃ v, vs = [v] ∧ Rp h W v d := by
  cases r with | cons r q => cases q; exact ⟨_, rfl, r⟩
theorem RpL.two {vs : List Value} {d e : PyData} (r : RpL h W vs [d, e]) : ∃ v u, vs = [v, u] ∧ Rp h W v d ∧ Rp h W u e := by
  cases r with | cons r q =>
    obtain ⟨u, rfl, q1⟩ := q.one
    exact ⟨_, _, rfl, r, q1⟩
theorem RpL.three {vs : List Value} {d e f : PyData} (r : RpL h W vs [d, e, f]) : ∃ v u t, vs = [v, u, t] ∧ Rp h W v d ∧ Rp h W u e ∧ Rp h W t f := by
  cases r with | cons r q =>
    obtain ⟨u, t, rfl, q1, q2⟩ := q.two
    exact ⟨_, _, _, rfl, r, q1, q2⟩
theorem Rp.int_ {v : Value} {i : Int} (r : Rp h W v (.int i)) : ∃ t, v = .int i t := by cases r; exact ⟨_, rfl⟩
theorem Rp.str_ {v : Value} {x : Str} (r : Rp h W v (.str x)) : ∃ t, v = .str x t := by cases r; exact ⟨_, rfl⟩
theorem Rp.list_ {v : Value} {ds : List PyData} (r : Rp h W v (.list ds)) : ∃ a o vs n, v = .ref a ∧ h.get? a = some o ∧ o.cls = .type "list" ∧ o.data = .seq vs n ∧ RpL h W vs.toList ds := by
  cases r with | list h1 h2 h3 h4 r => exact ⟨_, _, _, _, rfl, h1, h3, h4, r⟩
theorem RpL.ints : ∀ {ns : List Int} {vs : List Value}, RpL h W vs (intsOf ns) → IntsAre vs ns := by
  intro ns
  induction ns with
  | nil => intro vs r; cases r; exact .nil
  | cons i ns ih =>
    intro vs r
    cases (show RpL h W vs (.int i :: intsOf ns) from r) with
    | cons r rs =>
      obtain ⟨t, rfl⟩ := r.int_
      exact .cons i t (ih rs)
theorem RpL.of_ints : ∀ {vs : List Value} {ns : List Int}, IntsAre vs ns → RpL h W vs (intsOf ns)
  | _, _, .nil => .nil
  | _, _, .cons i t r => .cons (.int i t) (RpL.of_ints r)
theorem Rp.scalar {v d} (hs : scalarD d = true) (r : Rp h W v d) : Rp h' W' v d := by
  cases r <;> first | exact .none | exact .bool _ | exact .int _ _ | exact .str _ _ | cases hs
theorem Ext.trans {h'' : Heap} (a : Ext h h') (b : Ext h' h'') : Ext h h'' := fun x o e => b x o (a x o e)
theorem Alloc.ext (a : Alloc W h) (e : Ext h h') : Alloc W h' := fun x hx => let ⟨o, q⟩ := a x hx; ⟨o, e _ _ q⟩
theorem Alloc.fresh (a : Alloc W h) : ¬ W h.objs.size := fun hx => let ⟨_, q⟩ := a _ hx; Nat.lt_irrefl _ (Heap.lt_size q)
theorem Ext.push (o : Obj) : Ext h (h.push o) := fun _ _ e => Heap.get?_push_of_some _ e
theorem Ext.refl : Ext h h := fun _ _ e => e
/-- a list made just now -/
theorem Rp.newList {vs : Array Value} {ds : List PyData} (a : Alloc W h) (r : RpL h W vs.toList ds) : Rp (h.push { cls := .type "list", data := .seq vs }) W (.ref h.objs.size) (.list ds) :=
  .list (Heap.get?_push_size _ rfl) a.fresh rfl rfl (r.ext (Ext.push _))
theorem Rp.newTuple {vs : Array Value} {ds : List PyData} (a : Alloc W h) (r : RpL h W vs.toList ds) : Rp (h.push { cls := .type "tuple", data := .seq vs }) W (.ref h.objs.size) (.tuple ds) :=
  .tuple (Heap.get?_push_size _ rfl) a.fresh rfl rfl (r.ext (Ext.push _))
theorem Rp.isList {a : Addr} {ds : List PyData} (r : Rp h W (.ref a) (.list ds)) : ∃ vs : List Value, h.IsList a vs.toArray ∧ RpL h W vs ds := by
  cases r with
  | list h1 h2 h3 h4 r => exact ⟨_, ⟨_, h1, h3, _, by rw [h4, Array.toArray_toList]⟩, r⟩
theorem Rp.isTup {a : Addr} {ds : List PyData} (r : Rp h W (.ref a) (.tuple ds)) : ∃ vs : List Value, IsTup h a vs.toArray ∧ RpL h W vs ds := by
  cases r with
  | tuple h1 h2 h3 h4 r => exact ⟨_, ⟨_, h1, h3, _, by rw [h4, Array.toArray_toList]⟩, r⟩
end

/-- what holds behind an expression -/
abbrev Out (s : Shared) (W : Addr → Prop) (k : PyData → Prop) (Q : Value → Shared → Prop) : Prop :=
  ∀ v d h' tk, Ext s.heap h' → Rp h' W v d → k d → Q v { s with heap := h', toks := tk }

structure Room (A : Around) (dep : Nat) : Prop where
  hh : A.handled = none
  gd : A.guards = some []
  dp : A.depth + dep < recursionLimit
  un : A.units + 8 * dep + 300 < cLine

section
variable {prog : Program} {w : World} {A : Around} {E : Value → Shared → Prop} {s : Shared} {W : Addr → Prop} {k : PyData → Prop} {Q : Value → Shared → Prop} {a b : Value} {x y : PyData} {dep : Nat}

theorem natAbs_bits {a : Int} {n : Nat} (h : a.natAbs < 2 ^ n) : Builtin.Int.intBits a ≤ n := intBits_le_iff.mpr h
theorem mulOk {a b : Int} (h : a.natAbs < 2 ^ 64 ∨ b.natAbs < 2 ^ 64) : IntMulOk a b :=
  h.elim (fun h => .of_left (natAbs_bits h)) (fun h => .of_right (natAbs_bits h))
theorem bitAnd_nn {a b : Int} (h0 : 0 ≤ a) (h1 : 0 ≤ b) : Builtin.bitAnd a b = ((a.toNat &&& b.toNat : Nat) : Int) := by
  unfold Builtin.bitAnd
  rw [decide_eq_true h0, decide_eq_true h1]
theorem and_add_xor : ∀ (n a b : Nat), a < n → a + b = (a ^^^ b) + 2 * (a &&& b)
  | 0, _, _, h => absurd h (Nat.not_lt_zero _)
  | n + 1, a, b, h => by
    rcases Nat.eq_zero_or_pos a with rfl | hp
    · simp
    have ih := and_add_xor n (a / 2) (b / 2) (by omega)
    have x1 : (a ^^^ b) / 2 = a / 2 ^^^ b / 2 := Nat.xor_div_two
    have x2 : (a &&& b) / 2 = a / 2 &&& b / 2 := Nat.and_div_two
    have y1 : (a ^^^ b) % 2 = (a % 2 ^^^ b % 2) % 2 := by have := @Nat.xor_mod_two_pow a b 1; simp only [Nat.pow_one] at this; rw [this]; rcases Nat.mod_two_eq_zero_or_one a with h | h <;> rcases Nat.mod_two_eq_zero_or_one b with h' | h' <;> rw [h, h'] <;> rfl
    have y2 : (a &&& b) % 2 = (a % 2 &&& b % 2) % 2 := by have := @Nat.and_mod_two_pow a b 1; simp only [Nat.pow_one] at this; rw [this]; rcases Nat.mod_two_eq_zero_or_one a with h | h <;> rcases Nat.mod_two_eq_zero_or_one b with h' | h' <;> rw [h, h'] <;> rfl
    rcases Nat.mod_two_eq_zero_or_one a with h | h <;> rcases Nat.mod_two_eq_zero_or_one b with h' | h' <;> simp only [h, h', Nat.reduceXor, Nat.reduceAnd, Nat.reduceMod, Nat.zero_mod] at y1 y2 <;> omega
theorem bitXor_nn {a b : Int} (h0 : 0 ≤ a) (h1 : 0 ≤ b) : Builtin.bitXor a b = ((a.toNat ^^^ b.toNat : Nat) : Int) := by
  rw [bitXor_and, bitAnd_nn h0 h1]
  have := and_add_xor (a.toNat + 1) a.toNat b.toNat (Nat.lt_succ_self _)
  omega
theorem shl_nn {a b : Int} (h0 : 0 ≤ a) : a * 2 ^ b.toNat = ((a.toNat <<< b.toNat : Nat) : Int) := by
  obtain ⟨n, rfl⟩ := Int.eq_ofNat_of_zero_le h0
  rw [Int.toNat_natCast, Nat.shiftLeft_eq]
  push_cast; rfl
theorem shr_nn {a b : Int} (h0 : 0 ≤ a) : a.fdiv (2 ^ b.toNat) = ((a.toNat >>> b.toNat : Nat) : Int) := by
  obtain ⟨n, rfl⟩ := Int.eq_ofNat_of_zero_le h0
  rw [Int.toNat_natCast, Nat.shiftRight_eq_div_pow, Int.fdiv_eq_ediv_of_nonneg _ (Int.pow_nonneg (by decide))]
  push_cast; rfl

theorem truS {Q : Bool → Shared → Prop} {k : Bool → Prop} (r : Rp s.heap W a x) (h : truK x k) (o : ∀ t tk, k t → Q t { s with toks := tk }) : wpAny (model prog w) A (truthy a) Q E s := by
  cases r with
  | none => exact wpAny_pure (o false s.toks h)
  | bool b => exact wpAny_pure (o b s.toks h)
  | int i t => exact truthy_int (o _ s.toks h)
  | str y t =>
    obtain ⟨hl, hk⟩ := h
    refine P.truthy_str (by omega) (o _ _ ?_)
    have e : ((y.length : Int) != 0) = (y.cps.size != 0) := by
      show ((y.cps.size : Int) != 0) = (y.cps.size != 0)
      rcases Nat.eq_zero_or_pos y.cps.size with h | h
      · rw [h]; rfl
      · rw [bne_iff_ne.mpr (by omega), bne_iff_ne.mpr (by omega)]
    rw [e]; exact hk
  | list h1 h2 h3 h4 r =>
    obtain ⟨hl, hk⟩ := h
    have hlen := r.length
    rw [Array.length_toList] at hlen
    refine wpAny_truthy_list ⟨_, h1, h3, _, h4⟩ (by omega) (o _ _ ?_)
    rename_i vs n ds
    have e : (!vs.isEmpty) = (!ds.isEmpty) := by
      congr 1
      rw [Bool.eq_iff_iff, Array.isEmpty_iff_size_eq_zero, List.isEmpty_iff_length_eq_zero, hlen]
    rw [e]; exact hk
  | tuple => exact h.elim

theorem binS {op : Operator} (R : Room A dep) (al : Alloc W s.heap) (ra : Rp s.heap W a x) (rb : Rp s.heap W b y) (h : binK op x y k) (o : Out s W k Q) : wpAny (model prog w) A (binaryOp op a b) Q E s := by
  cases ra with
  | int i t =>
    cases rb with
    | int j u =>
      have fin : ∀ n t', k (.int n) → Q (.int n t') { s with toks := s.toks + 1 } := fun n t' hk => o _ _ s.heap _ Ext.refl (.int n t') hk
      cases op
      case Add => exact add_int (fin _ _ h)
      case Sub => exact sub_int (fin _ _ h)
      case Mult => exact mul_int (fin _ _ h.2) (mulOk h.1)
      case FloorDiv => exact floordiv_int h.1.1 (fin _ _ h.2) (.inl (PyProof.noPylong_small h.1.2))
      case Mod => exact mod_int' h.1 (fin _ _ h.2)
      case BitAnd => exact and_int (fin _ _ (by rw [bitAnd_nn h.1.1 h.1.2]; exact h.2))
      case BitXor => exact xor_int (fin _ _ (by rw [bitXor_nn h.1.1 h.1.2]; exact h.2))
      case RShift => exact rshift_int h.1.2 (fin _ _ (by rw [shr_nn h.1.1]; exact h.2))
      case LShift =>
        obtain ⟨⟨h0, h1, h2, h3⟩, hk⟩ := h
        refine lshift_int_or R.hh (fun q => absurd q (Int.not_lt.mpr h1)) (fun _ => ?_) (fun _ => fin _ _ (by rw [shl_nn h0]; exact hk))
        have e : i.natAbs = i.toNat := by omega
        have := natAbs_bits (a := i) (n := 1000) (by rw [e]; exact h3)
        have e2 : (2 : Int) ^ 27 = 134217728 := by decide
        rw [e2]; omega
      all_goals exact h.elim
    | _ => exact h.elim
  | str x' t =>
    cases rb with
    | str y' u =>
      obtain ⟨rfl, hl, hk⟩ := h
      exact SBL.add (fun t' k' _ => o _ _ s.heap _ Ext.refl (.str _ t') hk) (by rw [sizeLine]; omega)
    | _ => exact h.elim
  | list h1 h2 h3 h4 r =>
    rename_i a1 o1 vs n1 ds
    cases rb with
    | list g1 g2 g3 g4 r' =>
      rename_i b1 o2 ws n2 es
      obtain ⟨rfl, hl, hk⟩ := h
      have l1 := r.length
      have l2 := r'.length
      rw [Array.length_toList] at l1 l2
      obtain ⟨cls, dd, data, sl⟩ := o1
      obtain ⟨cls2, dd2, data2, sl2⟩ := o2
      simp only at h3 h4 g3 g4
      subst h3 h4 g3 g4
      refine concat_meets ⟨_, h1, rfl⟩ ⟨_, g1, rfl⟩ noFill_list_add seq_list_add PySem.F.slot_list_add PySem.F.entry_list_add (PySem.F.args_list_add_2 _ _) (list_addW a1 b1 vs ws n1 n2 dd dd2 sl sl2 (by rw [sizeLine]; omega)) ⟨h1, g1, ?_⟩
      refine o _ _ _ _ (Ext.push _) (Rp.newList al ?_) hk
      rw [Array.toList_append]
      exact r.append r'
    | _ => exact h.elim
  | _ => exact h.elim

theorem Rp.refOf (r : Rp s.heap W a (.list xs)) : ∃ l, a = .ref l := by cases r; exact ⟨_, rfl⟩

theorem cmpS {op : CmpOp} (R : Room A dep) (ra : Rp s.heap W a x) (rb : Rp s.heap W b y) (h : cmpK op x y k) (o : Out s W k Q) : wpAny (model prog w) A (compareOp op a b) Q E s := by
  have fin : ∀ t, k (.bool t) → Q (.bool t) s := fun t hk => o _ _ s.heap s.toks Ext.refl (.bool t) hk
  have un := R.un
  have inn : ∀ {d ds}, Rp s.heap W a d → y = .list ds → inK op d ds k → wpAny (model prog w) A (compareOp op a b) Q E s := by
    intro d ds ra hy hi
    clear h
    subst hy
    obtain ⟨as, qa⟩ := ra.reads
    obtain ⟨bs, qb⟩ := rb.reads
    cases op
    case In => exact in_list_reads qb qa hi.1.2 hi.1.1.1 (by have := hi.1.1.2; omega) (fin _ hi.2)
    case NotIn => exact notIn_list_reads qb qa hi.1.2 hi.1.1.1 (by have := hi.1.1.2; omega) (fin _ hi.2)
    all_goals exact hi.elim
  cases ra with
  | int i t =>
    cases rb with
    | int j u =>
      cases op
      case Eq => exact eq_int (fin _ h)
      case NotEq => exact PyProof.Rows.ne_int (fin _ h)
      case Lt => exact PyProof.Rows.lt_int (fin _ h)
      case LtE => exact PyProof.Rows.le_int (fin _ h)
      case Gt => exact PyProof.Rows.gt_int (fin _ h)
      case GtE => exact PyProof.Rows.ge_int (fin _ h)
      all_goals exact h.elim
    | list => exact inn (.int i t) rfl h
    | _ => exact h.elim
  | str x' t =>
    cases rb with
    | str y' u =>
      cases op
      case Eq => exact eq_str (fin _ h)
      case NotEq => exact PyProof.Rows.ne_str (fin _ h)
      all_goals exact h.elim
    | list => exact inn (.str x' t) rfl h
    | _ => exact h.elim
  | list h1 h2 h3 h4 r =>
    cases rb with
    | list g1 g2 g3 g4 r' =>
      obtain ⟨as, qa⟩ := (Rp.list h1 h2 h3 h4 r).reads
      obtain ⟨bs, qb⟩ := (Rp.list g1 g2 g3 g4 r').reads
      cases op
      case Eq => exact compareEq_reads qa qb h.1.1.1 h.1.2.1 (by have := h.1.1.2; omega) (fin _ h.2)
      case NotEq => exact compareNe_reads qa qb h.1.1.1 h.1.2.1 (by have := h.1.1.2; omega) (fin _ h.2)
      all_goals exact h.elim
    | _ => exact h.elim
  | none => cases rb with
    | list => exact inn .none rfl h
    | _ => exact h.elim
  | bool c => cases rb with
    | list => exact inn (.bool c) rfl h
    | _ => exact h.elim
  | tuple h1 h2 h3 h4 r => cases rb with
    | list => exact inn (.tuple h1 h2 h3 h4 r) rfl h
    | _ => exact h.elim

theorem pyIdx_some {α : Type} {l : List α} {i : Int} {c : α} (h : pyIdx l i = some c) : ∃ j, seqIndex? i l.length = some j ∧ l[j]? = some c := Option.bind_eq_some_iff.mp h

theorem tail_here {value slice : Expr} {T id : String} {o i : Value} (hn : ∀ lo hi p, slice ≠ .Slice lo hi none p) (hT : s.TypeIs o T)
    (hl : typeLookup (.type T) "__getitem__" = pure (some (.builtin id))) (hg : wpAny (model prog w) A (getItem o i) Q E s) : wpAny (model prog w) A (subscriptTail value slice o i) Q E s := by
  refine tail_any (ops := [o, i]) hT hl hg ?_
  cases slice
  case Slice lo hi st p => cases st with
    | none => exact absurd rfl (hn lo hi p)
    | some => rfl
  all_goals rfl

theorem idxS {value slice : Expr} (hn : ∀ lo hi p, slice ≠ .Slice lo hi none p) (ra : Rp s.heap W a x) (rb : Rp s.heap W b y) (h : idxK x y k) (o : Out s W k Q) :
    wpAny (model prog w) A (subscriptTail value slice a b) Q E s := by
  cases ra with
  | str x' t =>
    cases rb with
    | int j u =>
      obtain ⟨⟨h1, h2⟩, h⟩ := h
      split at h
      · rename_i c e
        obtain ⟨n, e1, e2⟩ := pyIdx_some e
        refine tail_here hn (typeIs_str _ _ _) F.slot_str_getitem.lookup (PyProof.Rows.getItem_str (c := c) ?_ ?_ (o _ _ s.heap _ Ext.refl (.str _ _) h))
        · rw [decide_eq_false (by omega), decide_eq_false (by omega)]; rfl
        · rw [Array.length_toList] at e1
          show (seqIndex? j x'.cps.size).bind _ = _
          rw [e1, Option.bind_some]
          simpa using e2
      · exact h.elim
    | _ => exact h.elim
  | list g1 g2 g3 g4 r =>
    rename_i l ob vs n ds
    cases rb with
    | int j u =>
      obtain ⟨⟨h1, h2⟩, h⟩ := h
      split at h
      · rename_i d e
        obtain ⟨m, e1, e2⟩ := pyIdx_some e
        obtain ⟨v, e3, rv⟩ := r.get e2
        have hlen := r.length
        rw [Array.length_toList] at hlen
        rw [Array.getElem?_toList] at e3
        have hl : s.heap.IsList l vs := ⟨_, g1, g3, _, g4⟩
        have hm : m < ds.length := (List.getElem?_eq_some_iff.mp e2).1
        refine tail_here hn ⟨_, g1, g3⟩ slot_list_getitem.lookup ?_
        by_cases hj : j < 0
        · simp only [seqIndex?, if_pos hj] at e1
          split at e1
          · rename_i q
            cases e1
            rw [Bool.and_eq_true, decide_eq_true_iff, decide_eq_true_iff] at q
            rw [← hlen] at q e3
            exact wpAny_getItem_list_neg hl hj (by omega) (by omega) e3 (o _ _ s.heap s.toks Ext.refl rv h)
          · cases e1
        · simp only [seqIndex?, if_neg hj] at e1
          split at e1
          · rename_i q
            cases e1
            rw [Bool.and_eq_true, decide_eq_true_iff, decide_eq_true_iff] at q
            exact wpAny_getItem_list hl q.1 (by omega) e3 (o _ _ s.heap s.toks Ext.refl rv h)
          · cases e1
      · exact h.elim
    | _ => exact h.elim
  | tuple g1 g2 g3 g4 r =>
    rename_i l ob vs n ds
    cases rb with
    | int j u =>
      obtain ⟨⟨h1, h2⟩, h⟩ := h
      split at h
      · rename_i d e
        obtain ⟨m, e1, e2⟩ := pyIdx_some e
        obtain ⟨v, e3, rv⟩ := r.get e2
        have hlen := r.length
        rw [Array.length_toList] at hlen
        rw [Array.getElem?_toList] at e3
        have hl : IsTup s.heap l vs := ⟨_, g1, g3, _, g4⟩
        exact tail_here hn ⟨_, g1, g3⟩ slot_tuple_getitem.lookup (PyProof.Rows.getItem_tuple hl (by omega) (by omega) (by rw [hlen]; exact e1) e3 (o _ _ s.heap s.toks Ext.refl rv h))
      · exact h.elim
    | _ => exact h.elim
  | _ => exact h.elim
end
end Mine
end R3

section R4
open PySem PySem.W PyProof.Rows PySem.Calls PyProof.V PySem.Spec PySem.SeqAt
namespace Mine
section
variable {prog : Program} {w : World} {A : Around} {E : Value → Shared → Prop} {s : Shared} {W : Addr → Prop} {k : PyData → Prop} {Q : Value → Shared → Prop} {a b : Value} {x y : PyData} {dep : Nat}

theorem strIdx_eq (l h : Option Int) (n : Nat) : Builtin.Str.strSliceIndices l h 1 n = sliceRange ((l.elim 0 (clipAt n) : Nat) : Int) ((h.elim n (clipAt n) : Nat) : Int) 1 := by
  have e := sliceBounds_plain l h n
  have e2 : Builtin.Str.strSliceIndices l h 1 n = sliceRange (sliceBounds l h none n).1 (sliceBounds l h none n).2.1 (sliceBounds l h none n).2.2 := by
    cases l <;> cases h <;> rfl
  rw [e2, e]
theorem clipAt_le (n : Nat) (i : Int) : clipAt n i ≤ n := by
  have := clipAt_cast n i
  omega
theorem txtSlice_eq (x : Str) (l h : Option Int) : Txt.slice x l h = sOf (pySlice x.cps.toList l h) := by
  unfold Txt.slice pySlice
  rw [strIdx_eq, sliceRange_one, Array.length_toList]
  have hle : h.elim x.length (clipAt x.length) ≤ x.length := by
    cases h with
    | none => exact Nat.le_refl _
    | some i => exact clipAt_le _ i
  show _ = sOf (List.take (h.elim x.length (clipAt x.length) - l.elim 0 (clipAt x.length)) (List.drop (l.elim 0 (clipAt x.length)) x.cps.toList))
  generalize h.elim x.length (clipAt x.length) = v at *
  generalize l.elim 0 (clipAt x.length) = u at *
  split
  · rename_i q
    rw [Bool.and_eq_true] at q
    have q2 := q.2
    simp only [beq_iff_eq, List.size_toArray, List.length_map, List.length_range] at q2
    rcases Nat.eq_zero_or_pos x.length with h0 | h0
    · have : x.cps = #[] := Array.eq_empty_of_size_eq_zero h0
      cases x with | mk c => simp only at this; subst this; simp [sOf]
    · have hu : u = 0 := by omega
      have hv : v = x.length := by omega
      subst hu hv
      rw [List.drop_zero, List.take_of_length_le (by rw [Array.length_toList]; exact Nat.le_refl _)]
      simp [sOf]
  · show _ = Str.mk _
    congr 1
    rw [pick_run]

theorem pySlice_map {α β : Type} (f : α → β) (l : List α) (lo hi : Option Int) : pySlice (l.map f) lo hi = (pySlice l lo hi).map f := by
  unfold pySlice
  rw [List.length_map, List.map_take, List.map_drop]

theorem part_of {v : Value} {d : PyData} {l : Option Int} (r : Rp s.heap W v d) (h : partOf d = some l) : ∃ p : Option (Int × Tok), v = partValue p ∧ p.map (·.1) = l ∧ IsPart v l := by
  cases r with
  | none => cases h; exact ⟨none, rfl, rfl, .none⟩
  | int i t => cases h; exact ⟨some (i, t), rfl, rfl, .int i t⟩
  | _ => cases h

theorem slcS {lo hi : PyData} {vl vu : Value} {sl : Addr} (al : Alloc W s.heap) (ra : Rp s.heap W a x) (rl : Rp s.heap W vl lo) (ru : Rp s.heap W vu hi)
    (hsl : s.heap.get? sl = some { cls := .type "slice", data := .fields #[vl, vu, .none] }) (h : slcK x lo hi k) (o : Out s W k Q) : wpAny (model prog w) A (getItem a (.ref sl)) Q E s := by
  unfold slcK at h
  split at h
  · rename_i l u el eu
    obtain ⟨p, rfl, hp, ip⟩ := part_of rl el
    obtain ⟨q, rfl, hq, iq⟩ := part_of ru eu
    cases ra with
    | str x' t =>
      obtain ⟨hlen, hk⟩ := h
      refine wpAny_getItem_str_slice (l := p) (u := q) (st := none) ⟨_, hsl, rfl, rfl⟩ rfl ?_
      have e : (sliceMade x' t p q none) = if ((1 : Int) == 1 && (Builtin.Str.strSliceIndices l u 1 x'.length).length == x'.length) = true then .val (.str x' t) else .str ⟨((Builtin.Str.strSliceIndices l u 1 x'.length).filterMap (x'.cps[·]?)).toArray⟩ := by
        unfold sliceMade slicePicked
        rw [hp, hq]; rfl
      rw [e]
      have e3 := txtSlice_eq x' l u
      have e4 := Txt.slice_le x' l u
      unfold Txt.slice at e3 e4
      refine post_val_or_str ⟨Nat.le_trans e4 (by rw [sizeLine]; exact hlen), fun t' k' => ?_⟩
      rw [e3]
      exact o _ _ s.heap _ Ext.refl (.str _ _) hk
    | list g1 g2 g3 g4 r =>
      rename_i la ob vs n ds
      obtain ⟨hlen, hk⟩ := h
      have hl := r.length
      rw [Array.length_toList] at hl
      refine wpAny_getItem_list_slice (vs := .none) (st := none) ⟨_, g1, g3, _, g4⟩ ⟨_, hsl, rfl, rfl⟩ ip iq .none (by simp) ?_ (by rw [sizeLine]; omega)
      refine o _ _ _ _ (Ext.push _) (Rp.newList al ?_) hk
      rw [slicePick_plain]
      show RpL s.heap W (List.take _ (List.drop _ vs.toList)) (pySlice ds l u)
      unfold pySlice
      rw [hl]
      exact (r.drop _).take _
    | _ => exact h.elim
  · exact h.elim
end
end Mine
end R4

section R5
open PySem PySem.W PyProof.Rows PySem.Calls PyProof.V PySem.Spec PySem.SeqAt
namespace Mine
section
variable {prog : Program} {w : World} {A : Around} {E : Value → Shared → Prop} {s : Shared} {W : Addr → Prop} {k : PyData → Prop} {Q : Value → Shared → Prop} {a b : Value} {x y : PyData} {dep : Nat}

/-- what is called by a built-in's name -/
noncomputable def biV : Bi → Value
  | .len => .builtin "len"
  | .min2 => .builtin "min"
  | .minL => .builtin "min"
  | .sum => .builtin "sum"
  | .ord => .builtin "ord"
  | .chr => .builtin "chr"
  | .abs => .builtin "abs"
  | .str => .type "str"
  | .lower => .builtin "str.lower"
  | .join => .builtin "str.join"
  | .isint => .none

theorem strs_of : ∀ (cs : List Nat) {vs : List Value}, RpL s.heap W vs (cs.map fun c => PyData.str ⟨#[c]⟩) → StrsAre vs (cs.map fun c => ⟨#[c]⟩) := by
  intro cs
  induction cs with
  | nil => intro vs r; cases r; exact .nil
  | cons c cs ih =>
    intro vs r
    rw [List.map_cons] at r ⊢
    cases r with
    | cons r rs => cases r with
      | str y t => exact .cons _ t (ih rs)
theorem join_ones : ∀ cs : List Nat, Str.join (sOf []) (cs.map fun c => ⟨#[c]⟩) = sOf cs
  | [] => rfl
  | [c] => rfl
  | c :: d :: r => by
    have ih := join_ones (d :: r)
    rw [List.map_cons] at ih
    rw [List.map_cons, List.map_cons]
    show (⟨#[c]⟩ : Str) ++ sOf [] ++ Str.join (sOf []) _ = _
    rw [ih]
    show Str.mk ((#[c] ++ #[]) ++ (d :: r).toArray) = sOf (c :: d :: r)
    simp [sOf]
theorem txtJoin_one (cs : List Nat) : Txt.join (sOf []) (cs.map fun c => ⟨#[c]⟩) = sOf cs := (StrLaws.glued_eq_join _ _).trans (join_ones cs)
theorem sum_ones (cs : List Nat) : ((cs.map fun c => (⟨#[c]⟩ : Str)).map (·.length)).sum = cs.length := by
  induction cs with
  | nil => rfl
  | cons c cs ih => rw [List.map_cons, List.map_cons, List.sum_cons, ih, List.length_cons]; show 1 + _ = _; omega

theorem minL_S {l : Addr} {vs : List Value} {ns : List Int} (hh : A.handled = none) (hl : s.heap.IsList l vs.toArray) (hi : IntsAre vs ns) (hne : 0 < ns.length)
    (h : ∀ h' M (t : Tok) tk, Ext s.heap h' → M ∈ ns → (∀ a, a ∈ ns → M ≤ a) → Q (.int M t) { s with heap := h', toks := tk }) :
    wpAny (model prog w) A (call (.builtin "min") [.ref l]) Q E s := by
  obtain ⟨xs, e⟩ := hi.allInts.items
  have hns : ns = xs.toList.map (·.1) := by
    rw [← hi.numsOf, ← nums_intItems, ← e]
  have hsz : 0 < xs.size := by
    have h3 := hne; rw [hns, List.length_map, Array.length_toList] at h3; exact h3
  rw [e] at hl
  refine min_intList hh hl hsz fun v h' tk hv hk => ?_
  obtain ⟨t, rfl⟩ := intItems_at hv
  obtain ⟨h1, h2⟩ := argBest_lt (numAt xs) (xs.size - 1)
  refine h _ _ t tk hk ?_ fun a ha => ?_
  · rw [hns, numAt_eq]; exact getD_mem (by rw [List.length_map, Array.length_toList]; omega)
  · rw [hns] at ha
    obtain ⟨j, hj, rfl⟩ := mem_getD ha
    rw [List.length_map, Array.length_toList] at hj
    rw [← numAt_eq]; exact h2 j (by omega)
theorem sum_S {l : Addr} {vs : List Value} {ns : List Int} (hh : A.handled = none) (hl : s.heap.IsList l vs.toArray) (hi : IntsAre vs ns)
    (h : ∀ h' tk t', Ext s.heap h' → Q (.int ns.sum t') { s with heap := h', toks := tk }) :
    wpAny (model prog w) A (call (.builtin "sum") [.ref l]) Q E s := by
  obtain ⟨xs, hx⟩ := hi.allInts.items
  have hn : numsOf vs.toArray.toList = ns := by rw [show vs.toArray.toList = vs from rfl, hi.numsOf]
  rw [hx] at hl hn
  rw [nums_intItems] at hn
  refine sum_intListG hh hl fun h' tk t' hk => ?_
  have := h h' tk t' hk
  rw [preSum_eq, List.take_of_length_le (by simp), hn]
  exact this

theorem on1_ {as : List PyData} {f : PyData → Prop} (h : on1 as f) : ∃ d, as = [d] ∧ f d := by
  rcases as with _ | ⟨d, _ | ⟨e, r⟩⟩
  · exact h.elim
  · exact ⟨d, rfl, h⟩
  · exact h.elim
theorem on2_ {as : List PyData} {f : PyData → PyData → Prop} (h : on2 as f) : ∃ d e, as = [d, e] ∧ f d e := by
  rcases as with _ | ⟨d, _ | ⟨e, _ | ⟨g, r⟩⟩⟩
  · exact h.elim
  · exact h.elim
  · exact ⟨d, e, rfl, h⟩
  · exact h.elim
theorem onI_ {d : PyData} {f : Int → Prop} (h : onI d f) : ∃ i, d = .int i ∧ f i := by
  cases d with
  | int i => exact ⟨i, rfl, h⟩
  | _ => exact h.elim
theorem onS_ {d : PyData} {f : Str → Prop} (h : onS d f) : ∃ i, d = .str i ∧ f i := by
  cases d with
  | str i => exact ⟨i, rfl, h⟩
  | _ => exact h.elim
theorem onL_ {d : PyData} {f : List PyData → Prop} (h : onL d f) : ∃ i, d = .list i ∧ f i := by
  cases d with
  | list i => exact ⟨i, rfl, h⟩
  | _ => exact h.elim

theorem biS {bi : Bi} {vs : List Value} {as : List PyData} (R : Room A dep) (ra : RpL s.heap W vs as) (hb : bi ≠ .isint) (h : biK bi as k) (o : Out s W k Q) :
    wpAny (model prog w) A (call (biV bi) vs) Q E s := by
  cases bi with
  | len =>
    obtain ⟨d, rfl, h⟩ := on1_ h
    obtain ⟨v, rfl, r⟩ := ra.one
    clear ra
    cases d with
    | str x' =>
      obtain ⟨t, rfl⟩ := r.str_
      obtain ⟨hl, hk⟩ := h
      exact SBL.len (by omega) (o _ _ s.heap _ Ext.refl (.int _ _) hk)
    | list ds =>
      obtain ⟨a, ob, vs, n, rfl, h1, h3, h4, r⟩ := r.list_
      obtain ⟨hl, hk⟩ := h
      have e := r.length
      rw [Array.length_toList] at e
      refine call_len_list ⟨_, h1, h3, _, h4⟩ (by omega) (o _ _ s.heap _ Ext.refl (.int _ _) ?_)
      rw [e]; exact hk
    | _ => exact h.elim
  | min2 =>
    obtain ⟨d, e, rfl, h⟩ := on2_ h
    obtain ⟨i, rfl, h⟩ := onI_ h
    obtain ⟨j, rfl, hm⟩ := onI_ h
    obtain ⟨v, u, rfl, r, r2⟩ := ra.two
    clear ra
    obtain ⟨t, rfl⟩ := r.int_
    obtain ⟨t', rfl⟩ := r2.int_
    show wpAny _ _ (call (.builtin "min") _) _ _ _
    refine min_two_ints R.hh fun h' tk hk => ?_
    split
    · rename_i c; rw [if_pos c] at hm; exact o _ _ h' tk hk (.int _ _) hm
    · rename_i c; rw [if_neg c] at hm; exact o _ _ h' tk hk (.int _ _) hm
  | minL =>
    obtain ⟨d, rfl, h⟩ := on1_ h
    obtain ⟨ds, rfl, ns, ⟨rfl, hne⟩, hk⟩ := onL_ h
    obtain ⟨v, rfl, r⟩ := ra.one
    obtain ⟨a, ob, vs, n, rfl, h1, h3, h4, r⟩ := r.list_
    refine minL_S R.hh ⟨_, h1, h3, _, by rw [h4, Array.toArray_toList]⟩ r.ints (List.length_pos_iff.mpr hne) fun h' M t tk e hm hle => o _ _ h' tk e (.int _ _) (hk M hm hle)
  | sum =>
    obtain ⟨d, rfl, h⟩ := on1_ h
    obtain ⟨ds, rfl, ns, rfl, hk⟩ := onL_ h
    obtain ⟨v, rfl, r⟩ := ra.one
    obtain ⟨a, ob, vs, n, rfl, h1, h3, h4, r⟩ := r.list_
    exact sum_S R.hh ⟨_, h1, h3, _, by rw [h4, Array.toArray_toList]⟩ r.ints fun h' tk t' e => o _ _ h' tk e (.int _ _) hk
  | ord =>
    obtain ⟨d, rfl, h⟩ := on1_ h
    obtain ⟨x, rfl, c, rfl, hk⟩ := onS_ h
    obtain ⟨v, rfl, r⟩ := ra.one
    obtain ⟨t, rfl⟩ := r.str_
    exact ord_of_one rfl (o _ _ s.heap _ Ext.refl (.int _ _) hk)
  | chr =>
    obtain ⟨d, rfl, h⟩ := on1_ h
    obtain ⟨x, rfl, hm⟩ := onI_ h
    obtain ⟨v, rfl, r⟩ := ra.one
    obtain ⟨t, rfl⟩ := r.int_
    exact chr_of_range hm.1.1 hm.1.2 (o _ _ s.heap _ Ext.refl (.str _ _) hm.2)
  | abs =>
    obtain ⟨d, rfl, h⟩ := on1_ h
    obtain ⟨x, rfl, hm⟩ := onI_ h
    obtain ⟨v, rfl, r⟩ := ra.one
    obtain ⟨t, rfl⟩ := r.int_
    exact call_abs_int fun u tk => o _ _ s.heap _ Ext.refl (.int _ _) hm
  | str =>
    obtain ⟨d, rfl, h⟩ := on1_ h
    obtain ⟨x, rfl, ⟨h1, h2, h3, h4⟩, hk⟩ := onL_ h
    obtain ⟨v, rfl, r⟩ := ra.one
    clear ra
    obtain ⟨l, rfl⟩ := r.refOf
    obtain ⟨as', q'⟩ := r.reads
    show wpAny _ _ (call (.type "str") _) _ _ _
    exact PySem.str_of_reads (hsz := h4) q' h1 (fun q => by rw [h2] at q; cases q) R.gd (by have := R.un; omega) (fun _ _ e => e) (fun h' u tk hk' => o _ _ h' tk hk' (.str _ _) hk)
  | isint => exact absurd rfl hb
  | lower =>
    obtain ⟨d, rfl, h⟩ := on1_ h
    obtain ⟨x, rfl, hm⟩ := onS_ h
    obtain ⟨v, rfl, r⟩ := ra.one
    obtain ⟨t, rfl⟩ := r.str_
    exact SCL.lower (by have := hm.1; omega) fun _ => o _ _ s.heap _ Ext.refl (.str _ _) hm.2
  | join =>
    obtain ⟨d, e, rfl, h⟩ := on2_ h
    obtain ⟨x, rfl, h⟩ := onS_ h
    obtain ⟨ds, rfl, rfl, cs, rfl, hl, hk⟩ := onL_ h
    obtain ⟨v, u, rfl, r, r2⟩ := ra.two
    obtain ⟨t, rfl⟩ := r.str_
    obtain ⟨a, ob, vs, n, rfl, h1, h3, h4, r⟩ := r2.list_
    refine join_list ⟨_, h1, h3, _, h4⟩ (strs_of cs r) ?_ fun t' k' => o _ _ s.heap _ Ext.refl (.str _ _) (by rw [txtJoin_one]; exact hk)
    rw [sum_ones, List.length_map]
    show cs.length + cs.length * 0 ≤ _
    omega

/-! ## ranges and iteration -/
noncomputable def RangeAt (h : Heap) (R : Addr) (ns : List Int) : Prop :=
  ∃ a b c t u v, IsRange h R a b c t u v ∧ Builtin.Range.small a b c = true ∧ Builtin.Range.rangeSize a b c = (ns.length : Int) ∧ ∀ i, i < ns.length → ns[i]? = some (a + (i : Int) * c)

theorem upI_length (a : Int) : ∀ n, (upI a n).length = n
  | 0 => rfl
  | n + 1 => by rw [upI, List.length_cons, upI_length]
theorem downI_length (a : Int) : ∀ n, (downI a n).length = n
  | 0 => rfl
  | n + 1 => by rw [downI, List.length_cons, downI_length]
theorem upI_get : ∀ (n : Nat) (a : Int) (i : Nat), i < n → (upI a n)[i]? = some (a + (i : Int) * 1)
  | n + 1, a, 0, _ => by rw [upI]; simp
  | n + 1, a, i + 1, h => by rw [upI, List.getElem?_cons_succ, upI_get n (a + 1) i (by omega)]; congr 1; omega
theorem downI_get : ∀ (n : Nat) (a : Int) (i : Nat), i < n → (downI a n)[i]? = some (a + (i : Int) * (-1))
  | n + 1, a, 0, _ => by rw [downI]; simp
  | n + 1, a, i + 1, h => by rw [downI, List.getElem?_cons_succ, downI_get n (a - 1) i (by omega)]; congr 1; omega

theorem small_of {a b c : Int} {n : Nat} (ha : -(2 ^ 40) < a ∧ a < 2 ^ 40) (hb : -(2 ^ 40) < b ∧ b < 2 ^ 40) (hc : c = 1 ∨ c = -1 ∨ c = 2) (hn : Builtin.Range.rangeSize a b c = (n : Int)) (h : n ≤ 2 ^ 40) :
    Builtin.Range.small a b c = true := by
  have fits : ∀ x : Int, -(2 ^ 41) < x → x < 2 ^ 41 → Builtin.Range.rangeFitsLong x = true := by
    intro x h1 h2
    unfold Builtin.Range.rangeFitsLong
    simp only [Bool.and_eq_true, decide_eq_true_eq]
    omega
  unfold Builtin.Range.small
  rw [hn, fits a (by omega) (by omega), fits b (by omega) (by omega), fits c (by omega) (by omega), fits _ (by omega) (by omega)]
  simp only [Bool.true_and, Bool.or_eq_true]
  right
  rcases hc with rfl | rfl | rfl
  · rw [if_pos (by decide)]; exact fits _ (by omega) (by omega)
  · rw [if_neg (by decide)]; exact fits _ (by omega) (by omega)
  · rw [if_pos (by decide)]; exact fits _ (by omega) (by omega)

theorem rngK_ {as : List PyData} {k : List Int → Prop} (h : rngK as k) : (∃ b, as = [.int b] ∧ (-(2 ^ 40) < b ∧ b < 2 ^ 20) ∧ k (upI 0 b.toNat)) ∨
    (∃ a b, as = [.int a, .int b] ∧ (-(2 ^ 40) < a ∧ a < 2 ^ 40 ∧ -(2 ^ 40) < b ∧ b < 2 ^ 40 ∧ b - a < 2 ^ 20) ∧ k (upI a (b - a).toNat)) ∨
    (∃ a b c, as = [.int a, .int b, .int c] ∧ (-(2 ^ 40) < a ∧ a < 2 ^ 40 ∧ -(2 ^ 40) < b ∧ b < 2 ^ 40) ∧
      ((c = -1 ∧ a - b < 2 ^ 20 ∧ k (downI a (a - b).toNat)) ∨
       (c = 2 ∧ b - a < 2 ^ 20 ∧ k ((upI 0 ((b - a + 1).fdiv 2).toNat).map fun j => a + 2 * j)))) := by
  rcases as with _ | ⟨x, r⟩
  · exact h.elim
  · cases x with
    | int a =>
      rcases r with _ | ⟨y, r⟩
      · exact .inl ⟨a, rfl, h⟩
      · cases y with
        | int b =>
          rcases r with _ | ⟨z, r⟩
          · exact .inr (.inl ⟨a, b, rfl, h⟩)
          · cases z with
            | int c =>
              cases r with
              | nil => exact .inr (.inr ⟨a, b, c, rfl, h⟩)
              | cons _ _ => exact h.elim
            | _ => exact h.elim
        | _ => exact h.elim
    | _ => exact h.elim

theorem rngS {vs : List Value} {as : List PyData} {kk : List Int → Prop} (ra : RpL s.heap W vs as) (h : rngK as kk)
    (o : ∀ R ns h' tk, Ext s.heap h' → RangeAt h' R ns → ns.length ≤ 2 ^ 20 → kk ns → Q (.ref R) { s with heap := h', toks := tk }) :
    wpAny (model prog w) A (call (.type "range") vs) Q E s := by
  rcases rngK_ h with ⟨b, rfl, ⟨h1, h2⟩, hk⟩ | ⟨a, b, rfl, ⟨h1, h2, h3, h4, h5⟩, hk⟩ | ⟨a, b, c, rfl, ⟨h1, h2, h3, h4⟩, hk⟩ <;> clear h
  · obtain ⟨v, rfl, r⟩ := ra.one
    obtain ⟨t, rfl⟩ := r.int_
    have hz : Builtin.Range.rangeSize 0 b 1 = ((upI 0 b.toNat).length : Int) := by
      rw [upI_length]; unfold Builtin.Range.rangeSize
      rw [if_pos (by decide)]
      split <;> omega
    refine call_range_1 (o _ (upI 0 b.toNat) _ _ (Ext.push _) ⟨_, _, _, _, _, _, IsRange.new .., ?_, hz, fun i hi => ?_⟩ ?_ hk)
    · refine small_of (by omega) (by omega) (.inl rfl) hz ?_
      rw [upI_length]; omega
    · rw [upI_length] at hi; exact upI_get _ _ _ hi
    · rw [upI_length]; omega
  · obtain ⟨v, u, rfl, r, r2⟩ := ra.two
    obtain ⟨t, rfl⟩ := r.int_
    obtain ⟨t', rfl⟩ := r2.int_
    have hz : Builtin.Range.rangeSize a b 1 = ((upI a (b - a).toNat).length : Int) := by
      rw [upI_length]; unfold Builtin.Range.rangeSize
      rw [if_pos (by decide)]
      split <;> omega
    refine call_range_2 (o _ (upI a (b - a).toNat) _ _ (Ext.push _) ⟨_, _, _, _, _, _, IsRange.new .., ?_, hz, fun i hi => ?_⟩ ?_ hk)
    · refine small_of (by omega) (by omega) (.inl rfl) hz ?_
      rw [upI_length]; omega
    · rw [upI_length] at hi; exact upI_get _ _ _ hi
    · rw [upI_length]; omega
  · obtain ⟨v, u, x, rfl, r, r2, r3⟩ := ra.three
    obtain ⟨t, rfl⟩ := r.int_
    obtain ⟨t', rfl⟩ := r2.int_
    obtain ⟨t'', rfl⟩ := r3.int_
    rcases hk with ⟨rfl, h5, hk⟩ | ⟨rfl, h5, hk⟩
    · have hz : Builtin.Range.rangeSize a b (-1) = ((downI a (a - b).toNat).length : Int) := by
        rw [downI_length]; unfold Builtin.Range.rangeSize
        rw [if_neg (by decide), show (-(-1 : Int)) = 1 from rfl, Int.ediv_one]
        split <;> omega
      refine call_range_3 (by decide) (o _ (downI a (a - b).toNat) _ _ (Ext.push _) ⟨_, _, _, _, _, _, IsRange.new .., ?_, hz, fun i hi => ?_⟩ ?_ hk)
      · refine small_of (by omega) (by omega) (.inr (.inl rfl)) hz ?_
        rw [downI_length]; omega
      · rw [downI_length] at hi; exact downI_get _ _ _ hi
      · rw [downI_length]; omega
    · have hz : Builtin.Range.rangeSize a b 2 = (((upI 0 ((b - a + 1).fdiv 2).toNat).map fun j => a + 2 * j).length : Int) := by
        rw [List.length_map, upI_length]; unfold Builtin.Range.rangeSize
        rw [if_pos (by decide), Int.fdiv_eq_ediv_of_nonneg _ (by decide)]
        split <;> omega
      refine call_range_3 (by decide) (o _ ((upI 0 ((b - a + 1).fdiv 2).toNat).map fun j => a + 2 * j) _ _ (Ext.push _) ⟨_, _, _, _, _, _, IsRange.new .., ?_, hz, fun i hi => ?_⟩ ?_ hk)
      · refine small_of (by omega) (by omega) (.inr (.inr rfl)) hz ?_
        rw [List.length_map, upI_length, Int.fdiv_eq_ediv_of_nonneg _ (by decide)]; omega
      · rw [List.length_map, upI_length] at hi
        rw [List.getElem?_map, upI_get _ _ _ hi]
        show some (a + 2 * (0 + (i : Int) * 1)) = some (a + (i : Int) * 2)
        congr 1; omega
      · rw [List.length_map, upI_length, Int.fdiv_eq_ediv_of_nonneg _ (by decide)]; omega

/-- an iterator over these data -/
noncomputable def IterOk (prog : Program) (w : World) (A : Around) (h : Heap) (W : Addr → Prop) (I : Addr) (ds : List PyData) : Prop :=
  ∃ fp P St, Walks prog w A I fp [I] ds.length P St ∧ St 0 h ∧ (∀ b ∈ fp, ∃ o, h.get? b = some o) ∧ (∀ b ∈ fp, ¬ W b) ∧ (∀ i h', St i h' → ∃ o, h'.get? I = some o) ∧
    (∀ i v, P i v → ∃ d, ds[i]? = some d ∧ Rp h (fun a => W a ∨ a = I) v d)

theorem iterR {R : Addr} {ns : List Int} (hh : A.handled = none) (al : Alloc W s.heap) (hr : RangeAt s.heap R ns)
    (o : ∀ I h', Ext s.heap h' → s.heap.get? I = none → IterOk prog w A h' W I (intsOf ns) → Q (.ref I) { s with heap := h' }) :
    wpAny (model prog w) A (pyIter (.ref R)) Q E s := by
  obtain ⟨a, b, c, t, u, v, h1, h2, h3, h4⟩ := hr
  refine wpAny_pyIter_range h1 h2 (o _ _ (Ext.push _) ?_ ?_)
  · cases e : s.heap.get? s.heap.objs.size with
    | none => rfl
    | some ob => exact absurd (Heap.lt_size e) (Nat.lt_irrefl _)
  · have hw := (Walks.range (prog := prog) (w := w) hh s.heap.objs.size a c ns.length).bound
    have hlen : (intsOf ns).length = ns.length := List.length_map ..
    refine ⟨[s.heap.objs.size], (fun i v => i < ns.length ∧ ∃ t, v = Value.int (a + (i : Int) * c) t), (fun i h => IsRangeIter h s.heap.objs.size (a + (i : Int) * c) ((ns.length : Int) - (i : Int)) c), by rw [hlen]; exact hw, ?_, ?_, ?_, ?_, ?_⟩
    · show IsRangeIter _ _ _ _ _
      rw [h3]
      have := Heap.get?_push_size s.heap (o := { cls := .type "range_iterator", data := .fields #[rawInt a, rawInt (ns.length : Int), rawInt c] }) rfl
      simpa using this
    · intro p hp
      rw [List.mem_singleton.mp hp]
      exact ⟨_, Heap.get?_push_size s.heap (o := { cls := .type "range_iterator", data := .fields #[rawInt a, rawInt (Builtin.Range.rangeSize a b c), rawInt c] }) rfl⟩
    · intro b hb
      rw [List.mem_singleton.mp hb]
      exact al.fresh
    · exact fun i h' st => ⟨_, st⟩
    · rintro i v ⟨hi, t, rfl⟩
      exact ⟨.int (a + (i : Int) * c), by rw [intsOf, List.getElem?_map, h4 i hi]; rfl, .int _ _⟩

theorem iterS {ik : List PyData → Prop} {v : Value} {d : PyData} (hh : A.handled = none) (al : Alloc W s.heap) (r : Rp s.heap W v d) (h : itemsK d ik)
    (o : ∀ I ds h', Ext s.heap h' → s.heap.get? I = none → IterOk prog w A h' W I ds → ds.length ≤ 2 ^ 20 → ik ds → Q (.ref I) { s with heap := h' }) :
    wpAny (model prog w) A (pyIter v) Q E s := by
  have fresh : s.heap.get? s.heap.objs.size = none := by
    cases e : s.heap.get? s.heap.objs.size with
    | none => rfl
    | some ob => exact absurd (Heap.lt_size e) (Nat.lt_irrefl _)
  cases r with
  | list h1 h2 h3 h4 r =>
    rename_i l ob vs n ds
    have hlen := r.length
    rw [Array.length_toList] at hlen
    have hl : s.heap.IsList l vs := ⟨_, h1, h3, _, h4⟩
    have hne : l ≠ s.heap.objs.size := Nat.ne_of_lt (Heap.lt_size h1)
    refine wpAny_pyIter_list hl (o _ ds _ (Ext.push _) fresh ?_ h.1 h.2)
    refine ⟨[s.heap.objs.size, l], _, _, hlen ▸ Walks.list hh s.heap.objs.size l hne vs, ⟨⟨_, Heap.get?_push_size _ rfl, rfl, rfl⟩, hl.at fun o e => Heap.get?_push_of_some _ e⟩, ?_, ?_, ?_, ?_⟩
    · intro b hb
      rcases List.mem_cons.mp hb with rfl | hb
      · exact ⟨_, Heap.get?_push_size _ rfl⟩
      · rw [List.mem_singleton.mp hb]; exact ⟨_, Heap.get?_push_of_some _ h1⟩
    · intro b hb
      rcases List.mem_cons.mp hb with rfl | hb
      · exact al.fresh
      · rw [List.mem_singleton.mp hb]; exact h2
    · rintro i h' ⟨⟨ob, hob, _⟩, _⟩
      exact ⟨_, hob⟩
    · intro i v hv
      obtain ⟨d, e, rv⟩ := r.get' (n := i) (v := v) (by rw [Array.getElem?_toList]; exact hv)
      exact ⟨d, e, rv.mono fun a o q1 q2 => ⟨Heap.get?_push_of_some _ q1, fun q3 => q3.elim q2 fun q3 => by rw [q3, fresh] at q1; cases q1⟩⟩
  | str x t =>
    obtain ⟨hl, hk⟩ := h
    have hlen : (x.cps.toList.map fun c => PyData.str ⟨#[c]⟩).length = x.cps.size := by rw [List.length_map, Array.length_toList]
    have sign : ∀ i v h', SignAt x i v → ∃ d, (x.cps.toList.map fun c => PyData.str ⟨#[c]⟩)[i]? = some d ∧ Rp h' (fun a => W a ∨ a = s.heap.objs.size) v d := by
      rintro i v h' ⟨c, u, e, rfl⟩
      exact ⟨.str ⟨#[c]⟩, by rw [List.getElem?_map, Array.getElem?_toList, e]; rfl, .str _ _⟩
    have live : ∀ (T : String), ∀ b ∈ [s.heap.objs.size], ∃ o, (s.heap.push { cls := .type T, data := .fields #[.str x t, .int 0 0] }).get? b = some o := by
      intro T b hb
      rw [List.mem_singleton.mp hb]
      exact ⟨_, Heap.get?_push_size _ rfl⟩
    have off : ∀ b ∈ [s.heap.objs.size], ¬ W b := by
      intro b hb
      rw [List.mem_singleton.mp hb]; exact al.fresh
    have hl' : (x.cps.toList.map fun c => PyData.str ⟨#[c]⟩).length ≤ 2 ^ 20 := by rw [hlen]; exact hl
    cases ha : x.cps.all (· < 128)
    · exact wpAny_pyIter_wide ha (o _ _ _ (Ext.push _) fresh ⟨_, _, _, hlen ▸ Walks.strWide hh _ x t, ⟨_, Heap.get?_push_size _ rfl, rfl, rfl⟩, live _, off, fun i h' ⟨ob, hob, _⟩ => ⟨_, hob⟩, fun i v p => sign i v _ p⟩ hl' hk)
    · exact wpAny_pyIter_ascii ha (o _ _ _ (Ext.push _) fresh ⟨_, _, _, hlen ▸ Walks.strAscii hh _ x t, ⟨_, Heap.get?_push_size _ rfl, rfl, rfl⟩, live _, off, fun i h' ⟨ob, hob, _⟩ => ⟨_, hob⟩, fun i v p => sign i v _ p⟩ hl' hk)
  | _ => exact h.elim
end
end Mine
end R5

section R6
open PySem PySem.W PyProof.Rows PySem.Calls PyProof.V PySem.Spec PySem.SeqAt
namespace Mine

noncomputable def Sees (h : Heap) (env : Env) (x : Str) (v : Value) : Prop :=
  (env.kindOf x = some .local ∧ ∃ m, h.Ns env.locals m ∧ m x = some v) ∨
  ((env.kindOf x = some .cell ∨ env.kindOf x = some .free) ∧ ∃ c, env.cells.lookup x = some c ∧ h.IsCell c (some v))

structure EnvOk (env : Env) (sc : Scope) (tb : List (Str × Nat)) (nx : Nat) : Prop where
  kind : env.scope.kind = .function
  gl : env.globals = mainGlobals
  bl : env.builtins = builtinsNs
  glob : ∀ x, sc.names.lookup x = some .globalImplicit → env.kindOf x = some .globalImplicit
  kinds : ∀ x, (sc.names.lookup x = some .cell ∨ sc.names.lookup x = some .free) → (env.kindOf x = some .cell ∨ env.kindOf x = some .free)
  cells : ∀ x, (sc.names.lookup x = some .cell ∨ sc.names.lookup x = some .free) → ∃ c, env.cells.lookup x = some c
  ok : ∀ x i, tb.lookup x = some i → i < nx ∧ (x == ("__debug__" : Str)) = false ∧ (x == ("__classdict__" : Str)) = false

noncomputable def SeesAll (h : Heap) (W : Addr → Prop) (env : Env) (tb : List (Str × Nat)) (v : Vw) : Prop :=
  ∀ x i, tb.lookup x = some i → ∀ d, v i = some d → ∃ val, Sees h env x val ∧ Rp h W val d

theorem Sees.ext {h h' : Heap} {env : Env} {x : Str} {v : Value} (S : Sees h env x v) (e : Ext h h') : Sees h' env x v :=
  S.imp (fun ⟨a, m, n, q⟩ => ⟨a, m, n.at' fun o => e _ o, q⟩) fun ⟨a, c, q, o, r⟩ => ⟨a, c, q, o, e _ _ r.1, r.2⟩
theorem SeesAll.ext {h h' : Heap} {W : Addr → Prop} {env : Env} {tb : List (Str × Nat)} {v : Vw} (S : SeesAll h W env tb v) (e : Ext h h') : SeesAll h' W env tb v :=
  fun x i hx d hd => let ⟨val, a, b⟩ := S x i hx d hd; ⟨val, a.ext e, b.ext e⟩

/-- the values of the built-ins' names -/
noncomputable def valTab : List (Str × Value) := [("len", .builtin "len"), ("min", .builtin "min"), ("sum", .builtin "sum"), ("ord", .builtin "ord"), ("chr", .builtin "chr"), ("abs", .builtin "abs"), ("str", .type "str"), ("range", .type "range"), ("list", .type "list"), ("type", .type "type"), ("int", .type "int")]
noncomputable def biVal (x : Str) : Option Value := valTab.lookup x

noncomputable def Claim (prog : Program) (w : World) (hb : Heap) (dep : Nat) (a : Addr) (args : List PyData) (d : PyData) : Prop :=
  ∀ (A : Around) (s : Shared) (W : Addr → Prop) (vs : List Value) (Q E : Value → Shared → Prop), Room A dep → Ext hb s.heap → Alloc W s.heap → RpL s.heap W vs args →
    (∀ v h' tk, Ext s.heap h' → Rp h' W v d → Q v { s with heap := h', toks := tk }) → wpAny (model prog w) A (call (.ref a) vs) Q E s

structure Base (prog : Program) (w : World) (K : Frag) (hb : Heap) (Sp : String → List PyData → PyData → Prop) (g : G) (dep : Nat) : Prop where
  kin : K.In hb
  gl : ∃ mg mb, hb.Ns mainGlobals mg ∧ hb.Ns builtinsNs mb ∧ (∀ x i, g.gints.lookup x = some i → ∃ t, mg x = some (.int i t)) ∧ (∀ x v, biVal x = some v → mg x = none ∧ mb x = some v) ∧
    (∀ x nm, g.gfs.lookup x = some nm → ∃ a c dd fd sl, mg x = some (.ref a) ∧ hb.get? a = some ⟨c, dd, .func fd, sl⟩ ∧ ∀ args d, Sp nm args d → Claim prog w hb dep a args d)

section
variable {prog : Program} {w : World} {K : Frag} {hb : Heap} {Sp : String → List PyData → PyData → Prop} {g : G} {dep : Nat} {A : Around} {env : Env} {sc : Scope} {tb : List (Str × Nat)} {nx : Nat}

theorem lookup_filter (q : Str → Bool) : ∀ (l : List (Str × Nat)) {x : Str} {i : Nat}, (l.filter fun y => q y.1).lookup x = some i → q x = true ∧ l.lookup x = some i
  | [], _, _, h => by cases h
  | (y, j) :: r, x, i, h => by
    rw [List.filter_cons] at h
    by_cases hq : q (y, j).1 = true
    · rw [if_pos hq, List.lookup_cons] at h
      rw [List.lookup_cons]
      cases e : x == y with
      | true =>
        simp only [e] at h ⊢
        rw [beq_iff_eq] at e
        rw [e]
        exact ⟨hq, h⟩
      | false =>
        simp only [e] at h ⊢
        exact lookup_filter q r h
    · rw [if_neg hq] at h
      obtain ⟨h1, h2⟩ := lookup_filter q r h
      refine ⟨h1, ?_⟩
      rw [List.lookup_cons]
      cases e : x == y with
      | true =>
        rw [beq_iff_eq] at e
        rw [e] at h1
        exact absurd h1 hq
      | false => exact h2

theorem lookup_mapK (f : Str → NameKind → NameKind) : ∀ (l : List (Str × NameKind)) (x : Str), (l.map fun y => (y.1, f y.1 y.2)).lookup x = (l.lookup x).map (f x)
  | [], _ => rfl
  | (y, k) :: r, x => by
    rw [List.map_cons, List.lookup_cons, List.lookup_cons]
    cases e : x == y with
    | true =>
      rw [beq_iff_eq] at e
      rw [e]; rfl
    | false =>
      simp only
      exact lookup_mapK f r x

theorem kindOf_relabel (inner : Scope) (env : Env) (cl : List (Str × Addr)) (C : Addr) (x : Str) :
    (compEnvC inner cl C env).kindOf x = (inner.names.lookup x).map fun k => if (k == .free && env.scope.kind == .function && env.kindOf x == some .cell) = true then .cell else k := by
  show (relabel inner env).names.lookup x = _
  have := lookup_mapK (fun n k => if (k == .free && env.scope.kind == .function && env.kindOf n == some .cell) = true then .cell else k) inner.names x
  rw [← this]
  unfold relabel
  congr 1
  apply List.map_congr_left
  rintro ⟨n, k⟩ _
  dsimp only
  split <;> rfl

noncomputable def closL (cells : List (Str × Addr)) : List (Str × NameKind) → List (Str × Addr) → List (Str × Addr)
  | [], acc => acc
  | (n, k) :: r, acc => closL cells r (if (k == .free) = true then (match cells.lookup n with | some c => (n, c) :: acc | none => acc) else acc)

theorem closureFor_eq {inner : Scope} {env : Env} (h : ∀ y ∈ inner.names, y.2 = .free → ∃ c, env.cells.lookup y.1 = some c) : closureFor inner env = pure (closL env.cells inner.names []) := by
  unfold closureFor
  have key : ∀ (l : List (Str × NameKind)) (acc : List (Str × Addr)), (∀ y ∈ l, y.2 = .free → ∃ c, env.cells.lookup y.1 = some c) →
      (forIn l acc (fun (x : Str × NameKind) (r : List (Str × Addr)) => (match x with
        | (name, kind) => if (kind == NameKind.free) = true then do
            let c ← cellOf env name
            pure (ForInStep.yield ((name, c) :: r))
          else pure (ForInStep.yield r) : Sem (ForInStep (List (Str × Addr))))) : Sem (List (Str × Addr))) = pure (closL env.cells l acc) := by
    intro l
    induction l with
    | nil => intro acc _; rfl
    | cons y r ih =>
      intro acc hy
      obtain ⟨n, k⟩ := y
      rw [List.forIn_cons, closL]
      dsimp only
      by_cases hk : (k == NameKind.free) = true
      · rw [if_pos hk, if_pos hk]
        obtain ⟨c, hc⟩ := hy (n, k) (.head _) (beq_iff_eq.mp hk)
        have e : cellOf env n = pure c := by unfold cellOf; dsimp only at hc; rw [hc]
        rw [e, hc]
        exact ih _ fun y hy' => hy y (.tail _ hy')
      · rw [if_neg hk, if_neg hk]
        exact ih _ fun y hy' => hy y (.tail _ hy')
  exact (congrArg (fun t : Sem (List (Str × Addr)) => t >>= fun r => pure r) (key inner.names [] h)).trans rfl

theorem mem_of_lookup {α β : Type} [BEq α] [LawfulBEq α] : ∀ {l : List (α × β)} {x : α} {k : β}, l.lookup x = some k → (x, k) ∈ l
  | (y, j) :: r, x, k, h => by
    rw [List.lookup_cons] at h
    cases e : x == y with
    | true => simp only [e] at h; cases h; rw [beq_iff_eq] at e; rw [e]; exact .head _
    | false => simp only [e] at h; exact .tail _ (mem_of_lookup h)
  | [], _, _, h => by cases h

theorem closL_lookup {cells : List (Str × Addr)} {y : Str} : ∀ (l : List (Str × NameKind)) (acc : List (Str × Addr)), (∀ z c, acc.lookup z = some c → cells.lookup z = some c) → (∃ c, cells.lookup y = some c) →
    ((y, NameKind.free) ∈ l ∨ acc.lookup y = cells.lookup y) → (closL cells l acc).lookup y = cells.lookup y
  | [], acc, _, _, h => by
    rcases h with h | h
    · cases h
    · exact h
  | (n, k) :: r, acc, ha, hy, h => by
    unfold closL
    have grow : ∀ c, cells.lookup n = some c → ∀ z d, ((n, c) :: acc).lookup z = some d → cells.lookup z = some d := by
      intro c hc z d hd
      rw [List.lookup_cons] at hd
      cases e : z == n with
      | true => simp only [e] at hd; cases hd; rw [beq_iff_eq] at e; rw [e]; exact hc
      | false => simp only [e] at hd; exact ha z d hd
    have keepY : ∀ c, cells.lookup n = some c → acc.lookup y = cells.lookup y → ((n, c) :: acc).lookup y = cells.lookup y := by
      intro c hc hq
      rw [List.lookup_cons]
      cases e : y == n with
      | true => simp only; rw [beq_iff_eq] at e; rw [e]; exact hc.symm
      | false => exact hq
    by_cases hk : (k == NameKind.free) = true
    · rw [if_pos hk]
      cases hc : cells.lookup n with
      | none =>
        refine closL_lookup r acc ha hy (h.imp (fun h => ?_) id)
        rcases List.mem_cons.mp h with e | h
        · cases e; obtain ⟨c, hc'⟩ := hy; rw [hc] at hc'; cases hc'
        · exact h
      | some c =>
        refine closL_lookup r _ (grow c hc) hy ?_
        rcases h with h | h
        · rcases List.mem_cons.mp h with e | h
          · cases e
            refine .inr ?_
            rw [List.lookup_cons]
            have : (y == y) = true := beq_iff_eq.mpr rfl
            simp only [this]
            exact hc.symm
          · exact .inl h
        · exact .inr (keepY c hc h)
    · rw [if_neg hk]
      refine closL_lookup r acc ha hy (h.imp (fun h => ?_) id)
      rcases List.mem_cons.mp h with e | h
      · cases e; exact absurd rfl hk
      · exact h

structure CompOk (sc inner : Scope) (x : Str) : Prop where
  kind : inner.kind = .function
  cell : ∀ y ∈ inner.names, y.2 ≠ .cell
  loc : ∀ y ∈ inner.names, y.2 = .local → inner.names.lookup y.1 = some .local
  free : ∀ y ∈ inner.names, y.2 = .free → sc.names.lookup y.1 = some .cell ∨ sc.names.lookup y.1 = some .free
  tgt : inner.names.lookup x = some .local
  dbg : (x == ("__debug__" : Str)) = false
  cls : (x == ("__classdict__" : Str)) = false

theorem compOk_of {inner : Scope} {x : Str} (h : compOk g sc inner x = true) : CompOk sc inner x := by
  unfold compOk at h
  simp only [Bool.and_eq_true, Bool.not_eq_true', beq_iff_eq, List.all_eq_true] at h
  obtain ⟨⟨⟨⟨⟨⟨h1, h2⟩, h3⟩, h4⟩, h5⟩, h6⟩, h7⟩ := h
  refine ⟨h1, fun y hy => ?_, fun y hy e => ?_, fun y hy e => ?_, h3, h5, h6⟩
  · have := (h2 y hy).1.1
    intro e; rw [e] at this; cases this
  · have := (h2 y hy).1.2
    rw [e, Bool.or_eq_true] at this
    rcases this with q | q
    · cases q
    · exact beq_iff_eq.mp q
  · have := (h2 y hy).2
    rw [e, Bool.or_eq_true] at this
    rcases this with q | q
    · cases q
    · rw [Bool.and_eq_true, Bool.or_eq_true] at q
      exact q.2.imp beq_iff_eq.mp beq_iff_eq.mp

/-- the frame of a comprehension -/
theorem EnvOk.comp {inner : Scope} {x : Str} {C : Addr} (EO : EnvOk env sc tb nx) (CO : CompOk sc inner x) :
    EnvOk (compEnvC inner (closL env.cells inner.names []) C env) inner ((x, nx) :: tb.filter fun y => freeIn inner y.1 && !(y.1 == x)) (nx + 1) where
  kind := CO.kind
  gl := EO.gl
  bl := EO.bl
  glob := fun y hy => by rw [kindOf_relabel, hy]; rfl
  kinds := fun y hy => by
    rw [kindOf_relabel]
    rcases hy with hy | hy
    · exact absurd rfl (CO.cell _ (mem_of_lookup hy))
    · rw [hy, Option.map_some]
      split
      · exact .inl rfl
      · exact .inr rfl
  cells := fun y hy => by
    rcases hy with hy | hy
    · exact absurd rfl (CO.cell _ (mem_of_lookup hy))
    · have hm := mem_of_lookup hy
      obtain ⟨c, hc⟩ := EO.cells y (CO.free _ hm rfl)
      exact ⟨c, by show (closL env.cells inner.names []).lookup y = _; rw [closL_lookup _ _ (fun _ _ h => by cases h) ⟨c, hc⟩ (.inl hm)]; exact hc⟩
  ok := fun y i hy => by
    rw [List.lookup_cons] at hy
    cases e : y == x with
    | true =>
      simp only [e] at hy
      cases hy
      rw [beq_iff_eq] at e
      rw [e]
      exact ⟨Nat.lt_succ_self _, CO.dbg, CO.cls⟩
    | false =>
      simp only [e] at hy
      obtain ⟨_, h2⟩ := lookup_filter (fun z => freeIn inner z && !(z == x)) tb hy
      obtain ⟨a, b, c⟩ := EO.ok y i h2
      exact ⟨Nat.lt_succ_of_lt a, b, c⟩

theorem SeesAll.comp {inner : Scope} {x : Str} {C : Addr} {h h' : Heap} {W : Addr → Prop} {v : Vw} {d : PyData} {m₃ : Str → Option Value} {val : Value} (EO : EnvOk env sc tb nx) (CO : CompOk sc inner x) (S : SeesAll h W env tb v) (hk : Ext h h')
    (hn : h'.Ns C m₃) (hm : m₃ x = some val) (hd : Rp h' W val d) :
    SeesAll h' W (compEnvC inner (closL env.cells inner.names []) C env) ((x, nx) :: tb.filter fun y => freeIn inner y.1 && !(y.1 == x)) (updV v nx d) := by
  intro y i hy e hv
  rw [List.lookup_cons] at hy
  cases q : y == x with
  | true =>
    simp only [q] at hy
    cases hy
    rw [beq_iff_eq] at q
    subst q
    unfold updV at hv
    rw [if_pos rfl] at hv
    cases hv
    refine ⟨val, .inl ⟨?_, m₃, hn, hm⟩, hd⟩
    rw [kindOf_relabel, CO.tgt]; rfl
  | false =>
    simp only [q] at hy
    obtain ⟨h1, h2⟩ := lookup_filter (fun z => freeIn inner z && !(z == x)) tb hy
    obtain ⟨hlt, _, _⟩ := EO.ok y i h2
    unfold updV at hv
    rw [if_neg (Nat.ne_of_lt hlt)] at hv
    obtain ⟨val', s1, r1⟩ := S y i h2 e hv
    rw [Bool.and_eq_true] at h1
    have hf : inner.names.lookup y = some .free := beq_iff_eq.mp h1.1
    have hmem := mem_of_lookup hf
    have hsc := CO.free _ hmem rfl
    have hkind := EO.kinds y hsc
    refine ⟨val', .inr ?_, r1.ext hk⟩
    rcases s1 with ⟨hl, _⟩ | ⟨_, c, hc, hcell⟩
    · rw [hl] at hkind
      rcases hkind with q | q <;> cases q
    · refine ⟨?_, c, ?_, ?_⟩
      · rw [kindOf_relabel, hf, Option.map_some]
        split
        · exact .inl rfl
        · exact .inr rfl
      · show (closL env.cells inner.names []).lookup y = _
        rw [closL_lookup _ _ (fun _ _ h => by cases h) ⟨c, hc⟩ (.inl hmem)]
        exact hc
      · obtain ⟨o, ho, hd'⟩ := hcell
        exact ⟨o, hk _ _ ho, hd'⟩
end
end Mine
end R6

section R7
open PySem PySem.W PyProof.Rows PySem.Calls PyProof.V PySem.Spec PySem.SeqAt
namespace Mine

abbrev OutB (s : Shared) (k : Bool → Prop) (Q : Bool → Shared → Prop) : Prop := ∀ t h' tk, Ext s.heap h' → k t → Q t { s with heap := h', toks := tk }
abbrev OutL (s : Shared) (W : Addr → Prop) (k : List PyData → Prop) (Q : List Value → Shared → Prop) : Prop := ∀ vs ds h' tk, Ext s.heap h' → RpL h' W vs ds → k ds → Q vs { s with heap := h', toks := tk }
abbrev OutI (prog : Program) (w : World) (A : Around) (s : Shared) (W : Addr → Prop) (ik : List PyData → Prop) (Q : Value → Shared → Prop) : Prop :=
  ∀ I ds h' tk, Ext s.heap h' → s.heap.get? I = none → IterOk prog w A h' W I ds → ds.length ≤ 2 ^ 20 → ik ds → Q (.ref I) { s with heap := h', toks := tk }

/-- what the layer knows at a place -/
structure Here (hb : Heap) (env : Env) (sc : Scope) (tb : List (Str × Nat)) (nx : Nat) (v : Vw) (W : Addr → Prop) (s : Shared) : Prop where
  eo : EnvOk env sc tb nx
  see : SeesAll s.heap W env tb v
  base : Ext hb s.heap
  al : Alloc W s.heap

structure Snd (prog : Program) (w : World) (hb : Heap) (Sp : String → List PyData → PyData → Prop) (g : G) (A : Around) (n : Nat) : Prop where
  e : ∀ {sc tb nx e m env s W v}, cE g n sc tb nx e = some m → Here hb env sc tb nx v W s →
    (∀ {k : PyData → Prop} {Q : Value → Shared → Prop} {E : Value → Shared → Prop}, wpM Sp false m v k → Out s W k Q → wpAny (model prog w) A (eval e env) Q E s) ∧
    (∀ {k : Bool → Prop} {Q : Bool → Shared → Prop} {E : Value → Shared → Prop}, wpM Sp true m v (asB k) → OutB s k Q → wpAny (model prog w) A (isTrue e env (eval e env)) Q E s)
  r : ∀ {sc tb nx e m env s W v}, cR g n sc tb nx e = some m → Here hb env sc tb nx v W s →
    ∀ {ik : List PyData → Prop} {Q : Value → Shared → Prop} {E : Value → Shared → Prop}, wpR Sp m v ik → OutI prog w A s W ik Q → wpAny (model prog w) A (eval e env) (fun xv s₁ => wpAny (model prog w) A (pyIter xv) Q E s₁) E s
  l : ∀ {sc tb nx es ms env s W v} {pos : Pos}, cL g n sc tb nx es = some ms → es.all notStar = true → Here hb env sc tb nx v W s →
    ∀ {k : List PyData → Prop} {Q : List Value → Shared → Prop} {E : Value → Shared → Prop}, wpL Sp ms v k → OutL s W k Q → wpAny (model prog w) A (spliced (backTo pos (starEach es env))) Q E s

section
variable {prog : Program} {w : World} {K : Frag} {hb : Heap} {Sp : String → List PyData → PyData → Prop} {g : G} {dep : Nat} {A : Around} {env : Env} {sc : Scope} {tb : List (Str × Nat)} {nx : Nat}
  {s : Shared} {W : Addr → Prop} {v : Vw} {E : Value → Shared → Prop}

theorem Here.ext (H : Here hb env sc tb nx v W s) {h' : Heap} {tk : Nat} (e : Ext s.heap h') : Here hb env sc tb nx v W { s with heap := h', toks := tk } :=
  ⟨H.eo, H.see.ext e, H.base.trans e, H.al.ext e⟩

/-- forms whose test is their value's truth -/
noncomputable def plainM : MX → Bool
  | .no _ => false
  | .and _ _ => false
  | .or _ _ => false
  | .ite _ _ _ => false
  | _ => true
theorem wpM_plain {m : MX} (hp : plainM m = true) (v : Vw) (k : PyData → Prop) : wpM Sp true m v k = wpM Sp false m v (finK true k) := by
  cases m <;> first | rfl | (cases hp; done) | (rename_i x elt src conds; cases src <;> rfl)

theorem test_plain {e : Expr} {m : MX} (he : isTrue e env (eval e env) = (do let v ← eval e env; standAt e.pos; holding [v] (truthy v))) (hp : plainM m = true)
    (H : ∀ {k : PyData → Prop} {Q : Value → Shared → Prop} {E : Value → Shared → Prop}, wpM Sp false m v k → Out s W k Q → wpAny (model prog w) A (eval e env) Q E s) :
    ∀ {k : Bool → Prop} {Q : Bool → Shared → Prop} {E : Value → Shared → Prop}, wpM Sp true m v (asB k) → OutB s k Q → wpAny (model prog w) A (isTrue e env (eval e env)) Q E s := by
  intro k Q E h o
  rw [wpM_plain hp] at h
  exact wpAny_isTrue_value (H h fun v d h' tk e r hk => truS r hk fun t tk' kt => o t h' tk' e kt) he

theorem nameS {x : Str} {pos : Pos} {val : Value} {Q : Value → Shared → Prop} (S : Sees s.heap env x val) (hk : env.scope.kind = .function) (hd : (x == ("__debug__" : Str)) = false) (hc : (x == ("__classdict__" : Str)) = false)
    (h : Q val s) : wpAny (model prog w) A (eval (.Name x pos) env) Q E s := by
  rcases S with ⟨hl, m, hn, hm⟩ | ⟨hkind, c, hcl, hcell⟩
  · exact wpAny_Name (wpAny_loadName_local hk hl hn hm h) hd
  · rcases hkind with hl | hl
    · exact wpAny_Name (wpAny_loadName_cell hk hl hcl hcell h) hd
    · exact wpAny_Name (wpAny_loadName_free hk hl hcl hcell h hc) hd

theorem glob_props {x : Str} (h : glob? sc tb x = true) : sc.names.lookup x = some .globalImplicit ∧ tb.lookup x = none ∧ (x == ("__debug__" : Str)) = false := by
  unfold glob? at h
  simp only [Bool.and_eq_true, Bool.not_eq_true', beq_iff_eq, Option.isNone_iff_eq_none] at h
  exact ⟨h.1.1.1, h.1.1.2, h.1.2⟩

theorem globS {x : Str} {pos : Pos} {val : Value} {mg : Str → Option Value} {Q : Value → Shared → Prop} (H : Here hb env sc tb nx v W s) (hg : glob? sc tb x = true) (hm : hb.Ns mainGlobals mg) (hv : mg x = some val) (h : Q val s) :
    wpAny (model prog w) A (eval (.Name x pos) env) Q E s := by
  obtain ⟨h1, _, h3⟩ := glob_props hg
  refine Name_function_global H.eo.kind (H.eo.glob _ h1) (loadGlobal_global (mg := mg) ?_ hv h) h3
  rw [H.eo.gl]
  exact hm.at' fun o e => H.base _ o e
theorem builtS {x : Str} {pos : Pos} {val : Value} {mg mb : Str → Option Value} {Q : Value → Shared → Prop} (H : Here hb env sc tb nx v W s) (hg : glob? sc tb x = true) (hm : hb.Ns mainGlobals mg) (hmb : hb.Ns builtinsNs mb)
    (h0 : mg x = none) (hv : mb x = some val) (h : Q val s) : wpAny (model prog w) A (eval (.Name x pos) env) Q E s := by
  obtain ⟨h1, _, h3⟩ := glob_props hg
  refine Name_function_global H.eo.kind (H.eo.glob _ h1) (loadGlobal_builtin (mg := mg) (mb := mb) ?_ h0 ?_ hv h) h3
  · rw [H.eo.gl]
    exact hm.at' fun o e => H.base _ o e
  · rw [H.eo.bl]
    exact hmb.at' fun o e => H.base _ o e

theorem starEach_cons {e : Expr} {r : List Expr} (h : notStar e = true) : starEach (e :: r) env = (false, eval e env) :: starEach r env := by
  cases e <;> first | rfl | cases h
theorem star_plain : ∀ {es : List Expr} {pos : Pos}, es.all notStar = true → (backTo pos (starEach es env)).any (·.1) = false
  | [], _, _ => rfl
  | e :: r, pos, h => by
    rw [List.all_cons, Bool.and_eq_true] at h
    rw [starEach_cons h.1]
    exact star_plain (es := r) (pos := pos) h.2

/-- the arguments of a call -/
theorem argsS {n : Nat} {es : List Expr} {ms : List MX} {pos : Pos} {f : Value} {k : List PyData → Prop} {Q : Args → Shared → Prop} (S : Snd prog w hb Sp g A n) (hc : cL g n sc tb nx es = some ms) (hs : es.all notStar = true) (H : Here hb env sc tb nx v W s)
    (h : wpL Sp ms v k) (o : ∀ vs ds h' tk, Ext s.heap h' → RpL h' W vs ds → k ds → Q ⟨vs, []⟩ { s with heap := h', toks := tk }) :
    wpAny (model prog w) A (evalArgs f true (backTo pos (starEach es env)) []) Q E s := by
  have q := S.l (pos := pos) (E := E) (Q := fun vs s' => Q ⟨vs, []⟩ s') hc hs H h o
  cases es with
  | nil =>
    cases n with
    | zero => exact nop rfl hc
    | succ n =>
      have hc : (some [] : Option (List MX)) = some ms := hc
      cases hc
      rw [wpL] at h
      exact evalArgs_nil3 (o [] [] s.heap s.toks Ext.refl .nil h)
  | cons e r =>
    rw [List.all_cons, Bool.and_eq_true] at hs
    rw [starEach_cons hs.1] at q ⊢
    exact evalArgs_plain q

theorem userCall {n : Nat} {x : Str} {p pos : Pos} {nm : String} {es : List Expr} {ms : List MX} {k : PyData → Prop} {Q : Value → Shared → Prop} (B : Base prog w K hb Sp g dep) (R : Room A dep) (S : Snd prog w hb Sp g A n) (hg : glob? sc tb x = true) (hf : g.gfs.lookup x = some nm)
    (hc : cL g n sc tb nx es = some ms) (hs : es.all notStar = true) (H : Here hb env sc tb nx v W s) (h : wpL Sp ms v fun ds => ∃ d, Sp nm ds d ∧ k d) (o : Out s W k Q) :
    wpAny (model prog w) A (eval (.Call (.Name x p) es [] pos) env) Q E s := by
  obtain ⟨mg, mb, hm, hmb, hi, hbv, hfn⟩ := B.gl
  obtain ⟨a, c, dd, fd, sl, ha, hkeep, hcl⟩ := hfn x nm hf
  refine wpAny_Call_NameR (globS H hg hm ha ?_)
  refine callWith_of (P := fun h => h.get? a = some ⟨c, dd, .func fd, sl⟩) (by rw [star_plain hs]; rfl) (fun h q => ⟨.frame, .inl rfl, (Looks.ld (part := none) q).andThen .now⟩) ?_
  refine argsS S hc hs H h fun vs ds h' tk e r q => ⟨?_, ?_⟩
  · exact e _ _ (H.base _ _ hkeep)
  · obtain ⟨d, hsp, hk⟩ := q
    exact hcl ds d hsp A _ W _ _ E R (H.base.trans e) (H.al.ext e) r fun v' h'' tk' e' r' => o v' d h'' tk' (e.trans e') r' hk

noncomputable def isBT (v : Value) : Bool := match v with
  | .builtin _ => true
  | .type _ => true
  | _ => false
theorem biTab_ok : ∀ q ∈ biTab, biVal q.1 = some (biV q.2.2) ∧ q.2.2 ≠ .isint ∧ isBT (biV q.2.2) = true := by decide +kernel
theorem biOf_val {x : Str} {n : Nat} {b : Bi} (h : biOf x n = some b) : biVal x = some (biV b) ∧ b ≠ .isint ∧ (∃ id, biV b = .builtin id ∨ biV b = .type id) := by
  obtain ⟨q, hq, rfl⟩ := som1 h
  obtain ⟨h1, h2, h3⟩ := biTab_ok q (List.mem_of_find?_eq_some hq)
  have e : q.1 = x := beq_iff_eq.mp (and_ (List.find?_some (p := fun q : Str × Nat × Bi => q.1 == x && q.2.1 == n) hq)).1
  rw [← e]
  refine ⟨h1, h2, ?_⟩
  cases hv : biV q.2.2 with
  | builtin id => exact ⟨id, .inl rfl⟩
  | type id => exact ⟨id, .inr rfl⟩
  | _ => (rw [hv] at h3; cases h3)

theorem biCall {n : Nat} {x : Str} {p pos : Pos} {b : Bi} {es : List Expr} {ms : List MX} {k : PyData → Prop} {Q : Value → Shared → Prop} (B : Base prog w K hb Sp g dep) (R : Room A dep) (S : Snd prog w hb Sp g A n) (hg : glob? sc tb x = true) (hf : biOf x es.length = some b)
    (hc : cL g n sc tb nx es = some ms) (hs : es.all notStar = true) (H : Here hb env sc tb nx v W s) (h : wpL Sp ms v fun ds => biK b ds k) (o : Out s W k Q) :
    wpAny (model prog w) A (eval (.Call (.Name x p) es [] pos) env) Q E s := by
  obtain ⟨mg, mb, hm, hmb, hi, hbv, hfn⟩ := B.gl
  obtain ⟨h1, h2, id, h3⟩ := biOf_val hf
  obtain ⟨h4, h5⟩ := hbv x _ h1
  refine wpAny_Call_NameR (builtS H hg hm hmb h4 h5 ?_)
  have fin : ∀ f : Value, f = biV b → wpAny (model prog w) A (evalArgs f true (backTo pos (starEach es env)) []) (fun a s₁ => wpAny (model prog w) A (call f ([] ++ a.pos) a.kw) Q E s₁) E s := by
    rintro f rfl
    refine argsS S hc hs H h fun vs ds h' tk e r q => ?_
    exact biS R r h2 q fun v' d h'' tk' e' r' hk => o v' d h'' tk' (e.trans e') r' hk
  rcases h3 with h3 | h3
  · rw [h3]
    exact callWith_builtin (star_plain hs) (fin _ h3.symm)
  · rw [h3]
    exact PyProof.Rows.callWith_type (star_plain hs) (fin _ h3.symm)
end
end Mine
end R7

section R8
open PySem PySem.W PyProof.Rows PySem.Calls PyProof.V PySem.Spec PySem.SeqAt
namespace Mine
section
variable {prog : Program} {w : World} {K : Frag} {hb : Heap} {Sp : String → List PyData → PyData → Prop} {g : G} {dep : Nat} {A : Around} {env : Env} {sc : Scope} {tb : List (Str × Nat)} {nx : Nat}
  {s : Shared} {W : Addr → Prop} {v : Vw} {E : Value → Shared → Prop}

theorem And_cons {x y : Expr} {r : List Expr} {pos : Pos} {Q : Value → Shared → Prop}
    (h : wpAny (model prog w) A (eval x env) (fun v s₁ => wpAny (model prog w) A (truthy v) (fun t s₂ => if t then wpAny (model prog w) A (boolOp pos .And (evalEach (y :: r) env)) Q E s₂ else Q v s₂) E s₁) E s) :
    wpAny (model prog w) A (boolOp pos .And (evalEach (x :: y :: r) env)) Q E s := by
  show wpAny (model prog w) A (do
    let v ← eval x env
    standAt pos
    let t ← holding [v] (truthy v)
    match BoolOp.And, t with
    | .And, false | .Or, true => pure v
    | _, _ => boolOp pos .And (evalEach (y :: r) env)) Q E s
  refine wpAny_bind (wpAny_mono h (fun v s₁ h₁ => wpAny_bind (wpAny_standAt (wpAny_bind (wpAny_holding (wpAny_mono h₁ (fun t s₂ h₂ => ?_) fun _ _ x => x))))) fun _ _ x => x)
  cases t with
  | false => exact wpAny_pure h₂
  | true => exact h₂

theorem isTrue_IfExpS {t a b : Expr} {pos : Pos} {whole : Sem Value} {Q : Bool → Shared → Prop}
    (h : wpAny (model prog w) A (isTrue t env (eval t env)) (fun c s₁ => if c then wpAny (model prog w) A (isTrue a env (eval a env)) Q E s₁ else wpAny (model prog w) A (isTrue b env (eval b env)) Q E s₁) E s) :
    wpAny (model prog w) A (isTrue (.IfExp t a b pos) env whole) Q E s := by
  rw [arm_isTrue_IfExp]
  refine wpAny_bind (wpAny_mono h (fun c s₁ h₁ => ?_) fun _ _ x => x)
  cases c <;> exact h₁

theorem partS {n : Nat} {lo : Option Expr} {l : MX} {k : PyData → Prop} {Q : Value → Shared → Prop} (S : Snd prog w hb Sp g A n) (H : Here hb env sc tb nx v W s)
    (hc : partE (cE g n sc tb nx) lo = some l) (h : wpM Sp false l v k) (o : Out s W k Q) : wpAny (model prog w) A (evalPart lo env) Q E s := by
  cases lo with
  | none => cases hc; exact wpAny_pure (o _ _ s.heap s.toks Ext.refl .none h)
  | some e => exact (S.e hc H).1 h o

theorem behind_no {op : CmpOp} {r : Expr} (h : notSet r = true) : behindInMarks op r = false := by
  cases r <;> first | rfl | cases h

theorem plainPair {e : Expr} {m : MX} (hp : plainM m = true) (he : isTrue e env (eval e env) = (do let v ← eval e env; standAt e.pos; holding [v] (truthy v)))
    (F : ∀ {k : PyData → Prop} {Q : Value → Shared → Prop} {E : Value → Shared → Prop}, wpM Sp false m v k → Out s W k Q → wpAny (model prog w) A (eval e env) Q E s) :
    (∀ {k : PyData → Prop} {Q : Value → Shared → Prop} {E : Value → Shared → Prop}, wpM Sp false m v k → Out s W k Q → wpAny (model prog w) A (eval e env) Q E s) ∧
    (∀ {k : Bool → Prop} {Q : Bool → Shared → Prop} {E : Value → Shared → Prop}, wpM Sp true m v (asB k) → OutB s k Q → wpAny (model prog w) A (isTrue e env (eval e env)) Q E s) :=
  ⟨F, test_plain he hp F⟩

mutual
theorem Rp.inj {h : Heap} {W : Addr → Prop} : ∀ {v : Value} {d d' : PyData}, Rp h W v d → Rp h W v d' → d = d'
  | _, _, _, .none, q => by cases q; rfl
  | _, _, _, .bool _, q => by cases q; rfl
  | _, _, _, .int _ _, q => by cases q; rfl
  | _, _, _, .str _ _, q => by cases q; rfl
  | _, _, _, .list h1 _ h3 h4 r, q => by
    cases q with
    | list g1 _ g3 g4 r' => rw [h1] at g1; cases g1; rw [h4] at g4; cases g4; exact congrArg _ (RpL.inj r r')
    | tuple g1 _ g3 g4 r' => rw [h1] at g1; cases g1; rw [h3] at g3; injection g3 with q; exact absurd q (by decide)
  | _, _, _, .tuple h1 _ h3 h4 r, q => by
    cases q with
    | tuple g1 _ g3 g4 r' => rw [h1] at g1; cases g1; rw [h4] at g4; cases g4; exact congrArg _ (RpL.inj r r')
    | list g1 _ g3 g4 r' => rw [h1] at g1; cases g1; rw [h3] at g3; injection g3 with q; exact absurd q (by decide)
theorem RpL.inj {h : Heap} {W : Addr → Prop} : ∀ {v : List Value} {d d' : List PyData}, RpL h W v d → RpL h W v d' → d = d'
  | _, _, _, .nil, q => by cases q; rfl
  | _, _, _, .cons r rs, q => by
    cases q with
    | cons r' rs' => rw [Rp.inj r r', RpL.inj rs rs']
end

theorem RpL.of_get {h : Heap} {W : Addr → Prop} : ∀ {vs : List Value} {ds : List PyData}, vs.length = ds.length → (∀ (j : Nat) (v : Value), vs[j]? = some v → ∃ d, ds[j]? = some d ∧ Rp h W v d) → RpL h W vs ds
  | [], [], _, _ => .nil
  | v :: vs, d :: ds, hl, hp => by
    refine .cons ?_ (RpL.of_get (by simpa using hl) fun j v hv => ?_)
    · obtain ⟨d', e, r⟩ := hp 0 v rfl
      cases e; exact r
    · obtain ⟨d', e, r⟩ := hp (j + 1) v (by simpa using hv)
      exact ⟨d', by simpa using e, r⟩
  | [], _ :: _, hl, _ => by cases hl
  | _ :: _, [], hl, _ => by cases hl

open Classical in
noncomputable def keepP (h : Heap) (W : Addr → Prop) (ds : List PyData) (keep : PyData → Bool) (v : Value) : Bool := decide (∃ d ∈ ds, Rp h W v d ∧ keep d = true)
open Classical in
theorem keepP_eq {h : Heap} {W : Addr → Prop} {ds : List PyData} {keep : PyData → Bool} {v : Value} {d : PyData} (hd : d ∈ ds) (r : Rp h W v d) : keepP h W ds keep v = keep d := by
  unfold keepP
  cases hk : keep d with
  | true => exact decide_eq_true ⟨d, hd, r, hk⟩
  | false =>
    refine decide_eq_false ?_
    rintro ⟨d', _, r', hk'⟩
    rw [Rp.inj r r', hk'] at hk
    cases hk
noncomputable def outF (h : Heap) (W : Addr → Prop) (ds : List PyData) (out : PyData → PyData) (v y : Value) : Prop := ∃ d ∈ ds, Rp h W v d ∧ ∀ h' W', Rp h' W' y (out d)

theorem comp_out {h h' : Heap} {W W' : Addr → Prop} {ds : List PyData} {keep : PyData → Bool} {out : PyData → PyData} : ∀ {vs : List Value} {es : List PyData} {ys : List Value}, RpL h W vs es → (∀ d ∈ es, d ∈ ds) →
    Paired (outF h W ds out) (vs.filter (keepP h W ds keep)) ys → RpL h' W' ys ((es.filter keep).map out)
  | _, _, _, .nil, _, p => by cases p; exact .nil
  | v :: vs, d :: es, ys, .cons r rs, hm, p => by
    have e := keepP_eq (keep := keep) (hm d (.head _)) r
    rw [List.filter_cons] at p ⊢
    rw [e] at p
    by_cases hk : keep d = true
    · rw [if_pos hk] at p ⊢
      cases p with
      | cons f p =>
        obtain ⟨d', _, r', q⟩ := f
        rw [List.map_cons, Rp.inj r r']
        exact .cons (q _ _) (comp_out rs (fun d hd => hm d (.tail _ hd)) p)
    · rw [if_neg hk] at p ⊢
      exact comp_out rs (fun d hd => hm d (.tail _ hd)) p

theorem forIn_false (f : Expr → Bool → Sem (ForInStep Bool)) (hf : ∀ c, f c false = pure (ForInStep.yield false)) : ∀ l : List Expr, (forIn l false f : Sem Bool) = pure false
  | [] => rfl
  | c :: r => by
    rw [List.forIn_cons, hf]
    exact forIn_false f hf r

theorem condS {Q : Bool → Shared → Prop} : ∀ {ifs : List Expr} {n : Nat} {mc : List MX} {s : Shared} {k : Bool → Prop}, (∀ m, m ≤ n → Snd prog w hb Sp g A m) → cL g n sc tb nx ifs = some mc → Here hb env sc tb nx v W s → wpC Sp mc v k → OutB s k Q →
    wpAny (model prog w) A (forIn ifs true fun c r => if r = true then do let ok ← isTrue c env (eval c env); pure (ForInStep.yield ok) else pure (ForInStep.yield r)) Q E s
  | _, 0, _, _, _, _, hc, _, _, _ => nop rfl hc
  | [], n + 1, mc, s, k, SS, hc, H, h, o => by
    have hc : (some [] : Option (List MX)) = some mc := hc
    cases hc
    exact wpAny_pure (o true s.heap s.toks Ext.refl h)
  | c :: r, n + 1, mc, s, k, SS, hc, H, h, o => by
    obtain ⟨m, hm, ms, hms, rfl⟩ := som2 (show ((cE g n sc tb nx c).bind fun m => (cL g n sc tb nx r).bind fun ms => some (m :: ms)) = some mc from hc)
    rw [List.forIn_cons]
    rw [if_pos rfl]
    refine wpAny_bind (wpAny_bind (((SS n (Nat.le_succ n)).e hm H).2 h fun t h1 t1 e1 hk => wpAny_pure ?_))
    cases t with
    | true => exact condS (fun m hm => SS m (Nat.le_succ_of_le hm)) hms (H.ext e1) (hk.1 rfl) fun t h' tk e hk => o t h' tk (e1.trans e) hk
    | false =>
      show wpAny (model prog w) A (forIn r false _) Q E _
      rw [forIn_false _ (fun c => by rw [if_neg (by simp)]) r]
      exact wpAny_pure (o false h1 t1 e1 (hk.2 rfl))

theorem ListCompS {elt iter : Expr} {x : Str} {px : Pos} {ifs : List Expr} {scope : Scope} {cl : List (Str × Addr)} {pos : Pos} {Q : Value → Shared → Prop}
    (hclos : closureFor scope env = pure cl) (hcell : ∀ y ∈ scope.names, y.2 ≠ .cell) (hkind : scope.kind = .function)
    (hnames : ∀ y ∈ scope.names, y.2 = .local → scope.names.lookup y.1 = some .local) (hx : scope.names.lookup x = some .local)
    (h : wpAny (model prog w) A (eval iter env) (fun xv s₁ => wpAny (model prog w) A (pyIter xv) (fun it s₂ => ∃ (p : Value → Bool) (F : Value → Value → Prop), ∃ I fp wr n P St, it = .ref I ∧ Walks prog w A I fp wr n P St ∧ n ≤ sizeLine ∧ St 0 s₂.heap ∧ (∀ b ∈ fp, b < s₂.heap.objs.size) ∧
      QuietOnC prog w A env scope cl x ifs elt wr P p F s₂ ∧
      (∀ D h' tk ys (vs : List Value), s₂.heap.get? D = none → h'.IsList D ys → h'.PlainList D ys → vs.length = n → (∀ j v, vs[j]? = some v → P j v) → Paired F (vs.filter p) ys.toList →
        (∀ b o, b ∉ wr → s₂.heap.get? b = some o → h'.get? b = some o) → Q (.ref D) { s₂ with heap := h', toks := tk })) E s₁) E s)
    (hs : ∀ x, foldedSetIterable iter env x = pure x) :
    wpAny (model prog w) A (eval (.ListComp elt [⟨.Name x px, iter, ifs, 0⟩] scope pos) env) Q E s := by
  rw [eval_ListComp]
  refine wpAny_comprehension_free (use := none) rfl hs hclos hkind hnames (wpAny_mono h (fun xv s₁ h₁ => wpAny_mono h₁ (fun it s₂ h₂ => ?_) fun _ _ e => e) fun _ _ e => e)
  obtain ⟨p, F, I, fp, wr, n, P, St, rfl, W, hsz, hst, hfp, hq, hQ⟩ := h₂
  refine comp_block_walkC (RR := fun acc C => compPost (model prog w) A E none Q acc C) W hsz p F hcell hkind hx hst hfp hq ?_
  intro D C h' tk m' ys vs hD hC hDC hn hl hpl hlen hP hF hk
  exact ⟨m', hn, fun h'' hs'' => hQ D h'' tk ys vs hD (hl.extBut hs''.extBut hDC) (hpl.extBut hs''.extBut hDC) hlen hP hF fun b o hbf e => hs''.extBut b o (by rintro rfl; rw [hC] at e; cases e) (hk b o hbf e)⟩

theorem foldedSet_no {iter : Expr} (h : notSet iter = true) : ∀ x, foldedSetIterable iter env x = pure x := by
  intro x
  cases iter <;> first | rfl | cases h

/-- what a comprehension's block wants -/
theorem compBlock {n : Nat} {elt iter : Expr} {x : Str} {ifs : List Expr} {inner : Scope} {me mi : MX} {mc : List MX} {k : PyData → Prop} (SS : ∀ m, m ≤ n → Snd prog w hb Sp g A m) (H : Here hb env sc tb nx v W s) (CO : CompOk sc inner x)
    (h1 : cE g n inner (inTb tb inner x nx) (nx + 1) elt = some me) (h2 : cR g n sc tb nx iter = some mi) (h3 : cL g n inner (inTb tb inner x nx) (nx + 1) ifs = some mc)
    (h : wpM Sp false (.comp nx me mi mc) v k) {Z : Value → Shared → Prop}
    (fin : ∀ (p : Value → Bool) (F : Value → Value → Prop) I fp n P St h' tk, Ext s.heap h' → s.heap.get? I = none → (∃ o, h'.get? I = some o) → Walks prog w A I fp [I] n P St → n ≤ sizeLine → St 0 h' → (∀ b ∈ fp, b < h'.objs.size) →
      QuietOnC prog w A env inner (closL env.cells inner.names []) x ifs elt [I] P p F { s with heap := h', toks := tk } →
      (∀ D h'' (ys : Array Value) (vs : List Value), h'.get? D = none → h''.PlainList D ys → vs.length = n → (∀ j v, vs[j]? = some v → P j v) → Paired F (vs.filter p) ys.toList → ∃ d, Rp h'' W (.ref D) d ∧ k d) → Z (.ref I) { s with heap := h', toks := tk }) :
    wpAny (model prog w) A (eval iter env) (fun xv s₁ => wpAny (model prog w) A (pyIter xv) Z E s₁) E s := by
  have h : wpR Sp mi v (fun ds => ∃ keep : PyData → Bool, ∃ out : PyData → PyData, (∀ d ∈ ds, wpC Sp mc (updV v nx d) fun c => c = keep d) ∧
        (∀ d ∈ ds, keep d = true → wpM Sp false me (updV v nx d) fun r => r = out d ∧ scalarD r = true) ∧ k (.list ((ds.filter keep).map out))) := by
    cases mi <;> exact h
  refine (SS n (Nat.le_refl n)).r h2 H h fun I ds h' tk e hI iok hlen ⟨keep, out, hA, hB, hk⟩ => ?_
  obtain ⟨fp, P, St, Wk, st0, live, off, liveI, hP⟩ := iok
  have al' : Alloc W h' := H.al.ext e
  have nI : ∀ b o, s.heap.get? b = some o → b ∉ [I] := fun b o q hb => by rw [List.mem_singleton.mp hb, hI] at q; cases q
  have WI : ∀ a, W a → a ≠ I := fun a ha q => by obtain ⟨o, ho⟩ := H.al a ha; rw [q, hI] at ho; cases ho
  have here : ∀ (C : Addr) (i : Nat) (val : Value) (s₃ : Shared) (m₃ : Str → Option Value) (d : PyData), s₃.heap.Ns C m₃ → m₃ x = some val → (∀ b o, b ∉ [I] → h'.get? b = some o → s₃.heap.get? b = some o) → Rp h' (fun a => W a ∨ a = I) val d →
      Here hb (compEnvC inner (closL env.cells inner.names []) C env) inner (inTb tb inner x nx) (nx + 1) (updV v nx d) W s₃ := by
    intro C i val s₃ m₃ d hn hm hk3 rd
    have e3 : Ext s.heap s₃.heap := fun b o q => hk3 b o (nI b o q) (e b o q)
    refine ⟨H.eo.comp CO, SeesAll.comp H.eo CO H.see e3 hn hm (rd.mono fun a o q1 q2 => ⟨hk3 a o (fun q => q2 (.inr (List.mem_singleton.mp q))) q1, fun q => q2 (.inl q)⟩), H.base.trans e3, H.al.ext e3⟩
  refine fin (keepP h' (fun a => W a ∨ a = I) ds keep) (outF h' (fun a => W a ∨ a = I) ds out) I fp ds.length P St h' tk e hI (liveI 0 h' st0) Wk (by rw [sizeLine]; omega) st0 (fun b hb => let ⟨_, q⟩ := live b hb; Heap.lt_size q) ⟨?_, ?_⟩ ?_
  · intro C i val s₃ m₃ E' _ hPv hn hm hk3 _
    obtain ⟨d, hd, rd⟩ := hP i val hPv
    have hmem := List.mem_of_getElem? hd
    refine condS SS h3 (here C i val s₃ m₃ d hn hm hk3 rd) (hA d hmem) fun t h4 t4 e4 q => ⟨?_, h4, t4, rfl, e4⟩
    rw [keepP_eq hmem rd, q]
  · intro C i val s₃ m₃ E' _ hPv hp hn hm hk3 _
    obtain ⟨d, hd, rd⟩ := hP i val hPv
    have hmem := List.mem_of_getElem? hd
    rw [keepP_eq hmem rd] at hp
    refine ((SS n (Nat.le_refl n)).e h1 (here C i val s₃ m₃ d hn hm hk3 rd)).1 (hB d hmem hp) fun y dy h4 t4 e4 r4 q => ⟨⟨d, hmem, rd, ?_⟩, h4, t4, rfl, e4⟩
    obtain ⟨rfl, hs⟩ := q
    exact fun _ _ => r4.scalar hs
  · intro D h'' ys vs hD hpl hl hPs hF
    obtain ⟨nn, hn⟩ := hpl
    refine ⟨_, .list hn (fun q => ?_) rfl rfl (comp_out (RpL.of_get hl fun j v hv => hP j v (hPs j v hv)) (fun _ hd => hd) hF), hk⟩
    obtain ⟨o, ho⟩ := al' D q
    rw [hD] at ho; cases ho

/-- a comprehension -/
theorem sndComp {n : Nat} {elt iter : Expr} {x : Str} {px pos : Pos} {ifs : List Expr} {inner : Scope} {me mi : MX} {mc : List MX} {k : PyData → Prop} {Q : Value → Shared → Prop} (R : Room A dep) (SS : ∀ m, m ≤ n → Snd prog w hb Sp g A m) (H : Here hb env sc tb nx v W s) (CO : CompOk sc inner x)
    (h1 : cE g n inner (inTb tb inner x nx) (nx + 1) elt = some me) (h2 : cR g n sc tb nx iter = some mi) (h3 : cL g n inner (inTb tb inner x nx) (nx + 1) ifs = some mc)
    (hns : notSet iter = true) (h : wpM Sp false (.comp nx me mi mc) v k) (o : Out s W k Q) :
    wpAny (model prog w) A (eval (.ListComp elt [⟨.Name x px, iter, ifs, 0⟩] inner pos) env) Q E s := by
  refine ListCompS (closureFor_eq fun y hy hf => H.eo.cells _ (CO.free y hy hf)) CO.cell CO.kind CO.loc CO.tgt ?_ (foldedSet_no hns)
  refine compBlock SS H CO h1 h2 h3 h ?_
  intro p F I fp n P St h' tk e hI lI Wk hsz st0 hfp hq fin
  refine ⟨p, F, I, fp, [I], n, P, St, rfl, Wk, hsz, st0, hfp, hq, ?_⟩
  intro D h'' tk'' ys vs hD hl hpl hlen hPs hF hk''
  obtain ⟨d, rd, hkd⟩ := fin D h'' ys vs hD hpl hlen hPs hF
  refine o _ d h'' tk'' (fun b ob q => hk'' b ob (fun hb => ?_) (e b ob q)) rd hkd
  rw [List.mem_singleton.mp hb, hI] at q; cases q

theorem nameE_ {x : Str} {m : MX} (h : nameE g sc tb x = some m) : (∃ i, tb.lookup x = some i ∧ m = .var i) ∨ (∃ i, glob? sc tb x = true ∧ g.gints.lookup x = some i ∧ m = .lit (.int i)) := by
  unfold nameE at h
  cases hi : tb.lookup x with
  | some i =>
    rw [hi] at h
    exact .inl ⟨i, rfl, (Option.some.inj h).symm⟩
  | none =>
    rw [hi] at h
    obtain ⟨h1, h2⟩ := iff_ h
    obtain ⟨i, h3, h4⟩ := som1 h2
    exact .inr ⟨i, h1, h3, h4.symm⟩
noncomputable def vwK (d : Option PyData) (k : PyData → Prop) : Prop := match d with
  | some d => k d
  | none => False
theorem vwK_ {d : Option PyData} {k : PyData → Prop} (h : vwK d k) : ∃ x, d = some x ∧ k x := by
  cases d with
  | some d => exact ⟨d, rfl, h⟩
  | none => exact h.elim
theorem isInt_ {l r x : Expr} (h : isInt sc tb l r = some x) : ∃ p1 pos1 p2, l = .Call (.Name (Str.ofString "type") p1) [x] [] pos1 ∧ r = .Name (Str.ofString "int") p2 ∧ glob? sc tb "type" = true ∧ glob? sc tb "int" = true ∧ notStar x = true := by
  obtain ⟨⟨fn, as, pos⟩, h1, ty, h2, h⟩ := bnd2 h
  obtain ⟨y, h3, ic, h4, h⟩ := bnd2 h
  obtain ⟨q, h⟩ := iff_ h
  cases h
  obtain ⟨q, q5⟩ := and_ q
  obtain ⟨q, q4⟩ := and_ q
  obtain ⟨q, q3⟩ := and_ q
  obtain ⟨q1, q2⟩ := and_ q
  obtain rfl := asCall_ h1
  obtain ⟨p1, rfl⟩ := asName_ h2
  obtain ⟨p2, rfl⟩ := asName_ h4
  obtain rfl := one_ h3
  obtain rfl : ty = Str.ofString "type" := beq_iff_eq.mp q1
  obtain rfl : ic = Str.ofString "int" := beq_iff_eq.mp q2
  exact ⟨p1, pos, p2, rfl, rfl, q3, q4, q5⟩
theorem strE_ {e : Expr} (h : strE e = true) : ∃ k p, e = .Constant (.str (sOf [])) k p := by
  cases e with
  | Constant c k p => cases c with
    | str s =>
      obtain rfl : s = sOf [] := beq_iff_eq.mp h
      exact ⟨k, p, rfl⟩
    | _ => cases h
  | _ => cases h
theorem slcK_ {x lo hi : PyData} {k : PyData → Prop} (h : slcK x lo hi k) : (∃ y, x = .str y) ∨ (∃ y, x = .list y) := by
  cases x with
  | str y => exact .inl ⟨y, rfl⟩
  | list y => exact .inr ⟨y, rfl⟩
  | _ => (unfold slcK at h; split at h <;> exact h.elim)

theorem snd_e {n : Nat} (B : Base prog w K hb Sp g dep) (R : Room A dep) (SS : ∀ m, m ≤ n → Snd prog w hb Sp g A m) {e : Expr} {m : MX} (hc : cE g (n + 1) sc tb nx e = some m) (H : Here hb env sc tb nx v W s) :
    (∀ {k : PyData → Prop} {Q : Value → Shared → Prop} {E : Value → Shared → Prop}, wpM Sp false m v k → Out s W k Q → wpAny (model prog w) A (eval e env) Q E s) ∧
    (∀ {k : Bool → Prop} {Q : Bool → Shared → Prop} {E : Value → Shared → Prop}, wpM Sp true m v (asB k) → OutB s k Q → wpAny (model prog w) A (isTrue e env (eval e env)) Q E s) := by
  have S := SS n (Nat.le_refl n)
  cases e with
  | Constant c kd pos =>
    obtain ⟨d, hd, rfl⟩ := som1 (show ((asLit c).bind fun d => some (.lit d)) = some m from hc)
    clear hc
    refine plainPair rfl rfl ?_
    intro k Q E h o
    cases c with
    | int i => cases hd; exact wpAny_Constant_int (o _ _ s.heap _ Ext.refl (.int _ _) h)
    | str i => cases hd; exact wpAny_Constant_str (o _ _ s.heap _ Ext.refl (.str _ _) h)
    | none => cases hd; exact wpAny_Constant_none (o _ _ s.heap s.toks Ext.refl .none h)
    | bool b => cases hd; exact wpAny_Constant_bool (o _ _ s.heap s.toks Ext.refl (.bool _) h)
    | _ => cases hd
  | Name x pos =>
    rcases nameE_ (show nameE g sc tb x = some m from hc) with ⟨i, hi, rfl⟩ | ⟨i, hg, hi, rfl⟩ <;> clear hc
    · refine plainPair rfl rfl ?_
      intro k Q E h o
      have h : vwK (v i) k := h
      obtain ⟨d, hd, h⟩ := vwK_ h
      obtain ⟨val, hs, hr⟩ := H.see x i hi d hd
      obtain ⟨_, q1, q2⟩ := H.eo.ok x i hi
      exact nameS hs H.eo.kind q1 q2 (o _ _ s.heap s.toks Ext.refl hr h)
    · refine plainPair rfl rfl ?_
      intro k Q E h o
      obtain ⟨mg, mb, hm, hmb, hi', hbv, hfn⟩ := B.gl
      obtain ⟨t, ht⟩ := hi' x i hi
      exact globS H hg hm ht (o _ _ s.heap s.toks Ext.refl (.int _ _) h)
  | BinOp l op r pos =>
    obtain ⟨a, ha, b, hb', rfl⟩ := som2 (show ((cE g n sc tb nx l).bind fun a => (cE g n sc tb nx r).bind fun b => some (.bin op a b)) = some m from hc)
    clear hc
    refine plainPair rfl rfl ?_
    intro k Q E h o
    exact wpAny_BinOp ((S.e ha H).1 h fun va x h1 t1 e1 r1 hk1 => (S.e hb' (H.ext e1)).1 hk1 fun vb y h2 t2 e2 r2 hk2 =>
        binS R (H.ext (tk := 0) (e1.trans e2)).al (r1.ext e2) r2 hk2 fun v d h' tk e r hk => o v d h' tk ((e1.trans e2).trans e) r hk)
  | UnaryOp op x pos =>
    obtain ⟨a, ha, hc1⟩ := bnd (show ((cE g n sc tb nx x).bind fun a => unE op a) = some m from hc)
    clear hc
    cases op with
    | USub =>
      cases hc1
      refine plainPair rfl rfl ?_
      intro k Q E h o
      refine wpAny_UnaryOp ((S.e ha H).1 h fun va x h1 t1 e1 r1 hk1 => ?_)
      cases r1 with
      | int i t => exact PyProof.Rows.neg_int (o _ _ h1 _ e1 (.int _ _) hk1)
      | _ => exact hk1.elim
    | Not =>
      cases hc1
      refine ⟨fun h o => wpAny_UnaryOp ((S.e ha H).1 h fun va x h1 t1 e1 r1 hk1 => PySem.not_value (truS r1 hk1 fun t tk hk => o _ _ h1 tk e1 (.bool _) hk)), fun h o => ?_⟩
      exact wpAny_isTrue_Not ((S.e ha H).2 h fun t h1 t1 e1 hk => o _ h1 t1 e1 hk)
    | _ => cases hc1
  | BoolOp op es pos =>
    rcases ite_ (show (if (es.length == 2) = true then (two es).bind fun q => (cE g n sc tb nx q.1).bind fun a => (cE g n sc tb nx q.2).bind fun b => some (boo2 op a b)
      else if (op == .And) = true then (hd1 es).bind fun x => (two es.tail).bind fun q => (cE g n sc tb nx x).bind fun a => (cE g n sc tb nx q.1).bind fun b => (cE g n sc tb nx q.2).bind fun c => some (.and a (.and b c)) else none) = some m from hc) with ⟨-, hc2⟩ | ⟨-, hc2⟩ <;> clear hc
    · obtain ⟨⟨x, y⟩, hq, hc3⟩ := bnd hc2
      clear hc2
      obtain rfl := two_ hq
      obtain ⟨a, ha, b, hb', rfl⟩ := som2 hc3
      clear hc3
      cases op with
      | And =>
        refine ⟨fun h o => wpAny_And2 ((S.e ha H).1 h fun va x h1 t1 e1 r1 hk1 => truS r1 hk1 fun t tk hk => ?_), fun h o => ?_⟩
        · cases t with
          | true => exact (S.e hb' (H.ext e1)).1 (hk.1 rfl) fun v d h' tk' e r hk => o v d h' tk' (e1.trans e) r hk
          | false => exact o _ _ h1 tk e1 r1 (hk.2 rfl)
        · refine wpAny_isTrue_BoolOp (wpAny_allTrue_And_cons ((S.e ha H).2 h fun t h1 t1 e1 hk => ?_))
          cases t with
          | true => exact wpAny_allTrue_And_cons ((S.e hb' (H.ext e1)).2 (hk.1 rfl) fun t h2 t2 e2 hk2 => by
              cases t with
              | true => exact wpAny_allTrue_And_nil (o _ h2 t2 (e1.trans e2) hk2)
              | false => exact o _ h2 t2 (e1.trans e2) hk2)
          | false => exact o _ h1 t1 e1 (hk.2 rfl)
      | Or =>
        refine ⟨fun h o => wpAny_Or2 ((S.e ha H).1 h fun va x h1 t1 e1 r1 hk1 => truS r1 hk1 fun t tk hk => ?_), fun h o => ?_⟩
        · cases t with
          | false => exact (S.e hb' (H.ext e1)).1 (hk.2 rfl) fun v d h' tk' e r hk => o v d h' tk' (e1.trans e) r hk
          | true => exact o _ _ h1 tk e1 r1 (hk.1 rfl)
        · refine wpAny_isTrue_BoolOp (wpAny_allTrue_Or_cons ((S.e ha H).2 h fun t h1 t1 e1 hk => ?_))
          cases t with
          | false => exact wpAny_allTrue_Or_cons ((S.e hb' (H.ext e1)).2 (hk.2 rfl) fun t h2 t2 e2 hk2 => by
              cases t with
              | false => exact wpAny_allTrue_Or_nil (o _ h2 t2 (e1.trans e2) hk2)
              | true => exact o _ h2 t2 (e1.trans e2) hk2)
          | true => exact o _ h1 t1 e1 (hk.1 rfl)
    · obtain ⟨hop, hc4⟩ := iff_ hc2
      clear hc2
      obtain ⟨x, hx, ⟨y, z⟩, hq, hc5⟩ := bnd2 hc4
      clear hc4
      obtain ⟨a, ha, b, hb', c, hc', rfl⟩ := som3 hc5
      clear hc5
      have hes : es = x :: [y, z] := by rw [← two_ hq]; exact hd1_ hx
      subst hes
      cases op with
      | Or => cases hop
      | And =>
        refine ⟨fun h o => ?_, fun h o => ?_⟩
        · refine And_cons ((S.e ha H).1 h fun va x h1 t1 e1 r1 hk1 => truS r1 hk1 fun t tk hk => ?_)
          cases t with
          | true =>
            refine And_cons ((S.e hb' (H.ext e1)).1 (hk.1 rfl) fun vb y h2 t2 e2 r2 hk2 => truS r2 hk2 fun t tk2 hk3 => ?_)
            cases t with
            | true => exact (S.e hc' (H.ext (e1.trans e2))).1 (hk3.1 rfl) fun v d h' tk' e r hk => o v d h' tk' ((e1.trans e2).trans e) r hk
            | false => exact o _ _ h2 tk2 (e1.trans e2) r2 (hk3.2 rfl)
          | false => exact o _ _ h1 tk e1 r1 (hk.2 rfl)
        · refine wpAny_isTrue_BoolOp (wpAny_allTrue_And_cons ((S.e ha H).2 h fun t h1 t1 e1 hk => ?_))
          cases t with
          | true =>
            refine wpAny_allTrue_And_cons ((S.e hb' (H.ext e1)).2 (hk.1 rfl) fun t h2 t2 e2 hk2 => ?_)
            cases t with
            | true => exact wpAny_allTrue_And_cons ((S.e hc' (H.ext (e1.trans e2))).2 (hk2.1 rfl) fun t h3 t3 e3 hk3 => by
                cases t with
                | true => exact wpAny_allTrue_And_nil (o _ h3 t3 ((e1.trans e2).trans e3) hk3)
                | false => exact o _ h3 t3 ((e1.trans e2).trans e3) hk3)
            | false => exact o _ h2 t2 (e1.trans e2) (hk2.2 rfl)
          | false => exact o _ h1 t1 e1 (hk.2 rfl)
  | IfExp te ea eb pos =>
    obtain ⟨t, ht, a, ha, b, hb', rfl⟩ := som3 (show ((cE g n sc tb nx te).bind fun t => (cE g n sc tb nx ea).bind fun a => (cE g n sc tb nx eb).bind fun b => some (.ite t a b)) = some m from hc)
    clear hc
    refine ⟨fun h o => wpAny_IfExp ((S.e ht H).2 h fun c h1 t1 e1 hk => ?_), fun h o => isTrue_IfExpS ((S.e ht H).2 h fun c h1 t1 e1 hk => ?_)⟩
    · cases c with
      | true => exact (S.e ha (H.ext e1)).1 (hk.1 rfl) fun v d h' tk' e r hk => o v d h' tk' (e1.trans e) r hk
      | false => exact (S.e hb' (H.ext e1)).1 (hk.2 rfl) fun v d h' tk' e r hk => o v d h' tk' (e1.trans e) r hk
    · cases c with
      | true => exact (S.e ha (H.ext e1)).2 (hk.1 rfl) fun t h' tk' e hk => o t h' tk' (e1.trans e) hk
      | false => exact (S.e hb' (H.ext e1)).2 (hk.2 rfl) fun t h' tk' e hk => o t h' tk' (e1.trans e) hk
  | Compare l ops rs pos =>
    obtain ⟨op, hop, r, hr, hc6⟩ := bnd2 (show ((one ops).bind fun op => (one rs).bind fun r => if (op == .Is) = true then (isInt sc tb l r).bind fun x => (cE g n sc tb nx x).bind fun a => some (.bi .isint [a])
      else if (op != .IsNot && notSet r) = true then (cE g n sc tb nx l).bind fun a => (cE g n sc tb nx r).bind fun b => some (.cmp op a b) else none) = some m from hc)
    clear hc
    obtain rfl := one_ hop
    obtain rfl := one_ hr
    rcases ite_ hc6 with ⟨hop, hc7⟩ | ⟨-, hc7⟩ <;> clear hc6
    · obtain rfl := beq_iff_eq.mp hop
      obtain ⟨x, hx, a, ha, rfl⟩ := som2 hc7
      clear hc7
      obtain ⟨p1, pos1, p2, rfl, rfl, q1, q2, q3⟩ := isInt_ hx
      obtain ⟨mg, mb, hm, hmb, hi, hbv, hfn⟩ := B.gl
      have core : ∀ {k : PyData → Prop} {Q : Value → Shared → Prop} {E : Value → Shared → Prop}, wpM Sp false (.bi .isint [a]) v k → Out s W k Q →
          wpAny (model prog w) A (eval (.Call (.Name (Str.ofString "type") p1) [x] [] pos1) env) (fun c s₁ => wpAny (model prog w) A (eval (.Name (Str.ofString "int") p2) env) (fun d s₂ => wpAny (model prog w) A (compareOp .Is c d) Q E s₂) E s₁) E s := by
        intro k Q E h o
        have h : wpM Sp false a v fun d => biK .isint [d] k := h
        refine wpAny_Call_NameR (builtS H q1 hm hmb (hbv "type" (.type "type") (by rfl)).1 (hbv "type" (.type "type") (by rfl)).2 ?_)
        refine PyProof.Rows.callWith_type1 ?_ (starEach_cons q3) (by rfl)
        rw [starEach_cons q3]
        refine spliced_cons ((S.e ha H).1 h fun va d h1 t1 e1 r1 hk1 => spliced_nil ?_)
        cases r1 with
        | int i t =>
          refine call_type_of (typeIs_int _ i t) rfl ?_
          exact builtS (H.ext e1) q2 hm hmb (hbv "int" (.type "int") (by rfl)).1 (hbv "int" (.type "int") (by rfl)).2 (wpAny_is_self rfl (o _ _ h1 t1 e1 (.bool true) hk1))
        | _ => exact hk1.elim
      refine ⟨fun h o => wpAny_Compare1 (core h o) rfl, fun {k Q E} h o => ?_⟩
      rw [wpM_plain rfl] at h
      exact wpAny_isTrue_Compare1 (core h fun v d h' tk e r hk => truS r hk fun t tk' kt => o t h' tk' e kt) rfl
    · obtain ⟨q, hc8⟩ := iff_ hc7
      clear hc7
      have q := (Bool.and_eq_true _ _ ▸ q).2
      obtain ⟨a, ha, b, hb', rfl⟩ := som2 hc8
      clear hc8
      refine ⟨fun h o => wpAny_Compare1 ((S.e ha H).1 h fun va x h1 t1 e1 r1 hk1 => (S.e hb' (H.ext e1)).1 hk1 fun vb y h2 t2 e2 r2 hk2 =>
        cmpS R (r1.ext e2) r2 hk2 fun v d h' tk e r hk => o v d h' tk ((e1.trans e2).trans e) r hk) (behind_no q), fun {k Q E} h o => ?_⟩
      exact wpAny_isTrue_Compare1 ((S.e ha H).1 h fun va x h1 t1 e1 r1 hk1 => (S.e hb' (H.ext e1)).1 hk1 fun vb y h2 t2 e2 r2 hk2 =>
        cmpS R (r1.ext e2) r2 hk2 fun v d h' tk e r hk => truS r (k := k) hk fun t tk' kt => o t h' tk' ((e1.trans e2).trans e) kt) (behind_no q)
  | Call fn as kws pos =>
    obtain ⟨hkw, hc9⟩ := iff_ (show (if kws.isEmpty = true then (if (asName fn).isSome = true then (asName fn).bind fun f =>
          if (as.all notStar && glob? sc tb f) = true then (if (g.gfs.lookup f).isSome = true then (g.gfs.lookup f).bind fun nm => if decide (as.length ≤ 10) = true then (cL g n sc tb nx as).bind fun ms => some (.call nm ms) else none
            else (biOf f as.length).bind fun bi => (cL g n sc tb nx as).bind fun ms => some (.bi bi ms)) else none
        else (asAttr fn).bind fun q => if (q.2.1 == ("lower" : Str)) = true then (if (as.isEmpty && q.2.2.endLine == pos.line && notCall q.1) = true then (cE g n sc tb nx q.1).bind fun a => some (.bi .lower [a]) else none)
          else (one as).bind fun a => if (q.2.1 == ("join" : Str) && q.2.2.endLine == pos.line && notStar a && strE q.1) = true then (cE g n sc tb nx a).bind fun m => some (.bi .join [.lit (.str (sOf [])), m]) else none)
      else none) = some m from hc)
    clear hc
    obtain rfl := List.isEmpty_iff.mp hkw
    rcases ite_ hc9 with ⟨-, hc10⟩ | ⟨-, hc10⟩ <;> clear hc9
    · obtain ⟨f, hf, hc11⟩ := bnd hc10
      clear hc10
      obtain ⟨p, rfl⟩ := asName_ hf
      obtain ⟨q, hc12⟩ := iff_ hc11
      clear hc11
      obtain ⟨qs, qg⟩ := and_ q
      rcases ite_ hc12 with ⟨-, hc13⟩ | ⟨-, hc13⟩ <;> clear hc12
      · obtain ⟨nm, hnm, hc14⟩ := bnd hc13
        clear hc13
        obtain ⟨ms, hms, rfl⟩ := som1 (iff_ hc14).2
        exact plainPair rfl rfl fun h o => userCall B R S qg hnm hms qs H h o
      · obtain ⟨bi, hbi, ms, hms, rfl⟩ := som2 hc13
        clear hc13
        exact plainPair rfl rfl fun h o => biCall B R S qg hbi hms qs H h o
    · obtain ⟨⟨ob, nm, ap⟩, hat, hc15⟩ := bnd hc10
      clear hc10
      obtain rfl := asAttr_ hat
      rcases ite_ hc15 with ⟨hnm, hc16⟩ | ⟨-, hc16⟩ <;> clear hc15
      · obtain ⟨q, hc17⟩ := iff_ hc16
        clear hc16
        obtain ⟨q, q4⟩ := and_ q
        obtain ⟨q2, q3⟩ := and_ q
        obtain rfl := List.isEmpty_iff.mp q2
        have hnm : nm = Str.ofString "lower" := beq_iff_eq.mp hnm
        subst hnm
        obtain ⟨a, ha, rfl⟩ := som1 hc17
        clear hc17
        refine plainPair rfl rfl ?_
        intro k Q E h o
        have h : wpM Sp false a v fun d => biK .lower [d] k := h
        have hbase : ∀ o : Expr, notCall o = true → attributeBase o (Str.ofString "lower") env (eval o env) = eval o env := by
          intro o ho
          cases o <;> first | rfl | cases ho
        refine Call_method0 (hbase _ q4) q3 ((S.e ha H).1 h fun va d h1 t1 e1 r1 hk1 => ?_)
        cases r1 with
        | str x' t => exact SBL.lower (by have := hk1.1; omega) fun _ => o _ _ h1 _ e1 (.str _ _) hk1.2
        | _ => exact hk1.elim
      · obtain ⟨ea, hea, hc18⟩ := bnd hc16
        clear hc16
        obtain rfl := one_ hea
        obtain ⟨q, hc19⟩ := iff_ hc18
        clear hc18
        obtain ⟨q, q4⟩ := and_ q
        obtain ⟨q, q3⟩ := and_ q
        obtain ⟨q1, q2⟩ := and_ q
        have hnm : nm = Str.ofString "join" := beq_iff_eq.mp q1
        subst hnm
        obtain ⟨kk, p2, rfl⟩ := strE_ q4
        obtain ⟨m', hm', rfl⟩ := som1 hc19
        clear hc19
        refine plainPair rfl rfl ?_
        intro k Q E h o
        have h : wpM Sp false m' v fun d => biK .join [.str (sOf []), d] k := h
        refine Call_method1 rfl (starEach_cons q3) q2 (wpAny_Constant_str ?_)
        refine ⟨"str", _, PySem.F.plainAttrs_str, PySem.F.slot_str_join, PySem.F.type_str_join, typeIs_str _ _ _, (fun _ e => nomatch e), ?_⟩
        refine callWith_builtin rfl (evalArgs_plain (spliced_cons ((S.e hm' (H.ext (tk := s.toks + 1) Ext.refl)).1 h fun va d h1 t1 e1 r1 hk1 => spliced_nil ?_)))
        exact biS (bi := .join) R (.cons (.str _ _) (.cons r1 .nil)) (by decide) hk1 fun v d h' tk e r hk => o v d h' tk (e1.trans e) r hk
  | Subscript ve ie pos =>
    rcases ite_ (show (if isSlice ie = true then (asSlice ie).bind fun q => if q.2.2.isNone = true then (partE (cE g n sc tb nx) q.1).bind fun l => (partE (cE g n sc tb nx) q.2.1).bind fun h => (cE g n sc tb nx ve).bind fun a => some (.slc a l h) else none
      else (cE g n sc tb nx ve).bind fun a => (cE g n sc tb nx ie).bind fun b => some (.idx a b)) = some m from hc) with ⟨-, hc20⟩ | ⟨hns, hc20⟩ <;> clear hc
    · obtain ⟨⟨lo, hi, st⟩, hsl, hc21⟩ := bnd hc20
      clear hc20
      obtain ⟨p, rfl⟩ := asSlice_ hsl
      obtain ⟨hst, hc22⟩ := iff_ hc21
      clear hc21
      obtain rfl := Option.isNone_iff_eq_none.mp hst
      obtain ⟨l, hl, u, hu, a, ha, rfl⟩ := som3 hc22
      clear hc22
      refine plainPair rfl rfl ?_
      intro k Q E h o
      refine Subscript_ ((S.e ha H).1 h fun va x h1 t1 e1 r1 hk1 => wpAny_Slice (partS S (H.ext e1) hl hk1 fun vl dl h2 t2 e2 r2 hk2 => partS S (H.ext (e1.trans e2)) hu hk2 fun vu du h3 t3 e3 r3 hk3 => wpAny_pure ?_))
      have E4 : Ext s.heap h3 := (e1.trans e2).trans e3
      have al3 : Alloc W h3 := H.al.ext E4
      have ra : Rp (h3.push { cls := .type "slice", data := .fields #[vl, vu, .none] }) W va x := (r1.ext (e2.trans e3)).ext (Ext.push _)
      have fin := slcS (prog := prog) (w := w) (A := A) (E := E) (Q := Q) (s := { s with heap := h3.push { cls := .type "slice", data := .fields #[vl, vu, .none] }, toks := t3 }) (al3.ext (Ext.push _)) ra ((r2.ext e3).ext (Ext.push _)) (r3.ext (Ext.push _)) (Heap.get?_push_size _ rfl) hk3
        fun v d h' tk e r hk => o v d h' tk (E4.trans ((Ext.push _).trans e)) r hk
      rcases slcK_ hk3 with ⟨y, rfl⟩ | ⟨y, rfl⟩
      · cases ra with | str x' t => exact tail_any (ops := [_, _]) (typeIs_str _ _ _) PySem.F.slot_str_getitem.lookup fin rfl
      · cases ra with | list g1 g2 g3 g4 r => exact tail_any (ops := [_, _]) ⟨_, g1, g3⟩ slot_list_getitem.lookup fin rfl
    · obtain ⟨a, ha, b, hb', rfl⟩ := som2 hc20
      clear hc20
      refine plainPair rfl rfl ?_
      intro k Q E h o
      refine Subscript_ ((S.e ha H).1 h fun va x h1 t1 e1 r1 hk1 => (S.e hb' (H.ext e1)).1 hk1 fun vb y h2 t2 e2 r2 hk2 => ?_)
      exact idxS (fun lo hi p e => by rw [e] at hns; cases hns) (r1.ext e2) r2 hk2 fun v d h' tk e r hk => o v d h' tk ((e1.trans e2).trans e) r hk
  | List es pos =>
    obtain ⟨q, hc23⟩ := iff_ (show (if es.all notStar = true then (cL g n sc tb nx es).bind fun ms => some (.lst ms) else none) = some m from hc)
    clear hc
    obtain ⟨ms, hms, rfl⟩ := som1 hc23
    clear hc23
    refine plainPair rfl rfl ?_
    intro k Q E h o
    refine wpAny_List_spliced (S.l hms q H h fun vs ds h' tk e r hk => ⟨?_, ?_⟩)
    · rw [r.length, sizeLine]; omega
    · exact o _ _ _ _ (e.trans (Ext.push _)) (Rp.newList (vs := vs.toArray) (H.al.ext e) r) hk.2
  | Tuple es kd pos =>
    obtain ⟨q, hc24⟩ := iff_ (show (if es.all notStar = true then (cL g n sc tb nx es).bind fun ms => some (.tup ms) else none) = some m from hc)
    clear hc
    obtain ⟨ms, hms, rfl⟩ := som1 hc24
    clear hc24
    refine plainPair rfl rfl ?_
    intro k Q E h o
    refine wpAny_Tuple_spliced (S.l hms q H h fun vs ds h' tk e r hk => ⟨?_, ?_⟩)
    · rw [r.length, sizeLine]; omega
    · exact o _ _ _ _ (e.trans (Ext.push _)) (Rp.newTuple (vs := vs.toArray) (H.al.ext e) r) hk.2
  | ListComp elt gens inner pos =>
    obtain ⟨⟨x, iter, ifs⟩, hg, hc25⟩ := bnd (show ((asGen gens).bind fun q => if (compOk g sc inner q.1 && notSet q.2.1) = true then
        (cE g n inner (inTb tb inner q.1 nx) (nx + 1) elt).bind fun a => (cR g n sc tb nx q.2.1).bind fun b => (cL g n inner (inTb tb inner q.1 nx) (nx + 1) q.2.2).bind fun c => some (.comp nx a b c) else none) = some m from hc)
    clear hc
    obtain ⟨p, rfl⟩ := asGen_ hg
    obtain ⟨q, hc26⟩ := iff_ hc25
    clear hc25
    obtain ⟨q1, q2⟩ := and_ q
    obtain ⟨me, hme, mi, hmi, mc, hmc, rfl⟩ := som3 hc26
    clear hc26
    refine plainPair rfl rfl ?_
    intro k Q E h o
    exact sndComp R SS H (compOk_of q1) hme hmi hmc q2 h o
  | _ => exact nop rfl hc

theorem noRng_some {r : Option MX} {m : MX} (h : noRng r = some m) : r = some m ∧ ∀ as, m ≠ .rng as := by
  cases r with
  | none => cases h
  | some q =>
    cases q <;> first | (cases h; exact ⟨rfl, fun _ e => nomatch e⟩) | cases h

theorem rangeCall_ {e : Expr} {as : List Expr} (h : rangeCall sc tb e = some as) : ∃ p pos, e = .Call (.Name (Str.ofString "range") p) as [] pos ∧ glob? sc tb (Str.ofString "range") = true ∧ as.all notStar = true ∧ as.length ≤ 3 := by
  obtain ⟨⟨fn, as', pos⟩, h1, f, h2, h⟩ := bnd2 h
  obtain ⟨q, h⟩ := iff_ h
  cases h
  obtain ⟨q, q4⟩ := and_ q
  obtain ⟨q, q3⟩ := and_ q
  obtain ⟨q1, q2⟩ := and_ q
  obtain rfl := asCall_ h1
  obtain ⟨p1, rfl⟩ := asName_ h2
  obtain rfl : f = Str.ofString "range" := beq_iff_eq.mp q1
  exact ⟨p1, pos, rfl, q2, q3, of_decide_eq_true q4⟩
theorem snd_r {n : Nat} (B : Base prog w K hb Sp g dep) (R : Room A dep) (S : Snd prog w hb Sp g A n) {e : Expr} {m : MX} (hc : cR g (n + 1) sc tb nx e = some m) (H : Here hb env sc tb nx v W s)
    {ik : List PyData → Prop} {Q : Value → Shared → Prop} (h : wpR Sp m v ik) (o : OutI prog w A s W ik Q) : wpAny (model prog w) A (eval e env) (fun xv s₁ => wpAny (model prog w) A (pyIter xv) Q E s₁) E s := by
  have plain : noRng (cE g n sc tb nx e) = some m → wpAny (model prog w) A (eval e env) (fun xv s₁ => wpAny (model prog w) A (pyIter xv) Q E s₁) E s := by
    intro q
    obtain ⟨q1, q2⟩ := noRng_some q
    have h : wpM Sp false m v fun d => itemsK d ik := by
      cases m <;> first | exact h | exact absurd rfl (q2 _)
    refine (S.e q1 H).1 h fun xv d h1 t1 e1 r1 hk1 => ?_
    exact iterS R.hh (H.al.ext e1) r1 hk1 fun I ds h' e hI iok hl hk => o I ds h' t1 (e1.trans e) (by
      cases q : s.heap.get? I with
      | none => rfl
      | some ob => have := e1 _ _ q; rw [show h1.get? I = none from hI] at this; cases this) iok hl hk
  rcases ite_ (show (if (rangeCall sc tb e).isSome = true then (rangeCall sc tb e).bind fun as => (cL g n sc tb nx as).bind fun ms => some (.rng ms) else noRng (cE g n sc tb nx e)) = some m from hc) with ⟨_, hc⟩ | ⟨_, hc⟩
  · obtain ⟨as, has, ms, hms, rfl⟩ := som2 hc
    obtain ⟨p, pos, rfl, q1, q2, q3⟩ := rangeCall_ has
    have h : wpL Sp ms v fun ds => rngK ds fun ns => ik (intsOf ns) := h
    obtain ⟨mg, mb, hm, hmb, hi, hbv, hfn⟩ := B.gl
    refine wpAny_Call_NameR (builtS H q1 hm hmb (hbv "range" (.type "range") (by rfl)).1 (hbv "range" (.type "range") (by rfl)).2 ?_)
    refine PyProof.Rows.callWith_type (star_plain q2) ?_
    refine argsS S hms q2 H h fun vs ds h1 t1 e1 r1 hk1 => ?_
    refine rngS (W := W) r1 hk1 fun Ra ns h2 t2 e2 hr hl hk2 => ?_
    refine iterR R.hh (H.al.ext (e1.trans e2)) hr fun I h' e hI iok => o I _ h' t2 ((e1.trans e2).trans e) (by
      cases q : s.heap.get? I with
      | none => rfl
      | some ob => have := (e1.trans e2) _ _ q; rw [show h2.get? I = none from hI] at this; cases this) iok (by rw [intsOf, List.length_map]; exact hl) hk2
  · exact plain hc

theorem snd_l {n : Nat} (S : Snd prog w hb Sp g A n) {es : List Expr} {ms : List MX} {pos : Pos} (hc : cL g (n + 1) sc tb nx es = some ms) (hs : es.all notStar = true) (H : Here hb env sc tb nx v W s)
    {k : List PyData → Prop} {Q : List Value → Shared → Prop} (h : wpL Sp ms v k) (o : OutL s W k Q) : wpAny (model prog w) A (spliced (backTo pos (starEach es env))) Q E s := by
  cases es with
  | nil =>
    have hc : (some [] : Option (List MX)) = some ms := hc
    cases hc; exact spliced_nil (o [] [] s.heap s.toks Ext.refl .nil h)
  | cons e r =>
    obtain ⟨m, hm, ms, hms, rfl⟩ := som2 (show ((cE g n sc tb nx e).bind fun m => (cL g n sc tb nx r).bind fun ms => some (m :: ms)) = some ms from hc)
    rw [List.all_cons, Bool.and_eq_true] at hs
    rw [starEach_cons hs.1]
    refine spliced_cons ((S.e hm H).1 h fun va d h1 t1 e1 r1 hk1 => S.l hms hs.2 (H.ext e1) hk1 fun vs ds h' tk e r hk => o _ _ h' tk (e1.trans e) (.cons (r1.ext e) r) hk)

theorem snd_all (B : Base prog w K hb Sp g dep) (R : Room A dep) : ∀ n, ∀ m, m ≤ n → Snd prog w hb Sp g A m := by
  intro n
  induction n with
  | zero =>
    intro m hm
    have : m = 0 := by omega
    subst this
    exact ⟨fun hc => nop rfl hc, fun hc => nop rfl hc, fun hc => nop rfl hc⟩
  | succ n ih =>
    intro m hm
    rcases Nat.lt_or_ge m (n + 1) with h | h
    · exact ih m (by omega)
    · have : m = n + 1 := by omega
      subst this
      exact ⟨fun hc H => snd_e B R ih hc H, fun hc H => fun h o => snd_r B R (ih n (Nat.le_refl n)) hc H h o, fun hc hs H => fun h o => snd_l (ih n (Nat.le_refl n)) hc hs H h o⟩
end
end Mine
end R8

section R9
open PySem PySem.W PyProof.Rows PySem.Calls PyProof.V PySem.Spec PySem.SeqAt
namespace Mine

theorem getS_setS : ∀ (ρ : Ev) (i j : Nat) (s : Slot), getS (setS ρ i s) j = if j = i then (if i < ρ.length then s else .un) else getS ρ j
  | [], i, j, s => by simp [setS, getS]
  | x :: r, 0, 0, s => by simp [setS, getS]
  | x :: r, 0, j + 1, s => by simp [setS, getS]
  | x :: r, i + 1, 0, s => by simp [setS, getS]
  | x :: r, i + 1, j + 1, s => by
    simp only [setS, getS, getS_setS r i j s, List.length_cons, Nat.add_lt_add_iff_right, Nat.add_right_cancel_iff]

structure FnOk (env : Env) (sc : Scope) (tb : List (Str × Nat)) (nx : Nat) : Prop where
  eo : EnvOk env sc tb nx
  scope : env.scope = sc
  names : ∀ x i, tb.lookup x = some i → sc.names.lookup x = some .local ∨ sc.names.lookup x = some .cell
  inj : ∀ x y i, tb.lookup x = some i → tb.lookup y = some i → x = y
  cinj : ∀ x y c, env.cells.lookup x = some c → env.cells.lookup y = some c → x = y
  lc : ∀ x c, env.cells.lookup x = some c → c ≠ env.locals

noncomputable def SeesM (m : Str → Option Value) (h : Heap) (env : Env) (x : Str) (v : Value) : Prop :=
  (env.kindOf x = some .local ∧ m x = some v) ∨ (env.kindOf x = some .cell ∧ ∃ c, env.cells.lookup x = some c ∧ h.IsCell c (some v))

/-- the addresses that an own variable owns: its list, and the lists in it that are owned too -/
noncomputable abbrev Ad := Nat → Addr × List Addr
noncomputable def Mine' (p : Addr × List Addr) (b : Addr) : Prop := b = p.1 ∨ b ∈ p.2
inductive OwnL (h : Heap) (W : Addr → Prop) : List Addr → List Value → List Elt → Prop
  | nil : OwnL h W [] [] []
  | flat {bs : List Addr} {v : Value} {vs : List Value} {d : PyData} {xs : List Elt} : Rp h W v d → OwnL h W bs vs xs → OwnL h W bs (v :: vs) (.flat d :: xs)
  | deep {b : Addr} {us : Array Value} {n : Nat} {es : List PyData} {bs : List Addr} {vs : List Value} {xs : List Elt} : h.get? b = some (PySem.W.listOf us n) → RpL h W us.toList es → b ∉ bs → OwnL h W bs vs xs → OwnL h W (b :: bs) (.ref b :: vs) (.deep es :: xs)
section
variable {h h' : Heap} {W W' : Addr → Prop} {bs : List Addr} {vs : List Value} {xs : List Elt} {ds : List PyData}
theorem OwnL.mono (tr : ∀ a o, h.get? a = some o → ¬ W a → h'.get? a = some o ∧ ¬ W' a) (o : OwnL h W bs vs xs) (k : ∀ b ∈ bs, ∀ ob, h.get? b = some ob → h'.get? b = some ob) : OwnL h' W' bs vs xs := by
  induction o with
  | nil => exact .nil
  | flat r _ ih => exact .flat (r.mono tr) (ih k)
  | deep q r n _ ih => exact .deep (k _ (.head _) _ q) (r.mono tr) n (ih fun b hb => k b (.tail _ hb))
theorem OwnL.ext (o : OwnL h W bs vs xs) (e : Ext h h') : OwnL h' W bs vs xs := o.mono (fun a ob q n => ⟨e a ob q, n⟩) fun b _ ob q => e b ob q
theorem OwnL.of_rp (r : RpL h W vs ds) : OwnL h W [] vs (ds.map Elt.flat) := by
  induction vs generalizing ds with
  | nil => cases r; exact .nil
  | cons v vs ih => cases r with | cons a b => exact .flat a (ih b)
theorem OwnL.to_rp (o : OwnL h W bs vs (ds.map Elt.flat)) : bs = [] ∧ RpL h W vs ds := by
  induction ds generalizing vs with
  | nil => cases o; exact ⟨rfl, .nil⟩
  | cons d ds ih => cases o with | flat r o => exact ⟨(ih o).1, .cons r (ih o).2⟩
theorem OwnL.rp (tr : ∀ a o, h.get? a = some o → ¬ W a → h'.get? a = some o ∧ ¬ W' a) (o : OwnL h W bs vs xs) (k : ∀ b ∈ bs, (∀ ob, h.get? b = some ob → h'.get? b = some ob) ∧ ¬ W' b) : RpL h' W' vs (xs.map Elt.dat) := by
  induction o with
  | nil => exact .nil
  | flat r _ ih => exact .cons (r.mono tr) (ih k)
  | deep q r n _ ih => exact .cons (.list ((k _ (.head _)).1 _ q) (k _ (.head _)).2 rfl rfl (r.mono tr)) (ih fun b hb => k b (.tail _ hb))
theorem OwnL.length (o : OwnL h W bs vs xs) : vs.length = xs.length := by
  induction o with
  | nil => rfl
  | flat _ _ ih => rw [List.length_cons, List.length_cons, ih]
  | deep _ _ _ _ ih => rw [List.length_cons, List.length_cons, ih]
theorem OwnL.alloc (o : OwnL h W bs vs xs) : ∀ b ∈ bs, ∃ ob, h.get? b = some ob := by
  induction o with
  | nil => exact fun _ q => by cases q
  | flat _ _ ih => exact ih
  | deep q _ _ _ ih =>
    intro b hb
    rcases List.mem_cons.mp hb with rfl | hb
    · exact ⟨_, q⟩
    · exact ih b hb
end
structure St (env : Env) (tb : List (Str × Nat)) (W₀ : Addr → Prop) (ρ : Ev) (ad : Ad) (W : Addr → Prop) (m : Str → Option Value) (h : Heap) : Prop where
  ns : h.Ns env.locals m
  cells : ∀ x c, env.cells.lookup x = some c → ∃ v, h.IsCell c v
  imm : ∀ x i d, tb.lookup x = some i → getS ρ i = .imm d → ∃ v, SeesM m h env x v ∧ Rp h W v d
  own : ∀ x i xs, tb.lookup x = some i → (getS ρ i).held = some xs → SeesM m h env x (.ref (ad i).1) ∧ (ad i).1 ∉ (ad i).2 ∧ ∃ vs n, h.get? (ad i).1 = some (PySem.W.listOf vs n) ∧ OwnL h W (ad i).2 vs.toList xs
  ownW : ∀ x i xs, tb.lookup x = some i → (getS ρ i).held = some xs → ∀ b, Mine' (ad i) b → W b ∧ ¬ W₀ b ∧ b ≠ env.locals ∧ (∀ y c, env.cells.lookup y = some c → b ≠ c)
  ownI : ∀ x i xs y j ys, tb.lookup x = some i → (getS ρ i).held = some xs → tb.lookup y = some j → (getS ρ j).held = some ys → i ≠ j → ∀ b, Mine' (ad i) b → ¬ Mine' (ad j) b
  sub : ∀ a, W₀ a → W a
  wl : W env.locals
  wc : ∀ x c, env.cells.lookup x = some c → W c
  al : Alloc W h

noncomputable def Wr (env : Env) (tb : List (Str × Nat)) (ρ : Ev) (ad : Ad) (b : Addr) : Prop :=
  b = env.locals ∨ (∃ x, env.cells.lookup x = some b) ∨ (∃ x i xs, tb.lookup x = some i ∧ (getS ρ i).held = some xs ∧ Mine' (ad i) b)

structure Step (env : Env) (tb : List (Str × Nat)) (ρ : Ev) (ad : Ad) (W : Addr → Prop) (h : Heap) (ρ' : Ev) (ad' : Ad) (W' : Addr → Prop) (h' : Heap) : Prop where
  live : ∀ b o, h.get? b = some o → ∃ o', h'.get? b = some o'
  wg : ∀ b, W' b → W b ∨ h.get? b = none
  keep : ∀ b o, h.get? b = some o → ¬ Wr env tb ρ ad b → h'.get? b = some o
  wr : ∀ b, Wr env tb ρ' ad' b → Wr env tb ρ ad b ∨ h.get? b = none

section
variable {prog : Program} {w : World} {K : Frag} {hb : Heap} {Sp : String → List PyData → PyData → Prop} {g : G} {dep : Nat} {A : Around} {env : Env} {sc : Scope} {tb : List (Str × Nat)} {nx : Nat}
  {s : Shared} {W W' W'' W₀ : Addr → Prop} {ρ ρ' ρ'' : Ev} {ad ad' ad'' : Ad} {m : Str → Option Value} {h h' h'' : Heap} {E : Value → Shared → Prop}

theorem dead_of_live {b : Addr} (l : ∀ b o, h.get? b = some o → ∃ o', h'.get? b = some o') (q : h'.get? b = none) : h.get? b = none := by
  cases e : h.get? b with
  | none => rfl
  | some o => obtain ⟨o', q'⟩ := l b o e; rw [q] at q'; cases q'
theorem Step.refl : Step env tb ρ ad W h ρ ad W h := ⟨fun _ o e => ⟨o, e⟩, fun _ w => .inl w, fun _ _ e _ => e, fun _ w => .inl w⟩
theorem Step.ext (e : Ext h h') : Step env tb ρ ad W h ρ ad W h' := ⟨fun b o q => ⟨o, e b o q⟩, fun _ w => .inl w, fun b o q _ => e b o q, fun _ w => .inl w⟩
theorem Step.trans (a : Step env tb ρ ad W h ρ' ad' W' h') (b : Step env tb ρ' ad' W' h' ρ'' ad'' W'' h'') : Step env tb ρ ad W h ρ'' ad'' W'' h'' where
  live := fun c o q => let ⟨o', q'⟩ := a.live c o q; b.live c o' q'
  wg := fun c w => (b.wg c w).elim (a.wg c) fun q => .inr (dead_of_live a.live q)
  keep := fun c o q n => b.keep c o (a.keep c o q n) fun w' => (a.wr c w').elim n fun q' => by rw [q] at q'; cases q'
  wr := fun c w => (b.wr c w).elim (a.wr c) fun q => .inr (dead_of_live a.live q)
theorem Step.of_ext (e : Ext h h') (b : Step env tb ρ ad W h' ρ'' ad'' W'' h'') : Step env tb ρ ad W h ρ'' ad'' W'' h'' := (Step.ext e).trans b

theorem SeesM.ext {x : Str} {v : Value} (S : SeesM m h env x v) (e : Ext h h') : SeesM m h' env x v :=
  S.imp id fun ⟨a, c, q, o, r⟩ => ⟨a, c, q, o, e _ _ r.1, r.2⟩
theorem SeesM.sees {x : Str} {v : Value} (S : SeesM m h env x v) (n : h.Ns env.locals m) : Sees h env x v :=
  S.imp (fun ⟨a, b⟩ => ⟨a, m, n, b⟩) fun ⟨a, b⟩ => ⟨.inl a, b⟩

theorem St.ext (S : St env tb W₀ ρ ad W m h) (e : Ext h h') : St env tb W₀ ρ ad W m h' where
  ns := S.ns.at' fun o => e _ o
  cells := fun x c q => let ⟨v, o, a, b⟩ := S.cells x c q; ⟨v, o, e _ _ a, b⟩
  imm := fun x i d a b => let ⟨v, p, q⟩ := S.imm x i d a b; ⟨v, p.ext e, q.ext e⟩
  own := fun x i xs a b => let ⟨p, z, vs, n, q, r⟩ := S.own x i xs a b; ⟨p.ext e, z, vs, n, e _ _ q, r.ext e⟩
  ownW := S.ownW
  ownI := S.ownI
  sub := S.sub
  wl := S.wl
  wc := S.wc
  al := S.al.ext e

theorem held_own {i : Nat} {ds : List PyData} (h : getS ρ i = .own ds) : (getS ρ i).held = some (ds.map Elt.flat) := by rw [h]; rfl
theorem held_deep {i : Nat} {xs : List Elt} (h : getS ρ i = .deep xs) : (getS ρ i).held = some xs := by rw [h]; rfl
theorem St.ownF {x : Str} {i : Nat} {ds : List PyData} (S : St env tb W₀ ρ ad W m h) (hx : tb.lookup x = some i) (hi : getS ρ i = .own ds) :
    SeesM m h env x (.ref (ad i).1) ∧ ∃ vs n, h.get? (ad i).1 = some (PySem.W.listOf vs n) ∧ RpL h W vs.toList ds := by
  obtain ⟨a, _, vs, n, b, c⟩ := S.own x i _ hx (held_own hi)
  exact ⟨a, vs, n, b, c.to_rp.2⟩

/-- the still part of a state, seen by expressions -/
theorem St.still (F : FnOk env sc tb nx) (S : St env tb W₀ ρ ad W m s.heap) (hbx : Ext hb s.heap) : Here hb env sc tb nx (stillV ρ) W s := by
  refine ⟨F.eo, fun x i hx d hd => ?_, hbx, S.al⟩
  unfold stillV Slot.still at hd
  split at hd
  · rename_i d' q
    cases hd
    obtain ⟨v, a, b⟩ := S.imm x i d hx q
    exact ⟨v, a.sees S.ns, b⟩
  · cases hd
theorem allV_held {i : Nat} {d : PyData} (h : allV ρ i = some d) : getS ρ i = .imm d ∨ ∃ xs, (getS ρ i).held = some xs ∧ d = .list (xs.map Elt.dat) := by
  unfold allV Slot.all at h
  split at h
  · cases h
  · rename_i d' q; cases h; exact .inl q
  · rename_i ds q
    cases h
    refine .inr ⟨_, held_own q, ?_⟩
    rw [List.map_map]
    exact congrArg PyData.list (List.map_id _).symm
  · rename_i xs q; cases h; exact .inr ⟨_, held_deep q, rfl⟩
theorem St.all (F : FnOk env sc tb nx) (S : St env tb W₀ ρ ad W m s.heap) (hbx : Ext hb s.heap) : Here hb env sc tb nx (allV ρ) W₀ s := by
  refine ⟨F.eo, fun x i hx d hd => ?_, hbx, fun a ha => S.al a (S.sub a ha)⟩
  have sb : ∀ a o, s.heap.get? a = some o → ¬ W a → s.heap.get? a = some o ∧ ¬ W₀ a := fun a o q n => ⟨q, fun h => n (S.sub a h)⟩
  rcases allV_held hd with q | ⟨xs, q, rfl⟩
  · obtain ⟨v, a, b⟩ := S.imm x i d hx q
    exact ⟨v, a.sees S.ns, b.mono sb⟩
  · obtain ⟨a, _, vs, n, b, c⟩ := S.own x i xs hx q
    have ww := S.ownW x i xs hx q
    exact ⟨_, a.sees S.ns, .list b (ww _ (.inl rfl)).2.1 rfl rfl (c.rp sb fun b hb => ⟨fun _ q => q, (ww b (.inr hb)).2.1⟩)⟩

/-- what a store leaves -/
structure Stored (env : Env) (m : Str → Option Value) (h : Heap) (x : Str) (v : Value) (m' : Str → Option Value) (h' : Heap) : Prop where
  ns : h'.Ns env.locals m'
  cells : ∀ y c, env.cells.lookup y = some c → ∃ v, h'.IsCell c v
  here : SeesM m' h' env x v
  there : ∀ y u, y ≠ x → SeesM m h env y u → SeesM m' h' env y u
  keep : ∀ b o, h.get? b = some o → b ≠ env.locals → (∀ y, env.cells.lookup y ≠ some b) → h'.get? b = some o
  live : ∀ b o, h.get? b = some o → ∃ o', h'.get? b = some o'

theorem storeS {x : Str} {i : Nat} {v : Value} {Q : Unit → Shared → Prop} (F : FnOk env sc tb nx) (S : St env tb W₀ ρ ad W m s.heap) (hx : tb.lookup x = some i)
    (k : ∀ m' h' tk, Stored env m s.heap x v m' h' → Q () { s with heap := h', toks := tk }) : wpAny (model prog w) A (storeName env x v) Q E s := by
  have hkind : env.kindOf x = some .local ∨ env.kindOf x = some .cell := by
    unfold Env.kindOf
    rw [F.scope]
    exact F.names x i hx
  have nl : (env.scope.kind == .class || (env.scope.kind == .module && env.locals != env.globals)) = false := by rw [F.eo.kind]; rfl
  rcases hkind with hl | hc
  · refine wpAny_storeName_local hl S.ns (fun h' hn hs => k (fun y => if y = x then some v else m y) h' _ ?_) nl
    refine ⟨hn, fun y c q => ?_, .inl ⟨hl, by simp⟩, fun y u hy hu => ?_, fun b o q hb _ => (hs.2 b hb).trans q, fun b o q => ?_⟩
    · obtain ⟨v, o, a, b⟩ := S.cells y c q
      exact ⟨v, o, (hs.2 c (F.lc y c q)).trans a, b⟩
    · rcases hu with ⟨a, b⟩ | ⟨a, c, b, o, d, e⟩
      · exact .inl ⟨a, by simp only [if_neg hy]; exact b⟩
      · exact .inr ⟨a, c, b, o, (hs.2 c (F.lc y c b)).trans d, e⟩
    · by_cases hb : b = env.locals
      · obtain ⟨o', _, _, q', _⟩ := hn
        exact ⟨o', hb ▸ q'⟩
      · exact ⟨o, (hs.2 b hb).trans q⟩
  · have hsc : sc.names.lookup x = some .cell := by
      have := hc
      unfold Env.kindOf at this
      rw [F.scope] at this
      exact this
    obtain ⟨c, hcl⟩ := F.eo.cells x (.inl hsc)
    obtain ⟨v₀, hcell⟩ := S.cells x c hcl
    refine wpAny_storeName_cell F.eo.kind hc hcl hcell fun h' hv hs => k m h' s.toks ?_
    refine ⟨S.ns.sameBut hs (Ne.symm (F.lc x c hcl)), fun y c' q => ?_, .inr ⟨hc, c, hcl, hv⟩, fun y u hy hu => ?_, fun b o q _ hb => (hs.2 b fun e => hb x (e ▸ hcl)).trans q, fun b o q => ?_⟩
    · by_cases e : c' = c
      · exact ⟨_, e ▸ hv⟩
      · obtain ⟨v, o, a, b⟩ := S.cells y c' q
        exact ⟨v, o, (hs.2 c' e).trans a, b⟩
    · rcases hu with ⟨a, b⟩ | ⟨a, c', b, o, d, e⟩
      · exact .inl ⟨a, b⟩
      · refine .inr ⟨a, c', b, o, (hs.2 c' fun q => hy (F.cinj y x c' b (q ▸ hcl))).trans d, e⟩
    · by_cases hb : b = c
      · obtain ⟨o', q', _⟩ := hv
        exact ⟨o', hb ▸ q'⟩
      · exact ⟨o, (hs.2 b hb).trans q⟩

theorem Stored.tr {x : Str} {v : Value} {m' : Str → Option Value} (T : Stored env m h x v m' h') (S : St env tb W₀ ρ ad W m h) :
    ∀ a o, h.get? a = some o → ¬ W a → h'.get? a = some o ∧ ¬ W a := fun a o q n => ⟨T.keep a o q (fun e => n (e ▸ S.wl)) (fun y e => n (S.wc y a e)), n⟩

theorem held_imm {i j : Nat} {d : PyData} {xs : List Elt} (hj : (getS (setS ρ i (.imm d)) j).held = some xs) : j ≠ i ∧ (getS ρ j).held = some xs := by
  rw [getS_setS] at hj
  by_cases e : j = i
  · rw [if_pos e] at hj; split at hj <;> cases hj
  · rw [if_neg e] at hj; exact ⟨e, hj⟩
theorem held_set {i j : Nat} {t : Slot} {xs ys : List Elt} (ht : t.held = some ys) (hj : (getS (setS ρ i t) j).held = some xs) : (j = i ∧ xs = ys) ∨ (j ≠ i ∧ (getS ρ j).held = some xs) := by
  rw [getS_setS] at hj
  by_cases e : j = i
  · rw [if_pos e] at hj
    split at hj
    · rw [ht] at hj; cases hj; exact .inl ⟨e, rfl⟩
    · cases hj
  · rw [if_neg e] at hj; exact .inr ⟨e, hj⟩
theorem imm_set {i j : Nat} {t : Slot} {d : PyData} {ys : List Elt} (ht : t.held = some ys) (hj : getS (setS ρ i t) j = .imm d) : j ≠ i ∧ getS ρ j = .imm d := by
  rw [getS_setS] at hj
  by_cases e : j = i
  · rw [if_pos e] at hj
    split at hj
    · rw [hj] at ht; cases ht
    · cases hj
  · rw [if_neg e] at hj; exact ⟨e, hj⟩

/-- a still datum stored -/
theorem St.putImm' {x : Str} {i : Nat} {v : Value} {d : PyData} {m' : Str → Option Value} (F : FnOk env sc tb nx) (S : St env tb W₀ ρ ad W m h) (hx : tb.lookup x = some i) (T : Stored env m h x v m' h') (r : Rp h' W v d) :
    St env tb W₀ (setS ρ i (.imm d)) ad W m' h' ∧ Step env tb ρ ad W h (setS ρ i (.imm d)) ad W h' := by
  refine ⟨⟨T.ns, T.cells, fun y j d' hy hj => ?_, fun y j xs hy hj => ?_, fun y j xs hy hj => S.ownW y j xs hy (held_imm hj).2, fun y j xs z l ys hy hj hz hl => S.ownI y j xs z l ys hy (held_imm hj).2 hz (held_imm hl).2, S.sub, S.wl, S.wc, fun a ha => ?_⟩, ⟨T.live, fun _ w => .inl w, fun b o q n => ?_, fun b hw => ?_⟩⟩
  · rw [getS_setS] at hj
    by_cases e : j = i
    · rw [if_pos e] at hj
      split at hj
      · cases hj
        rw [F.inj y x i (e ▸ hy) hx]
        exact ⟨v, T.here, r⟩
      · cases hj
    · rw [if_neg e] at hj
      obtain ⟨u, a, b⟩ := S.imm y j d' hy hj
      exact ⟨u, T.there y u (fun q => e (by rw [q, hx] at hy; cases hy; rfl)) a, b.mono (T.tr S)⟩
  · obtain ⟨e, hj⟩ := held_imm hj
    obtain ⟨a, z, vs, n, b, c⟩ := S.own y j xs hy hj
    have ww := S.ownW y j xs hy hj
    have kp : ∀ b, Mine' (ad j) b → ∀ o, h.get? b = some o → h'.get? b = some o := fun b hb o q => T.keep b o q (ww b hb).2.2.1 fun z q => (ww b hb).2.2.2 z _ q rfl
    exact ⟨T.there y _ (fun q => e (by rw [q, hx] at hy; cases hy; rfl)) a, z, vs, n, kp _ (.inl rfl) _ b, c.mono (T.tr S) fun b hb => kp b (.inr hb)⟩
  · obtain ⟨o, q⟩ := S.al a ha
    exact T.live a o q
  · exact T.keep b o q (fun e => n (.inl e)) (fun y e => n (.inr (.inl ⟨y, e⟩)))
  · rcases hw with e | e | ⟨y, j, xs, hy, hj, e⟩
    · exact .inl (.inl e)
    · exact .inl (.inr (.inl e))
    · exact .inl (.inr (.inr ⟨y, j, xs, hy, (held_imm hj).2, e⟩))

theorem St.putImm {x : Str} {i : Nat} {v : Value} {d : PyData} {m' : Str → Option Value} (F : FnOk env sc tb nx) (S : St env tb W₀ ρ ad W m h) (hx : tb.lookup x = some i) (T : Stored env m h x v m' h') (r : Rp h W v d) :
    St env tb W₀ (setS ρ i (.imm d)) ad W m' h' ∧ Step env tb ρ ad W h (setS ρ i (.imm d)) ad W h' :=
  S.putImm' F hx T (r.mono (T.tr S))

/-- own addresses laid anew at i -/
noncomputable abbrev adAt (ad : Ad) (i : Nat) (p : Addr × List Addr) : Ad := fun j => if j = i then p else ad j
theorem adAt_self {ad : Ad} {i : Nat} {p : Addr × List Addr} : adAt ad i p i = p := if_pos rfl
theorem adAt_ne {ad : Ad} {i j : Nat} {p : Addr × List Addr} (e : j ≠ i) : adAt ad i p j = ad j := if_neg e

/-- an own list stored: one that was made just now -/
theorem St.putHeld {x : Str} {i : Nat} {l : Addr} {bs : List Addr} {vs : Array Value} {n : Nat} {t : Slot} {xs : List Elt} {m' : Str → Option Value} {h₀ : Heap} (F : FnOk env sc tb nx) (S₀ : St env tb W₀ ρ ad W m h₀) (ex : Ext h₀ h) (hn₀ : ∀ b, Mine' (l, bs) b → h₀.get? b = none) (hlb : l ∉ bs) (ht : t.held = some xs) (hx : tb.lookup x = some i) (T : Stored env m h x (.ref l) m' h')
    (hl : h.get? l = some (PySem.W.listOf vs n)) (r : OwnL h (fun a => W a ∨ Mine' (l, bs) a) bs vs.toList xs) :
    St env tb W₀ (setS ρ i t) (adAt ad i (l, bs)) (fun a => W a ∨ Mine' (l, bs) a) m' h' ∧ Step env tb ρ ad W h₀ (setS ρ i t) (adAt ad i (l, bs)) (fun a => W a ∨ Mine' (l, bs) a) h' := by
  have S := S₀.ext ex
  have hnew : ∀ b, Mine' (l, bs) b → ¬ W b := fun b hb q => by obtain ⟨o, q'⟩ := S₀.al b q; rw [hn₀ b hb] at q'; cases q'
  have hlL : ∀ b, Mine' (l, bs) b → b ≠ env.locals := fun b hb e => hnew b hb (e ▸ S.wl)
  have hlC : ∀ b, Mine' (l, bs) b → ∀ y c, env.cells.lookup y = some c → b ≠ c := fun b hb y c q e => hnew b hb (e ▸ S.wc y c q)
  have tr : ∀ a o, h.get? a = some o → ¬ (W a ∨ Mine' (l, bs) a) → h'.get? a = some o ∧ ¬ (W a ∨ Mine' (l, bs) a) := fun a o q nn => ⟨(T.tr S a o q fun q => nn (.inl q)).1, nn⟩
  have fr : ∀ a o, h₀.get? a = some o → ¬ W a → h'.get? a = some o ∧ ¬ (W a ∨ Mine' (l, bs) a) := fun a o q nn =>
    have nn' : ¬ (W a ∨ Mine' (l, bs) a) := fun e => e.elim nn fun e => by rw [hn₀ a e] at q; cases q
    tr a o (ex a o q) nn'
  have kp : ∀ b, Mine' (l, bs) b → ∀ o, h.get? b = some o → h'.get? b = some o := fun b hb o q => T.keep b o q (hlL b hb) fun z q => hlC b hb z _ q rfl
  have old := @held_set ρ i
  refine ⟨⟨T.ns, T.cells, fun y j d' hy hj => ?_, fun y j es hy hj => ?_, fun y j es hy hj b hb => ?_, fun y j es z k fs hy hj hz hk e b hb1 hb2 => ?_, fun a ha => .inl (S.sub a ha), .inl S.wl, fun y c q => .inl (S.wc y c q), fun a ha => ?_⟩, ⟨fun b o q => T.live b o (ex b o q), fun b w => w.imp id (hn₀ b), fun b o q nn => ?_, fun b hw => ?_⟩⟩
  · obtain ⟨e, hj⟩ := imm_set ht hj
    obtain ⟨u, a, b⟩ := S₀.imm y j d' hy hj
    exact ⟨u, T.there y u (fun q => e (by rw [q, hx] at hy; cases hy; rfl)) (a.ext ex), b.mono fr⟩
  · rcases old ht hj with ⟨rfl, rfl⟩ | ⟨e, hj⟩
    · rw [F.inj y x j hy hx, adAt_self]
      exact ⟨T.here, hlb, vs, n, kp _ (.inl rfl) _ hl, r.mono tr fun b hb => kp b (.inr hb)⟩
    · rw [adAt_ne e]
      obtain ⟨a, z, us, k, b, c⟩ := S₀.own y j es hy hj
      have ww := S₀.ownW y j es hy hj
      have kq : ∀ b, Mine' (ad j) b → ∀ o, h₀.get? b = some o → h'.get? b = some o := fun b hb o q => T.keep b o (ex b o q) (ww b hb).2.2.1 fun z q => (ww b hb).2.2.2 z _ q rfl
      exact ⟨T.there y _ (fun q => e (by rw [q, hx] at hy; cases hy; rfl)) (a.ext ex), z, us, k, kq _ (.inl rfl) _ b, c.mono fr fun b hb => kq b (.inr hb)⟩
  · rcases old ht hj with ⟨rfl, rfl⟩ | ⟨e, hj⟩
    · rw [adAt_self] at hb
      exact ⟨.inr hb, fun q => hnew b hb (S.sub _ q), hlL b hb, hlC b hb⟩
    · rw [adAt_ne e] at hb
      obtain ⟨w1, w2, w3, w4⟩ := S.ownW y j es hy hj b hb
      exact ⟨.inl w1, w2, w3, w4⟩
  · rcases old ht hj with ⟨rfl, rfl⟩ | ⟨e1, hj1⟩ <;> rcases old ht hk with ⟨rfl, rfl⟩ | ⟨e2, hk1⟩
    · exact e rfl
    · rw [adAt_self] at hb1; rw [adAt_ne e2] at hb2
      exact hnew b hb1 (S.ownW z k fs hz hk1 b hb2).1
    · rw [adAt_self] at hb2; rw [adAt_ne e1] at hb1
      exact hnew b hb2 (S.ownW y j es hy hj1 b hb1).1
    · rw [adAt_ne e1] at hb1; rw [adAt_ne e2] at hb2
      exact S.ownI y j es z k fs hy hj1 hz hk1 e b hb1 hb2
  · rcases ha with ha | ha | ha
    · obtain ⟨o, q⟩ := S.al a ha
      exact T.live a o q
    · have ha : a = l := ha
      exact T.live _ _ (ha ▸ hl)
    · obtain ⟨o, q⟩ := r.alloc a ha
      exact T.live _ _ q
  · exact T.keep b o (ex b o q) (fun e => nn (.inl e)) (fun y e => nn (.inr (.inl ⟨y, e⟩)))
  · rcases hw with e | e | ⟨y, j, es, hy, hj, e⟩
    · exact .inl (.inl e)
    · exact .inl (.inr (.inl e))
    · rcases old ht hj with ⟨rfl, rfl⟩ | ⟨e1, hj⟩
      · rw [adAt_self] at e
        exact .inr (hn₀ b e)
      · rw [adAt_ne e1] at e
        exact .inl (.inr (.inr ⟨y, j, es, hy, hj, e⟩))
theorem St.putOwn {x : Str} {i : Nat} {l : Addr} {vs : Array Value} {n : Nat} {ds : List PyData} {m' : Str → Option Value} {h₀ : Heap} (F : FnOk env sc tb nx) (S₀ : St env tb W₀ ρ ad W m h₀) (ex : Ext h₀ h) (hn₀ : h₀.get? l = none) (hx : tb.lookup x = some i) (T : Stored env m h x (.ref l) m' h')
    (hl : h.get? l = some (PySem.W.listOf vs n)) (r : RpL h (fun a => W a ∨ a = l) vs.toList ds) :
    St env tb W₀ (setS ρ i (.own ds)) (adAt ad i (l, [])) (fun a => W a ∨ Mine' (l, []) a) m' h' ∧ Step env tb ρ ad W h₀ (setS ρ i (.own ds)) (adAt ad i (l, [])) (fun a => W a ∨ Mine' (l, []) a) h' :=
  S₀.putHeld F ex (fun b hb => hb.elim (fun e => e ▸ hn₀) fun e => by cases e) (fun e => by cases e) rfl hx T hl (.of_rp (r.mono fun a o q nn => ⟨q, fun e => nn (e.imp id fun e => e.elim id fun e => by cases e)⟩))

/-- an own list changed where it lies -/
theorem St.turn {x : Str} {i : Nat} {t : Slot} {xs ys : List Elt} {bs : List Addr} {vs : Array Value} {n : Nat} {h₀ : Heap} (F : FnOk env sc tb nx) (S₀ : St env tb W₀ ρ ad W m h₀) (ex : Ext h₀ h) (hx : tb.lookup x = some i) (hi : (getS ρ i).held = some xs) (ht : t.held = some ys)
    (hs : ∀ b o, h.get? b = some o → ¬ Mine' (ad i) b → h'.get? b = some o) (live : ∀ b o, h.get? b = some o → ∃ o', h'.get? b = some o') (hbs : ∀ b ∈ bs, b ∈ (ad i).2 ∨ h₀.get? b = none) (hbn : (ad i).1 ∉ bs)
    (hl : h'.get? (ad i).1 = some (PySem.W.listOf vs n)) (r : OwnL h' (fun a => (W a ∧ a ∉ (ad i).2) ∨ a ∈ bs) bs vs.toList ys) :
    St env tb W₀ (setS ρ i t) (adAt ad i ((ad i).1, bs)) (fun a => (W a ∧ a ∉ (ad i).2) ∨ a ∈ bs) m h' ∧ Step env tb ρ ad W h₀ (setS ρ i t) (adAt ad i ((ad i).1, bs)) (fun a => (W a ∧ a ∉ (ad i).2) ∨ a ∈ bs) h' := by
  have ww := S₀.ownW x i xs hx hi
  have hmn := (S₀.own x i xs hx hi).2.1
  have wn : ∀ b, h₀.get? b = none → ¬ W b := fun b hb q => by obtain ⟨o, q'⟩ := S₀.al b q; rw [hb] at q'; cases q'
  have up : ∀ b o, h₀.get? b = some o → ¬ Mine' (ad i) b → h'.get? b = some o := fun b o q nn => hs b o (ex b o q) nn
  have tr : ∀ a o, h₀.get? a = some o → ¬ W a → h'.get? a = some o ∧ ¬ ((W a ∧ a ∉ (ad i).2) ∨ a ∈ bs) := fun a o q nn => ⟨up a o q fun e => nn (ww a e).1, fun e => e.elim (fun e => nn e.1) fun e => (hbs a e).elim (fun e => nn (ww a (.inr e)).1) fun e => by rw [e] at q; cases q⟩
  have mw : ∀ b, Mine' ((ad i).1, bs) b → Mine' (ad i) b ∨ h₀.get? b = none := fun b hb => hb.elim (fun e => .inl (.inl e)) fun e => (hbs b e).imp .inr id
  have outW : ∀ b, W b → b ∉ (ad i).2 → ((W b ∧ b ∉ (ad i).2) ∨ b ∈ bs) := fun b p q => .inl ⟨p, q⟩
  have nL : env.locals ∉ (ad i).2 := fun e => (ww _ (.inr e)).2.2.1 rfl
  have nC : ∀ y c, env.cells.lookup y = some c → c ∉ (ad i).2 := fun y c q e => (ww _ (.inr e)).2.2.2 y c q rfl
  have sees : ∀ y u, SeesM m h₀ env y u → SeesM m h' env y u := by
    rintro y u (a | ⟨a, c, b, o, d, e⟩)
    · exact .inl a
    · exact .inr ⟨a, c, b, o, up c o d fun q => (ww c q).2.2.2 y c b rfl, e⟩
  have old := @held_set ρ i
  refine ⟨⟨?_, fun y c q => ?_, fun y j d' hy hj => ?_, fun y j es hy hj => ?_, fun y j es hy hj b hb => ?_, fun y j es z k fs hy hj hz hk e b hb1 hb2 => ?_, fun a ha => outW a (S₀.sub a ha) fun e => (ww a (.inr e)).2.1 ha, outW _ S₀.wl nL, fun y c q => outW c (S₀.wc y c q) (nC y c q), fun a ha => ?_⟩, ⟨fun b o q => live b o (ex b o q), fun b w => ?_, fun b o q nn => ?_, fun b hw => ?_⟩⟩
  · exact S₀.ns.at' fun o q => up _ o q fun e => (ww _ e).2.2.1 rfl
  · obtain ⟨v, o, a, b⟩ := S₀.cells y c q
    exact ⟨v, o, up c o a fun e => (ww c e).2.2.2 y c q rfl, b⟩
  · obtain ⟨e, hj⟩ := imm_set ht hj
    obtain ⟨u, a, b⟩ := S₀.imm y j d' hy hj
    exact ⟨u, sees y u a, b.mono tr⟩
  · rcases old ht hj with ⟨rfl, rfl⟩ | ⟨e, hj⟩
    · rw [adAt_self]
      exact ⟨sees y _ (S₀.own y j xs hy hi).1, hbn, vs, n, hl, r⟩
    · rw [adAt_ne e]
      obtain ⟨a, z, us, k, b, c⟩ := S₀.own y j es hy hj
      have kq : ∀ b, Mine' (ad j) b → ∀ o, h₀.get? b = some o → h'.get? b = some o := fun b hb o q => up b o q (S₀.ownI y j es x i xs hy hj hx hi e b hb)
      exact ⟨sees y _ a, z, us, k, kq _ (.inl rfl) _ b, c.mono tr fun b hb => kq b (.inr hb)⟩
  · rcases old ht hj with ⟨rfl, rfl⟩ | ⟨e, hj⟩
    · rw [adAt_self] at hb
      rcases hb with hb | hb
      · obtain ⟨w1, w2, w3, w4⟩ := ww b (.inl hb)
        exact ⟨.inl ⟨w1, fun q => hmn (by have hb : b = (ad j).1 := hb; rw [← hb]; exact q)⟩, w2, w3, w4⟩
      · rcases hbs b hb with q | q
        · obtain ⟨w1, w2, w3, w4⟩ := ww b (.inr q)
          exact ⟨.inr hb, w2, w3, w4⟩
        · exact ⟨.inr hb, fun e => wn b q (S₀.sub b e), fun e => wn b q (e ▸ S₀.wl), fun y c q2 e => wn b q (e ▸ S₀.wc y c q2)⟩
    · rw [adAt_ne e] at hb
      obtain ⟨w1, w2, w3, w4⟩ := S₀.ownW y j es hy hj b hb
      exact ⟨outW b w1 fun q => S₀.ownI y j es x i xs hy hj hx hi e b hb (.inr q), w2, w3, w4⟩
  · rcases old ht hj with ⟨rfl, rfl⟩ | ⟨e1, hj1⟩ <;> rcases old ht hk with ⟨rfl, rfl⟩ | ⟨e2, hk1⟩
    · exact e rfl
    · rw [adAt_self] at hb1; rw [adAt_ne e2] at hb2
      rcases mw b hb1 with q | q
      · exact S₀.ownI x j xs z k fs hx hi hz hk1 e b q hb2
      · exact wn b q (S₀.ownW z k fs hz hk1 b hb2).1
    · rw [adAt_self] at hb2; rw [adAt_ne e1] at hb1
      rcases mw b hb2 with q | q
      · exact S₀.ownI y j es x k xs hy hj1 hx hi e b hb1 q
      · exact wn b q (S₀.ownW y j es hy hj1 b hb1).1
    · rw [adAt_ne e1] at hb1; rw [adAt_ne e2] at hb2
      exact S₀.ownI y j es z k fs hy hj1 hz hk1 e b hb1 hb2
  · rcases ha with ha | ha
    · obtain ⟨o, q⟩ := S₀.al a ha.1
      exact live a o (ex a o q)
    · exact r.alloc a ha
  · rcases w with w | w
    · exact .inl w.1
    · exact (hbs b w).imp (fun e => (ww b (.inr e)).1) id
  · exact up b o q fun e => nn (.inr (.inr ⟨x, i, xs, hx, hi, e⟩))
  · rcases hw with e | e | ⟨y, j, es, hy, hj, e⟩
    · exact .inl (.inl e)
    · exact .inl (.inr (.inl e))
    · rcases old ht hj with ⟨rfl, rfl⟩ | ⟨e1, hj⟩
      · rw [adAt_self] at e
        exact (mw b e).imp (fun q => .inr (.inr ⟨x, j, xs, hx, hi, q⟩)) id
      · rw [adAt_ne e1] at e
        exact .inl (.inr (.inr ⟨y, j, es, hy, hj, e⟩))
theorem St.turnOwn {x : Str} {i : Nat} {ds ds' : List PyData} {vs : Array Value} {n : Nat} (F : FnOk env sc tb nx) (S : St env tb W₀ ρ ad W m h) (hx : tb.lookup x = some i) (hi : getS ρ i = .own ds)
    (hs : ∀ b o, h.get? b = some o → b ≠ (ad i).1 → h'.get? b = some o) (hl : h'.get? (ad i).1 = some (PySem.W.listOf vs n)) (r : RpL h W vs.toList ds') :
    ∃ ad' W', St env tb W₀ (setS ρ i (.own ds')) ad' W' m h' ∧ Step env tb ρ ad W h (setS ρ i (.own ds')) ad' W' h' ∧ (ad' i).1 = (ad i).1 := by
  have ww := S.ownW x i _ hx (held_own hi)
  obtain ⟨_, _, _, _, _, c⟩ := S.own x i _ hx (held_own hi)
  have hz := c.to_rp.1
  have := S.turn (h := h) (t := .own ds') (bs := []) F Ext.refl hx (held_own hi) rfl (fun b o q nn => hs b o q fun e => nn (.inl e)) (fun b o q => ?_) (fun b hb => by cases hb) (fun e => by cases e) hl (.of_rp (r.mono fun a o q nn => ⟨hs a o q fun e => nn (ww a (.inl e)).1, fun e => e.elim (fun e => nn e.1) fun e => by cases e⟩))
  · exact ⟨_, _, this.1, this.2, by rw [adAt_self]⟩
  · by_cases e : b = (ad i).1
    · exact ⟨_, e ▸ hl⟩
    · exact ⟨o, hs b o q e⟩

/-- an own list turned still -/
theorem St.freeze {i : Nat} {xs : List Elt} {x : Str} (F : FnOk env sc tb nx) (S : St env tb W₀ ρ ad W m h) (hx : tb.lookup x = some i) (hi : (getS ρ i).held = some xs) :
    St env tb W₀ (setS ρ i (.imm (.list (xs.map Elt.dat)))) ad (fun a => W a ∧ ¬ Mine' (ad i) a) m h ∧ Step env tb ρ ad W h (setS ρ i (.imm (.list (xs.map Elt.dat)))) ad (fun a => W a ∧ ¬ Mine' (ad i) a) h := by
  have ww := S.ownW x i xs hx hi
  have tr : ∀ a o, h.get? a = some o → ¬ W a → h.get? a = some o ∧ ¬ (W a ∧ ¬ Mine' (ad i) a) := fun a o q nn => ⟨q, fun e => nn e.1⟩
  refine ⟨⟨S.ns, S.cells, fun y j d' hy hj => ?_, fun y j es hy hj => ?_, fun y j es hy hj b hb => ?_, fun y j es z k fs hy hj hz hk => S.ownI y j es z k fs hy (held_imm hj).2 hz (held_imm hk).2, fun a ha => ⟨S.sub a ha, fun e => (ww a e).2.1 ha⟩, ⟨S.wl, fun e => (ww _ e).2.2.1 rfl⟩, fun y c q => ⟨S.wc y c q, fun e => (ww c e).2.2.2 y c q rfl⟩, fun a ha => S.al a ha.1⟩, ⟨fun _ o q => ⟨o, q⟩, fun _ w => .inl w.1, fun b o q _ => q, fun b hw => ?_⟩⟩
  · rw [getS_setS] at hj
    by_cases e : j = i
    · rw [if_pos e] at hj
      split at hj
      · cases hj
        subst e
        rw [F.inj y x j hy hx]
        obtain ⟨a, _, vs, n, b, c⟩ := S.own x j xs hx hi
        exact ⟨_, a, .list b (fun q => q.2 (.inl rfl)) rfl rfl (c.rp tr fun b hb => ⟨fun _ q => q, fun q => q.2 (.inr hb)⟩)⟩
      · cases hj
    · rw [if_neg e] at hj
      obtain ⟨u, a, b⟩ := S.imm y j d' hy hj
      exact ⟨u, a, b.mono tr⟩
  · obtain ⟨e, hj⟩ := held_imm hj
    obtain ⟨a, z, vs, n, b, c⟩ := S.own y j es hy hj
    exact ⟨a, z, vs, n, b, c.mono tr fun _ _ _ q => q⟩
  · obtain ⟨e, hj⟩ := held_imm hj
    obtain ⟨v1, v2, v3, v4⟩ := S.ownW y j es hy hj b hb
    exact ⟨⟨v1, fun q => S.ownI y j es x i xs hy hj hx hi e b hb q⟩, v2, v3, v4⟩
  · rcases hw with e | e | ⟨y, j, es, hy, hj, e⟩
    · exact .inl (.inl e)
    · exact .inl (.inr (.inl e))
    · exact .inl (.inr (.inr ⟨y, j, es, hy, (held_imm hj).2, e⟩))

/-- the own list's name stored again -/
theorem St.restore {x : Str} {i : Nat} {xs : List Elt} {m' : Str → Option Value} (S : St env tb W₀ ρ ad W m h) (F : FnOk env sc tb nx) (hx : tb.lookup x = some i) (hi : (getS ρ i).held = some xs) (T : Stored env m h x (.ref (ad i).1) m' h') :
    St env tb W₀ ρ ad W m' h' ∧ Step env tb ρ ad W h ρ ad W h' := by
  have sees : ∀ y j u, tb.lookup y = some j → j ≠ i → SeesM m h env y u → SeesM m' h' env y u := fun y j u hy e a => T.there y u (fun q => e (by rw [q, hx] at hy; cases hy; rfl)) a
  refine ⟨⟨T.ns, T.cells, fun y j d' hy hj => ?_, fun y j es hy hj => ?_, S.ownW, S.ownI, S.sub, S.wl, S.wc, fun a ha => ?_⟩, ⟨T.live, fun _ w => .inl w, fun b o q n => T.keep b o q (fun e => n (.inl e)) (fun y e => n (.inr (.inl ⟨y, e⟩))), fun b hw => .inl hw⟩⟩
  · obtain ⟨u, a, b⟩ := S.imm y j d' hy hj
    exact ⟨u, sees y j u hy (fun e => by rw [e] at hj; rw [hj] at hi; cases hi) a, b.mono (T.tr S)⟩
  · obtain ⟨a, z, us, k, b, c⟩ := S.own y j es hy hj
    have ww := S.ownW y j es hy hj
    have kp : ∀ b, Mine' (ad j) b → ∀ o, h.get? b = some o → h'.get? b = some o := fun b hb o q => T.keep b o q (ww b hb).2.2.1 fun z q => (ww b hb).2.2.2 z _ q rfl
    refine ⟨?_, z, us, k, kp _ (.inl rfl) _ b, c.mono (T.tr S) fun b hb => kp b (.inr hb)⟩
    by_cases e : j = i
    · subst e
      rw [F.inj y x j hy hx]
      exact T.here
    · exact sees y j _ hy e a
  · obtain ⟨o, q⟩ := S.al a ha
    exact T.live a o q

theorem St.lock {I : Addr} (S : St env tb W₀ ρ ad W m h) (ex : Ext h h') (hI : h.get? I = none) (hl : ∃ o, h'.get? I = some o) : St env tb (fun a => W₀ a ∨ a = I) ρ ad (fun a => W a ∨ a = I) m h' := by
  have tr : ∀ a o, h.get? a = some o → ¬ W a → h'.get? a = some o ∧ ¬ (W a ∨ a = I) := fun a o q n => ⟨ex a o q, fun e => e.elim n fun e => by rw [e, hI] at q; cases q⟩
  have S' := S.ext ex
  refine ⟨S'.ns, S'.cells, fun x i d a b => ?_, fun x i xs a b => ?_, fun x i xs a b c hc => ?_, S.ownI, fun a ha => ha.imp (S.sub a) id, .inl S.wl, fun x c q => .inl (S.wc x c q), fun a ha => ?_⟩
  · obtain ⟨v, p, q⟩ := S.imm x i d a b
    exact ⟨v, p.ext ex, q.mono tr⟩
  · obtain ⟨p, z, vs, n, q, r⟩ := S.own x i xs a b
    exact ⟨p.ext ex, z, vs, n, ex _ _ q, r.mono tr fun b _ ob q => ex b ob q⟩
  · obtain ⟨w1, w2, w3, w4⟩ := S.ownW x i xs a b c hc
    refine ⟨.inl w1, fun e => e.elim w2 fun e => ?_, w3, w4⟩
    obtain ⟨o, q⟩ := S.al c w1
    rw [e, hI] at q; cases q
  · rcases ha with ha | rfl
    · exact S'.al a ha
    · exact hl

/-- an iterator moved: nothing else -/
theorem St.moved {I : Addr} (S : St env tb W₀ ρ ad W m h) (hI : W₀ I) (hL : env.locals ≠ I) (hC : ∀ x c, env.cells.lookup x = some c → c ≠ I) (mv : ∀ b o, b ≠ I → h.get? b = some o → h'.get? b = some o) (hl : ∃ o, h'.get? I = some o) :
    St env tb W₀ ρ ad W m h' := by
  have tr : ∀ a o, h.get? a = some o → ¬ W a → h'.get? a = some o ∧ ¬ W a := fun a o q n => ⟨mv a o (fun e => n (e ▸ S.sub I hI)) q, n⟩
  have sees : ∀ y u, SeesM m h env y u → SeesM m h' env y u := by
    rintro y u (a | ⟨a, c, b, o, d, e⟩)
    · exact .inl a
    · exact .inr ⟨a, c, b, o, mv c o (hC y c b) d, e⟩
  refine ⟨S.ns.at' fun o => mv _ o hL, fun x c q => ?_, fun x i d a b => ?_, fun x i xs a b => ?_, S.ownW, S.ownI, S.sub, S.wl, S.wc, fun a ha => ?_⟩
  · obtain ⟨v, o, a, b⟩ := S.cells x c q
    exact ⟨v, o, mv c o (hC x c q) a, b⟩
  · obtain ⟨v, p, q⟩ := S.imm x i d a b
    exact ⟨v, sees x v p, q.mono tr⟩
  · obtain ⟨p, z, vs, n, q, r⟩ := S.own x i xs a b
    have ww := S.ownW x i xs a b
    have kp : ∀ b, Mine' (ad i) b → ∀ o, h.get? b = some o → h'.get? b = some o := fun b hb o q => mv b o (fun e => (ww b hb).2.1 (e ▸ hI)) q
    exact ⟨sees x _ p, z, vs, n, kp _ (.inl rfl) _ q, r.mono tr fun b hb => kp b (.inr hb)⟩
  · by_cases e : a = I
    · exact e ▸ hl
    · obtain ⟨o, q⟩ := S.al a ha
      exact ⟨o, mv a o e q⟩

theorem St.wrW {b : Addr} (S : St env tb W₀ ρ ad W m h) (hw : Wr env tb ρ ad b) : W b := by
  rcases hw with e | ⟨x, e⟩ | ⟨x, i, xs, a, c, e⟩
  · exact e ▸ S.wl
  · exact S.wc x b e
  · exact (S.ownW x i xs a c b e).1

/-- what stands below all frames -/
structure BaseAt (hb : Heap) (env : Env) (tb : List (Str × Nat)) (ρ : Ev) (ad : Ad) (h : Heap) : Prop where
  ext : Ext hb h
  off : ∀ b, Wr env tb ρ ad b → hb.get? b = none
theorem BaseAt.step (B : BaseAt hb env tb ρ ad h) (T : Step env tb ρ ad W h ρ' ad' W' h') : BaseAt hb env tb ρ' ad' h' where
  ext := fun b o q => T.keep b o (B.ext b o q) fun w => by rw [B.off b w] at q; cases q
  off := fun b w => (T.wr b w).elim (B.off b) fun q => by
    cases e : hb.get? b with
    | none => rfl
    | some o => rw [B.ext b o e] at q; cases q
end
end Mine
end R9

section R10
open PySem PySem.W PyProof.Rows PySem.Calls PyProof.V PySem.Spec PySem.SeqAt
namespace Mine
section
variable {prog : Program} {w : World} {K : Frag} {hb : Heap} {Sp : String → List PyData → PyData → Prop} {g : G} {dep : Nat} {A : Around} {env : Env} {sc : Scope} {tb : List (Str × Nat)} {nx : Nat}
  {s : Shared} {W W' W'' W₀ : Addr → Prop} {ρ ρ' ρ'' : Ev} {ad ad' ad'' : Ad} {m : Str → Option Value} {h h' h'' : Heap} {E : Value → Shared → Prop}

abbrev NextP (env : Env) (tb : List (Str × Nat)) (W₀ : Addr → Prop) (s : Shared) (ρ : Ev) (ad : Ad) (W : Addr → Prop) (kn : Ev → Prop) (Q : Flow → Shared → Prop) : Prop :=
  ∀ ρ' ad' W' m' h' tk, Step env tb ρ ad W s.heap ρ' ad' W' h' → St env tb W₀ ρ' ad' W' m' h' → kn ρ' → Q .next { s with heap := h', toks := tk }
abbrev RetP (env : Env) (tb : List (Str × Nat)) (W₀ : Addr → Prop) (s : Shared) (ρ : Ev) (ad : Ad) (kr : PyData → Prop) (Q : Flow → Shared → Prop) : Prop :=
  ∀ v d h' tk, (∀ b o, s.heap.get? b = some o → ¬ Wr env tb ρ ad b → h'.get? b = some o) → Rp h' W₀ v d → kr d → Q (.ret v) { s with heap := h', toks := tk }

theorem NextP.ext {kn : Ev → Prop} {Q : Flow → Shared → Prop} (k : NextP env tb W₀ s ρ ad W kn Q) {h' : Heap} {tk : Nat} (e : Ext s.heap h') : NextP env tb W₀ { s with heap := h', toks := tk } ρ ad W kn Q :=
  fun ρ' ad' W' m' h'' tk' T S q => k ρ' ad' W' m' h'' tk' (.of_ext e T) S q
theorem RetP.ext {kr : PyData → Prop} {Q : Flow → Shared → Prop} (k : RetP env tb W₀ s ρ ad kr Q) {h' : Heap} {tk : Nat} (e : Ext s.heap h') : RetP env tb W₀ { s with heap := h', toks := tk } ρ ad kr Q :=
  fun v d h'' tk' T r q => k v d h'' tk' (fun b o x n => T b o (e b o x) n) r q

/-- the frame of a def, at a statement -/
structure Fn (prog : Program) (w : World) (K : Frag) (hb : Heap) (Sp : String → List PyData → PyData → Prop) (g : G) (dep : Nat) (A : Around) (env : Env) (sc : Scope) (tb : List (Str × Nat)) (nx : Nat) : Prop where
  B : Base prog w K hb Sp g dep
  R : Room A dep
  F : FnOk env sc tb nx

theorem Fn.snd (X : Fn prog w K hb Sp g dep A env sc tb nx) (n : Nat) : Snd prog w hb Sp g A n := snd_all X.B X.R n n (Nat.le_refl n)

theorem putImmS {x : Str} {i : Nat} {v : Value} {d : PyData} {kn : Ev → Prop} {Q : Flow → Shared → Prop} (F : FnOk env sc tb nx) (S : St env tb W₀ ρ ad W m s.heap) (hx : tb.lookup x = some i) (r : Rp s.heap W v d) (k : NextP env tb W₀ s ρ ad W kn Q) (hk : kn (setS ρ i (.imm d))) :
    wpAny (model prog w) A (storeName env x v) (fun _ => Q .next) E s :=
  storeS F S hx fun m' h' tk T => let ⟨a, b⟩ := S.putImm F hx T r; k _ _ _ m' h' tk b a hk

theorem swapsNo {e : Expr} (h : notComp e = true) (t : Option Expr) (l : Nat) : swapsWith e t l env = pure false := by
  cases e <;> first | rfl | (cases h; done)
theorem swapsSub (e o i : Expr) (p : Pos) (l : Nat) : swapsWith e (some (.Subscript o i p)) l env = pure false := by
  cases e <;> rfl

theorem Fn.kindOf (X : Fn prog w K hb Sp g dep A env sc tb nx) {x : Str} {i : Nat} (hx : tb.lookup x = some i) : env.kindOf x = some .local ∨ env.kindOf x = some .cell := by
  unfold Env.kindOf
  rw [X.F.scope]
  exact X.F.names x i hx

/-- a def's name read: by statement -/
theorem loadS {x : Str} {v : Value} {Q : Value → Shared → Prop} (hk : env.scope.kind = .function) (S : SeesM m s.heap env x v) (n : s.heap.Ns env.locals m) (h : Q v s) : wpAny (model prog w) A (loadName env x) Q E s := by
  rcases S with ⟨hl, hm⟩ | ⟨hl, c, hcl, hcell⟩
  · exact wpAny_loadName_local hk hl n hm h
  · exact wpAny_loadName_cell hk hl hcl hcell h

/-- x = e -/
theorem asgS_ {x : Str} {i : Nat} {p pos : Pos} {e : Expr} {me : MX} {n : Nat} {kn : Ev → Prop} {Q : Flow → Shared → Prop} (X : Fn prog w K hb Sp g dep A env sc tb nx) (S : St env tb W₀ ρ ad W m s.heap) (hbx : Ext hb s.heap) (hx : tb.lookup x = some i) (hc : cE g n sc tb nx e = some me) (hn : notComp e = true)
    (h : wpE Sp me (allV ρ) fun d => scalarD d = true ∧ kn (setS ρ i (.imm d))) (k : NextP env tb W₀ s ρ ad W kn Q) : wpAny (model prog w) A (exec (.Assign [.Name x p] e pos) env) Q E s := by
  refine wpAny_Assign_Name (((X.snd n).e hc (S.all X.F hbx)).1 h fun v d h' tk ex r hk => ?_) (swapsNo hn _ _)
  exact putImmS X.F (S.ext ex) hx (r.scalar hk.1) (k.ext ex) hk.2
theorem asg_ {x : Str} {i : Nat} {p pos : Pos} {e : Expr} {me : MX} {n : Nat} {kn : Ev → Prop} {Q : Flow → Shared → Prop} (X : Fn prog w K hb Sp g dep A env sc tb nx) (S : St env tb W₀ ρ ad W m s.heap) (hbx : Ext hb s.heap) (hx : tb.lookup x = some i) (hc : cE g n sc tb nx e = some me) (hn : notComp e = true)
    (h : wpE Sp me (stillV ρ) fun d => kn (setS ρ i (.imm d))) (k : NextP env tb W₀ s ρ ad W kn Q) : wpAny (model prog w) A (exec (.Assign [.Name x p] e pos) env) Q E s := by
  refine wpAny_Assign_Name (((X.snd n).e hc (S.still X.F hbx)).1 h fun v d h' tk ex r hk => ?_) (swapsNo hn _ _)
  exact putImmS X.F (S.ext ex) hx r (k.ext ex) hk

theorem cE_comp {elt iter : Expr} {x : Str} {px pos : Pos} {ifs : List Expr} {inner : Scope} {me : MX} {n : Nat} (hc : cE g n sc tb nx (.ListComp elt [⟨.Name x px, iter, ifs, 0⟩] inner pos) = some me) :
    ∃ n' a b c, cE g n' inner (inTb tb inner x nx) (nx + 1) elt = some a ∧ cR g n' sc tb nx iter = some b ∧ cL g n' inner (inTb tb inner x nx) (nx + 1) ifs = some c ∧ MX.comp nx a b c = me ∧ compOk g sc inner x = true ∧ notSet iter = true := by
  cases n with
  | zero => exact nop rfl hc
  | succ n =>
    obtain ⟨q, hc⟩ := iff_ (show (if (compOk g sc inner x && notSet iter) = true then
        (cE g n inner (inTb tb inner x nx) (nx + 1) elt).bind fun a => (cR g n sc tb nx iter).bind fun b => (cL g n inner (inTb tb inner x nx) (nx + 1) ifs).bind fun c => some (MX.comp nx a b c) else none) = some me from hc)
    obtain ⟨a, ha, b, hb, c, hc, e⟩ := som3 hc
    exact ⟨n, a, b, c, ha, hb, hc, e, (and_ q).1, (and_ q).2⟩

/-- x = [.. for ..] on one line: the store lies within -/
theorem asgComp {y : Str} {i : Nat} {py spos pos : Pos} {elt iter : Expr} {x : Str} {px : Pos} {ifs : List Expr} {inner : Scope} {me : MX} {n : Nat} {kn : Ev → Prop} {Q : Flow → Shared → Prop} (X : Fn prog w K hb Sp g dep A env sc tb nx) (S : St env tb W₀ ρ ad W m s.heap) (hbx : Ext hb s.heap) (hy : tb.lookup y = some i)
    (hc : cE g n sc tb nx (.ListComp elt [⟨.Name x px, iter, ifs, 0⟩] inner pos) = some me)
    (h : wpE Sp me (stillV ρ) fun d => kn (setS ρ i (.imm d))) (k : NextP env tb W₀ s ρ ad W kn Q) : wpAny (model prog w) A (exec (.Assign [.Name y py] (.ListComp elt [⟨.Name x px, iter, ifs, 0⟩] inner pos) spos) env) Q E s := by
  by_cases hsw : (env.blockKind == .function && env.kindOf y == some .local && py.line == pos.line && !(inner.names.any fun z => z.1 == y && (z.2 == .local || z.2 == .cell))) = true
  · have hsw' : swapsWith (.ListComp elt [⟨.Name x px, iter, ifs, 0⟩] inner pos) (some (.Name y py)) spos.line env = pure true := by
      show (pure (env.blockKind == .function && env.kindOf y == some .local && py.line == pos.line && !(inner.names.any fun z => z.1 == y && (z.2 == .local || z.2 == .cell))) : Sem Bool) = _
      rw [hsw]
    simp only [Bool.and_eq_true, beq_iff_eq] at hsw
    have hyl := hsw.1.1.2
    have nl : (env.scope.kind == .class || (env.scope.kind == .module && env.locals != env.globals)) = false := by rw [X.F.eo.kind]; rfl
    obtain ⟨n', me', mi, mc, hme, hmi, hmc, rfl, q1, q2⟩ := cE_comp hc
    have CO := compOk_of q1
    rw [exec_Assign_Name_used _ _ _ _ hsw']
    refine wpAny_bind (wpAny_standAt (wpAny_bind ?_))
    show wpAny _ A (do let _ ← comprehension (.ListComp elt [⟨.Name x px, iter, ifs, 0⟩] inner pos) inner env _ (newList []) false (eval iter env) (some (assign (.Name y py) env))) _ _ s
    refine wpAny_bind (wpAny_mono (wpAny_comprehension_free (use := some (assign (.Name y py) env)) (Q := fun _ s' => Q .next s') rfl (foldedSet_no q2) (closureFor_eq fun y hy hf => X.F.eo.cells _ (CO.free y hy hf)) CO.kind CO.loc ?_)
      (fun _ s' hq => wpAny_pure (wpAny_pure hq)) fun _ _ e => e)
    refine compBlock (snd_all X.B X.R n') (S.still X.F hbx) CO hme hmi hmc h ?_
    intro p F I fp nn P St' h' tk e hI lI Wk hsz st0 hfp hq fin
    refine comp_block_walkC (RR := fun acc C => compPost (model prog w) A E (some (assign (.Name y py) env)) (fun _ s' => Q .next s') acc C) Wk hsz p F CO.cell CO.kind CO.tgt st0 hfp hq ?_
    intro D C h'' tk'' m'' ys vs hD hC hDC hn hl hpl hlen hP hF hk
    have e2 : Ext s.heap h'' := fun b o q => hk b o (fun hb => by rw [List.mem_singleton.mp hb, hI] at q; cases q) (e b o q)
    have S2 := S.ext e2
    have hLC : env.locals ≠ C := fun q => by
      obtain ⟨o, _, _, ho, _⟩ := S.ns
      rw [q] at ho
      have := e _ _ ho
      rw [hC] at this; cases this
    have hWC : ¬ W C := fun q => by obtain ⟨o, ho⟩ := S.al C q; have := e _ _ ho; rw [hC] at this; cases this
    have hcC : ∀ z c, env.cells.lookup z = some c → c ≠ C := fun z c q qq => hWC (qq ▸ S.wc z c q)
    have hCs : s.heap.get? C = none := by
      cases q : s.heap.get? C with
      | none => rfl
      | some o => have := e _ _ q; rw [hC] at this; cases this
    have hDs : s.heap.get? D = none := by
      cases q : s.heap.get? D with
      | none => rfl
      | some o => have := e _ _ q; rw [hD] at this; cases this
    have hDL : D ≠ env.locals := fun q => by
      obtain ⟨o, _, _, ho, _⟩ := S.ns
      rw [← q, hDs] at ho; cases ho
    have hDc : ∀ z, env.cells.lookup z ≠ some D := fun z q => by
      obtain ⟨o, ho⟩ := S.al D (S.wc z D q); rw [hDs] at ho; cases ho
    show wpAny _ A (assign (.Name y py) env (.ref D)) _ _ _
    refine PyProof.Rows.assign_Name (storeS X.F S2 hy fun m3 h3 tk3 T => ?_)
    have hC3 : h3.Ns C m'' := hn.at' fun o q => T.keep C o q (fun q => hLC q.symm) fun z q => hcC z C q rfl
    refine ⟨m'', hC3, fun h4 hs4 => ?_⟩
    -- the comprehension's own frame is let go: nothing of ours lies there
    have T4 : Stored env m s.heap y (.ref D) m3 h4 := by
      have sees : ∀ z u, SeesM m3 h3 env z u → SeesM m3 h4 env z u := by
        rintro z u (a | ⟨a, c, b, o, d', e'⟩)
        · exact .inl a
        · exact .inr ⟨a, c, b, o, (hs4.2 c (hcC z c b)).trans d', e'⟩
      refine ⟨T.ns.sameBut hs4 hLC, fun z c q => ?_, sees _ _ T.here, fun z u hz hu => sees _ _ (T.there z u hz (hu.ext e2)), fun b o q hb hc' => ?_, fun b o q => ?_⟩
      · obtain ⟨v, o, a, b⟩ := T.cells z c q
        exact ⟨v, o, (hs4.2 c (hcC z c q)).trans a, b⟩
      · have hbC : b ≠ C := fun qq => by rw [qq, hCs] at q; cases q
        exact (hs4.2 b hbC).trans (T.keep b o (e2 b o q) hb hc')
      · have hbC : b ≠ C := fun qq => by rw [qq, hCs] at q; cases q
        obtain ⟨o', q'⟩ := T.live b o (e2 b o q)
        exact ⟨o', (hs4.2 b hbC).trans q'⟩
    have hpl4 : h4.PlainList D ys := by
      obtain ⟨nn, hnn⟩ := hpl
      exact ⟨nn, (hs4.2 D hDC).trans (T.keep D _ hnn hDL hDc)⟩
    obtain ⟨d, rd, hkd⟩ := fin D h4 ys vs hD hpl4 hlen hP hF
    obtain ⟨q1, q2⟩ := S.putImm' X.F hy T4 rd
    exact k _ _ _ m3 h4 tk3 q2 q1 hkd
  · have hsw' : swapsWith (.ListComp elt [⟨.Name x px, iter, ifs, 0⟩] inner pos) (some (.Name y py)) spos.line env = pure false := by
      show (pure (env.blockKind == .function && env.kindOf y == some .local && py.line == pos.line && !(inner.names.any fun z => z.1 == y && (z.2 == .local || z.2 == .cell))) : Sem Bool) = _
      rw [Bool.not_eq_true] at hsw
      rw [hsw]
    refine wpAny_Assign_Name (((X.snd n).e hc (S.still X.F hbx)).1 h fun v d h' tk ex r hk => ?_) hsw'
    exact putImmS X.F (S.ext ex) hy r (k.ext ex) hk
end
end Mine
end R10

section R11
open PySem PySem.W PyProof.Rows PySem.Calls PyProof.V PySem.Spec PySem.SeqAt
namespace Mine
section
variable {prog : Program} {w : World} {K : Frag} {hb : Heap} {Sp : String → List PyData → PyData → Prop} {g : G} {dep : Nat} {A : Around} {env : Env} {sc : Scope} {tb : List (Str × Nat)} {nx : Nat}
  {s : Shared} {W W' W'' W₀ : Addr → Prop} {ρ ρ' ρ'' : Ev} {ad ad' ad'' : Ad} {m : Str → Option Value} {h h' h'' : Heap} {E : Value → Shared → Prop} {kn : Ev → Prop} {kr : PyData → Prop} {Q : Flow → Shared → Prop}

theorem NextP.step {W₁ : Addr → Prop} {ρ₁ : Ev} {ad₁ : Ad} {h₁ : Heap} {tk : Nat} (k : NextP env tb W₀ s ρ ad W kn Q) (T : Step env tb ρ ad W s.heap ρ₁ ad₁ W₁ h₁) : NextP env tb W₀ { s with heap := h₁, toks := tk } ρ₁ ad₁ W₁ kn Q :=
  fun ρ' ad' W' m' h'' tk' T' S q => k ρ' ad' W' m' h'' tk' (T.trans T') S q
theorem RetP.step {W₁ : Addr → Prop} {ρ₁ : Ev} {ad₁ : Ad} {h₁ : Heap} {tk : Nat} (k : RetP env tb W₀ s ρ ad kr Q) (T : Step env tb ρ ad W s.heap ρ₁ ad₁ W₁ h₁) : RetP env tb W₀ { s with heap := h₁, toks := tk } ρ₁ ad₁ kr Q :=
  fun v d h'' tk' T' r q => k v d h'' tk' (fun b o x n => T' b o (T.keep b o x n) fun w' => (T.wr b w').elim n fun q' => by rw [x] at q'; cases q') r q

theorem fresh_none (h : Heap) : h.get? h.objs.size = none := by
  cases e : h.get? h.objs.size with
  | none => rfl
  | some ob => exact absurd (Heap.lt_size e) (Nat.lt_irrefl _)

theorem wpB_append (a b : List MS) : ∀ (ρ : Ev) (kn : Ev → Prop), wpB Sp (a ++ b) ρ kn kr = wpB Sp a ρ (fun ρ' => wpB Sp b ρ' kn kr) kr := by
  induction a with
  | nil => intro ρ kn; rfl
  | cons x r ih =>
    intro ρ kn
    show wpS Sp x ρ (fun ρ' => wpB Sp (r ++ b) ρ' kn kr) kr = wpS Sp x ρ (fun ρ' => wpB Sp r ρ' (fun ρ' => wpB Sp b ρ' kn kr) kr) kr
    congr 1
    funext ρ'
    exact ih ρ' kn

/-- x = [..], a list of one's own -/
theorem asgO_ {x : Str} {i : Nat} {p lp pos : Pos} {es : List Expr} {as : List MX} {n : Nat} (X : Fn prog w K hb Sp g dep A env sc tb nx) (S : St env tb W₀ ρ ad W m s.heap) (hbx : Ext hb s.heap) (hx : tb.lookup x = some i) (hs : es.all notStar = true) (hc : cL g n sc tb nx es = some as)
    (h : wpS Sp (.asgO i as) ρ kn kr) (k : NextP env tb W₀ s ρ ad W kn Q) : wpAny (model prog w) A (exec (.Assign [.Name x p] (.List es lp) pos) env) Q E s := by
  have h : wpL Sp as (stillV ρ) fun ds => ds.length ≤ 2 ^ 20 ∧ kn (setS ρ i (.own ds)) := h
  refine wpAny_Assign_Name (wpAny_List_spliced ((X.snd n).l hc hs (S.still X.F hbx) h fun vs ds h' tk e r hk => ⟨?_, ?_⟩)) (swapsNo (by rfl) _ _)
  · rw [r.length, sizeLine]; have := hk.1; omega
  · have S1 := S.ext e
    have ex : Ext h' (h'.push { cls := .type "list", data := .seq vs.toArray }) := Ext.push _
    refine storeS X.F (S1.ext ex) hx fun m' h'' tk' T => ?_
    obtain ⟨q1, q2⟩ := St.putOwn X.F S1 ex (fresh_none h') hx T (Heap.get?_push_size _ rfl) (r.mono fun a o q1 q2 => ⟨ex a o q1, fun q => q.elim q2 fun q => by rw [q, fresh_none] at q1; cases q1⟩)
    exact k _ _ _ m' h'' tk' (.of_ext e q2) q1 hk.2

/-- x = list(range(..)) -/
theorem asgR_ {x : Str} {i : Nat} {p p1 p2 pos1 pos2 pos : Pos} {es : List Expr} {as : List MX} {n : Nat} (X : Fn prog w K hb Sp g dep A env sc tb nx) (S : St env tb W₀ ρ ad W m s.heap) (hbx : Ext hb s.heap) (hx : tb.lookup x = some i) (hs : es.all notStar = true) (hc : cL g n sc tb nx es = some as)
    (g1 : glob? sc tb "list" = true) (g2 : glob? sc tb "range" = true)
    (h : wpS Sp (.asgR i as) ρ kn kr) (k : NextP env tb W₀ s ρ ad W kn Q) : wpAny (model prog w) A (exec (.Assign [.Name x p] (.Call (.Name "list" p1) [.Call (.Name "range" p2) es [] pos2] [] pos1) pos) env) Q E s := by
  have h : wpL Sp as (allV ρ) fun ds => rngK ds fun ns => kn (setS ρ i (.own (intsOf ns))) := h
  obtain ⟨mg, mb, hm, hmb, hi, hbv, hfn⟩ := X.B.gl
  have H := S.all X.F hbx
  refine wpAny_Assign_Name ?_ (swapsNo (by rfl) _ _)
  refine wpAny_Call_NameR (builtS H g1 hm hmb (hbv "list" (.type "list") (by rfl)).1 (hbv "list" (.type "list") (by rfl)).2 ?_)
  refine PyProof.Rows.callWith_type (by rfl) ?_
  refine evalArgs_plain (spliced_cons ?_)
  refine wpAny_Call_NameR (builtS H g2 hm hmb (hbv "range" (.type "range") (by rfl)).1 (hbv "range" (.type "range") (by rfl)).2 ?_)
  refine PyProof.Rows.callWith_type (star_plain hs) ?_
  refine argsS (X.snd n) hc hs H h fun vs ds h1 t1 e1 r1 hk1 => ?_
  refine rngS (W := W₀) r1 hk1 fun Ra ns h2 t2 e2 hr hl hk2 => spliced_nil ?_
  obtain ⟨a, b, c, ta, tb', tc, i1, i2, i3, i4⟩ := hr
  refine call_list_range X.R.hh i1 i2 i3 (by omega) fun h3 tk3 acc' c' e3 hl3 its => ?_
  have S1 := S.ext (e1.trans e2)
  have ex : Ext h2 h3 := e3
  refine storeS X.F (S1.ext ex) hx fun m' h4 tk' T => ?_
  have rr : RpL h3 (fun a => W a ∨ a = h2.objs.size) acc'.toList (intsOf ns) := by
    refine RpL.of_get (by rw [Array.length_toList, its.1, intsOf, List.length_map]) fun j v hv => ?_
    rw [Array.getElem?_toList] at hv
    obtain ⟨tt, rfl⟩ := its.2 j v hv
    have hj : j < ns.length := by
      have := (Array.getElem?_eq_some_iff.mp hv).1
      rw [its.1] at this
      exact this
    exact ⟨.int (a + (j : Int) * c), by rw [intsOf, List.getElem?_map, i4 j hj]; rfl, .int _ _⟩
  obtain ⟨q1, q2⟩ := St.putOwn X.F S1 ex (fresh_none h2) hx T hl3 rr
  exact k _ _ _ m' h4 tk' (.of_ext (e1.trans e2) q2) q1 hk2

/-- x = y = e -/
theorem asg2_ {x y : Str} {i j : Nat} {p1 p2 pos : Pos} {e : Expr} {me : MX} {n : Nat} (X : Fn prog w K hb Sp g dep A env sc tb nx) (S : St env tb W₀ ρ ad W m s.heap) (hbx : Ext hb s.heap) (hx : tb.lookup x = some i) (hy : tb.lookup y = some j) (hc : cE g n sc tb nx e = some me)
    (h : wpS Sp (.asg2 i j me) ρ kn kr) (k : NextP env tb W₀ s ρ ad W kn Q) : wpAny (model prog w) A (exec (.Assign [.Name x p1, .Name y p2] e pos) env) Q E s := by
  have h : wpE Sp me (allV ρ) fun d => scalarD d = true ∧ kn (setS (setS ρ i (.imm d)) j (.imm d)) := h
  refine wpAny_Assign_two (((X.snd n).e hc (S.all X.F hbx)).1 h fun v d h' tk ex r hk => ?_)
  refine PyProof.Rows.assign_Name (storeS X.F (S.ext ex) hx fun m1 h1 tk1 T1 => ?_)
  obtain ⟨a1, b1⟩ := (S.ext ex).putImm X.F hx T1 (r.scalar hk.1)
  refine PyProof.Rows.assign_Name (storeS X.F a1 hy fun m2 h2 tk2 T2 => ?_)
  obtain ⟨a2, b2⟩ := a1.putImm X.F hy T2 (r.scalar hk.1)
  exact k _ _ _ m2 h2 tk2 (.of_ext ex (b1.trans b2)) a2 hk.2

theorem setS_comm : ∀ (ρ : Ev) (i j : Nat) (a b : Slot), i ≠ j → setS (setS ρ i a) j b = setS (setS ρ j b) i a
  | [], _, _, _, _, _ => rfl
  | _ :: r, 0, 0, _, _, h => absurd rfl h
  | _ :: r, 0, j + 1, _, _, _ => rfl
  | _ :: r, i + 1, 0, _, _, _ => rfl
  | x :: r, i + 1, j + 1, a, b, h => by
    show x :: setS (setS r i a) j b = x :: setS (setS r j b) i a
    rw [setS_comm r i j a b fun q => h (by rw [q])]

theorem tupNo {ts : List Expr} {k} {tp : Pos} {e : Expr} (he : ∀ vs q p, e ≠ .Tuple vs q p) : swappedStores [.Tuple ts k tp] e env = pure none := by
  cases e <;> first | rfl | exact absurd rfl (he _ _ _)
theorem tupSole {ts : List Expr} {k} {tp : Pos} (e : Expr) (l : Nat) : swapsWithSole [.Tuple ts k tp] e l env = pure false := by
  show swapsWith e (some (.Tuple ts k tp)) l env = pure false
  cases e <;> rfl

/-- x, y = e, a pair -/
theorem unp_ {x y : Str} {i j : Nat} {p1 p2 tp pos : Pos} {kk} {e : Expr} {me : MX} {n : Nat} (X : Fn prog w K hb Sp g dep A env sc tb nx) (S : St env tb W₀ ρ ad W m s.heap) (hbx : Ext hb s.heap) (hx : tb.lookup x = some i) (hy : tb.lookup y = some j) (hc : cE g n sc tb nx e = some me)
    (he : ∀ vs q p, e ≠ .Tuple vs q p)
    (h : wpS Sp (.unp i j me) ρ kn kr) (k : NextP env tb W₀ s ρ ad W kn Q) : wpAny (model prog w) A (exec (.Assign [.Tuple [.Name x p1, .Name y p2] kk tp] e pos) env) Q E s := by
  have h : wpE Sp me (stillV ρ) fun d => (match d with | .tuple [a, b] => kn (setS (setS ρ i (.imm a)) j (.imm b)) | _ => False) := h
  refine Assign_Tuple (((X.snd n).e hc (S.still X.F hbx)).1 h fun v d h' tk ex r hk => ?_) (tupSole _ _) (tupNo he)
  split at hk
  · rename_i a b
    cases r with
    | tuple h1 h2 h3 h4 r =>
      rename_i l ob vs nn
      have hlen := r.length
      rw [Array.length_toList] at hlen
      obtain ⟨v1, v2, hv⟩ : ∃ v1 v2, vs.toList = [v1, v2] := by
        cases q : vs.toList with
        | nil => rw [q] at r; cases r
        | cons v1 r1 => cases r1 with
          | nil => rw [q] at r; cases r with | cons _ r => cases r
          | cons v2 r2 => cases r2 with
            | nil => exact ⟨v1, v2, rfl⟩
            | cons v3 r3 => rw [q] at r; cases r with | cons _ r => cases r with | cons _ r => cases r
      rw [hv] at r
      have ra : Rp h' W v1 a := by cases r with | cons r _ => exact r
      have rb : Rp h' W v2 b := by cases r with | cons _ r => cases r with | cons r _ => exact r
      refine assign_Tuple_tuple X.R.hh (items := vs) ⟨_, h1, h3, _, h4⟩ (by rw [hlen]; rfl) (by rfl) fun h'' xb => ?_
      have e2 : Ext h' h'' := fun b o q => xb b o (Nat.ne_of_lt (Heap.lt_size q)) q
      rw [hv]
      show wpAny _ A (do holding [v2] (assign (.Name x p1) env v1); assignInOrder [assign (.Name y p2) env] [v2]) _ _ _
      refine wpAny_bind (wpAny_holding (PyProof.Rows.assign_Name (storeS X.F (S.ext (ex.trans e2)) hx fun m1 h1' tk1 T1 => ?_)))
      obtain ⟨a1, b1⟩ := (S.ext (ex.trans e2)).putImm X.F hx T1 (ra.ext e2)
      show wpAny _ A (do holding [] (assign (.Name y p2) env v2); assignInOrder [] []) _ _ _
      refine wpAny_bind (wpAny_holding (PyProof.Rows.assign_Name (storeS X.F a1 hy fun m2 h2' tk2 T2 => ?_)))
      obtain ⟨a2, b2⟩ := a1.putImm X.F hy T2 ((rb.ext e2).mono (T1.tr (S.ext (ex.trans e2))))
      exact wpAny_pure (k _ _ _ m2 h2' tk2 (.of_ext (ex.trans e2) (b1.trans b2)) a2 hk)
  · exact hk.elim

/-- x, y = a, b, stored the last first -/
theorem swp_ {x y : Str} {i j : Nat} {p1 p2 tp tp2 pos : Pos} {kk kk2} {a b : Expr} {ma mb : MX} {n n' : Nat} (X : Fn prog w K hb Sp g dep A env sc tb nx) (S : St env tb W₀ ρ ad W m s.heap) (hbx : Ext hb s.heap) (hx : tb.lookup x = some i) (hy : tb.lookup y = some j) (hij : i ≠ j)
    (ha : cE g n sc tb nx a = some ma) (hb' : cE g n' sc tb nx b = some mb) (hsw : swappedStores [.Tuple [.Name x p1, .Name y p2] kk tp] (.Tuple [a, b] kk2 tp2) env = pure (some [x, y])) (na : notStar a = true) (nb : notStar b = true)
    (h : wpS Sp (.swp i j ma mb) ρ kn kr) (k : NextP env tb W₀ s ρ ad W kn Q) : wpAny (model prog w) A (exec (.Assign [.Tuple [.Name x p1, .Name y p2] kk tp] (.Tuple [a, b] kk2 tp2) pos) env) Q E s := by
  have h : wpE Sp ma (stillV ρ) fun p => wpE Sp mb (stillV ρ) fun q => kn (setS (setS ρ i (.imm p)) j (.imm q)) := h
  refine Assign_Tuple_swapped ?_ (tupSole _ _) hsw
  refine wpAny_Tuple_spliced ?_
  rw [starEach_cons na, starEach_cons nb]
  refine spliced_cons (((X.snd n).e ha (S.still X.F hbx)).1 h fun va d h1 t1 e1 r1 hk1 => spliced_cons (((X.snd n').e hb' ((S.ext e1).still (s := { s with heap := h1, toks := t1 }) X.F (hbx.trans e1))).1 hk1 fun vb d2 h2 t2 e2 r2 hk2 => spliced_nil ⟨by show 2 ≤ _; decide, ?_⟩))
  have e3 : Ext h2 (h2.push { cls := .type "tuple", data := .seq [va, vb].toArray }) := Ext.push _
  refine unpackItems_tuple (items := #[va, vb]) X.R.hh ⟨_, Heap.get?_push_size _ rfl, rfl, _, rfl⟩ fun h4 xb => ?_
  have e4 : Ext (h2.push { cls := .type "tuple", data := .seq [va, vb].toArray }) h4 := fun b o q => xb b o (Nat.ne_of_lt (Heap.lt_size q)) q
  have eE : Ext s.heap h4 := (e1.trans e2).trans (e3.trans e4)
  show wpAny _ A (do holding [va] (bindName env y vb); assignInOrder [fun v => bindName env x v] [va]) _ _ _
  refine wpAny_bind (wpAny_holding (wpAny_bindName (storeS X.F (S.ext eE) hy fun m1 h1' tk1 T1 => ?_)))
  obtain ⟨a1, b1⟩ := (S.ext eE).putImm X.F hy T1 (r2.ext (e3.trans e4))
  show wpAny _ A (do holding [] (bindName env x va); assignInOrder [] []) _ _ _
  refine wpAny_bind (wpAny_holding (wpAny_bindName (storeS X.F a1 hx fun m2 h2' tk2 T2 => ?_)))
  obtain ⟨a2, b2⟩ := a1.putImm X.F hx T2 ((r1.ext ((e2.trans e3).trans e4)).mono (T1.tr (S.ext eE)))
  rw [setS_comm _ _ _ _ _ (Ne.symm hij)] at a2 b2
  exact wpAny_pure (k _ _ _ m2 h2' tk2 (.of_ext eE (b1.trans b2)) a2 hk2)

theorem inpS {op : Operator} {a b : Value} {x y : PyData} {kk : PyData → Prop} {QQ : Value → Shared → Prop} (ho : augOk op = true) (ra : Rp s.heap W a x) (rb : Rp s.heap W b y) (hsx : scalarD x = true) (hsy : scalarD y = true) (h : binK op x y kk) (o : Out s W kk QQ) :
    wpAny (model prog w) A (inplaceOp op a b) QQ E s := by
  cases ra <;> first | (cases hsx; done) | skip
  all_goals cases rb <;> first | (cases hsy; done) | (exact h.elim) | skip
  · rename_i i t j u
    cases op <;> first | (cases ho; done) | skip
    · exact PyProof.Rows.iadd_int (o _ _ s.heap _ Ext.refl (.int _ _) h)
    · exact PyProof.Rows.isub_int (o _ _ s.heap _ Ext.refl (.int _ _) h)
    · exact PyProof.Rows.imul_int (o _ _ s.heap _ Ext.refl (.int _ _) h.2) (mulOk h.1)
    · exact PyProof.Rows.irshift_int h.1.2 (by rw [shr_nn h.1.1]; exact o _ _ s.heap _ Ext.refl (.int _ _) h.2)
    · exact PyProof.Rows.ixor_int (by rw [bitXor_nn h.1.1 h.1.2]; exact o _ _ s.heap _ Ext.refl (.int _ _) h.2)
  · obtain ⟨rfl, h1, h2⟩ := h
    exact SB.iadd (fun t' k' => o _ _ s.heap k' Ext.refl (.str _ _) h2) (by rw [sizeLine]; omega)

/-- x op= e -/
theorem aug_ {x : Str} {i : Nat} {p pos : Pos} {op : Operator} {e : Expr} {me : MX} {n : Nat} (X : Fn prog w K hb Sp g dep A env sc tb nx) (S : St env tb W₀ ρ ad W m s.heap) (hbx : Ext hb s.heap) (hx : tb.lookup x = some i) (hc : cE g n sc tb nx e = some me) (hop : augOk op = true)
    (h : wpS Sp (.aug i op me) ρ kn kr) (k : NextP env tb W₀ s ρ ad W kn Q) : wpAny (model prog w) A (exec (.AugAssign (.Name x p) op e pos) env) Q E s := by
  have h : (match stillV ρ i with
    | some o => wpE Sp me (allV ρ) fun d => (scalarD o = true ∧ scalarD d = true) ∧ binK op o d fun r => kn (setS ρ i (.imm r))
    | none => False) := h
  split at h
  · rename_i o ho
    have hi : getS ρ i = .imm o := by
      unfold stillV Slot.still at ho
      split at ho
      · rename_i q; cases ho; exact q
      · cases ho
    obtain ⟨v, sv, rv⟩ := S.imm x i o hx hi
    refine wpAny_AugAssign_Name (loadS X.F.eo.kind sv S.ns (((X.snd n).e hc (S.all X.F hbx)).1 h fun u d h' tk ex r hk => ?_))
    refine inpS (W := W) (s := { s with heap := h', toks := tk }) hop (rv.ext ex) (r.scalar hk.1.2) hk.1.1 hk.1.2 hk.2 fun v' d' h'' tk' ex' r' hk' => ?_
    exact putImmS X.F (S.ext (ex.trans ex')) hx r' (k.ext (ex.trans ex')) hk'
  · exact h.elim

/-- return e -/
theorem ret_ {pos : Pos} {e : Expr} {me : MX} {n : Nat} (X : Fn prog w K hb Sp g dep A env sc tb nx) (S : St env tb W₀ ρ ad W m s.heap) (hbx : Ext hb s.heap) (hc : cE g n sc tb nx e = some me)
    (h : wpS Sp (.ret me) ρ kn kr) (k : RetP env tb W₀ s ρ ad kr Q) : wpAny (model prog w) A (exec (.Return (some e) pos) env) Q E s := by
  have h : wpE Sp me (allV ρ) kr := h
  exact wpAny_Return_some (((X.snd n).e hc (S.all X.F hbx)).1 h fun v d h' tk ex r hk => k v d h' tk (fun b o q _ => ex b o q) r hk)
end
end Mine
end R11

section R12
open PySem PySem.W PyProof.Rows PySem.Calls PyProof.V PySem.Spec PySem.SeqAt
namespace Mine
section
variable {prog : Program} {w : World} {K : Frag} {hb : Heap} {Sp : String → List PyData → PyData → Prop} {g : G} {dep : Nat} {A : Around} {env : Env} {sc : Scope} {tb : List (Str × Nat)} {nx : Nat}
  {s : Shared} {W W' W'' W₀ : Addr → Prop} {ρ ρ' ρ'' : Ev} {ad ad' ad'' : Ad} {m : Str → Option Value} {h h' h'' : Heap} {E : Value → Shared → Prop} {kn : Ev → Prop} {kr : PyData → Prop} {Q : Flow → Shared → Prop}

theorem inpList {a b : Addr} {xs ys : Array Value} {n n2 : Nat} {QQ : Value → Shared → Prop} (ha : s.heap.get? a = some (PySem.W.listOf xs n)) (hb' : s.heap.get? b = some (PySem.W.listOf ys n2)) (hsz : xs.size + ys.size ≤ sizeLine)
    (hq : QQ (.ref a) { s with heap := s.heap.update a (Obj.mapSeq fun x => x ++ ys) }) : wpAny (model prog w) A (inplaceOp .Add (.ref a) (.ref b)) QQ E s := by
  have ta : s.TypeIs (.ref a) "list" := ⟨_, ha, rfl⟩
  have tb : s.TypeIs (.ref b) "list" := ⟨_, hb', rfl⟩
  unfold inplaceOp
  refine wpAny_holding ?_
  have hfi : fillsInplaceSlot (.type "list") "add" (Operator.Add == .Add) = pure false := by
    unfold fillsInplaceSlot
    show (typeLookup (.type "list") (dunderI "add") >>= fun fi => (pure (fi.isSome && !isSeqSlot fi) : Sem Bool)) = pure false
    rw [PySem.F.slot_list_iadd.lookup]
    show (pure (!isSeqSlot (some (Value.builtin "list.__iadd__"))) : Sem Bool) = pure false
    rw [show isSeqSlot (some (Value.builtin "list.__iadd__")) = true by decide +kernel]
    rfl
  refine wpAny_bind (wpAny_typeOf ta (wpAny_bind (wpAny_of_eq hfi ?_)))
  show wpAny _ A (if false = true then _ else _) QQ E s
  rw [if_neg Bool.false_ne_true]
  refine wpAny_bind (wpAny_binaryOp1_none (nm := "add") ta tb noFill_list_add ?_)
  refine wpAny_bind (wpAny_of_eq (PySem.seqSlot_of PySem.F.slot_list_iadd.lookup (by decide +kernel)) ?_)
  refine wpAny_bind (wpAny_rule ?_)
  refine call_meets PySem.F.slot_list_iadd ta PySem.F.entry_list_iadd (PySem.F.args_list_iadd_2 _ _) (AutoSeq1.list___iadd___list_list_0 a xs n b ys n2 ?_ (by omega) (by omega)) ⟨ha, hb', hq⟩
  unfold Builtin.List.listTooLong
  simp only [Bool.and_eq_true, decide_eq_true_eq, not_and]
  intro _
  omega

theorem getS_lt {i : Nat} {ds : List PyData} : ∀ {ρ : Ev}, getS ρ i = .own ds → i < ρ.length := by
  induction i with
  | zero => intro ρ h; cases ρ with | nil => cases h | cons x r => exact Nat.zero_lt_succ _
  | succ i ih => intro ρ h; cases ρ with | nil => cases h | cons x r => exact Nat.succ_lt_succ (ih h)

/-- x += [..] on an own list -/
theorem augL_ {x : Str} {i : Nat} {p lp pos : Pos} {es : List Expr} {as : List MX} {n : Nat} (X : Fn prog w K hb Sp g dep A env sc tb nx) (S : St env tb W₀ ρ ad W m s.heap) (hbx : Ext hb s.heap) (hx : tb.lookup x = some i) (hs : es.all notStar = true) (hc : cL g n sc tb nx es = some as)
    (h : wpS Sp (.augL i as) ρ kn kr) (k : NextP env tb W₀ s ρ ad W kn Q) : wpAny (model prog w) A (exec (.AugAssign (.Name x p) .Add (.List es lp) pos) env) Q E s := by
  have h : (match getS ρ i with
    | .own ds => wpL Sp as (stillV ρ) fun es => (ds.length ≤ 2 ^ 20 ∧ es.length ≤ 2 ^ 20) ∧ kn (setS ρ i (.own (ds ++ es)))
    | _ => False) := h
  split at h
  · rename_i ds hi
    obtain ⟨sv, vs, nn, hl, rl⟩ := S.ownF hx hi
    refine wpAny_AugAssign_Name (loadS X.F.eo.kind sv S.ns (wpAny_List_spliced ((X.snd n).l hc hs (S.still X.F hbx) h fun us es' h' tk e r hk => ⟨?_, ?_⟩)))
    · rw [r.length, sizeLine]; omega
    · have ex : Ext h' (h'.push { cls := .type "list", data := .seq us.toArray }) := Ext.push _
      have eE := e.trans ex
      have S1 := S.ext eE
      have hl1 := eE _ _ hl
      have len1 := rl.length
      rw [Array.length_toList] at len1
      have len2 := r.length
      refine inpList (xs := vs) (ys := us.toArray) (n2 := 0) hl1 (Heap.get?_push_size _ rfl) (by rw [len1, List.size_toArray, len2, sizeLine]; omega) ?_
      have hup := PySem.IsL.update hl1 (fun x => x ++ us.toArray)
      have rr : RpL (h'.push { cls := .type "list", data := .seq us.toArray }) W (vs ++ us.toArray).toList (ds ++ es') := by
        rw [Array.toList_append]
        exact (rl.ext eE).append (r.ext ex)
      obtain ⟨ad', W', q1, q2, q3⟩ := St.turnOwn X.F S1 hx hi (fun b o q hne => (Heap.get?_update_other _ _ (Ne.symm hne)).trans q) hup rr
      have hi2 : getS (setS ρ i (.own (ds ++ es'))) i = .own (ds ++ es') := by rw [getS_setS, if_pos rfl, if_pos (getS_lt hi)]
      refine storeS X.F q1 hx fun m' h2 tk2 T => ?_
      obtain ⟨a1, a2⟩ := q1.restore X.F hx (held_own hi2) (by rw [q3]; exact T)
      exact k _ _ _ m' h2 tk2 (.of_ext eE (q2.trans a2)) a1 hk.2
  · exact h.elim

/-- x.append(e) -/
theorem appG {x : Str} {i : Nat} {p ap epos pos : Pos} {e : Expr} {ds : List PyData} {P : PyData → Prop} (X : Fn prog w K hb Sp g dep A env sc tb nx) (S : St env tb W₀ ρ ad W m s.heap) (hbx : Ext hb s.heap) (hx : tb.lookup x = some i) (hi : getS ρ i = .own ds)
    (hns : notStar e = true) (hline : (ap.endLine == epos.line) = true) (hP : ∀ d, P d → ds.length ≤ 2 ^ 20 ∧ kn (setS ρ i (.own (ds ++ [d]))))
    (hev : ∀ (QQ : Value → Shared → Prop) (E : Value → Shared → Prop), (∀ v d h' tk, Ext s.heap h' → Rp h' W v d → P d → QQ v { s with heap := h', toks := tk }) → wpAny (model prog w) A (eval e env) QQ E s)
    (k : NextP env tb W₀ s ρ ad W kn Q) : wpAny (model prog w) A (exec (.Expr (.Call (.Attribute (.Name x p) "append" ap) [e] [] epos) pos) env) Q E s := by
  obtain ⟨sv, vs, nn, hl, rl⟩ := S.ownF hx hi
  obtain ⟨_, q1, q2⟩ := X.F.eo.ok x i hx
  refine wpAny_Expr_any ?_ (by unfold interactive; rw [X.F.eo.kind]; rfl) (swapsNo (by rfl) _ _)
  refine wpAny_Call_append (by rfl) (by rw [starEach_cons hns]; rfl) hline (by rw [starEach_cons hns]; rfl) ?_
  refine nameS (sv.sees S.ns) X.F.eo.kind q1 q2 ⟨_, vs, rfl, ⟨_, nn, hl, rfl, rfl, rfl⟩, ?_⟩
  refine hev _ _ fun v d h' tk ex r hPd => ?_
  have len1 := rl.length
  rw [Array.length_toList] at len1
  obtain ⟨hlen, hk⟩ := hP d hPd
  refine wpAny_list_append_plain (items := vs) ⟨nn, ex _ _ hl⟩ (fun h2 hp hs => ?_) (by rw [len1, sizeLine]; omega)
  obtain ⟨n2, hp⟩ := hp
  have rr : RpL h' W (vs.push v).toList (ds ++ [d]) := by
    rw [Array.toList_push]
    exact (rl.ext ex).append (.cons r .nil)
  obtain ⟨_, _, a1, a2, _⟩ := St.turnOwn X.F (S.ext ex) hx hi (fun b o q hne => (hs.2 b hne).trans q) hp rr
  exact k _ _ _ m h2 tk (.of_ext ex a2) a1 hk

theorem app_ {x : Str} {i : Nat} {p ap epos pos : Pos} {e : Expr} {me : MX} {n : Nat} (X : Fn prog w K hb Sp g dep A env sc tb nx) (S : St env tb W₀ ρ ad W m s.heap) (hbx : Ext hb s.heap) (hx : tb.lookup x = some i)
    (hns : notStar e = true) (hline : (ap.endLine == epos.line) = true) (hc : cE g n sc tb nx e = some me)
    (h : wpS Sp (.app i me) ρ kn kr) (k : NextP env tb W₀ s ρ ad W kn Q) : wpAny (model prog w) A (exec (.Expr (.Call (.Attribute (.Name x p) "append" ap) [e] [] epos) pos) env) Q E s := by
  have h : (match getS ρ i with
    | .own ds => wpE Sp me (allV ρ) fun d => (ds.length ≤ 2 ^ 20 ∧ scalarD d = true) ∧ kn (setS ρ i (.own (ds ++ [d])))
    | _ => False) := h
  split at h
  · rename_i ds hi
    refine appG X S hbx hx hi hns hline (P := fun d => (ds.length ≤ 2 ^ 20 ∧ scalarD d = true) ∧ kn (setS ρ i (.own (ds ++ [d])))) (fun d q => ⟨q.1.1, q.2⟩) (fun QQ E o => ?_) k
    exact ((X.snd n).e hc (S.all X.F hbx)).1 h fun v d h' tk ex r hk => o v d h' tk ex (r.scalar hk.1.2) hk
  · exact h.elim
theorem appS_ {x : Str} {i : Nat} {p ap epos pos : Pos} {e : Expr} {me : MX} {n : Nat} (X : Fn prog w K hb Sp g dep A env sc tb nx) (S : St env tb W₀ ρ ad W m s.heap) (hbx : Ext hb s.heap) (hx : tb.lookup x = some i)
    (hns : notStar e = true) (hline : (ap.endLine == epos.line) = true) (hc : cE g n sc tb nx e = some me)
    (h : wpS Sp (.appS i me) ρ kn kr) (k : NextP env tb W₀ s ρ ad W kn Q) : wpAny (model prog w) A (exec (.Expr (.Call (.Attribute (.Name x p) "append" ap) [e] [] epos) pos) env) Q E s := by
  have h : (match getS ρ i with
    | .own ds => wpE Sp me (stillV ρ) fun d => ds.length ≤ 2 ^ 20 ∧ kn (setS ρ i (.own (ds ++ [d])))
    | _ => False) := h
  split at h
  · rename_i ds hi
    exact appG X S hbx hx hi hns hline (P := fun d => ds.length ≤ 2 ^ 20 ∧ kn (setS ρ i (.own (ds ++ [d])))) (fun d q => q) (fun QQ E o => ((X.snd n).e hc (S.still X.F hbx)).1 h o) k
  · exact h.elim

/-- x[i] = e on an own list -/
theorem sti_ {x : Str} {i : Nat} {p sp pos : Pos} {ie e : Expr} {mi me : MX} {n n' : Nat} (X : Fn prog w K hb Sp g dep A env sc tb nx) (S : St env tb W₀ ρ ad W m s.heap) (hbx : Ext hb s.heap) (hx : tb.lookup x = some i)
    (hi : cE g n sc tb nx ie = some mi) (hc : cE g n' sc tb nx e = some me)
    (h : wpS Sp (.sti i mi me) ρ kn kr) (k : NextP env tb W₀ s ρ ad W kn Q) : wpAny (model prog w) A (exec (.Assign [.Subscript (.Name x p) ie sp] e pos) env) Q E s := by
  have h : (match getS ρ i with
    | .own ds => wpE Sp me (allV ρ) fun d => wpE Sp mi (allV ρ) fun j => scalarD d = true ∧ (match j with
      | .int j => (0 ≤ j ∧ j < ds.length ∧ ds.length ≤ 2 ^ 20) ∧ kn (setS ρ i (.own (ds.set j.toNat d)))
      | _ => False)
    | _ => False) := h
  split at h
  · rename_i ds hi'
    obtain ⟨sv, vs, nn, hl, rl⟩ := S.ownF hx hi'
    obtain ⟨_, q1, q2⟩ := X.F.eo.ok x i hx
    have len1 := rl.length
    rw [Array.length_toList] at len1
    refine wpAny_Assign_Subscript (((X.snd n').e hc (S.all X.F hbx)).1 h fun v d h1 t1 e1 r1 hk1 => ?_) (swapsSub _ _ _ _ _)
    refine nameS ((sv.ext e1).sees (S.ext e1).ns) X.F.eo.kind q1 q2 ?_
    refine ((X.snd n).e hi ((S.ext e1).all (s := { s with heap := h1, toks := t1 }) X.F (hbx.trans e1))).1 hk1 fun iv dj h2 t2 e2 r2 hk2 => ?_
    obtain ⟨hsc, hk2⟩ := hk2
    split at hk2
    · rename_i j
      cases r2
      have eE := e1.trans e2
      have hl2 := eE _ _ hl
      refine ki_setAt (items := vs) (n := nn) hl2 hk2.1.1 (by omega) (by rw [len1]; exact hk2.1.2.1) ?_
      have hup := PySem.IsL.update hl2 (fun x => x.setIfInBounds j.toNat v)
      have rr : RpL h2 W (vs.setIfInBounds j.toNat v).toList (ds.set j.toNat d) := by
        rw [Array.toList_setIfInBounds]
        exact (rl.ext eE).set _ (r1.scalar hsc)
      obtain ⟨_, _, a1, a2, _⟩ := St.turnOwn X.F (S.ext eE) hx hi' (fun b o q hne => (Heap.get?_update_other _ _ (Ne.symm hne)).trans q) hup rr
      exact k _ _ _ m _ t2 (.of_ext eE a2) a1 hk2.2
    · exact hk2.elim
  · exact h.elim

theorem getS_self_froze : ∀ (ρ : Ev) (i : Nat), (getS ρ i).held = none → setS ρ i (getS ρ i).froze = ρ
  | [], _, _ => rfl
  | x :: r, 0, h => by
    show x.froze :: r = x :: r
    cases x with
    | own ds => cases h
    | deep xs => cases h
    | un => rfl
    | imm d => rfl
  | x :: r, i + 1, h => by
    show x :: setS r i (getS r i).froze = x :: r
    rw [getS_self_froze r i h]
theorem froze_held {t : Slot} {xs : List Elt} (h : t.held = some xs) : t.froze = .imm (.list (xs.map Elt.dat)) := by
  cases t with
  | own ds =>
    cases h
    rw [List.map_map]
    exact congrArg (fun l => Slot.imm (.list l)) (List.map_id _).symm
  | deep ys => cases h; rfl
  | un => cases h
  | imm d => cases h

theorem frzS (F : FnOk env sc tb nx) (S : St env tb W₀ ρ ad W m h) (i : Nat) : ∃ W', St env tb W₀ (setS ρ i (getS ρ i).froze) ad W' m h ∧ Step env tb ρ ad W h (setS ρ i (getS ρ i).froze) ad W' h := by
  by_cases hx : ∃ x, tb.lookup x = some i
  · obtain ⟨x, hx⟩ := hx
    cases hi : (getS ρ i).held with
    | some xs => exact ⟨_, by rw [froze_held hi]; exact S.freeze F hx hi⟩
    | none => exact ⟨W, by rw [getS_self_froze ρ i hi]; exact ⟨S, .refl⟩⟩
  · have old : ∀ y j, tb.lookup y = some j → getS (setS ρ i (getS ρ i).froze) j = getS ρ j := by
      intro y j hy
      rw [getS_setS, if_neg (fun q : j = i => hx ⟨y, by rw [← q]; exact hy⟩)]
    refine ⟨W, ⟨S.ns, S.cells, fun x j d a b => S.imm x j d a (old x j a ▸ b), fun x j d a b => S.own x j d a (old x j a ▸ b), fun x j d a b => S.ownW x j d a (old x j a ▸ b), fun x j d y l e a b c d' => S.ownI x j d y l e a (old x j a ▸ b) c (old y l c ▸ d'), S.sub, S.wl, S.wc, S.al⟩,
      ⟨fun _ o e => ⟨o, e⟩, fun _ w => .inl w, fun _ _ e _ => e, fun b w => .inl ?_⟩⟩
    rcases w with e | e | ⟨x, j, ds, a, c, e⟩
    · exact .inl e
    · exact .inr (.inl e)
    · exact .inr (.inr ⟨x, j, ds, a, old x j a ▸ c, e⟩)

theorem frzAll (F : FnOk env sc tb nx) : ∀ (l : List Nat) {ρ : Ev} {W : Addr → Prop} {kn : Ev → Prop}, St env tb W₀ ρ ad W m h → wpB Sp (l.map MS.frz) ρ kn kr → ∃ ρ' W', St env tb W₀ ρ' ad W' m h ∧ Step env tb ρ ad W h ρ' ad W' h ∧ kn ρ'
  | [], ρ, W, kn, S, q => ⟨ρ, W, S, .refl, q⟩
  | i :: r, ρ, W, kn, S, q => by
    obtain ⟨W1, S1, T1⟩ := frzS F S i
    obtain ⟨ρ', W', S', T', q'⟩ := frzAll F r S1 q
    exact ⟨ρ', W', S', T1.trans T', q'⟩
end
end Mine
end R12

section RD
open PySem PySem.W PyProof.Rows PySem.Calls PyProof.V PySem.Spec PySem.SeqAt
namespace Mine
/-! # own lists of own lists -/
section
variable {h h' : Heap} {W W' : Addr → Prop} {bs : List Addr} {vs : List Value} {xs : List Elt}
theorem OwnL.get (o : OwnL h W bs vs xs) : ∀ {n : Nat} {es : List PyData}, xs[n]? = some (.deep es) → ∃ b us k, vs[n]? = some (.ref b) ∧ b ∈ bs ∧ h.get? b = some (PySem.W.listOf us k) ∧ RpL h W us.toList es := by
  induction o with
  | nil => intro n es q; cases q
  | flat r _ ih =>
    intro n es q
    cases n with
    | zero => cases q
    | succ n => exact ih q
  | deep q r nb _ ih =>
    intro n es q'
    cases n with
    | zero => cases q'; exact ⟨_, _, _, rfl, .head _, q, r⟩
    | succ n =>
      obtain ⟨b, us, k, h1, h2, h3⟩ := ih q'
      exact ⟨b, us, k, h1, .tail _ h2, h3⟩
/-- an owned element changed where it lies -/
theorem OwnL.setDeep (o : OwnL h W bs vs xs) : ∀ {n : Nat} {es es' : List PyData} {b : Addr} {us : Array Value} {k : Nat}, xs[n]? = some (.deep es) → vs[n]? = some (.ref b) → (∀ c ob, h.get? c = some ob → c ≠ b → h'.get? c = some ob) → W b → h'.get? b = some (PySem.W.listOf us k) → RpL h' W us.toList es' →
    OwnL h' W bs vs (xs.set n (.deep es')) := by
  induction o with
  | nil => intro n es es' b us k q; cases q
  | flat r o ih =>
    intro n es es' b us k q1 q2 hs wb hb rb
    have tr : ∀ a ob, h.get? a = some ob → ¬ W a → h'.get? a = some ob ∧ ¬ W a := fun a ob q nn => ⟨hs a ob q fun e => nn (e ▸ wb), nn⟩
    cases n with
    | zero => cases q1
    | succ n => exact .flat (r.mono tr) (ih q1 q2 hs wb hb rb)
  | deep q r nb o ih =>
    intro n es es' b us k q1 q2 hs wb hb rb
    have tr : ∀ a ob, h.get? a = some ob → ¬ W a → h'.get? a = some ob ∧ ¬ W a := fun a ob q nn => ⟨hs a ob q fun e => nn (e ▸ wb), nn⟩
    cases n with
    | zero =>
      cases q2
      exact .deep hb rb nb (o.mono tr fun c hc ob q => hs c ob q fun e => nb (e ▸ hc))
    | succ n =>
      obtain ⟨b2, us2, k2, h1, h2, _⟩ := o.get q1
      have e : b2 = b := by
        have := h1.symm.trans q2
        cases this; rfl
      subst e
      exact .deep (hs _ _ q fun e2 => nb (by rw [e2]; exact h2)) (r.mono tr) nb (ih q1 q2 hs wb hb rb)
/-- an owned element let go: it is read alone from now on -/
theorem OwnL.setFlat (o : OwnL h W bs vs xs) : ∀ {n : Nat} {es : List PyData} {b : Addr}, xs[n]? = some (.deep es) → vs[n]? = some (.ref b) →
    ∃ bs', (∀ c, c ∈ bs' ↔ c ∈ bs ∧ c ≠ b) ∧ ∀ W' : Addr → Prop, (∀ a, ¬ W a → ¬ W' a) → ¬ W' b → OwnL h W' bs' vs (xs.set n (.flat (.list es))) := by
  induction o with
  | nil => intro n es b q; cases q
  | flat r o ih =>
    intro n es b q1 q2
    cases n with
    | zero => cases q1
    | succ n =>
      obtain ⟨bs', p, q⟩ := ih q1 q2
      exact ⟨bs', p, fun W' tr nb => .flat (r.mono fun a ob h n => ⟨h, tr a n⟩) (q W' tr nb)⟩
  | deep q r nb o ih =>
    intro n es b q1 q2
    cases n with
    | zero =>
      cases q1
      cases q2
      refine ⟨_, fun c => ⟨fun hc => ⟨.tail _ hc, fun e => nb (e ▸ hc)⟩, fun hc => (List.mem_cons.mp hc.1).elim (fun e => absurd e hc.2) id⟩, fun W' tr nb' => .flat (.list q nb' rfl rfl (r.mono fun a ob h n => ⟨h, tr a n⟩)) (o.mono (fun a ob h n => ⟨h, tr a n⟩) fun _ _ _ h => h)⟩
    | succ n =>
      obtain ⟨bs', p, q'⟩ := ih q1 q2
      obtain ⟨b2, us, k, h1, h2, h3⟩ := o.get q1
      have e : b2 = b := by
        have := h1.symm.trans q2
        cases this; rfl
      subst e
      refine ⟨_ :: bs', fun c => ?_, fun W' tr nb' => .deep q (r.mono fun a ob h n => ⟨h, tr a n⟩) (fun e => nb ((p _).mp e).1) (q' W' tr nb')⟩
      rw [List.mem_cons, List.mem_cons, p c]
      exact ⟨fun e => e.elim (fun e => ⟨.inl e, fun e2 => nb (by rw [← e, e2]; exact h2)⟩) fun e => ⟨.inr e.1, e.2⟩, fun e => e.1.imp id fun e1 => ⟨e1, e.2⟩⟩
/-- one more owned element -/
theorem OwnL.push {b : Addr} {us : Array Value} {k : Nat} {es : List PyData} (o : OwnL h W bs vs xs) (hb : h.get? b = some (PySem.W.listOf us k)) (r : RpL h W us.toList es) (n : b ∉ bs) : OwnL h W (bs ++ [b]) (vs ++ [.ref b]) (xs ++ [.deep es]) := by
  induction o with
  | nil => exact .deep hb r (fun e => by cases e) .nil
  | flat r' _ ih => exact .flat r' (ih n)
  | deep q r' nb _ ih =>
    refine .deep q r' (fun e => ?_) (ih fun e => n (.tail _ e))
    rcases List.mem_append.mp e with e | e
    · exact nb e
    · exact n (List.mem_singleton.mp e ▸ .head _)
end
section
variable {prog : Program} {w : World} {K : Frag} {hb : Heap} {Sp : String → List PyData → PyData → Prop} {g : G} {dep : Nat} {A : Around} {env : Env} {sc : Scope} {tb : List (Str × Nat)} {nx : Nat}
  {s : Shared} {W W' W'' W₀ : Addr → Prop} {ρ ρ' ρ'' : Ev} {ad ad' ad'' : Ad} {m : Str → Option Value} {h h' h'' : Heap} {E : Value → Shared → Prop} {kn : Ev → Prop} {kr : PyData → Prop} {Q : Flow → Shared → Prop} {v : Vw}

theorem Here.add {b : Addr} {tk : Nat} (H : Here hb env sc tb nx v W s) (e : Ext s.heap h') (hn : s.heap.get? b = none) (ha : ∃ o, h'.get? b = some o) : Here hb env sc tb nx v (fun a => W a ∨ a = b) { s with heap := h', toks := tk } :=
  ⟨H.eo, fun x i hx d hd => let ⟨val, p, q⟩ := H.see x i hx d hd; ⟨val, p.ext e, q.mono fun a o q nn => ⟨e a o q, fun r => r.elim nn fun r => by rw [r, hn] at q; cases q⟩⟩,
    H.base.trans e, fun a ha' => ha'.elim (fun q => let ⟨o, r⟩ := H.al a q; ⟨o, e a o r⟩) fun q => q ▸ ha⟩

/-- the lists of a list of lists, made anew -/
theorem listsS {n : Nat} (SN : Snd prog w hb Sp g A n) {pos : Pos} : ∀ {es : List Expr} {ass : List (List MX)} {W : Addr → Prop} {s : Shared} {k : List (List PyData) → Prop} {QQ : List Value → Shared → Prop}, cLL g n sc tb nx es = some ass → Here hb env sc tb nx v W s → wpLL Sp ass v k →
    (∀ bs vs dss h' tk, Ext s.heap h' → OwnL h' (fun a => W a ∨ a ∈ bs) bs vs (dss.map Elt.deep) → (∀ b ∈ bs, s.heap.get? b = none) → k dss → QQ vs { s with heap := h', toks := tk }) → wpAny (model prog w) A (spliced (backTo pos (starEach es env))) QQ E s
  | [], ass, W, s, k, QQ, hc, H, h, o => by
    cases hc
    exact spliced_nil (o [] [] [] s.heap s.toks Ext.refl .nil (fun _ q => by cases q) h)
  | e :: r, ass, W, s, k, QQ, hc, H, h, o => by
    obtain ⟨es1, he, hc⟩ := bnd (show ((asList e).bind fun es => if es.all notStar = true then (cL g n sc tb nx es).bind fun as => (cLL g n sc tb nx r).bind fun rs => some (as :: rs) else none) = some ass from hc)
    obtain ⟨lp, rfl⟩ := asList_ he
    obtain ⟨hs, hc⟩ := iff_ hc
    obtain ⟨as, has, rs, hrs, rfl⟩ := som2 hc
    have h : wpL Sp as v fun ds => ds.length ≤ 2 ^ 20 ∧ wpLL Sp rs v fun dss => k (ds :: dss) := h
    rw [starEach_cons rfl]
    refine spliced_cons (wpAny_List_spliced (SN.l has hs H h fun us ds h1 t1 e1 r1 hk1 => ⟨by rw [r1.length, sizeLine]; have := hk1.1; omega, ?_⟩))
    have hnew : h1.get? h1.objs.size = none := fresh_none h1
    have hold : s.heap.get? h1.objs.size = none := by
      cases q : s.heap.get? h1.objs.size with
      | none => rfl
      | some ob => rw [e1 _ _ q] at hnew; cases hnew
    have ex : Ext h1 (h1.push { cls := .type "list", data := .seq us.toArray }) := Ext.push _
    have hat : (h1.push { cls := .type "list", data := .seq us.toArray }).get? h1.objs.size = some (PySem.W.listOf us.toArray 0) := Heap.get?_push_size _ rfl
    refine listsS SN hrs (H.add (b := h1.objs.size) (tk := t1) (e1.trans ex) hold ⟨_, hat⟩) hk1.2 fun bs vs dss h2 t2 e2 ow hbs hk2 => ?_
    have nb : h1.objs.size ∉ bs := fun q => by have := hbs _ q; rw [show (h1.push { cls := .type "list", data := .seq us.toArray }).get? h1.objs.size = none from this] at hat; cases hat
    refine o (h1.objs.size :: bs) _ (ds :: dss) h2 t2 ((e1.trans ex).trans e2) (.deep (e2 _ _ hat) ?_ nb (ow.mono (fun a ob q nn => ⟨q, fun z => nn ?_⟩) fun _ _ _ q => q)) (fun b hb => ?_) hk2
    · refine r1.mono fun a ob q nn => ⟨e2 _ _ (ex _ _ q), fun z => z.elim nn fun z => ?_⟩
      rcases List.mem_cons.mp z with z | z
      · rw [z, hnew] at q; cases q
      · have q3 : (h1.push { cls := .type "list", data := .seq us.toArray }).get? a = none := hbs _ z
        rw [ex _ _ q] at q3
        cases q3
    · rcases z with z | z
      · exact .inl (.inl z)
      · rcases List.mem_cons.mp z with z | z
        · exact .inl (.inr z)
        · exact .inr z
    · rcases List.mem_cons.mp hb with z | z
      · rw [z]; exact hold
      · have q3 : (h1.push { cls := .type "list", data := .seq us.toArray }).get? b = none := hbs _ z
        cases q : s.heap.get? b with
        | none => rfl
        | some ob => rw [(e1.trans ex) _ _ q] at q3; cases q3

/-- x = [[..], ..], lists of one's own -/
theorem asgD_ {x : Str} {i : Nat} {p lp pos : Pos} {es : List Expr} {ass : List (List MX)} {n : Nat} (X : Fn prog w K hb Sp g dep A env sc tb nx) (S : St env tb W₀ ρ ad W m s.heap) (hbx : Ext hb s.heap) (hx : tb.lookup x = some i) (hc : cLL g n sc tb nx es = some ass)
    (h : wpS Sp (.asgD i ass) ρ kn kr) (k : NextP env tb W₀ s ρ ad W kn Q) : wpAny (model prog w) A (exec (.Assign [.Name x p] (.List es lp) pos) env) Q E s := by
  have h : wpLL Sp ass (stillV ρ) fun dss => dss.length ≤ 2 ^ 20 ∧ kn (setS ρ i (.deep (dss.map Elt.deep))) := h
  refine wpAny_Assign_Name (wpAny_List_spliced (listsS (X.snd n) hc (S.still X.F hbx) h fun bs vs dss h' tk e ow hbs hk => ⟨?_, ?_⟩)) (swapsNo (by rfl) _ _)
  · rw [ow.length, List.length_map, sizeLine]; have := hk.1; omega
  · have ex : Ext h' (h'.push { cls := .type "list", data := .seq vs.toArray }) := Ext.push _
    have hnew : h'.get? h'.objs.size = none := fresh_none h'
    have nb : h'.objs.size ∉ bs := fun q => by obtain ⟨o, q'⟩ := ow.alloc _ q; rw [hnew] at q'; cases q'
    have hold : s.heap.get? h'.objs.size = none := by
      cases q : s.heap.get? h'.objs.size with
      | none => rfl
      | some ob => rw [e _ _ q] at hnew; cases hnew
    refine storeS X.F (S.ext (e.trans ex)) hx fun m' h'' tk' T => ?_
    obtain ⟨q1, q2⟩ := St.putHeld X.F S (e.trans ex) (l := h'.objs.size) (bs := bs) (t := .deep (dss.map Elt.deep)) (fun b hb => hb.elim (fun q => q ▸ hold) fun q => hbs b q) nb rfl hx T (Heap.get?_push_size _ rfl)
      (ow.mono (fun a ob q nn => ⟨ex a ob q, fun z => z.elim (fun z => nn (.inl z)) fun z => z.elim (fun z => by have z : a = h'.objs.size := z; rw [z, hnew] at q; cases q) fun z => nn (.inr z)⟩) fun b _ ob q => ex b ob q)
    exact k _ _ _ m' h'' tk' q2 q1 hk.2

/-- an element of an own list of own lists -/
theorem eltK_ {xs : List Elt} {j : PyData} {k : Nat → List PyData → Prop} (h : eltK xs j k) : ∃ i es, j = .int i ∧ (0 ≤ i ∧ i < 2 ^ 40 ∧ xs.length ≤ 2 ^ 20) ∧ xs[i.toNat]? = some (.deep es) ∧ es.length ≤ 2 ^ 20 ∧ k i.toNat es := by
  unfold eltK at h
  split at h
  · rename_i i
    obtain ⟨h1, h2⟩ := h
    split at h2
    · rename_i es q
      exact ⟨i, es, rfl, h1, q, h2.1, h2.2⟩
    · exact h2.elim
  · exact h.elim
theorem eltS {x : Str} {i : Nat} {p sp : Pos} {ie : Expr} {mi : MX} {n : Nat} {xs : List Elt} {k : Nat → List PyData → Prop} {QQ : Value → Shared → Prop} (X : Fn prog w K hb Sp g dep A env sc tb nx) (S : St env tb W₀ ρ ad W m s.heap) (hbx : Ext hb s.heap) (hx : tb.lookup x = some i) (hi : getS ρ i = .deep xs)
    (hns : isSlice ie = false) (hc : cE g n sc tb nx ie = some mi) (h : wpE Sp mi (stillV ρ) fun j => eltK xs j k)
    (o : ∀ b us kk j es vs n2 h' tk, Ext s.heap h' → xs[j]? = some (.deep es) → es.length ≤ 2 ^ 20 → s.heap.get? (ad i).1 = some (PySem.W.listOf vs n2) → OwnL s.heap W (ad i).2 vs.toList xs → vs.toList[j]? = some (.ref b) → b ∈ (ad i).2 → s.heap.get? b = some (PySem.W.listOf us kk) → RpL s.heap W us.toList es → xs.length ≤ 2 ^ 20 → k j es → QQ (.ref b) { s with heap := h', toks := tk }) :
    wpAny (model prog w) A (eval (.Subscript (.Name x p) ie sp) env) QQ E s := by
  obtain ⟨sv, z, vs, n2, hl, ow⟩ := S.own x i xs hx (held_deep hi)
  obtain ⟨_, q1, q2⟩ := X.F.eo.ok x i hx
  refine Subscript_ (nameS (sv.sees S.ns) X.F.eo.kind q1 q2 (((X.snd n).e hc (S.still X.F hbx)).1 h fun iv dj h2 t2 e2 r2 hk2 => ?_))
  obtain ⟨j, es, rfl, hj, hxs, hes, hk⟩ := eltK_ hk2
  cases r2
  obtain ⟨b, us, kk, hv, hb', hub, hrp⟩ := ow.get hxs
  refine tail_here (fun lo hi p e => by rw [e] at hns; cases hns) ⟨_, e2 _ _ hl, rfl⟩ slot_list_getitem.lookup ?_
  exact wpAny_getItem_list ⟨_, e2 _ _ hl, rfl, _, rfl⟩ hj.1 (by omega) (by rw [← Array.getElem?_toList]; exact hv) (o b us kk j.toNat es vs n2 h2 t2 e2 hxs hes hl ow hv hb' hub hrp hj.2.2 hk)

theorem getS_lt' {i : Nat} {xs : List Elt} : ∀ {ρ : Ev}, getS ρ i = .deep xs → i < ρ.length := by
  induction i with
  | zero => intro ρ h; cases ρ with | nil => cases h | cons x r => exact Nat.zero_lt_succ _
  | succ i ih => intro ρ h; cases ρ with | nil => cases h | cons x r => exact Nat.succ_lt_succ (ih h)

/-- x[i].append(e) on an own list of own lists -/
theorem apD_ {x : Str} {i : Nat} {p sp ap epos pos : Pos} {ie e : Expr} {mi me : MX} {n n' : Nat} (X : Fn prog w K hb Sp g dep A env sc tb nx) (S : St env tb W₀ ρ ad W m s.heap) (hbx : Ext hb s.heap) (hx : tb.lookup x = some i) (hsl : isSlice ie = false)
    (hns : notStar e = true) (hline : (ap.endLine == epos.line) = true) (hci : cE g n sc tb nx ie = some mi) (hc : cE g n' sc tb nx e = some me)
    (h : wpS Sp (.apD i mi me) ρ kn kr) (k : NextP env tb W₀ s ρ ad W kn Q) : wpAny (model prog w) A (exec (.Expr (.Call (.Attribute (.Subscript (.Name x p) ie sp) "append" ap) [e] [] epos) pos) env) Q E s := by
  have h : (match getS ρ i with
    | .deep xs => wpE Sp mi (stillV ρ) fun j => eltK xs j fun n es => wpE Sp me (stillV ρ) fun d => kn (setS ρ i (.deep (xs.set n (.deep (es ++ [d])))))
    | _ => False) := h
  split at h
  · rename_i xs hi
    refine wpAny_Expr_any ?_ (by unfold interactive; rw [X.F.eo.kind]; rfl) (swapsNo (by rfl) _ _)
    refine wpAny_Call_append (by rfl) (by rw [starEach_cons hns]; rfl) hline (by rw [starEach_cons hns]; rfl) ?_
    refine eltS X S hbx hx hi hsl hci h fun b us kk j es vs n2 h1 t1 e1 hxs hes hl ow hv hb' hub hrp hlen hk => ⟨b, us, rfl, ⟨_, kk, e1 _ _ hub, rfl, rfl, rfl⟩, ?_⟩
    have hk : wpE Sp me (stillV ρ) fun d => kn (setS ρ i (.deep (xs.set j (.deep (es ++ [d]))))) := hk
    refine ((X.snd n').e hc ((S.ext e1).still (s := { s with heap := h1, toks := t1 }) X.F (hbx.trans e1))).1 hk fun v d h2 t2 e2 r2 hk2 => ?_
    have eE := e1.trans e2
    have ulen : us.size = es.length := by rw [← Array.length_toList]; exact hrp.length
    refine wpAny_list_append_plain (items := us) ⟨kk, eE _ _ hub⟩ (fun h3 hp hs => ?_) (by rw [ulen, sizeLine]; omega)
    obtain ⟨n3, hp⟩ := hp
    have ww := S.ownW x i xs hx (held_deep hi)
    have zz := (S.own x i xs hx (held_deep hi)).2.1
    have wb : W b := (ww b (.inr hb')).1
    have tr : ∀ a ob, h2.get? a = some ob → ¬ W a → h3.get? a = some ob ∧ ¬ W a := fun a ob q nn => ⟨(hs.2 a fun e => nn (e ▸ wb)).trans q, nn⟩
    have rr : RpL h3 W (us.push v).toList (es ++ [d]) := by
      rw [Array.toList_push]
      exact ((hrp.ext eE).append (.cons r2 .nil)).mono tr
    have ow3 := (ow.ext eE).setDeep hxs hv (fun c ob q nn => (hs.2 c nn).trans q) wb hp rr
    have toW : ∀ a, ¬ W a → ¬ ((W a ∧ a ∉ (ad i).2) ∨ a ∈ (ad i).2) := fun a nn q => q.elim (fun q => nn q.1) fun q => nn (ww a (.inr q)).1
    obtain ⟨a1, a2⟩ := S.turn (t := .deep (xs.set j (.deep (es ++ [d])))) (bs := (ad i).2) X.F eE hx (held_deep hi) rfl (fun c ob q nn => (hs.2 c fun e => nn (.inr (e ▸ hb'))).trans q) (fun c ob q => by
      by_cases e : c = b
      · exact ⟨_, e ▸ hp⟩
      · exact ⟨ob, (hs.2 c e).trans q⟩) (fun c hc => .inl hc) zz ((hs.2 _ fun e => zz (by rw [e]; exact hb')).trans (eE _ _ hl)) (ow3.mono (fun a ob q nn => ⟨q, toW a nn⟩) fun _ _ _ q => q)
    exact k _ _ _ m h3 t2 a2 a1 hk2
  · exact h.elim

/-- x.append([..]) on an own list of own lists -/
theorem apN_ {x : Str} {i : Nat} {p lp ap epos pos : Pos} {es : List Expr} {as : List MX} {n : Nat} (X : Fn prog w K hb Sp g dep A env sc tb nx) (S : St env tb W₀ ρ ad W m s.heap) (hbx : Ext hb s.heap) (hx : tb.lookup x = some i)
    (hline : (ap.endLine == epos.line) = true) (hs : es.all notStar = true) (hc : cL g n sc tb nx es = some as)
    (h : wpS Sp (.apN i as) ρ kn kr) (k : NextP env tb W₀ s ρ ad W kn Q) : wpAny (model prog w) A (exec (.Expr (.Call (.Attribute (.Name x p) "append" ap) [.List es lp] [] epos) pos) env) Q E s := by
  have h : (match getS ρ i with
    | .deep xs => wpL Sp as (stillV ρ) fun ds => (xs.length ≤ 2 ^ 20 ∧ ds.length ≤ 2 ^ 20) ∧ kn (setS ρ i (.deep (xs ++ [.deep ds])))
    | _ => False) := h
  split at h
  · rename_i xs hi
    obtain ⟨sv, zz, vs, n2, hl, ow⟩ := S.own x i xs hx (held_deep hi)
    obtain ⟨_, q1, q2⟩ := X.F.eo.ok x i hx
    have ww := S.ownW x i xs hx (held_deep hi)
    refine wpAny_Expr_any ?_ (by unfold interactive; rw [X.F.eo.kind]; rfl) (swapsNo (by rfl) _ _)
    refine wpAny_Call_append (by rfl) (by rw [starEach_cons rfl]; rfl) hline (by rw [starEach_cons rfl]; rfl) ?_
    refine nameS (sv.sees S.ns) X.F.eo.kind q1 q2 ⟨_, vs, rfl, ⟨_, n2, hl, rfl, rfl, rfl⟩, ?_⟩
    refine wpAny_List_spliced ((X.snd n).l hc hs (S.still X.F hbx) h fun us ds h1 t1 e1 r1 hk1 => ⟨by rw [r1.length, sizeLine]; have := hk1.1.2; omega, ?_⟩)
    have ex : Ext h1 (h1.push { cls := .type "list", data := .seq us.toArray }) := Ext.push _
    have hat : (h1.push { cls := .type "list", data := .seq us.toArray }).get? h1.objs.size = some (PySem.W.listOf us.toArray 0) := Heap.get?_push_size _ rfl
    have hnew : h1.get? h1.objs.size = none := fresh_none h1
    have eE := e1.trans ex
    have hold : s.heap.get? h1.objs.size = none := by
      cases q : s.heap.get? h1.objs.size with
      | none => rfl
      | some ob => rw [e1 _ _ q] at hnew; cases hnew
    have vlen : vs.size = xs.length := by rw [← Array.length_toList]; exact ow.length
    have nl : h1.objs.size ≠ (ad i).1 := fun e => by rw [e, hl] at hold; cases hold
    have nb : h1.objs.size ∉ (ad i).2 := fun q => by obtain ⟨o, q'⟩ := ow.alloc _ q; rw [hold] at q'; cases q'
    refine wpAny_list_append_plain (items := vs) ⟨n2, eE _ _ hl⟩ (fun h3 hp hs => ?_) (by rw [vlen, sizeLine]; have := hk1.1.1; omega)
    obtain ⟨n3, hp⟩ := hp
    have wm : W (ad i).1 := (ww _ (.inl rfl)).1
    let W1 : Addr → Prop := fun a => (W a ∧ a ∉ (ad i).2) ∨ a ∈ (ad i).2 ++ [h1.objs.size]
    have toW : ∀ a ob, s.heap.get? a = some ob → ¬ W a → ¬ W1 a := fun a ob q nn z => z.elim (fun z => nn z.1) fun z => (List.mem_append.mp z).elim (fun z => nn (ww a (.inr z)).1) fun z => by rw [List.mem_singleton.mp z, hold] at q; cases q
    have toW1 : ∀ a ob, h1.get? a = some ob → ¬ W a → ¬ W1 a := fun a ob q nn z => z.elim (fun z => nn z.1) fun z => (List.mem_append.mp z).elim (fun z => nn (ww a (.inr z)).1) fun z => by rw [List.mem_singleton.mp z, hnew] at q; cases q
    have ow3 : OwnL h3 W1 (ad i).2 vs.toList xs := ow.mono (fun a ob q nn => ⟨(hs.2 a fun e => nn (e ▸ wm)).trans (eE _ _ q), toW a ob q nn⟩) fun b hb ob q => (hs.2 b fun e => zz (e ▸ hb)).trans (eE _ _ q)
    have rr : RpL h3 W1 us ds := r1.mono fun a ob q nn => ⟨(hs.2 a fun e => nn (e ▸ wm)).trans (ex _ _ q), toW1 a ob q nn⟩
    have ow4 : OwnL h3 W1 ((ad i).2 ++ [h1.objs.size]) (vs.push (.ref h1.objs.size)).toList (xs ++ [.deep ds]) := by
      rw [Array.toList_push]
      exact ow3.push (us := us.toArray) ((hs.2 _ nl).trans hat) rr nb
    obtain ⟨a1, a2⟩ := S.turn (t := .deep (xs ++ [.deep ds])) (bs := (ad i).2 ++ [h1.objs.size]) X.F eE hx (held_deep hi) rfl (fun c ob q nn => (hs.2 c fun e => nn (.inl e)).trans q) (fun c ob q => by
      by_cases e : c = (ad i).1
      · exact ⟨_, e ▸ hp⟩
      · exact ⟨ob, (hs.2 c e).trans q⟩) (fun c hc => (List.mem_append.mp hc).imp id fun q => by rw [List.mem_singleton.mp q]; exact hold) (fun q => (List.mem_append.mp q).elim zz fun q => nl (List.mem_singleton.mp q).symm) hp ow4
    exact k _ _ _ m h3 t1 a2 a1 hk1.2
  · exact h.elim

/-- the list at x[i] is let go, to be gone through -/
theorem freeElt {x : Str} {i : Nat} {j : Nat} {es : List PyData} {xs : List Elt} {b : Addr} {vs : Array Value} {n2 : Nat} (X : Fn prog w K hb Sp g dep A env sc tb nx) (S : St env tb W₀ ρ ad W m s.heap) (hx : tb.lookup x = some i) (hi : getS ρ i = .deep xs)
    (hxs : xs[j]? = some (.deep es)) (hl : s.heap.get? (ad i).1 = some (PySem.W.listOf vs n2)) (ow : OwnL s.heap W (ad i).2 vs.toList xs) (hv : vs.toList[j]? = some (.ref b)) (hb' : b ∈ (ad i).2) :
    ∃ ad' W', St env tb W₀ (setS ρ i (.deep (xs.set j (.flat (.list es))))) ad' W' m s.heap ∧ Step env tb ρ ad W s.heap (setS ρ i (.deep (xs.set j (.flat (.list es))))) ad' W' s.heap ∧ (∀ a, ¬ W a → ¬ W' a) ∧ ¬ W' b := by
  have ww := S.ownW x i xs hx (held_deep hi)
  have zz := (S.own x i xs hx (held_deep hi)).2.1
  obtain ⟨bs', p, q⟩ := ow.setFlat hxs hv
  have n1 : ∀ a, ¬ W a → ¬ ((W a ∧ a ∉ (ad i).2) ∨ a ∈ bs') := fun a nn z => z.elim (fun z => nn z.1) fun z => nn (ww a (.inr ((p a).mp z).1)).1
  have n2 : ¬ ((W b ∧ b ∉ (ad i).2) ∨ b ∈ bs') := fun z => z.elim (fun z => z.2 hb') fun z => ((p b).mp z).2 rfl
  obtain ⟨a1, a2⟩ := S.turn (t := .deep (xs.set j (.flat (.list es)))) (bs := bs') X.F Ext.refl hx (held_deep hi) rfl (fun c ob q nn => q) (fun c ob q => ⟨ob, q⟩) (fun c hc => .inl ((p c).mp hc).1) (fun z => zz ((p _).mp z).1) hl (q _ n1 n2)
  exact ⟨_, _, a1, a2, n1, n2⟩
end
end Mine
end RD

section R13
open PySem PySem.W PyProof.Rows PySem.Calls PyProof.V PySem.Spec PySem.SeqAt
namespace Mine
section
variable {prog : Program} {w : World} {K : Frag} {hb : Heap} {Sp : String → List PyData → PyData → Prop} {g : G} {dep : Nat} {A : Around} {env : Env} {sc : Scope} {tb : List (Str × Nat)} {nx : Nat}
  {s : Shared} {W W' W'' W₀ : Addr → Prop} {ρ ρ' ρ'' : Ev} {ad ad' ad'' : Ad} {m : Str → Option Value} {h h' h'' : Heap} {E : Value → Shared → Prop} {kn : Ev → Prop} {kr : PyData → Prop} {Q : Flow → Shared → Prop}

/-- a block does what its small block says -/
noncomputable def BodyS (prog : Program) (w : World) (hb : Heap) (Sp : String → List PyData → PyData → Prop) (A : Around) (env : Env) (tb : List (Str × Nat)) (body : List Stmt) (mb : List MS) : Prop :=
  ∀ {W₀ W : Addr → Prop} {ρ : Ev} {ad : Ad} {m : Str → Option Value} {s : Shared} {kn : Ev → Prop} {kr : PyData → Prop} {Q : Flow → Shared → Prop} {E : Value → Shared → Prop},
    St env tb W₀ ρ ad W m s.heap → BaseAt hb env tb ρ ad s.heap → wpB Sp mb ρ kn kr → NextP env tb W₀ s ρ ad W kn Q → RetP env tb W₀ s ρ ad kr Q → wpAny (model prog w) A (execs body env) Q E s

theorem ifs_ {t : Expr} {mt : MX} {a b : List Stmt} {ma mb : List MS} {pos : Pos} {n : Nat} (X : Fn prog w K hb Sp g dep A env sc tb nx) (S : St env tb W₀ ρ ad W m s.heap) (BA : BaseAt hb env tb ρ ad s.heap) (hc : cE g n sc tb nx t = some mt)
    (ba : BodyS prog w hb Sp A env tb a ma) (bb : BodyS prog w hb Sp A env tb b mb) (h : wpS Sp (.ifs mt ma mb) ρ kn kr) (k : NextP env tb W₀ s ρ ad W kn Q) (kk : RetP env tb W₀ s ρ ad kr Q) : wpAny (model prog w) A (exec (.If t a b pos) env) Q E s := by
  have h : wpT Sp mt (allV ρ) fun c => (c = true → wpB Sp ma ρ kn kr) ∧ (c = false → wpB Sp mb ρ kn kr) := h
  refine wpAny_If (((X.snd n).e hc (S.all X.F BA.ext)).2 h fun c h' tk ex hk => ?_)
  cases c with
  | true => exact ba (S.ext ex) (BA.step (W := W) (W' := W) (.ext ex)) (hk.1 rfl) (k.ext ex) (kk.ext ex)
  | false => exact bb (S.ext ex) (BA.step (W := W) (W' := W) (.ext ex)) (hk.2 rfl) (k.ext ex) (kk.ext ex)

theorem whl_ {t : Expr} {mt : MX} {a : List Stmt} {ma : List MS} {pos : Pos} {n : Nat} (X : Fn prog w K hb Sp g dep A env sc tb nx) (S : St env tb W₀ ρ ad W m s.heap) (BA : BaseAt hb env tb ρ ad s.heap) (hc : cE g n sc tb nx t = some mt)
    (ba : BodyS prog w hb Sp A env tb a ma) (h : wpS Sp (.whl mt ma) ρ kn kr) (k : NextP env tb W₀ s ρ ad W kn Q) (kk : RetP env tb W₀ s ρ ad kr Q) : wpAny (model prog w) A (exec (.While t a [] pos) env) Q E s := by
  obtain ⟨N, h⟩ : ∃ N, whlK (fun ρ k => wpT Sp mt (allV ρ) k) (fun ρ k => wpB Sp ma ρ k kr) N ρ kn := h
  refine wpAny_While (codeAny_whileLoop (fun N s' => ∃ ρ' ad' W' m' h' tk, s' = { s with heap := h', toks := tk } ∧ Step env tb ρ ad W s.heap ρ' ad' W' h' ∧ St env tb W₀ ρ' ad' W' m' h' ∧
    whlK (fun ρ k => wpT Sp mt (allV ρ) k) (fun ρ k => wpB Sp ma ρ k kr) N ρ' kn) ?_ N ⟨ρ, ad, W, m, s.heap, s.toks, rfl, .refl, S, h⟩)
  rintro N s' ⟨ρ', ad', W', m', h', tk, rfl, T', S', hw⟩
  cases N with
  | zero => exact hw.elim
  | succ N =>
    have BA' := BA.step T'
    refine ((X.snd n).e hc (S'.all (s := { s with heap := h', toks := tk }) X.F BA'.ext)).2 hw fun c h2 t2 ex hk => ?_
    cases c with
    | true =>
      show wpAny _ A (execs a env) _ _ _
      refine ba (S'.ext ex) (BA'.step (W := W') (W' := W') (.ext ex)) (hk.1 rfl) ?_ ?_
      · intro ρ3 ad3 W3 m3 h3 tk3 T3 S3 hk3
        exact ⟨N, Nat.lt_succ_self N, ρ3, ad3, W3, m3, h3, tk3, rfl, T'.trans (.of_ext ex T3), S3, hk3⟩
      · exact ((RetP.step kk T').ext ex)
    | false =>
      show wpAny _ A (execs [] env) _ _ _
      exact wpAny_execs_nil (k _ _ _ m' h2 t2 (T'.trans (.ext ex)) (S'.ext ex) (hk.2 rfl))

theorem Step.mv {I : Addr} (mv : ∀ b o, b ≠ I → h.get? b = some o → h'.get? b = some o) {h₀ : Heap} {W₁ : Addr → Prop} {ρ₁ : Ev} {ad₁ : Ad} (T : Step env tb ρ ad W h₀ ρ₁ ad₁ W₁ h) (hI : h₀.get? I = none) : Step env tb ρ ad W h₀ ρ₁ ad₁ W₁ h' where
  live := fun b o q => let ⟨o', q'⟩ := T.live b o q; ⟨o', mv b o' (fun e => by rw [e, hI] at q; cases q) q'⟩
  wg := T.wg
  keep := fun b o q n => mv b o (fun e => by rw [e, hI] at q; cases q) (T.keep b o q n)
  wr := T.wr

/-- an iterator let go -/
theorem St.letgo {I : Addr} (S : St env tb (fun a => W₀ a ∨ a = I) ρ ad W m h) (hn : ¬ W₀ I) (hL : env.locals ≠ I) (hC : ∀ x c, env.cells.lookup x = some c → c ≠ I) (mv : ∀ b o, b ≠ I → h.get? b = some o → h'.get? b = some o) :
    St env tb W₀ ρ ad (fun a => W a ∧ a ≠ I) m h' := by
  have hWI : W I := S.sub I (.inr rfl)
  have tr : ∀ a o, h.get? a = some o → ¬ W a → h'.get? a = some o ∧ ¬ (W a ∧ a ≠ I) := fun a o q n => ⟨mv a o (fun e => n (e ▸ hWI)) q, fun e => n e.1⟩
  have sees : ∀ y u, SeesM m h env y u → SeesM m h' env y u := by
    rintro y u (a | ⟨a, c, b, o, d, e⟩)
    · exact .inl a
    · exact .inr ⟨a, c, b, o, mv c o (hC y c b) d, e⟩
  refine ⟨S.ns.at' fun o => mv _ o hL, fun x c q => ?_, fun x i d a b => ?_, fun x i xs a b => ?_, fun x i xs a b c hc => ?_, S.ownI, fun a ha => ⟨S.sub a (.inl ha), fun e => hn (e ▸ ha)⟩, ⟨S.wl, hL⟩, fun x c q => ⟨S.wc x c q, hC x c q⟩, fun a ha => ?_⟩
  · obtain ⟨v, o, a, b⟩ := S.cells x c q
    exact ⟨v, o, mv c o (hC x c q) a, b⟩
  · obtain ⟨v, p, q⟩ := S.imm x i d a b
    exact ⟨v, sees x v p, q.mono tr⟩
  · obtain ⟨p, z, vs, n, q, r⟩ := S.own x i xs a b
    have ww := S.ownW x i xs a b
    have kp : ∀ b, Mine' (ad i) b → ∀ o, h.get? b = some o → h'.get? b = some o := fun b hb o q => mv b o (fun e => (ww b hb).2.1 (.inr e)) q
    exact ⟨sees x _ p, z, vs, n, kp _ (.inl rfl) _ q, r.mono tr fun b hb => kp b (.inr hb)⟩
  · obtain ⟨w1, w2, w3, w4⟩ := S.ownW x i xs a b c hc
    exact ⟨⟨w1, fun e => w2 (.inr e)⟩, fun e => w2 (.inl e), w3, w4⟩
  · obtain ⟨o, q⟩ := S.al a ha.1
    exact ⟨o, mv a o ha.2 q⟩

theorem forH {x : Str} {i : Nat} {px : Pos} {a : List Stmt} {ma : List MS} {I : Addr} {ds : List PyData} {h1 : Heap} {t1 : Nat} (X : Fn prog w K hb Sp g dep A env sc tb nx) (S : St env tb W₀ ρ ad W m s.heap) (BA : BaseAt hb env tb ρ ad s.heap) (hx : tb.lookup x = some i)
    (ba : BodyS prog w hb Sp A env tb a ma) (e1 : Ext s.heap h1) (hI : s.heap.get? I = none) (iok : IterOk prog w A h1 W I ds) (hk : forK (fun ρ k => wpB Sp ma ρ k kr) i ds ρ kn)
    (k : NextP env tb W₀ s ρ ad W kn Q) (kk : RetP env tb W₀ s ρ ad kr Q) :
    codeAny (model prog w) A (.forLoop (.Name x px) (.ref I) a [] env) (fun r s' => match r with | .ok f => Q f s' | .error e => cameBackBy (model prog w) A env E e s') { s with heap := h1, toks := t1 } := by
  obtain ⟨fp, P, Si, Wk, st0, live, off, liveI, hP⟩ := iok
  -- the state once the iterator lies there: it is none of ours to write
  have SL : St env tb (fun a => W₀ a ∨ a = I) ρ ad (fun a => W a ∨ a = I) m h1 := S.lock e1 hI (liveI 0 h1 st0)
  have hIL : env.locals ≠ I := fun e => by obtain ⟨o, ho⟩ := S.al _ S.wl; rw [e, hI] at ho; cases ho
  have hIC : ∀ x c, env.cells.lookup x = some c → c ≠ I := fun x c q e => by obtain ⟨o, ho⟩ := S.al _ (S.wc x c q); rw [e, hI] at ho; cases ho
  refine codeAny_forLoop (fun N s' => ∃ j ρ' ad' W' m' h' tk, s' = { s with heap := h', toks := tk } ∧ N + j = ds.length + 1 ∧ j ≤ ds.length ∧ Si j h' ∧ Step env tb ρ ad W s.heap ρ' ad' W' h' ∧ St env tb (fun a => W₀ a ∨ a = I) ρ' ad' W' m' h' ∧
    (∀ b o, h1.get? b = some o → b ≠ I → ¬ W b → h'.get? b = some o) ∧ (∀ b o, h1.get? b = some o → ∃ o', h'.get? b = some o') ∧ (∀ b, W' b → (W b ∨ b = I) ∨ h1.get? b = none) ∧
    forK (fun ρ k => wpB Sp ma ρ k kr) i (ds.drop j) ρ' kn) ?_ (ds.length + 1) ⟨0, ρ, ad, _, m, h1, t1, rfl, rfl, Nat.zero_le _, st0, ?_, SL, fun b o q _ _ => q, fun b o q => ⟨o, q⟩, fun b q => .inl q, by simpa using hk⟩
  · rintro N s' ⟨j, ρ', ad', W', m', h', tk, rfl, hN, hj, hsi, T0, S', keep1, live1, wg1, hf⟩
    have notI : ¬ Wr env tb ρ' ad' I := by
      rintro (e | ⟨y, e⟩ | ⟨y, l, es, a, c, e⟩)
      · exact hIL e.symm
      · exact hIC y I e rfl
      · exact (S'.ownW y l es a c I e).2.1 (.inr rfl)
    have notW : ∀ b o, h1.get? b = some o → b ≠ I → ¬ W b → ¬ W' b := fun b o q n1 n2 e => (wg1 b e).elim (fun e => e.elim n2 n1) fun e => by rw [q] at e; cases e
    have liveI' : ∀ j h'', Si j h'' → ∃ o, h''.get? I = some o := liveI
    rcases Nat.lt_or_ge j ds.length with hlt | hge
    · refine Wk.item j _ _ _ hlt hsi fun v h'' tk' hPv hsi' mv0 => ?_
      have mv : ∀ b o, b ≠ I → h'.get? b = some o → h''.get? b = some o := fun b o n q => mv0 b o (fun e => n (List.mem_singleton.mp e)) q
      obtain ⟨d, hd, rd⟩ := hP j v hPv
      have S2 := S'.moved (h' := h'') (.inr rfl) hIL hIC mv (liveI _ _ hsi')
      have T1 : Step env tb ρ ad W s.heap ρ' ad' W' h'' := T0.mv mv hI
      have rd2 : Rp h'' W' v d := rd.mono fun a o q1 q2 => ⟨mv a o (fun e => q2 (.inr e)) (keep1 a o q1 (fun e => q2 (.inr e)) fun e => q2 (.inl e)), notW a o q1 (fun e => q2 (.inr e)) fun e => q2 (.inl e)⟩
      rw [List.drop_eq_getElem_cons hlt] at hf
      have hd' : ds[j] = d := by rw [List.getElem?_eq_getElem hlt] at hd; exact Option.some.inj hd
      rw [hd'] at hf
      have hf : wpB Sp ma (setS ρ' i (.imm d)) (fun ρ'' => forK (fun ρ k => wpB Sp ma ρ k kr) i (ds.drop (j + 1)) ρ'' kn) kr := hf
      show wpAny _ A (assign (.Name x px) env v) _ _ _
      refine PyProof.Rows.assign_Name (storeS X.F S2 hx fun m3 h3 tk3 T => ?_)
      obtain ⟨S3, T3⟩ := S2.putImm X.F hx T rd2
      refine ba S3 (BA.step (T1.trans T3)) hf ?_ ?_
      · intro ρ4 ad4 W4 m4 h4 tk4 T4 S4 hk4
        have TT := T3.trans T4
        have notWr : ∀ b o, h1.get? b = some o → b ≠ I → ¬ W b → ¬ Wr env tb ρ' ad' b := fun b o q n1 n2 e => notW b o q n1 n2 (S2.wrW e)
        refine ⟨N - 1, by omega, j + 1, ρ4, ad4, W4, m4, h4, tk4, rfl, by omega, hlt, ?_, T1.trans TT, S4, ?_, ?_, ?_, hk4⟩
        · refine Wk.frame (j + 1) h'' h4 hsi' fun b hb o q => TT.keep b o q fun e => ?_
          by_cases hbI : b = I
          · exact notI (hbI ▸ e)
          · obtain ⟨o1, q1⟩ := live b hb
            exact notWr b o1 q1 hbI (fun e => off b hb e) e
        · intro b o q n1 n2
          exact TT.keep b o (mv b o n1 (keep1 b o q n1 n2)) (notWr b o q n1 n2)
        · intro b o q
          by_cases hbI : b = I
          · obtain ⟨o', q'⟩ := liveI _ _ hsi'
            exact TT.live b o' (hbI ▸ q')
          · obtain ⟨o', q'⟩ := live1 b o q
            exact TT.live b o' (mv b o' hbI q')
        · intro b e
          rcases TT.wg b e with e | e
          · exact wg1 b e
          · refine .inr ?_
            cases q : h1.get? b with
            | none => rfl
            | some o =>
              by_cases hbI : b = I
              · obtain ⟨o', q'⟩ := liveI _ _ hsi'
                rw [hbI, q'] at e; cases e
              · obtain ⟨o', q'⟩ := live1 b o q
                rw [mv b o' hbI q'] at e; cases e
      · exact fun v' d' h5 tk5 a r q => (RetP.step (tk := tk3) kk (T1.trans T3)) v' d' h5 tk5 a (r.mono fun a o q1 q2 => ⟨q1, fun e => q2 (.inl e)⟩) q
    · have : j = ds.length := by omega
      subst this
      refine Wk.done _ _ _ hsi fun h'' tk' mv0 => ?_
      have mv : ∀ b o, b ≠ I → h'.get? b = some o → h''.get? b = some o := fun b o n q => mv0 b o (fun e => n (List.mem_singleton.mp e)) q
      rw [List.drop_length] at hf
      have hf : kn ρ' := hf
      show wpAny _ A (execs [] env) _ _ _
      have hnI : ¬ W₀ I := fun e => by obtain ⟨o, ho⟩ := S.al I (S.sub I e); rw [hI] at ho; cases ho
      have T1 := T0.mv mv hI
      exact wpAny_execs_nil (k _ _ _ m' h'' tk' ⟨T1.live, fun b e => T1.wg b e.1, T1.keep, T1.wr⟩ (S'.letgo hnI hIL hIC mv) hf)
  · exact ⟨fun b o q => ⟨o, e1 b o q⟩, fun b q => q.imp id fun (e : b = I) => e ▸ hI, fun b o q _ => e1 b o q, fun b q => .inl q⟩

theorem for_ {x : Str} {i : Nat} {px pos : Pos} {it : Expr} {src : MX} {a : List Stmt} {ma : List MS} {n : Nat} (X : Fn prog w K hb Sp g dep A env sc tb nx) (S : St env tb W₀ ρ ad W m s.heap) (BA : BaseAt hb env tb ρ ad s.heap) (hx : tb.lookup x = some i)
    (hns : notSet it = true) (hc : cR g n sc tb nx it = some src)
    (ba : BodyS prog w hb Sp A env tb a ma) (h : wpS Sp (.forE i src ma) ρ kn kr) (k : NextP env tb W₀ s ρ ad W kn Q) (kk : RetP env tb W₀ s ρ ad kr Q) : wpAny (model prog w) A (exec (.For (.Name x px) it a [] pos) env) Q E s := by
  have h : wpR Sp src (stillV ρ) fun ds => forK (fun ρ k => wpB Sp ma ρ k kr) i ds ρ kn := h
  exact wpAny_For ((X.snd n).r hc (S.still X.F BA.ext) h fun I ds h1 t1 e1 hI iok hlen hk => forH X S BA hx ba e1 hI iok hk k kk) (foldedSet_no hns)
/-- .. through a list in an own list: it is let go first -/
theorem forD_ {y x : Str} {l i : Nat} {py p sp pos : Pos} {ie : Expr} {mi : MX} {a : List Stmt} {ma : List MS} {n : Nat} (X : Fn prog w K hb Sp g dep A env sc tb nx) (S : St env tb W₀ ρ ad W m s.heap) (BA : BaseAt hb env tb ρ ad s.heap) (hy : tb.lookup y = some l) (hx : tb.lookup x = some i)
    (hsl : isSlice ie = false) (hc : cE g n sc tb nx ie = some mi)
    (ba : BodyS prog w hb Sp A env tb a ma) (h : wpS Sp (.forD l i mi ma) ρ kn kr) (k : NextP env tb W₀ s ρ ad W kn Q) (kk : RetP env tb W₀ s ρ ad kr Q) : wpAny (model prog w) A (exec (.For (.Name y py) (.Subscript (.Name x p) ie sp) a [] pos) env) Q E s := by
  have h : (match getS ρ i with
    | .deep xs => wpE Sp mi (stillV ρ) fun j => eltK xs j fun n es => forK (fun ρ k => wpB Sp ma ρ k kr) l es (setS ρ i (.deep (xs.set n (.flat (.list es))))) kn
    | _ => False) := h
  split at h
  · rename_i xs hi
    refine wpAny_For (eltS X S BA.ext hx hi hsl hc h fun b us kk' j es vs n2 h' tk e hxs hes hl ow hv hb' hub hrp hlen hk => ?_) (foldedSet_no rfl)
    obtain ⟨ad', W', S', T', n1, nb⟩ := freeElt X S hx hi hxs hl ow hv hb'
    have r : Rp h' W' (.ref b) (.list es) := .list (e _ _ hub) nb rfl rfl (hrp.mono fun a ob q nn => ⟨e a ob q, n1 a nn⟩)
    refine iterS (s := { s with heap := h', toks := tk }) (ik := fun ds => forK (fun ρ k => wpB Sp ma ρ k kr) l ds (setS ρ i (.deep (xs.set j (.flat (.list es))))) kn) X.R.hh (S'.al.ext e) r ⟨hes, hk⟩ fun I ds h2 e2 hI iok hl2 hk2 => ?_
    refine forH (s := s) X S' (BA.step T') hy ba (e.trans e2) ?_ iok hk2 (k.step T') (kk.step T')
    cases q : s.heap.get? I with
    | none => rfl
    | some ob => have := e _ _ q; rw [show h'.get? I = none from hI] at this; cases this
  · exact h.elim

theorem cE_form {e : Expr} {me : MX} {n : Nat} (hc : cE g n sc tb nx e = some me) (hn : notComp e = false) : ∃ elt x px iter ifs inner pos, e = .ListComp elt [⟨.Name x px, iter, ifs, 0⟩] inner pos := by
  cases n with
  | zero => exact nop rfl hc
  | succ n =>
    unfold notComp at hn
    split at hn
    · rename_i elt gens inner pos
      obtain ⟨⟨x, iter, ifs⟩, hg, _⟩ := bnd (show ((asGen gens).bind fun q => if (compOk g sc inner q.1 && notSet q.2.1) = true then
        (cE g n inner (inTb tb inner q.1 nx) (nx + 1) elt).bind fun a => (cR g n sc tb nx q.2.1).bind fun b => (cL g n inner (inTb tb inner q.1 nx) (nx + 1) q.2.2).bind fun c => some (.comp nx a b c) else none) = some me from hc)
      obtain ⟨p, rfl⟩ := asGen_ hg
      exact ⟨_, _, _, _, _, _, _, rfl⟩
    · exact nop rfl hc
    · exact nop rfl hc
    · cases hn

structure SndS (prog : Program) (w : World) (hb : Heap) (Sp : String → List PyData → PyData → Prop) (g : G) (A : Around) (env : Env) (sc : Scope) (tb : List (Str × Nat)) (nx : Nat) (ow : List Nat) (n : Nat) : Prop where
  st : ∀ {st : Stmt} {ms : List MS}, cS g ow n sc tb nx st = some ms →
    ∀ {W₀ W : Addr → Prop} {ρ : Ev} {ad : Ad} {m : Str → Option Value} {s : Shared} {kn : Ev → Prop} {kr : PyData → Prop} {Q : Flow → Shared → Prop} {E : Value → Shared → Prop},
    St env tb W₀ ρ ad W m s.heap → BaseAt hb env tb ρ ad s.heap → wpB Sp ms ρ kn kr → NextP env tb W₀ s ρ ad W kn Q → RetP env tb W₀ s ρ ad kr Q → wpAny (model prog w) A (exec st env) Q E s
  bl : ∀ {ss : List Stmt} {ms : List MS}, cB g ow n sc tb nx ss = some ms → BodyS prog w hb Sp A env tb ss ms

theorem swapOk {x y : Str} {p1 p2 tp tp2 : Pos} {kk kk2} {a b : Expr} (F : FnOk env sc tb nx)
    (hq : swapCond sc x y p1 p2 a b = true) :
    swappedStores [.Tuple [.Name x p1, .Name y p2] kk tp] (.Tuple [a, b] kk2 tp2) env = pure (some [x, y]) := by
  unfold swapCond at hq
  simp only [Bool.and_eq_true, Bool.not_eq_true'] at hq
  obtain ⟨⟨⟨⟨⟨⟨⟨⟨q1, q2⟩, q3⟩, q4⟩, q5⟩, q6⟩, q7⟩, q8⟩, q9⟩ := hq
  have kx : env.kindOf x = some .local := by unfold Env.kindOf; rw [F.scope]; exact beq_iff_eq.mp q4
  have ky : env.kindOf y = some .local := by unfold Env.kindOf; rw [F.scope]; exact beq_iff_eq.mp q5
  have hbk : env.blockKind = .function := by unfold Env.blockKind; rw [F.eo.kind]; rfl
  have hstar : ∀ (f : Expr → Bool), (∀ e, notStar e = true → f e = false) → [a, b].any f = false := by
    intro f hf
    simp [hf a q1, hf b q2]
  have hed : [x, y].eraseDups = [x, y] := by
    have q7' : (y == x) = false := by
      rw [beq_eq_false_iff_ne] at q7 ⊢
      exact fun e => q7 e.symm
    simp [List.eraseDups_cons, q7']
  unfold swappedStores
  simp only [pure_bind]
  rw [hbk]
  rw [hstar]
  · simp only [List.filterMap_cons, List.filterMap_nil, kx, ky, List.head?_cons, Option.map_some, Option.getD_some, beq_self_eq_true, Bool.true_and, Expr.pos, beq_iff_eq.mp q6, hed, q8, q9, List.length_cons, List.length_nil, if_true]
    rfl
  · intro e he
    cases e <;> first | rfl | (cases he; done)

theorem snd_bl {ow : List Nat} {n : Nat} (SS : SndS prog w hb Sp g A env sc tb nx ow n) {ss : List Stmt} {ms : List MS} (hc : cB g ow (n + 1) sc tb nx ss = some ms) : BodyS prog w hb Sp A env tb ss ms := by
  intro W₀ W ρ ad m s kn kr Q E S BA h k kk
  cases ss with
  | nil =>
    have hc : (some [] : Option (List MS)) = some ms := hc
    cases hc; exact wpAny_execs_nil (k ρ ad W m s.heap s.toks .refl S h)
  | cons st r =>
    obtain ⟨m1, h1, m2, h2, rfl⟩ := som2 (show ((cS g ow n sc tb nx st).bind fun a => (cB g ow n sc tb nx r).bind fun b => some (a ++ b)) = some ms from hc)
    rw [wpB_append] at h
    refine wpAny_execs_cons (SS.st h1 S BA h (fun ρ' ad' W' m' h' tk T S' hk => ?_) fun v d h' tk a r q => kk v d h' tk a r q)
    exact SS.bl h2 S' (BA.step T) hk (k.step T) (kk.step T)

theorem swapStar {x y : Str} {p1 p2 : Pos} {a b : Expr} (hq : swapCond sc x y p1 p2 a b = true) : notStar a = true ∧ notStar b = true :=
  and_ (and_ (and_ (and_ (and_ (and_ (and_ (and_ hq).1).1).1).1).1).1).1
theorem lisRng_ {e : Expr} {as : List Expr} (h : lisRng sc tb e = some as) : ∃ p1 p2 pos2 pos1, e = .Call (.Name (Str.ofString "list") p1) [.Call (.Name (Str.ofString "range") p2) as [] pos2] [] pos1 ∧ as.all notStar = true ∧ glob? sc tb (Str.ofString "list") = true ∧ glob? sc tb (Str.ofString "range") = true := by
  obtain ⟨⟨fn, as', pos⟩, h1, ls, h2, h⟩ := bnd2 h
  obtain ⟨e1, h3, h⟩ := bnd h
  obtain ⟨q, h⟩ := iff_ h
  obtain ⟨q1, q2⟩ := and_ q
  obtain ⟨p2, pos2, rfl, r1, r2, r3⟩ := rangeCall_ h
  obtain rfl := asCall_ h1
  obtain ⟨p1, rfl⟩ := asName_ h2
  obtain rfl := one_ h3
  obtain rfl : ls = Str.ofString "list" := beq_iff_eq.mp q1
  exact ⟨p1, p2, pos2, pos, rfl, r2, q2, r1⟩
theorem appC_ (ow : List Nat) (i : Nat) (m : MX) : appC ow i m = [.app i m] ∨ appC ow i m = [.appS i m] ∨ ∃ j, m = .var j ∧ appC ow i m = [.frz j, .appS i m] := by
  unfold appC
  split
  · rename_i j
    split
    · exact .inr (.inr ⟨j, rfl, rfl⟩)
    · exact .inr (.inl rfl)
  · split
    · exact .inl rfl
    · exact .inr (.inl rfl)

theorem dpIdx_ {ow : List Nat} {n : Nat} {e : Expr} {i : Nat} {mi : MX} (h : dpIdx g ow n sc tb nx e = some (i, mi)) : ∃ x ie p sp, e = .Subscript (.Name x p) ie sp ∧ tb.lookup x = some i ∧ isSlice ie = false ∧ cE g n sc tb nx ie = some mi := by
  unfold dpIdx at h
  obtain ⟨⟨o, ie⟩, ho, x, hx, h2⟩ := bnd2 h
  clear h
  obtain ⟨sp, rfl⟩ := asSub_ ho
  obtain ⟨p, rfl⟩ := asName_ hx
  by_cases hsl : isSlice ie = false
  · rw [if_pos hsl] at h2
    obtain ⟨j, hj, h3⟩ := bnd h2
    obtain ⟨-, h4⟩ := iff_ h3
    obtain ⟨m, hm, e⟩ := som1 h4
    cases e
    exact ⟨x, ie, p, sp, rfl, hj, hsl, hm⟩
  · rw [if_neg hsl] at h2
    cases h2

theorem snd_st {ow : List Nat} {n : Nat} (X : Fn prog w K hb Sp g dep A env sc tb nx) (SS : SndS prog w hb Sp g A env sc tb nx ow n) {st : Stmt} {ms : List MS} (hc : cS g ow (n + 1) sc tb nx st = some ms)
    {W₀ W : Addr → Prop} {ρ : Ev} {ad : Ad} {m : Str → Option Value} {s : Shared} {kn : Ev → Prop} {kr : PyData → Prop} {Q : Flow → Shared → Prop} {E : Value → Shared → Prop}
    (S : St env tb W₀ ρ ad W m s.heap) (BA : BaseAt hb env tb ρ ad s.heap) (h : wpB Sp ms ρ kn kr) (k : NextP env tb W₀ s ρ ad W kn Q) (kk : RetP env tb W₀ s ρ ad kr Q) : wpAny (model prog w) A (exec st env) Q E s := by
  cases st with
  | Assign tgs e pos =>
    rcases ite_ (show (if (tgs.length == 1) = true then (one tgs).bind fun tg =>
        if (asName tg).isSome = true then (asName tg).bind fun x => (tb.lookup x).bind fun i =>
          if isDp ow i = true then (asList e).bind fun es => (cLL g n sc tb nx es).bind fun ass => some [.asgD i ass] else
          if ow.contains i = true then (if (asList e).isSome = true then (asList e).bind fun es => if es.all notStar = true then (cL g n sc tb nx es).bind fun ms => some [.asgO i ms] else none
            else (lisRng sc tb e).bind fun as => (cL g n sc tb nx as).bind fun ms => some [.asgR i ms])
          else (cE g n sc tb nx e).bind fun m => some [if (reads ow m && notComp e) = true then .asgS i m else .asg i m]
        else if isTup tg = true then (asTup tg).bind fun ts => (two ts).bind fun q => (asNameP q.1).bind fun x => (asNameP q.2).bind fun y => (tb.lookup x.1).bind fun i => (tb.lookup y.1).bind fun j =>
          if (i != j) = true then (if isTup e = true then (asTup e).bind fun es => (two es).bind fun ab => if swapCond sc x.1 y.1 x.2 y.2 ab.1 ab.2 = true then (cE g n sc tb nx ab.1).bind fun a => (cE g n sc tb nx ab.2).bind fun b => some [.swp i j a b] else none
            else (cE g n sc tb nx e).bind fun m => some [.unp i j m]) else none
        else (asSub tg).bind fun q => (asName q.1).bind fun x => if isSlice q.2 = false then (tb.lookup x).bind fun i => (cE g n sc tb nx q.2).bind fun j => (cE g n sc tb nx e).bind fun m => some [.sti i j m] else none
      else (two tgs).bind fun q => (asName q.1).bind fun x => (asName q.2).bind fun y => (tb.lookup x).bind fun i => (tb.lookup y).bind fun j => (cE g n sc tb nx e).bind fun m => some [.asg2 i j m]) = some ms from hc) with ⟨-, hc1⟩ | ⟨-, hc1⟩ <;> clear hc
    · obtain ⟨tg, htg, hc2⟩ := bnd hc1
      clear hc1
      obtain rfl := one_ htg
      rcases ite_ hc2 with ⟨-, hc3⟩ | ⟨-, hc3⟩ <;> clear hc2
      · obtain ⟨x, hx, i, hi, hc4⟩ := bnd2 hc3
        clear hc3
        obtain ⟨p, rfl⟩ := asName_ hx
        rcases ite_ hc4 with ⟨-, hc4⟩ | ⟨-, hc4⟩
        · obtain ⟨es, hes, ass, has, rfl⟩ := som2 hc4
          clear hc4
          obtain ⟨lp, rfl⟩ := asList_ hes
          exact asgD_ X S BA.ext hi has h k
        rcases ite_ hc4 with ⟨-, hc5⟩ | ⟨-, hc5⟩ <;> clear hc4
        · rcases ite_ hc5 with ⟨-, hc6⟩ | ⟨-, hc6⟩ <;> clear hc5
          · obtain ⟨es, hes, hc7⟩ := bnd hc6
            clear hc6
            obtain ⟨lp, rfl⟩ := asList_ hes
            obtain ⟨hs, hc8⟩ := iff_ hc7
            clear hc7
            obtain ⟨as, has, rfl⟩ := som1 hc8
            clear hc8
            exact asgO_ X S BA.ext hi hs has h k
          · obtain ⟨es, hes, as, has, rfl⟩ := som2 hc6
            clear hc6
            obtain ⟨p1, p2, pos2, pos1, rfl, hs, g1, g2⟩ := lisRng_ hes
            exact asgR_ X S BA.ext hi hs has g1 g2 h k
        · obtain ⟨me, hme, rfl⟩ := som1 hc5
          clear hc5
          by_cases hq : (reads ow me && notComp e) = true
          · rw [if_pos hq] at h
            exact asgS_ X S BA.ext hi hme (and_ hq).2 h k
          · rw [if_neg hq] at h
            cases hn : notComp e with
            | true => exact asg_ X S BA.ext hi hme hn h k
            | false =>
              obtain ⟨elt, y, px, iter, ifs, inner, cpos, rfl⟩ := cE_form hme hn
              exact asgComp X S BA.ext hi hme h k
      · rcases ite_ hc3 with ⟨-, hc9⟩ | ⟨-, hc9⟩ <;> clear hc3
        · obtain ⟨ts, hts, ⟨t1, t2⟩, ht, hc10⟩ := bnd2 hc9
          clear hc9
          obtain ⟨kk', tp, rfl⟩ := asTup_ hts
          obtain rfl := two_ ht
          obtain ⟨⟨x, px⟩, hx, ⟨y, py⟩, hy, hc11⟩ := bnd2 hc10
          clear hc10
          obtain rfl := asNameP_ hx
          obtain rfl := asNameP_ hy
          obtain ⟨i, hi, j, hj, hc12⟩ := bnd2 hc11
          clear hc11
          obtain ⟨hij, hc13⟩ := iff_ hc12
          clear hc12
          rcases ite_ hc13 with ⟨-, hc14⟩ | ⟨hnt, hc14⟩ <;> clear hc13
          · obtain ⟨es, hes, ⟨a, b⟩, hab, hc15⟩ := bnd2 hc14
            clear hc14
            obtain ⟨kk2, tp2, rfl⟩ := asTup_ hes
            obtain rfl := two_ hab
            obtain ⟨hq, hc16⟩ := iff_ hc15
            clear hc15
            obtain ⟨ma, ha, mb, hb', rfl⟩ := som2 hc16
            clear hc16
            obtain ⟨n1, n2⟩ := swapStar hq
            exact swp_ X S BA.ext hi hj (by simpa using hij) ha hb' (swapOk X.F hq) n1 n2 h k
          · obtain ⟨me, hme, rfl⟩ := som1 hc14
            clear hc14
            exact unp_ X S BA.ext hi hj hme (fun vs q p e => by subst e; cases hnt) h k
        · obtain ⟨⟨o, ie⟩, ho, x, hx, hc17⟩ := bnd2 hc9
          clear hc9
          obtain ⟨sp, rfl⟩ := asSub_ ho
          obtain ⟨p, rfl⟩ := asName_ hx
          by_cases hsl : isSlice ie = false
          · rw [if_pos hsl] at hc17
            obtain ⟨i, hi, mi, hmi, me, hme, rfl⟩ := som3 hc17
            clear hc17
            exact sti_ X S BA.ext hi hmi hme h k
          · rw [if_neg hsl] at hc17
            exact nop rfl hc17
    · obtain ⟨⟨t1, t2⟩, ht, hc18⟩ := bnd hc1
      clear hc1
      obtain rfl := two_ ht
      obtain ⟨x, hx, y, hy, hc19⟩ := bnd2 hc18
      clear hc18
      obtain ⟨px, rfl⟩ := asName_ hx
      obtain ⟨py, rfl⟩ := asName_ hy
      obtain ⟨i, hi, j, hj, me, hme, rfl⟩ := som3 hc19
      clear hc19
      exact asg2_ X S BA.ext hi hj hme h k
  | AugAssign tg op e pos =>
    obtain ⟨x, hx, i, hi, hc20⟩ := bnd2 (show ((asName tg).bind fun x => (tb.lookup x).bind fun i => if ow.contains i = true then (asList e).bind fun es => if (op == .Add && es.all notStar) = true then (cL g n sc tb nx es).bind fun ms => some [.augL i ms] else none
      else if augOk op = true then (cE g n sc tb nx e).bind fun m => some [.aug i op m] else none) = some ms from hc)
    clear hc
    obtain ⟨p, rfl⟩ := asName_ hx
    rcases ite_ hc20 with ⟨-, hc21⟩ | ⟨-, hc21⟩ <;> clear hc20
    · obtain ⟨es, hes, hc22⟩ := bnd hc21
      clear hc21
      obtain ⟨lp, rfl⟩ := asList_ hes
      obtain ⟨hq, hc23⟩ := iff_ hc22
      clear hc22
      obtain ⟨as, has, rfl⟩ := som1 hc23
      clear hc23
      obtain ⟨q1, hs⟩ := and_ hq
      obtain rfl := beq_iff_eq.mp q1
      exact augL_ X S BA.ext hi hs has h k
    · obtain ⟨hop, hc24⟩ := iff_ hc21
      clear hc21
      obtain ⟨me, hme, rfl⟩ := som1 hc24
      clear hc24
      exact aug_ X S BA.ext hi hme hop h k
  | Expr e0 pos =>
    obtain ⟨⟨fn, as, epos⟩, h0, e, he, hc25⟩ := bnd2 (show ((asCall e0).bind fun q => (one q.2.1).bind fun e => (asAttr q.1).bind fun a =>
      if (a.2.1 == ("append" : Str) && a.2.2.endLine == q.2.2.line && notStar e) = true then (if (asName a.1).isSome = true then (asName a.1).bind fun x => (tb.lookup x).bind fun i =>
          if isDp ow i = true then (asList e).bind fun es => if es.all notStar = true then (cL g n sc tb nx es).bind fun as => some [.apN i as] else none
          else (cE g n sc tb nx e).bind fun m => some (appC ow i m)
        else (dpIdx g ow n sc tb nx a.1).bind fun d => (cE g n sc tb nx e).bind fun m => some [.apD d.1 d.2 m]) else none) = some ms from hc)
    clear hc
    obtain ⟨⟨o, nm, ap⟩, ha, hc26⟩ := bnd hc25
    clear hc25
    obtain ⟨hq, hc28⟩ := iff_ hc26
    clear hc26
    obtain ⟨q, hq3⟩ := and_ hq
    obtain ⟨q1, hq2⟩ := and_ q
    obtain rfl := asCall_ h0
    obtain rfl := one_ he
    obtain rfl := asAttr_ ha
    have hnm : nm = Str.ofString "append" := beq_iff_eq.mp q1
    subst hnm
    rcases ite_ hc28 with ⟨-, hc28⟩ | ⟨-, hc28⟩
    · obtain ⟨x, hx, i, hi, hc29⟩ := bnd2 hc28
      clear hc28
      obtain ⟨p, rfl⟩ := asName_ hx
      rcases ite_ hc29 with ⟨-, hc30⟩ | ⟨-, hc30⟩ <;> clear hc29
      · obtain ⟨es, hes, hc31⟩ := bnd hc30
        clear hc30
        obtain ⟨lp, rfl⟩ := asList_ hes
        obtain ⟨hs, hc32⟩ := iff_ hc31
        clear hc31
        obtain ⟨mas, hmas, rfl⟩ := som1 hc32
        clear hc32
        exact apN_ X S BA.ext hi hq2 hs hmas h k
      · obtain ⟨me, hme, rfl⟩ := som1 hc30
        clear hc30
        rcases appC_ ow i me with e | e | ⟨j, rfl, e⟩
        · rw [e] at h
          exact app_ X S BA.ext hi hq3 hq2 hme h k
        · rw [e] at h
          exact appS_ X S BA.ext hi hq3 hq2 hme h k
        · rw [e] at h
          have h : wpB Sp [.appS i (.var j)] (setS ρ j (getS ρ j).froze) kn kr := h
          obtain ⟨W', S', T'⟩ := frzS X.F S j
          exact appS_ X S' (BA.step T').ext hi hq3 hq2 hme h (k.step T')
    · obtain ⟨⟨i, mi⟩, hd, me, hme, rfl⟩ := som2 hc28
      clear hc28
      obtain ⟨x, ie, p, sp, rfl, hi, hsl, hmi⟩ := dpIdx_ hd
      exact apD_ X S BA.ext hi hsl hq3 hq2 hmi hme h k
  | If t a b pos =>
    obtain ⟨mt, hmt, ma, hma, mb, hmb, rfl⟩ := som3 (show ((cE g n sc tb nx t).bind fun t => (cB g ow n sc tb nx a).bind fun a => (cB g ow n sc tb nx b).bind fun b => some [.ifs t a b]) = some ms from hc)
    clear hc
    exact ifs_ X S BA hmt (SS.bl hma) (SS.bl hmb) h k kk
  | While t a el pos =>
    obtain ⟨hel, hc29⟩ := iff_ (show (if el.isEmpty = true then (cE g n sc tb nx t).bind fun t => (cB g ow n sc tb nx a).bind fun a => some [.whl t a] else none) = some ms from hc)
    clear hc
    obtain rfl := List.isEmpty_iff.mp hel
    obtain ⟨mt, hmt, ma, hma, rfl⟩ := som2 hc29
    clear hc29
    exact whl_ X S BA hmt (SS.bl hma) h k kk
  | For tg it a el pos =>
    obtain ⟨hq, hc30⟩ := iff_ (show (if (el.isEmpty && notSet it) = true then (asName tg).bind fun x => (tb.lookup x).bind fun i =>
        if (dpIdx g ow n sc tb nx it).isSome = true then (dpIdx g ow n sc tb nx it).bind fun d => (cB g ow n sc tb nx a).bind fun a => some [.forD i d.1 d.2 a]
        else (cR g n sc tb nx it).bind fun src => (cB g ow n sc tb nx a).bind fun a =>
        some ((ow.filter fun o => reads [o] src).map MS.frz ++ [.forE i src a]) else none) = some ms from hc)
    clear hc
    obtain ⟨hel, hns⟩ := and_ hq
    obtain rfl := List.isEmpty_iff.mp hel
    obtain ⟨x, hx, i, hi, hc31⟩ := bnd2 hc30
    clear hc30
    obtain ⟨p, rfl⟩ := asName_ hx
    rcases ite_ hc31 with ⟨-, hc32⟩ | ⟨-, hc32⟩ <;> clear hc31
    · obtain ⟨⟨j, mi⟩, hd, ma, hma, rfl⟩ := som2 hc32
      clear hc32
      obtain ⟨y, ie, p2, sp, rfl, hj, hsl, hmi⟩ := dpIdx_ hd
      exact forD_ X S BA hi hj hsl hmi (SS.bl hma) h k kk
    · obtain ⟨src, hsrc, ma, hma, rfl⟩ := som2 hc32
      clear hc32
      rw [wpB_append] at h
      obtain ⟨ρ', W', S', T', h⟩ := frzAll X.F _ S h
      exact for_ X S' (BA.step T') hi hns hsrc (SS.bl hma) h (k.step T') (kk.step T')
  | Return e pos =>
    obtain ⟨e', he, me, hme, rfl⟩ := som2 (show (e.bind fun e => (cE g n sc tb nx e).bind fun m => some [.ret m]) = some ms from hc)
    clear hc
    subst he
    exact ret_ X S BA.ext hme h kk
  | _ => exact nop rfl hc

theorem snd_stmts (X : Fn prog w K hb Sp g dep A env sc tb nx) (ow : List Nat) (n : Nat) : SndS prog w hb Sp g A env sc tb nx ow n := by
  induction n with
  | zero => exact ⟨fun hc => nop rfl hc, fun hc => nop rfl hc⟩
  | succ n ih => exact ⟨fun hc => fun S BA h k kk => snd_st X ih hc S BA h k kk, fun hc => snd_bl ih hc⟩
end
end Mine
end R13

section R14
open PySem PySem.W PyProof.Rows PySem.Calls PyProof.V PySem.Spec PySem.SeqAt
namespace Mine

noncomputable def init (ps : List Str) (args : List PyData) (tb : List (Str × Nat)) : Ev := tb.map fun y => match (ps.zip args).lookup y.1 with
  | some d => .imm d
  | none => .un

noncomputable def fnCheck (sc : Scope) (ps : List Str) : Bool :=
  sc.kind == .function && !sc.isCoroutine && !sc.isGenerator && sc.names.all (fun y => y.2 != .free && (y.2 != .cell || sc.names.lookup y.1 == some .cell)) &&
  (tbl sc).all (fun y => (sc.names.lookup y.1 == some .local || sc.names.lookup y.1 == some .cell) && !(y.1 == ("__debug__" : Str)) && !(y.1 == ("__classdict__" : Str))) &&
  decide ps.Nodup && ps.all fun y => sc.names.lookup y == some .local || sc.names.lookup y == some .cell

theorem tbl_get {sc : Scope} {x : Str} {i : Nat} (h : (tbl sc).lookup x = some i) : (tbl sc)[i]? = some (x, i) := by
  have hm := mem_of_lookup h
  unfold tbl at hm ⊢
  have h1 := List.mem_zipIdx_iff_getElem?.mp hm
  rw [List.getElem?_zipIdx, h1]
  simp

theorem getS_get : ∀ (ρ : Ev) (i : Nat), getS ρ i = (ρ[i]?).getD .un
  | [], _ => by simp [getS]
  | x :: r, 0 => by simp [getS]
  | x :: r, i + 1 => by simp [getS, getS_get r i]

theorem bindL_not {kd : Str → Option NameKind} {x : Str} : ∀ (l : List (Str × Value)) (m : Str → Option Value), x ∉ l.map (·.1) → bindL kd l m x = m x
  | [], _, _ => rfl
  | (n, v) :: r, m, h => by
    rw [List.map_cons, List.mem_cons, not_or] at h
    show bindL kd r _ x = _
    rw [bindL_not r _ h.2]
    split
    · exact if_neg h.1
    · rfl
theorem bindL_get {kd : Str → Option NameKind} {x : Str} {v : Value} (hk : kd x = some .local) : ∀ (l : List (Str × Value)) (m : Str → Option Value), (l.map (·.1)).Nodup → (x, v) ∈ l → bindL kd l m x = some v
  | (n, u) :: r, m, hn, h => by
    rw [List.map_cons, List.nodup_cons] at hn
    show bindL kd r _ x = _
    rcases List.mem_cons.mp h with e | e
    · cases e
      rw [bindL_not r _ hn.1, if_pos hk, if_pos rfl]
    · exact bindL_get hk r _ hn.2 e
theorem bindC_not {kd : Str → Option NameKind} {x : Str} : ∀ (l : List (Str × Value)) (m : Str → Option Value), x ∉ l.map (·.1) → bindC kd l m x = m x
  | [], _, _ => rfl
  | (n, v) :: r, m, h => by
    rw [List.map_cons, List.mem_cons, not_or] at h
    show bindC kd r _ x = _
    rw [bindC_not r _ h.2]
    split
    · rfl
    · exact if_neg h.1
theorem bindC_get {kd : Str → Option NameKind} {x : Str} {v : Value} (hk : kd x = some .cell) : ∀ (l : List (Str × Value)) (m : Str → Option Value), (l.map (·.1)).Nodup → (x, v) ∈ l → bindC kd l m x = some v
  | (n, u) :: r, m, hn, h => by
    rw [List.map_cons, List.nodup_cons] at hn
    show bindC kd r _ x = _
    rcases List.mem_cons.mp h with e | e
    · cases e
      rw [bindC_not r _ hn.1, if_neg (by rw [hk]; intro q; cases q), if_pos rfl]
    · exact bindC_get hk r _ hn.2 e

theorem zip_rp {h : Heap} {W : Addr → Prop} {x : Str} {d : PyData} : ∀ {ps : List Str} {vs : List Value} {ds : List PyData}, RpL h W vs ds → (ps.zip ds).lookup x = some d → ∃ v, (x, v) ∈ ps.zip vs ∧ Rp h W v d
  | [], _, _, _, e => by cases e
  | p :: ps, _, _, .nil, e => by cases e
  | p :: ps, _, _, .cons r rs, e => by
    rw [List.zip_cons_cons, List.lookup_cons] at e
    by_cases q : (x == p) = true
    · rw [q] at e
      cases e
      rw [beq_iff_eq.mp q]
      exact ⟨_, List.mem_cons_self, r⟩
    · rw [Bool.not_eq_true] at q
      rw [q] at e
      obtain ⟨v, a, b⟩ := zip_rp (ps := ps) rs e
      exact ⟨v, List.mem_cons_of_mem _ a, b⟩

section
variable {prog : Program} {w : World} {K : Frag} {hb : Heap} {Sp : String → List PyData → PyData → Prop} {g : G} {dep : Nat} {A : Around} {env : Env} {sc : Scope} {nx : Nat}
  {s : Shared} {W W₀ : Addr → Prop} {h h' : Heap} {E : Value → Shared → Prop} {ps : List Str} {vs : List Value} {args : List PyData}

theorem fnOk_of (hc : fnCheck sc ps = true) (h1 : env.scope = sc) (h2 : env.globals = mainGlobals) (h3 : env.builtins = builtinsNs) (h4 : env.cells = cellsFrom (env.locals + 1) sc.names [])
    (ap : env.cells.Pairwise fun x y => x.2 ≠ y.2) (ab : ∀ n c, (n, c) ∈ env.cells → env.locals < c) (hnx : nx = (tbl sc).length) : FnOk env sc (tbl sc) nx := by
  unfold fnCheck at hc
  simp only [Bool.and_eq_true, Bool.not_eq_true', beq_iff_eq, List.all_eq_true, bne_iff_ne, Bool.or_eq_true, decide_eq_true_eq] at hc
  obtain ⟨⟨⟨⟨⟨⟨c1, c2⟩, c3⟩, c4⟩, c5⟩, c6⟩, c7⟩ := hc
  have kd : ∀ x, env.kindOf x = sc.names.lookup x := fun x => by unfold Env.kindOf; rw [h1]
  have nofree : ∀ x, sc.names.lookup x ≠ some .free := fun x q => (c4 _ (mem_of_lookup q)).1 rfl
  refine ⟨⟨by rw [h1, c1], h2, h3, fun x q => by rw [kd, q], fun x q => by rw [kd]; exact q, fun x q => ?_, fun x i q => ?_⟩, h1, fun x i q => (c5 _ (mem_of_lookup q)).1.1, fun x y i q1 q2 => ?_, fun x y c q1 q2 => ?_, fun x c q => ?_⟩
  · rcases q with q | q
    · rw [h4]
      exact Option.isSome_iff_exists.mp (cellsFrom_some _ _ _ (.inl q))
    · exact absurd q (nofree x)
  · refine ⟨?_, (c5 _ (mem_of_lookup q)).1.2, (c5 _ (mem_of_lookup q)).2⟩
    rw [hnx]
    exact (List.getElem?_eq_some_iff.mp (tbl_get q)).1
  · have := tbl_get q1
    rw [tbl_get q2] at this
    exact (congrArg (fun z => z.1) (Option.some.inj this)).symm
  · have m1 := mem_of_lookup q1
    have m2 := mem_of_lookup q2
    by_cases e : x = y
    · exact e
    · obtain ⟨i, hi, e1⟩ := List.getElem_of_mem m1
      obtain ⟨j, hj, e2⟩ := List.getElem_of_mem m2
      have hp := List.pairwise_iff_getElem.mp ap
      rcases Nat.lt_trichotomy i j with q | q | q
      · exact absurd (by rw [e1, e2]) (hp i j hi hj q)
      · subst q; rw [e1] at e2; exact (congrArg (·.1) e2)
      · exact absurd (by rw [e1, e2]) (hp j i hj hi q)
  · exact fun e => Nat.lt_irrefl _ (e ▸ ab x c (mem_of_lookup q))

/-- the state when a def begins -/
theorem st_init (hc : fnCheck sc ps = true) (h1 : env.scope = sc) (al : Alloc W₀ h) (e : Ext h h')
    (ns : h'.Ns env.locals (bindL env.kindOf (ps.zip vs) fun _ => none)) (hcl : ∀ x c, env.cells.lookup x = some c → h'.IsCell c (bindC env.kindOf (ps.zip vs) (fun _ => none) x))
    (h4 : env.cells = cellsFrom (env.locals + 1) sc.names []) (r : RpL h W₀ vs args) (hl : h.get? env.locals = none) (hcn : ∀ x c, env.cells.lookup x = some c → h.get? c = none) (hvs : vs.length = ps.length) (ad : Ad) :
    St env (tbl sc) W₀ (init ps args (tbl sc)) ad (fun a => W₀ a ∨ Wr env (tbl sc) [] ad a) (bindL env.kindOf (ps.zip vs) fun _ => none) h' := by
  have hc0 := hc
  unfold fnCheck at hc
  simp only [Bool.and_eq_true, Bool.not_eq_true', beq_iff_eq, List.all_eq_true, bne_iff_ne, Bool.or_eq_true, decide_eq_true_eq] at hc
  obtain ⟨⟨⟨⟨⟨⟨c1, c2⟩, c3⟩, c4⟩, c5⟩, c6⟩, c7⟩ := hc
  have kd : ∀ x, env.kindOf x = sc.names.lookup x := fun x => by unfold Env.kindOf; rw [h1]
  have gi : ∀ x i, (tbl sc).lookup x = some i → getS (init ps args (tbl sc)) i = (match (ps.zip args).lookup x with | some d => .imm d | none => .un) := by
    intro x i q
    rw [getS_get, init, List.getElem?_map, tbl_get q]
    rfl
  have noown : ∀ x i xs, (tbl sc).lookup x = some i → (getS (init ps args (tbl sc)) i).held ≠ some xs := by
    intro x i xs q q2
    rw [gi x i q] at q2
    split at q2 <;> cases q2
  have nw : ∀ b, Wr env (tbl sc) [] ad b → h.get? b = none := by
    rintro b (q | ⟨x, q⟩ | ⟨x, i, ds, _, q, _⟩)
    · exact q ▸ hl
    · exact hcn x b q
    · cases i <;> cases q
  have nd : ((ps.zip vs).map (·.1)).Nodup := by
    rw [show (ps.zip vs).map (·.1) = ps from List.map_fst_zip (Nat.le_of_eq hvs.symm)]
    exact c6
  refine ⟨ns, fun x c q => ⟨_, hcl x c q⟩, fun x i d q1 q2 => ?_, fun x i ds q1 q2 => absurd q2 (noown x i ds q1), fun x i ds q1 q2 => absurd q2 (noown x i ds q1), fun x i ds y j es q1 q2 => absurd q2 (noown x i ds q1), fun a q => .inl q, .inr (.inl rfl), fun x c q => .inr (.inr (.inl ⟨x, q⟩)), fun a q => ?_⟩
  · rw [gi x i q1] at q2
    split at q2
    · rename_i d' hd
      cases q2
      obtain ⟨v, hm, rv⟩ := zip_rp r hd
      refine ⟨v, ?_, rv.mono fun a o q n => ⟨e a o q, fun w => w.elim n fun w => by rw [nw a w] at q; cases q⟩⟩
      have hx : x ∈ ps := (List.of_mem_zip hm).1
      rcases c7 x hx with q | q
      · exact .inl ⟨by rw [kd, q], bindL_get (by rw [kd, q]) _ _ nd hm⟩
      · obtain ⟨c, hcx⟩ : ∃ c, env.cells.lookup x = some c := by
          rw [h4]
          exact Option.isSome_iff_exists.mp (cellsFrom_some _ _ _ (.inl q))
        refine .inr ⟨by rw [kd, q], c, hcx, ?_⟩
        have := hcl x c hcx
        rw [bindC_get (by rw [kd, q]) _ _ nd hm] at this
        exact this
    · cases q2
  · rcases q with q | q | ⟨x, q⟩ | ⟨x, i, ds, _, q, _⟩
    · obtain ⟨o, ho⟩ := al a q
      exact ⟨o, e a o ho⟩
    · obtain ⟨o, _, _, ho, _⟩ := ns
      exact ⟨o, q ▸ ho⟩
    · obtain ⟨o, ho, _⟩ := hcl x a q
      exact ⟨o, ho⟩
    · cases i <;> cases q

theorem Room.deeper (R : Room A (dep + 1)) (env : Env) : Room (A.deeper env) dep where
  hh := R.hh
  gd := R.gd
  dp := by have := R.dp; show A.depth + 1 + dep < _; omega
  un := by have := R.un; show A.units + 3 + 8 * dep + 300 < _; omega

/-- a def's claim out of its small text -/
theorem claim_of {name : Str} {params : Arguments} {body : List Stmt} {pm code doc : Value} {a : Addr} {o : Obj} {ow : List Nat} {N : Nat} {mb : List MS} {d : PyData}
    (ho : hb.get? a = some o) (hd : o.data = .func (docDef name params body sc pm code doc)) (hlim : hb.NoLimit) (hcd : hb.CodeRec code name) (hbind : ∀ vs : List Value, vs.length = ps.length → bindArgs (docDef name params body sc pm code doc) ⟨vs, []⟩ = pure (ps.zip vs))
    (hck : fnCheck sc ps = true) (hc : cB g ow N sc (tbl sc) (tbl sc).length body = some mb) (B : Base prog w K hb Sp g dep) (hlen : args.length = ps.length) (h : wpB Sp mb (init ps args (tbl sc)) (fun _ => False) (fun r => r = d)) :
    Claim prog w hb (dep + 1) a args d := by
  intro A s W vs Q E R hbx al r o'
  have hck0 := hck
  unfold fnCheck at hck
  simp only [Bool.and_eq_true, Bool.not_eq_true', beq_iff_eq, List.all_eq_true, bne_iff_ne, Bool.or_eq_true, decide_eq_true_eq] at hck
  obtain ⟨⟨⟨⟨⟨⟨c1, c2⟩, c3⟩, c4⟩, c5⟩, c6⟩, c7⟩ := hck
  have hvs : vs.length = ps.length := by rw [r.length, hlen]
  refine wpAny_call (codeAny_call_cells (by have := R.dp; omega) (hbx _ _ ho) hd (hlim.keeps hbx) (hcd.keeps hbx) rfl (hbind vs hvs) rfl ?_ (fun s₁ x => ?_) c2 c3 c1)
  · intro y hy
    have := (List.of_mem_zip (a := y.1) (b := y.2) hy).1
    rcases c7 _ this with q | q
    · exact .inl q
    · exact .inr ⟨q, cellsFrom_some _ _ _ (.inl q)⟩
  · obtain ⟨h', tk, rfl, ex⟩ := x.done
    obtain ⟨xi, xc, xap, xab⟩ := x
    have FO : FnOk (callEnvC (docDef name params body sc pm code doc) s.heap.objs.size a) sc (tbl sc) (tbl sc).length := fnOk_of hck0 rfl rfl rfl rfl xap xab rfl
    have hl : s.heap.get? s.heap.objs.size = none := fresh_none _
    have hcn : ∀ x c, (callEnvC (docDef name params body sc pm code doc) s.heap.objs.size a).cells.lookup x = some c → s.heap.get? c = none := fun x c q => by
      have := xab x c (mem_of_lookup q)
      cases e : s.heap.get? c with
      | none => rfl
      | some ob => have h2 := Heap.lt_size e; have h3 : s.heap.objs.size < c := this; exact absurd h2 (Nat.lt_asymm h3)
    have S := st_init (ad := fun _ => (0, [])) (W₀ := W) (args := args) hck0 rfl al ex xi.ns xc rfl r hl hcn hvs
    have wr0 : ∀ b, Wr (callEnvC (docDef name params body sc pm code doc) s.heap.objs.size a) (tbl sc) (init ps args (tbl sc)) (fun _ => (0, [])) b → s.heap.get? b = none := by
      rintro b (q | ⟨x, q⟩ | ⟨x, i, ds, q1, q, _⟩)
      · exact q ▸ hl
      · exact hcn x b q
      · rw [getS_get, init, List.getElem?_map, tbl_get q1] at q
        exfalso
        revert q
        show (match (ps.zip args).lookup x with | some d => Slot.imm d | none => .un).held = some ds → False
        split <;> exact fun q => nomatch q
    have BA : BaseAt hb (callEnvC (docDef name params body sc pm code doc) s.heap.objs.size a) (tbl sc) (init ps args (tbl sc)) (fun _ => (0, [])) h' := ⟨hbx.trans ex, fun b q => by
      cases e : hb.get? b with
      | none => rfl
      | some ob => have := hbx _ _ e; rw [wr0 b q] at this; cases this⟩
    have X : Fn prog w K hb Sp g dep (A.deeper (callEnvC (docDef name params body sc pm code doc) s.heap.objs.size a)) (callEnvC (docDef name params body sc pm code doc) s.heap.objs.size a) sc (tbl sc) (tbl sc).length := ⟨B, R.deeper _, FO⟩
    refine (snd_stmts X ow N).bl hc (s := { s with heap := h', toks := tk }) S BA h ?_ ?_
    · exact fun _ _ _ _ _ _ _ _ q => q.elim
    · intro v dd h2 tk2 keep rv q
      subst q
      exact o' v h2 tk2 (fun b ob q => keep b ob (ex b ob q) fun q2 => by rw [wr0 b q2] at q; cases q) rv
end
end Mine
end R14

section R15
open PySem PySem.W PyProof.Rows PySem.Calls PyProof.V PySem.Spec PySem.SeqAt
namespace Mine
theorem zip_lookup : ∀ (ps : List Str) (vs : List Value), ps.Nodup → ∀ x v, (x, v) ∈ ps.zip vs → (ps.zip vs).lookup x = some v
  | [], _, _, _, _, h => by cases h
  | p :: ps, [], _, _, _, h => by cases h
  | p :: ps, u :: vs, hn, x, v, h => by
    rw [List.nodup_cons] at hn
    rw [List.zip_cons_cons, List.lookup_cons]
    rcases List.mem_cons.mp h with e | e
    · cases e
      rw [beq_self_eq_true]
    · have hx : x ∈ ps := (List.of_mem_zip e).1
      have : (x == p) = false := by
        rw [beq_eq_false_iff_ne]
        intro q
        exact hn.1 (q ▸ hx)
      rw [this]
      exact zip_lookup ps vs hn.2 x v e
theorem zip_filter {l : List (Str × Value)} : ∀ (ps : List Str) (vs : List Value), vs.length = ps.length → (∀ x v, (x, v) ∈ ps.zip vs → l.lookup x = some v) → (ps.filterMap fun n => (l.lookup n).map (n, ·)) = ps.zip vs
  | [], _, _, _ => rfl
  | p :: ps, [], h, _ => by cases h
  | p :: ps, u :: vs, h, H => by
    rw [List.filterMap_cons, H p u List.mem_cons_self, zip_filter ps vs (by simpa using h) fun x v q => H x v (List.mem_cons_of_mem _ q)]
    rfl
theorem zip_some {l : List (Str × Value)} : ∀ (ps : List Str) (vs : List Value), vs.length = ps.length → (∀ x v, (x, v) ∈ ps.zip vs → l.lookup x = some v) → (ps.filter fun n => (l.lookup n).isNone) = []
  | [], _, _, _ => rfl
  | p :: ps, [], h, _ => by cases h
  | p :: ps, u :: vs, h, H => by
    rw [List.filter_cons, H p u List.mem_cons_self]
    exact zip_some ps vs (by simpa using h) fun x v q => H x v (List.mem_cons_of_mem _ q)
theorem bind_plain {name : Str} {as : List Arg} {body : List Stmt} {sc : Scope} {pm code doc : Value} {vs : List Value} (hl : vs.length = as.length) (hn : (as.map (·.arg)).Nodup) :
    bindArgs (docDef name ⟨[], as, none, [], [], none, []⟩ body sc pm code doc) ⟨vs, []⟩ = pure ((as.map (·.arg)).zip vs) := by
  have hl' : vs.length = (as.map (·.arg)).length := by simpa using hl
  have H := zip_lookup (as.map (·.arg)) vs hn
  have h1 := zip_filter _ _ hl' H
  have h2 := zip_some _ _ hl' H
  unfold bindArgs docDef
  simp [hl, seqItems?, pure_bind, notAStandIn]
  rw [if_neg, ← List.filterMap_map, h1]
  simp only [List.map_nil, List.nil_append, List.drop_nil, List.length_nil, Nat.sub_zero, List.take_length, h2]
  decide

/-! ## the ground under a law -/
noncomputable def recAt (p : Program) (x : Str) : Option DefRec := (recsOf p).find? fun r => r.name == x
noncomputable def plainParams (a : Arguments) (ps : List Str) : Bool := a.posonlyargs.isEmpty && a.vararg.isNone && a.kwonlyargs.isEmpty && a.kw_defaults.isEmpty && a.kwarg.isNone && a.defaults.isEmpty && (a.args.map (·.arg)) == ps
noncomputable def tr (p : Program) (g : G) (ow : List Nat) (x : Str) (ps : List Str) : Option (List MS) := match recAt p x with
  | some d => if plainParams d.params ps && fnCheck d.scope ps then cB g ow 100 d.scope (tbl d.scope) (tbl d.scope).length d.body else none
  | none => none
noncomputable def ini (p : Program) (x : Str) (ps : List Str) (args : List PyData) : Ev := match recAt p x with
  | some d => init ps args (tbl d.scope)
  | none => []

theorem recAt_mem {p : Program} {x : Str} {d : DefRec} (h : recAt p x = some d) : d ∈ recsOf p ∧ d.name = x :=
  ⟨List.mem_of_find?_eq_some h, by simpa using List.find?_some h⟩

noncomputable def biNames : List Str := ["len", "min", "sum", "ord", "chr", "abs", "str", "range", "list", "type", "int"]
theorem valTab_ok : ∀ q ∈ valTab, q.1 ∈ biNames ∧ bootBuiltins q.1 = some q.2 := by decide +kernel
theorem biVal_boot {x : Str} {v : Value} (h : biVal x = some v) : x ∈ biNames ∧ bootBuiltins x = some v := valTab_ok (x, v) (mem_of_lookup h)

structure BaseM (prog : Program) (w : World) (hb : Heap) (mg mb : Str → Option Value) (Sp : String → List PyData → PyData → Prop) (g : G) (dep : Nat) : Prop where
  ng : hb.Ns mainGlobals mg
  nb : hb.Ns builtinsNs mb
  gi : ∀ x i, g.gints.lookup x = some i → ∃ t, mg x = some (.int i t)
  bi : ∀ x v, biVal x = some v → mg x = none ∧ mb x = some v
  gf : ∀ x nm, g.gfs.lookup x = some nm → ∃ a c dd fd sl, mg x = some (.ref a) ∧ hb.get? a = some ⟨c, dd, .func fd, sl⟩ ∧ ∀ args d, Sp nm args d → Claim prog w hb dep a args d

section
variable {prog : Program} {w : World} {hb : Heap} {mg mb : Str → Option Value} {Sp : String → List PyData → PyData → Prop} {g : G} {dep : Nat} {p : Program} {loose : List Str} {mean : ExcName → Option Value}
  {A : Around} {env : Env} {sc : Scope} {s : Shared} {E : Value → Shared → Prop}

theorem BaseM.base (B : BaseM prog w hb mg mb Sp g dep) : Base prog w [] hb Sp g dep := ⟨(fun _ _ e => nomatch e), mg, mb, B.ng, B.nb, B.gi, B.bi, B.gf⟩

noncomputable def groundOk (p : Program) (loose : List Str) (g : G) : Bool :=
  biNames.all (fun x => !startupNames.contains x && !loose.contains x && !((recsOf p).map (·.name)).contains x && !((litsOf p).map (·.1)).contains x && !((clssOf p loose).map (·.name)).contains x) &&
  g.gints.all (fun y => match valOf p y.1 with | some (.int i) => i == y.2 | _ => false) && g.gfs.all (fun y => (recAt p y.1).isSome)

theorem base0 (T : Top p loose mean mg mb hb) (hg : groundOk p loose g = true) (dep : Nat) : BaseM prog w hb mg mb (fun _ _ _ => False) g dep := by
  unfold groundOk at hg
  simp only [Bool.and_eq_true, List.all_eq_true, Bool.not_eq_true', List.contains_eq_mem, decide_eq_false_iff_not] at hg
  obtain ⟨⟨h1, h2⟩, h3⟩ := hg
  refine ⟨T.g, T.b, fun x i q => ?_, fun x v q => ?_, fun x nm q => ?_⟩
  · have := h2 _ (mem_of_lookup q)
    split at this
    · rename_i j hj
      obtain ⟨v, hv, rv⟩ := T.const x _ hj
      have rv := rv hb
      have e : j = i := beq_iff_eq.mp this
      subst e
      cases rv
      exact ⟨_, hv⟩
    · cases this
  · obtain ⟨m1, m2⟩ := biVal_boot q
    obtain ⟨⟨⟨⟨a, b⟩, c⟩, d⟩, e⟩ := h1 x m1
    refine ⟨T.free x a b c d e, ?_⟩
    rw [T.builtins x fun q => ?_, m2]
    subst q
    exact absurd m1 (by decide +kernel)
  · have := h3 _ (mem_of_lookup q)
    obtain ⟨d, hd⟩ := Option.isSome_iff_exists.mp this
    obtain ⟨m1, m2⟩ := recAt_mem hd
    obtain ⟨a, o, pm, code, doc, q1, q2, q3, q4⟩ := T.fn d m1
    obtain ⟨c, dd, data, sl⟩ := o
    cases q3
    exact ⟨a, c, dd, _, sl, (by have m2 : d.name = x := m2; rw [← m2]; exact q1), q2, fun _ _ q => q.elim⟩

theorem Claim.mono {a : Addr} {args : List PyData} {d : PyData} (c : Claim prog w hb dep a args d) : Claim prog w hb (dep + 1) a args d :=
  fun A s W vs Q E R => c A s W vs Q E ⟨R.hh, R.gd, by have := R.dp; omega, by have := R.un; omega⟩

theorem BaseM.step (B : BaseM prog w hb mg mb Sp g dep) (T : Top p loose mean mg mb hb) (x0 : Str) (nm0 : String) (ps : List Str) (ow : List Nat) {ms : List MS} (htr : tr p g ow x0 ps = some ms) (hu : (g.gfs.all fun y => !(y.2 == nm0) || y.1 == x0) = true)
    (P : List PyData → PyData → Prop) (hP : ∀ args d, P args d → args.length = ps.length ∧ wpB Sp ms (ini p x0 ps args) (fun _ => False) (fun r => r = d)) :
    BaseM prog w hb mg mb (fun nm args d => Sp nm args d ∨ (nm = nm0 ∧ P args d)) g (dep + 1) := by
  refine ⟨B.ng, B.nb, B.gi, B.bi, fun x nm q => ?_⟩
  obtain ⟨a, c, dd, fd, sl, q1, q2, q3⟩ := B.gf x nm q
  refine ⟨a, c, dd, fd, sl, q1, q2, fun args d hd => ?_⟩
  rcases hd with hd | ⟨rfl, hd⟩
  · exact (q3 args d hd).mono
  · have hx : x = x0 := by
      have := List.all_eq_true.mp hu _ (mem_of_lookup q)
      simpa using this
    subst hx
    unfold tr at htr
    unfold ini at hP
    split at htr
    · rename_i dr hdr
      split at htr
      · rename_i hck
        rw [Bool.and_eq_true] at hck
        obtain ⟨hpp, hck⟩ := hck
        obtain ⟨m1, m2⟩ := recAt_mem hdr
        obtain ⟨a', o, pm, code, doc, e1, e2, e3, e4⟩ := T.fn dr m1
        have ea : a = a' := by rw [m2, q1] at e1; cases e1; rfl
        subst ea
        obtain ⟨hl, hw⟩ := hP args d hd
        rw [hdr] at hw
        refine claim_of (ps := ps) e2 e3 T.nolimit e4 (fun vs hvs => ?_) hck htr B.base hl hw
        unfold plainParams at hpp
        simp only [Bool.and_eq_true, List.isEmpty_iff, Option.isNone_iff_eq_none, beq_iff_eq] at hpp
        obtain ⟨⟨⟨⟨⟨⟨p1, p2⟩, p3⟩, p4⟩, p5⟩, p6⟩, p7⟩ := hpp
        have hn : ps.Nodup := by
          unfold fnCheck at hck
          simp only [Bool.and_eq_true, decide_eq_true_eq] at hck
          exact hck.1.2
        obtain ⟨nm, ⟨po, as, va, ko, kd, kw, df⟩, bd, dsc, dps⟩ := dr
        dsimp only at p1 p2 p3 p4 p5 p6 p7
        subst p1 p2 p3 p4 p5 p6 p7
        exact bind_plain (by simpa using hvs) hn
      · cases htr
    · cases htr
end
end Mine
end R15

section HD
open PySem PySem.W PyProof.Rows PySem.Calls PyProof.V PySem.Spec PySem.SeqAt
namespace Mine
noncomputable def Done (q : Program) (prog : Program) (name : Str) : Prop := ∀ {w : World} {hb : Heap} {mg mb : Str → Option Value} {mean : ExcName → Option Value}, Top q (looseW q []) mean mg mb hb →
  ∃ a, mg name = some (.ref a) ∧ ∀ ns : List Int, ns.length ≤ 63 → Claim prog w hb 30 a [.list (intsOf ns)] (.bool true)
theorem law_by {prog : Program} {name : Str} {about : List Str} {foot : Nat} {q : Program} {N : Nat} {d : DefRec}
    (said : OpenLaw.wellSaid ⟨prog, name, about, foot, some 63, none, false⟩ = true)
    (left : LeftO prog q [] (fun s => xlAt q [] s && recOk [] s) (Hook.obs Hook.none) (Hook.val Hook.none) N)
    (hdef : PySem.W.defOf q name = some (d, [])) (hp : prog.theDef name = some (d.params, d.body, d.scope)) (hk : kwWritten? d.params.kwonlyargs d.params.kw_defaults = some [])
    (ok1 : chainsOk q = true) (ok2 : opensWell prog = true) (bare : prog.bare) (prom : (OpenLaw.row ⟨prog, name, about, foot, some 63, none, false⟩).toRowW.promised) (hc : Done q prog name) : OpenLaw.Holds ⟨prog, name, about, foot, some 63, none, false⟩ := by
  refine holds_law said fun said' => ?_
  refine PySem.W.holds_open (q := q) (loose := []) (Xt := fun s => xlAt q [] s && recOk [] s) (XP := XL q []) (Yf := Hook.obs Hook.none) (Ya := Hook.val Hook.none) (YP := Hook.says Hook.none) (N := N) left (Hook.of Hook.none) (Hook.keeps Hook.none)
    (fun s e => xl_of s (Bool.and_eq_true_iff.mp e).1) XL.keeps hdef hp hk (fun s e => recFacts_of (Bool.and_eq_true_iff.mp e).2) rfl said' ?_ bare prom ?_
  · rw [Bool.and_eq_true, Bool.and_eq_true]
    exact ⟨⟨ok1, ok2⟩, rfl⟩
  intro w s₀ s₁ mg mb G Y fa o pm cd doc dV kV ho hd hcd hD hmg hg args vals as hpre hlay hrd hwl hlo
  wrow_args hpre hlay hrd hwl hlo
  rename (IntsAre _ _) => hI
  rename (¬ _ < _) => hlen
  rename (Heap.IsList _ _ _) => hL
  obtain ⟨a, ha, hC⟩ := hc G.T
  have hn : d.name = name := defOf_name hdef
  rw [hn, ha] at hmg
  cases hmg
  obtain ⟨o, q1, q2, n, q3⟩ := hL
  refine hC _ (by omega) callerA s₁ (fun _ => False) _ _ _ ⟨rfl, rfl, by decide, by decide⟩ (fun b ob q => q) (fun _ q => q.elim) (.cons (.list q1 (fun q => q) q2 q3 (RpL.of_ints hI)) .nil) fun v h' tk ex r => ?_
  cases r
  refine GoodW.toG ?_
  refine ⟨.inl ⟨_, .bool true, [], rfl, ?_, .bool true, ?_, unshared_nil⟩, ex, rfl, by assumption⟩
  · exact raisesW_false (by wrow_none_raised)
  · exact postW_of (by wrow_shape) (by wtm_val) (by w_fin)
theorem law_end {prog : Program} {name : Str} {about : List Str} {foot : Nat} {q : Program} {N : Nat}
    (said : OpenLaw.wellSaid ⟨prog, name, about, foot, some 63, none, false⟩ = true)
    (left : LeftO prog q [] (fun s => xlAt q [] s && recOk [] s) (Hook.obs Hook.none) (Hook.val Hook.none) N)
    (hd : (W.defOf q name).isSome = true ∧ ((W.defOf q name).all fun d => d.2.isEmpty && d.1.params.kwonlyargs.isEmpty && d.1.params.kw_defaults.isEmpty) = true ∧ ((W.defOf q name).map fun d => (d.1.params, d.1.body, d.1.scope)) = prog.theDef name)
    (ok1 : chainsOk q = true) (ok2 : opensWell prog = true) (bare : prog.bare) (prom : (OpenLaw.row ⟨prog, name, about, foot, some 63, none, false⟩).toRowW.promised) (hc : Done q prog name) : OpenLaw.Holds ⟨prog, name, about, foot, some 63, none, false⟩ := by
  obtain ⟨h1, h2, h3⟩ := hd
  obtain ⟨⟨d, k⟩, h⟩ := Option.isSome_iff_exists.mp h1
  rw [h] at h2 h3
  have h2 : (k.isEmpty && d.params.kwonlyargs.isEmpty && d.params.kw_defaults.isEmpty) = true := h2
  rw [Bool.and_eq_true, Bool.and_eq_true, List.isEmpty_iff, List.isEmpty_iff, List.isEmpty_iff] at h2
  obtain ⟨⟨rfl, e1⟩, e2⟩ := h2
  exact law_by said left h h3.symm (by rw [e1, e2]; rfl) ok1 ok2 bare prom hc
structure Cut (p : Bool) where
  a : Bool
  b : Bool
  h : p = (a && b)
theorem Cut.ok {p : Bool} (c : Cut p) (x : c.a = true) (y : c.b = true) : p = true := by rw [c.h, x, y]; rfl
noncomputable def kk0 (l : OpenLaw) : Cut (OpenLaw.wellSaid l) := ⟨_, _, by exact rfl⟩
noncomputable def kk1 (l : OpenLaw) : Cut ((kk0 l).a) := ⟨_, _, by exact rfl⟩
noncomputable def kk2 (l : OpenLaw) : Cut ((kk1 l).a) := ⟨_, _, by exact rfl⟩
noncomputable def kk3 (l : OpenLaw) : Cut ((kk2 l).a) := ⟨_, _, by exact rfl⟩
noncomputable def kk4 (l : OpenLaw) : Cut ((kk3 l).a) := ⟨_, _, by exact rfl⟩
noncomputable def kk5 (l : OpenLaw) : Cut ((kk4 l).a) := ⟨_, _, by exact rfl⟩
noncomputable def kk6 (l : OpenLaw) : Cut ((kk5 l).a) := ⟨_, _, by exact rfl⟩
noncomputable def kk7 (l : OpenLaw) : Cut ((kk6 l).a) := ⟨_, _, by exact rfl⟩
noncomputable def kk8 (l : OpenLaw) : Cut ((kk7 l).a) := ⟨_, _, by exact rfl⟩
noncomputable def kk9 (l : OpenLaw) : Cut ((kk8 l).a) := ⟨_, _, by exact rfl⟩
noncomputable def kk10 (l : OpenLaw) : Cut ((kk9 l).a) := ⟨_, _, by exact rfl⟩
noncomputable def kk11 (l : OpenLaw) : Cut ((kk10 l).a) := ⟨_, _, by exact rfl⟩
noncomputable def kk12 (l : OpenLaw) : Cut ((kk11 l).a) := ⟨_, _, by exact rfl⟩
noncomputable def kk13 (l : OpenLaw) : Cut ((kk12 l).a) := ⟨_, _, by exact rfl⟩
noncomputable def kk14 (l : OpenLaw) : Cut ((kk13 l).a) := ⟨_, _, by exact rfl⟩
noncomputable def kk15 (l : OpenLaw) : Cut ((kk14 l).a) := ⟨_, _, by exact rfl⟩
noncomputable def kk16 (l : OpenLaw) : Cut ((kk15 l).a) := ⟨_, _, by exact rfl⟩
noncomputable def kk17 (l : OpenLaw) : Cut ((kk16 l).a) := ⟨_, _, by exact rfl⟩
noncomputable def kk18 (l : OpenLaw) : Cut ((kk17 l).a) := ⟨_, _, by exact rfl⟩
noncomputable def kk19 (l : OpenLaw) : Cut ((kk18 l).a) := ⟨_, _, by exact rfl⟩
noncomputable def kk20 (l : OpenLaw) : Cut ((kk19 l).a) := ⟨_, _, by exact rfl⟩
noncomputable def kk21 (l : OpenLaw) : Cut ((kk20 l).a) := ⟨_, _, by exact rfl⟩
noncomputable def kk22 (l : OpenLaw) : Cut ((kk21 l).a) := ⟨_, _, by exact rfl⟩
noncomputable def kk23 (l : OpenLaw) : Cut ((kk22 l).a) := ⟨_, _, by exact rfl⟩
noncomputable def kk24 (l : OpenLaw) : Cut ((kk23 l).a) := ⟨_, _, by exact rfl⟩
noncomputable def kk25 (l : OpenLaw) : Cut ((kk24 l).a) := ⟨_, _, by exact rfl⟩
noncomputable def kk26 (l : OpenLaw) : Cut ((kk25 l).a) := ⟨_, _, by exact rfl⟩
noncomputable def kk27 (l : OpenLaw) : Cut ((kk26 l).a) := ⟨_, _, by exact rfl⟩
noncomputable def kk28 (l : OpenLaw) : Cut ((kk27 l).a) := ⟨_, _, by exact rfl⟩
noncomputable def kk29 (l : OpenLaw) : Cut ((kk28 l).a) := ⟨_, _, by exact rfl⟩
noncomputable def kk30 (l : OpenLaw) : Cut ((kk29 l).a) := ⟨_, _, by exact rfl⟩
noncomputable def kk31 (l : OpenLaw) : Cut ((kk30 l).a) := ⟨_, _, by exact rfl⟩
noncomputable def kk32 (l : OpenLaw) : Cut ((kk31 l).a) := ⟨_, _, by exact rfl⟩
noncomputable def kk33 (l : OpenLaw) : Cut ((kk32 l).a) := ⟨_, _, by exact rfl⟩
noncomputable def kk34 (l : OpenLaw) : Cut ((kk33 l).a) := ⟨_, _, by exact rfl⟩
noncomputable def kk35 (l : OpenLaw) : Cut ((kk34 l).a) := ⟨_, _, by exact rfl⟩
noncomputable def kk36 (l : OpenLaw) : Cut ((kk35 l).a) := ⟨_, _, by exact rfl⟩
noncomputable def kk37 (l : OpenLaw) : Cut ((kk36 l).a) := ⟨_, _, by exact rfl⟩
theorem said_cut (l : OpenLaw) (h : (kk37 l).a = true) (h0 : (kk0 l).b = true) (h1 : (kk1 l).b = true) (h2 : (kk2 l).b = true) (h3 : (kk3 l).b = true) (h4 : (kk4 l).b = true) (h5 : (kk5 l).b = true) (h6 : (kk6 l).b = true) (h7 : (kk7 l).b = true) (h8 : (kk8 l).b = true) (h9 : (kk9 l).b = true) (h10 : (kk10 l).b = true) (h11 : (kk11 l).b = true) (h12 : (kk12 l).b = true) (h13 : (kk13 l).b = true) (h14 : (kk14 l).b = true) (h15 : (kk15 l).b = true) (h16 : (kk16 l).b = true) (h17 : (kk17 l).b = true) (h18 : (kk18 l).b = true) (h19 : (kk19 l).b = true) (h20 : (kk20 l).b = true) (h21 : (kk21 l).b = true) (h22 : (kk22 l).b = true) (h23 : (kk23 l).b = true) (h24 : (kk24 l).b = true) (h25 : (kk25 l).b = true) (h26 : (kk26 l).b = true) (h27 : (kk27 l).b = true) (h28 : (kk28 l).b = true) (h29 : (kk29 l).b = true) (h30 : (kk30 l).b = true) (h31 : (kk31 l).b = true) (h32 : (kk32 l).b = true) (h33 : (kk33 l).b = true) (h34 : (kk34 l).b = true) (h35 : (kk35 l).b = true) (h36 : (kk36 l).b = true) (h37 : (kk37 l).b = true) : OpenLaw.wellSaid l = true := ((kk0 l).ok ((kk1 l).ok ((kk2 l).ok ((kk3 l).ok ((kk4 l).ok ((kk5 l).ok ((kk6 l).ok ((kk7 l).ok ((kk8 l).ok ((kk9 l).ok ((kk10 l).ok ((kk11 l).ok ((kk12 l).ok ((kk13 l).ok ((kk14 l).ok ((kk15 l).ok ((kk16 l).ok ((kk17 l).ok ((kk18 l).ok ((kk19 l).ok ((kk20 l).ok ((kk21 l).ok ((kk22 l).ok ((kk23 l).ok ((kk24 l).ok ((kk25 l).ok ((kk26 l).ok ((kk27 l).ok ((kk28 l).ok ((kk29 l).ok ((kk30 l).ok ((kk31 l).ok ((kk32 l).ok ((kk33 l).ok ((kk34 l).ok ((kk35 l).ok ((kk36 l).ok ((kk37 l).ok h h37) h36) h35) h34) h33) h32) h31) h30) h29) h28) h27) h26) h25) h24) h23) h22) h21) h20) h19) h18) h17) h16) h15) h14) h13) h12) h11) h10) h9) h8) h7) h6) h5) h4) h3) h2) h1) h0)
end Mine
end HD

section MC
open PySem PySem.W PyProof.Rows PySem.Calls PyProof.V PySem.Spec PySem.SeqAt
namespace Mine
-- names [(ch_a, 0), (ch_b, 1)] params [ch_a, ch_b]
noncomputable def m_substitution_cost : List MS := [
  .ifs (.cmp .Eq (.var 0) (.var 1)) [.ret (.lit (.int 0))] [],
  .ifs (.cmp .Eq (.bi .lower [(.var 0)]) (.bi .lower [(.var 1)])) [.ret (.lit (.int 1))] [],
  .ret (.lit (.int 2))]

-- names [(a, 0), (b, 1), (max_cost, 2), (pre, 3), (post, 4), (row, 5), (result, 6), (bindex, 7), (bchar, 8), (distance, 9), (minimum, 10), (index, 11), (substitute, 12), (insert_delete, 13)] params [a, b, max_cost]
noncomputable def m_levenshtein_distance_1 : List MS := [.aug 3 .Add (.lit (.int 1))]
noncomputable def m_levenshtein_distance_2 : List MS := [.aug 4 .Sub (.lit (.int 1))]
noncomputable def m_levenshtein_distance_3_1 : List MS := [.asg 12 (.bin .Add (.var 9) (.call "_substitution_cost" [(.var 8), (.idx (.var 0) (.var 11))])), .asgS 9 (.idx (.var 5) (.var 11)), .asg 13 (.bin .Add (.bi .min2 [(.var 6), (.var 9)]) (.lit (.int 2))), .asg 6 (.bi .min2 [(.var 13), (.var 12)]), .sti 5 (.var 11) (.var 6), .ifs (.cmp .Lt (.var 6) (.var 10)) [.asg 10 (.var 6)] []]
noncomputable def m_levenshtein_distance_3 : List MS := [.asg 8 (.idx (.var 1) (.var 7)), .asg2 9 6 (.bin .Mult (.var 7) (.lit (.int 2))), .asg 10 (.lit (.int 9223372036854775807)), .forE 11 (.rng [(.bi .len [(.var 0)])]) m_levenshtein_distance_3_1, .ifs (.cmp .Gt (.var 10) (.var 2)) [.ret (.bin .Add (.var 2) (.lit (.int 1)))] []]
noncomputable def m_levenshtein_distance : List MS := [
  .ifs (.cmp .Eq (.var 0) (.var 1)) [.ret (.lit (.int 0))] [],
  .asg 3 (.lit (.int 0)),
  .whl (.and (.slc (.var 0) (.var 3) (.lit .none)) (.and (.slc (.var 1) (.var 3) (.lit .none)) (.cmp .Eq (.idx (.var 0) (.var 3)) (.idx (.var 1) (.var 3))))) m_levenshtein_distance_1,
  .asg 0 (.slc (.var 0) (.var 3) (.lit .none)),
  .asg 1 (.slc (.var 1) (.var 3) (.lit .none)),
  .asg 4 (.lit (.int 0)),
  .whl (.and (.slc (.var 0) (.lit .none) (.or (.var 4) (.lit .none))) (.and (.slc (.var 1) (.lit .none) (.or (.var 4) (.lit .none))) (.cmp .Eq (.idx (.var 0) (.bin .Sub (.var 4) (.lit (.int 1)))) (.idx (.var 1) (.bin .Sub (.var 4) (.lit (.int 1))))))) m_levenshtein_distance_2,
  .asg 0 (.slc (.var 0) (.lit .none) (.or (.var 4) (.lit .none))),
  .asg 1 (.slc (.var 1) (.lit .none) (.or (.var 4) (.lit .none))),
  .ifs (.or (.no (.var 0)) (.no (.var 1))) [.ret (.bin .Mult (.lit (.int 2)) (.bin .Add (.bi .len [(.var 0)]) (.bi .len [(.var 1)])))] [],
  .ifs (.or (.cmp .Gt (.bi .len [(.var 0)]) (.lit (.int 40))) (.cmp .Gt (.bi .len [(.var 1)]) (.lit (.int 40)))) [.ret (.bin .Add (.var 2) (.lit (.int 1)))] [],
  .ifs (.cmp .Lt (.bi .len [(.var 1)]) (.bi .len [(.var 0)])) [.swp 0 1 (.var 1) (.var 0)] [],
  .ifs (.cmp .Gt (.bin .Mult (.bin .Sub (.bi .len [(.var 1)]) (.bi .len [(.var 0)])) (.lit (.int 2))) (.var 2)) [.ret (.bin .Add (.var 2) (.lit (.int 1)))] [],
  .asgR 5 [(.lit (.int 2)), (.bin .Mult (.lit (.int 2)) (.bin .Add (.bi .len [(.var 0)]) (.lit (.int 1)))), (.lit (.int 2))],
  .asg 6 (.lit (.int 0)),
  .forE 7 (.rng [(.bi .len [(.var 1)])]) m_levenshtein_distance_3,
  .ret (.var 6)]


end Mine
end MC

section M1
open PySem PySem.W PyProof.Rows PySem.Calls PyProof.V PySem.Spec PySem.SeqAt
namespace Mine
noncomputable def g1 : G := ⟨[("_MAX_STRING_SIZE", 40), ("_MOVE_COST", 2), ("_CASE_COST", 1)],
  [("_gen_crc", "_gen_crc"), ("_substitution_cost", "_substitution_cost"), ("_levenshtein_distance", "_levenshtein_distance"), ("_law_words", "_law_words"), ("_law_rest", "_law_rest"), ("_law_mirror", "_law_mirror"), ("_law_sums", "_law_sums"), ("_law_whole", "_law_whole"), ("_law_shared", "_law_shared"), ("_law_back", "_law_back"), ("_law_price", "_law_price"), ("law", "law")]⟩
-- names [(crc, 0), (j, 1)] params [crc]
noncomputable def m_gen_crc_1 : List MS := [.ifs (.bin .BitAnd (.var 0) (.lit (.int 1))) [.asg 0 (.bin .BitXor (.bin .RShift (.var 0) (.lit (.int 1))) (.lit (.int 3988292384)))] [.aug 0 .RShift (.lit (.int 1))]]
noncomputable def m_gen_crc : List MS := [
  .forE 1 (.rng [(.lit (.int 8))]) m_gen_crc_1,
  .ret (.var 0)]

-- names [(numbers, 0), (one, 1), (other, 2), (x, 3), (letter, 4)] params [numbers]
noncomputable def mT_words_1 : List MS := [.asg 4 (.idx (.lit (.str (sOf [97, 65, 99, 67, 105, 73, 107, 75]))) (.bin .Mod (.bin .FloorDiv (.var 3) (.lit (.int 6))) (.lit (.int 8)))), .ifs (.cmp .NotEq (.bin .Mod (.var 3) (.lit (.int 6))) (.lit (.int 3))) [.aug 1 .Add (.var 4)] [], .ifs (.or (.cmp .Lt (.bin .Mod (.var 3) (.lit (.int 6))) (.lit (.int 2))) (.cmp .Eq (.bin .Mod (.var 3) (.lit (.int 6))) (.lit (.int 3)))) [.aug 2 .Add (.var 4)] [], .ifs (.cmp .Eq (.bin .Mod (.var 3) (.lit (.int 6))) (.lit (.int 4))) [.aug 2 .Add (.idx (.lit (.str (sOf [65, 97, 67, 99, 73, 105, 75, 107]))) (.bin .Mod (.bin .FloorDiv (.var 3) (.lit (.int 6))) (.lit (.int 8))))] [], .ifs (.cmp .Eq (.bin .Mod (.var 3) (.lit (.int 6))) (.lit (.int 5))) [.aug 2 .Add (.idx (.lit (.str (sOf [97, 65, 99, 67, 105, 73, 107, 75]))) (.bin .Mod (.bin .FloorDiv (.var 3) (.lit (.int 48))) (.lit (.int 8))))] []]
noncomputable def mT_words : List MS := [
  .asg 1 (.lit (.str (sOf []))),
  .asg 2 (.lit (.str (sOf []))),
  .forE 3 (.var 0) mT_words_1,
  .ret (.tup [(.var 1), (.var 2)])]

-- names [(number, 0), (places, 1), (place, 2)] params [number, places]
noncomputable def mT_rest_1 : List MS := [.ifs (.bin .BitAnd (.bin .RShift (.var 0) (.bin .Add (.var 2) (.lit (.int 32)))) (.lit (.int 1))) [.aug 0 .BitXor (.bin .LShift (.lit (.int 4374732215)) (.var 2))] []]
noncomputable def mT_rest : List MS := [
  .forE 2 (.rng [(.bin .Sub (.var 1) (.lit (.int 1))), (.neg (.lit (.int 1))), (.neg (.lit (.int 1)))]) mT_rest_1,
  .ret (.var 0)]

-- names [(mark, 0), (number, 1), (place, 2)] params [mark]
noncomputable def mT_mirror_1 : List MS := [.asg 1 (.bin .Add (.bin .Mult (.lit (.int 2)) (.var 1)) (.bin .BitAnd (.bin .RShift (.var 0) (.var 2)) (.lit (.int 1))))]
noncomputable def mT_mirror : List MS := [
  .asg 1 (.lit (.int 0)),
  .forE 2 (.rng [(.lit (.int 32))]) mT_mirror_1,
  .ret (.var 1)]

-- names [(word, 0), (mark, 1), (marks, 2), (letter, 3), (sums, 4), (i, 5), (ahead, 6), (row, 7), (behind, 8)] params [word]
noncomputable def mT_sums_1 : List MS := [.asg 1 (.call "_gen_crc" [(.bin .BitXor (.var 1) (.bi .ord [(.var 3)]))]), .appS 2 (.call "_law_mirror" [(.var 1)])]
noncomputable def mT_sums_2_1 : List MS := [.asg 6 (.call "_law_rest" [(.bin .LShift (.var 6) (.lit (.int 8))), (.lit (.int 8))]), .appS 7 (.bin .BitXor (.var 6) (.var 8))]
noncomputable def mT_sums_2 : List MS := [.asgS 6 (.idx (.var 2) (.var 5)), .asgO 7 [(.lit (.int 0))], .frz 2, .forE 8 (.slc (.var 2) (.bin .Add (.var 5) (.lit (.int 1))) (.lit .none)) mT_sums_2_1, .frz 7, .appS 4 (.var 7)]
noncomputable def mT_sums : List MS := [
  .asg 1 (.lit (.int 4294967295)),
  .asgO 2 [(.call "_law_mirror" [(.var 1)])],
  .forE 3 (.var 0) mT_sums_1,
  .asgO 4 [],
  .frz 2,
  .forE 5 (.rng [(.bi .len [(.var 2)])]) mT_sums_2,
  .ret (.var 4)]

-- names [(word, 0), (number, 1), (letter, 2), (place, 3)] params [word]
noncomputable def mT_whole_1_1 : List MS := [.asg 1 (.bin .Add (.bin .Mult (.lit (.int 2)) (.var 1)) (.bin .BitAnd (.bin .RShift (.bi .ord [(.var 2)]) (.var 3)) (.lit (.int 1))))]
noncomputable def mT_whole_1 : List MS := [.forE 3 (.rng [(.lit (.int 8))]) mT_whole_1_1]
noncomputable def mT_whole : List MS := [
  .asg 1 (.lit (.int 0)),
  .forE 2 (.var 0) mT_whole_1,
  .ret (.call "_law_rest" [(.bin .LShift (.var 1) (.lit (.int 32))), (.bin .Mult (.lit (.int 8)) (.bi .len [(.var 0)]))])]

-- names [(first, 0), (second, 1), (i, 2), (j, 3), (low, 4), (high, 5), (half, 6)] params [first, second, i, j]
noncomputable def mT_shared_1 : List MS := [.asg 6 (.bin .FloorDiv (.bin .Add (.bin .Add (.var 4) (.var 5)) (.lit (.int 1))) (.lit (.int 2))), .ifs (.cmp .Eq (.idx (.idx (.var 0) (.var 2)) (.var 6)) (.idx (.idx (.var 1) (.var 3)) (.var 6))) [.asg 4 (.var 6)] [.asg 5 (.bin .Sub (.var 6) (.lit (.int 1)))]]
noncomputable def mT_shared : List MS := [
  .asg 4 (.lit (.int 0)),
  .asg 5 (.bin .Sub (.bi .min2 [(.bi .len [(.idx (.var 0) (.var 2))]), (.bi .len [(.idx (.var 1) (.var 3))])]) (.lit (.int 1))),
  .whl (.cmp .Lt (.var 4) (.var 5)) mT_shared_1,
  .ret (.var 4)]

-- names [(first, 0), (second, 1), (size, 2)] params [first, second]
noncomputable def mT_back_1 : List MS := [.aug 2 .Add (.lit (.int 1))]
noncomputable def mT_back : List MS := [
  .asg 2 (.lit (.int 0)),
  .whl (.and (.cmp .Lt (.var 2) (.bin .Sub (.bi .min2 [(.bi .len [(.var 0)]), (.bi .len [(.var 1)])]) (.lit (.int 1)))) (.cmp .Eq (.idx (.idx (.var 0) (.bin .Sub (.bin .Sub (.bi .len [(.var 0)]) (.lit (.int 2))) (.var 2))) (.bin .Add (.var 2) (.lit (.int 1)))) (.idx (.idx (.var 1) (.bin .Sub (.bin .Sub (.bi .len [(.var 1)]) (.lit (.int 2))) (.var 2))) (.bin .Add (.var 2) (.lit (.int 1)))))) mT_back_1,
  .ret (.var 2)]

-- names [(first, 0), (second, 1), (sizes, 2), (seen, 3), (waves, 4), (cost, 5), (start, 6), (shared, 7), (i, 8), (j, 9), (step, 10)] params [first, second]
noncomputable def mT_price_1_1 : List MS := [.asg 7 (.call "_law_shared" [(.var 0), (.var 1), (.idx (.var 6) (.lit (.int 0))), (.idx (.var 6) (.lit (.int 1)))]), .asg 8 (.bin .Add (.idx (.var 6) (.lit (.int 0))) (.var 7)), .asg 9 (.bin .Add (.idx (.var 6) (.lit (.int 1))) (.var 7)), .ifs (.and (.cmp .Eq (.var 8) (.bin .Sub (.bi .len [(.var 0)]) (.lit (.int 1)))) (.cmp .Eq (.var 9) (.bin .Sub (.bi .len [(.var 1)]) (.lit (.int 1))))) [.ret (.var 5)] [], .ifs (.cmp .NotIn (.tup [(.var 8), (.var 9)]) (.var 3)) [.appS 3 (.tup [(.var 8), (.var 9)]), .ifs (.cmp .Lt (.var 8) (.bin .Sub (.bi .len [(.var 0)]) (.lit (.int 1)))) [.apD 4 (.bin .Add (.var 5) (.lit (.int 2))) (.tup [(.bin .Add (.var 8) (.lit (.int 1))), (.var 9)])] [], .ifs (.cmp .Lt (.var 9) (.bin .Sub (.bi .len [(.var 1)]) (.lit (.int 1)))) [.apD 4 (.bin .Add (.var 5) (.lit (.int 2))) (.tup [(.var 8), (.bin .Add (.var 9) (.lit (.int 1)))])] [], .ifs (.and (.cmp .Lt (.var 8) (.bin .Sub (.bi .len [(.var 0)]) (.lit (.int 1)))) (.cmp .Lt (.var 9) (.bin .Sub (.bi .len [(.var 1)]) (.lit (.int 1))))) [.asg 10 (.ite (.cmp .Eq (.bin .BitXor (.idx (.idx (.var 0) (.var 8)) (.lit (.int 1))) (.idx (.idx (.var 1) (.var 9)) (.lit (.int 1)))) (.var 2)) (.lit (.int 1)) (.lit (.int 2))), .apD 4 (.bin .Add (.var 5) (.var 10)) (.tup [(.bin .Add (.var 8) (.lit (.int 1))), (.bin .Add (.var 9) (.lit (.int 1)))])] []] []]
noncomputable def mT_price_1 : List MS := [.forD 6 4 (.var 5) mT_price_1_1, .apN 4 []]
noncomputable def mT_price : List MS := [
  .asg 2 (.call "_law_rest" [(.bin .LShift (.lit (.int 1)) (.lit (.int 34))), (.lit (.int 8))]),
  .asgO 3 [],
  .asgD 4 [[(.tup [(.lit (.int 0)), (.lit (.int 0))])], [], []],
  .forE 5 (.rng [(.bin .Add (.bin .Mult (.lit (.int 2)) (.bi .len [(.var 0)])) (.bin .Mult (.lit (.int 2)) (.bi .len [(.var 1)])))]) mT_price_1,
  .ret (.neg (.lit (.int 1)))]

-- names [(script, 0), (numbers, 1), (one, 2), (other, 3), (first, 4), (second, 5), (due, 6), (told, 7), (bound, 8), (low, 9), (piece, 10)] params [script]
noncomputable def mT_law : List MS := [
  .asg 1 (.slc (.bin .Add (.var 0) (.lst [(.lit (.int 14)), (.lit (.int 0)), (.lit (.int 36)), (.lit (.int 27)), (.lit (.int 4))])) (.lit .none) (.lit (.int 5))),
  .unp 2 3 (.call "_law_words" [(.var 1)]),
  .asg 4 (.call "_law_sums" [(.var 2)]),
  .asg 5 (.call "_law_sums" [(.var 3)]),
  .ifs (.cmp .NotEq (.lst [(.idx (.idx (.var 4) (.lit (.int 0))) (.neg (.lit (.int 1)))), (.idx (.idx (.var 5) (.lit (.int 0))) (.neg (.lit (.int 1))))]) (.lst [(.call "_law_whole" [(.var 2)]), (.call "_law_whole" [(.var 3)])])) [.ret (.lit (.bool false))] [],
  .asg 6 (.call "_law_price" [(.var 4), (.var 5)]),
  .asg 7 (.lst [(.call "_levenshtein_distance" [(.var 2), (.var 3), (.var 6)]), (.call "_levenshtein_distance" [(.var 3), (.var 2), (.var 6)]), (.call "_levenshtein_distance" [(.var 3), (.var 2), (.bin .Sub (.var 6) (.lit (.int 1)))])]),
  .asg 8 (.bin .Sub (.bin .Mod (.bi .sum [(.var 1)]) (.lit (.int 6))) (.lit (.int 2))),
  .asg 9 (.call "_levenshtein_distance" [(.var 2), (.var 3), (.var 8)]),
  .asg 10 (.cmp .GtE (.bin .Add (.call "_law_shared" [(.var 4), (.var 5), (.lit (.int 0)), (.lit (.int 0))]) (.call "_law_back" [(.var 4), (.var 5)])) (.bin .Sub (.bi .min2 [(.bi .len [(.var 4)]), (.bi .len [(.var 5)])]) (.lit (.int 1)))),
  .ifs (.cmp .NotEq (.comp 11 (.bi .isint [(.var 11)]) (.bin .Add (.var 7) (.lst [(.var 9)])) []) (.lst [(.lit (.bool true)), (.lit (.bool true)), (.lit (.bool true)), (.lit (.bool true))])) [.ret (.lit (.bool false))] [],
  .ret (.and (.cmp .Eq (.var 7) (.lst [(.var 6), (.var 6), (.var 6)])) (.or (.cmp .Eq (.var 9) (.var 6)) (.and (.cmp .Gt (.var 6) (.var 8)) (.and (.no (.var 10)) (.cmp .Eq (.var 9) (.bin .Add (.var 8) (.lit (.int 1))))))))]

end Mine
end M1

section LN1
open PySem PySem.W PyProof.Rows
set_option maxHeartbeats 8000000
namespace Mine
noncomputable def keepAt {α : Type} (l : List α) (is : List Nat) : List α := is.filterMap (l[·]?)
noncomputable def pg : Program := PySem.Challenge.rw_pm0010_01.prog
noncomputable def vw : Program := { pg with main := { pg.main with body := keepAt pg.main.body [1,2,3,4,5,7,9,10,11,12,13,14,15,16,17] } }
theorem left : LeftO PySem.Challenge.rw_pm0010_01.prog vw [] (fun s => xlAt vw [] s && recOk [] s) (Hook.obs Hook.none) (Hook.val Hook.none) 1000 := fun w => by kernel_rfl
theorem sk0 : (kk0 PySem.Challenge.rw_pm0010_01).b = true := by kernel_rfl
theorem sk1 : (kk1 PySem.Challenge.rw_pm0010_01).b = true := by kernel_rfl
theorem sk2 : (kk2 PySem.Challenge.rw_pm0010_01).b = true := by kernel_rfl
theorem sk3 : (kk3 PySem.Challenge.rw_pm0010_01).b = true := by kernel_rfl
theorem sk4 : (kk4 PySem.Challenge.rw_pm0010_01).b = true := by kernel_rfl
theorem sk5 : (kk5 PySem.Challenge.rw_pm0010_01).b = true := by kernel_rfl
theorem sk6 : (kk6 PySem.Challenge.rw_pm0010_01).b = true := by kernel_rfl
theorem sk7 : (kk7 PySem.Challenge.rw_pm0010_01).b = true := by kernel_rfl
theorem sk8 : (kk8 PySem.Challenge.rw_pm0010_01).b = true := by kernel_rfl
theorem sk9 : (kk9 PySem.Challenge.rw_pm0010_01).b = true := by kernel_rfl
theorem sk10 : (kk10 PySem.Challenge.rw_pm0010_01).b = true := by kernel_rfl
theorem sk11 : (kk11 PySem.Challenge.rw_pm0010_01).b = true := by kernel_rfl
theorem sk12 : (kk12 PySem.Challenge.rw_pm0010_01).b = true := by kernel_rfl
theorem sk13 : (kk13 PySem.Challenge.rw_pm0010_01).b = true := by kernel_rfl
theorem sk14 : (kk14 PySem.Challenge.rw_pm0010_01).b = true := by kernel_rfl
theorem sk15 : (kk15 PySem.Challenge.rw_pm0010_01).b = true := by kernel_rfl
theorem sk16 : (kk16 PySem.Challenge.rw_pm0010_01).b = true := by kernel_rfl
theorem sk17 : (kk17 PySem.Challenge.rw_pm0010_01).b = true := by kernel_rfl
theorem sk18 : (kk18 PySem.Challenge.rw_pm0010_01).b = true := by kernel_rfl
theorem sk19 : (kk19 PySem.Challenge.rw_pm0010_01).b = true := by kernel_rfl
theorem sk20 : (kk20 PySem.Challenge.rw_pm0010_01).b = true := by kernel_rfl
theorem sk21 : (kk21 PySem.Challenge.rw_pm0010_01).b = true := by kernel_rfl
theorem sk22 : (kk22 PySem.Challenge.rw_pm0010_01).b = true := by kernel_rfl
theorem sk23 : (kk23 PySem.Challenge.rw_pm0010_01).b = true := by kernel_rfl
theorem sk24 : (kk24 PySem.Challenge.rw_pm0010_01).b = true := by kernel_rfl
theorem sk25 : (kk25 PySem.Challenge.rw_pm0010_01).b = true := by kernel_rfl
theorem sk26 : (kk26 PySem.Challenge.rw_pm0010_01).b = true := by kernel_rfl
theorem sk27 : (kk27 PySem.Challenge.rw_pm0010_01).b = true := by kernel_rfl
theorem sk28 : (kk28 PySem.Challenge.rw_pm0010_01).b = true := by kernel_rfl
theorem sk29 : (kk29 PySem.Challenge.rw_pm0010_01).b = true := by kernel_rfl
theorem sk30 : (kk30 PySem.Challenge.rw_pm0010_01).b = true := by kernel_rfl
theorem sk31 : (kk31 PySem.Challenge.rw_pm0010_01).b = true := by kernel_rfl
theorem sk32 : (kk32 PySem.Challenge.rw_pm0010_01).b = true := by kernel_rfl
theorem sk33 : (kk33 PySem.Challenge.rw_pm0010_01).b = true := by kernel_rfl
theorem sk34 : (kk34 PySem.Challenge.rw_pm0010_01).b = true := by kernel_rfl
theorem sk35 : (kk35 PySem.Challenge.rw_pm0010_01).b = true := by kernel_rfl
theorem sk36 : (kk36 PySem.Challenge.rw_pm0010_01).b = true := by kernel_rfl
theorem sk37 : (kk37 PySem.Challenge.rw_pm0010_01).b = true := by kernel_rfl
theorem sk_ : (kk37 PySem.Challenge.rw_pm0010_01).a = true := by kernel_rfl
theorem said : OpenLaw.wellSaid PySem.Challenge.rw_pm0010_01 = true := said_cut _ sk_ sk0 sk1 sk2 sk3 sk4 sk5 sk6 sk7 sk8 sk9 sk10 sk11 sk12 sk13 sk14 sk15 sk16 sk17 sk18 sk19 sk20 sk21 sk22 sk23 sk24 sk25 sk26 sk27 sk28 sk29 sk30 sk31 sk32 sk33 sk34 sk35 sk36 sk37
theorem defLaw : (W.defOf vw PySem.Challenge.rw_pm0010_01.name).isSome = true ∧ ((W.defOf vw PySem.Challenge.rw_pm0010_01.name).all fun d => d.2.isEmpty && d.1.params.kwonlyargs.isEmpty && d.1.params.kw_defaults.isEmpty) = true ∧ ((W.defOf vw PySem.Challenge.rw_pm0010_01.name).map fun d => (d.1.params, d.1.body, d.1.scope)) = pg.theDef PySem.Challenge.rw_pm0010_01.name := ⟨by kernel_rfl, by kernel_rfl, by kernel_rfl⟩
theorem ok1 : chainsOk vw = true := by kernel_rfl
theorem ok2 : opensWell PySem.Challenge.rw_pm0010_01.prog = true := by kernel_rfl
theorem bare : PySem.Challenge.rw_pm0010_01.prog.bare := ⟨rfl, rfl, rfl, rfl, rfl, by decide +kernel⟩
theorem prom : PySem.Challenge.rw_pm0010_01.row.toRowW.promised := by w_witness2
theorem tr1 : tr vw g1 [] "_gen_crc" ["crc"] = some m_gen_crc := by kernel_rfl
theorem in1 (a : PyData) : ini vw "_gen_crc" ["crc"] [a] = [.imm a, .un] := by kernel_rfl
theorem tr2 : tr vw g1 [] "_substitution_cost" ["ch_a", "ch_b"] = some m_substitution_cost := by kernel_rfl
theorem in2 (a b : PyData) : ini vw "_substitution_cost" ["ch_a", "ch_b"] [a, b] = [.imm a, .imm b] := by kernel_rfl
theorem tr3 : tr vw g1 [5] "_levenshtein_distance" ["a", "b", "max_cost"] = some m_levenshtein_distance := by kernel_rfl
theorem in3 (a b c : PyData) : ini vw "_levenshtein_distance" ["a", "b", "max_cost"] [a, b, c] = [.imm a, .imm b, .imm c, .un, .un, .un, .un, .un, .un, .un, .un, .un, .un, .un] := by kernel_rfl
theorem tr4 : tr vw g1 [] "_law_words" ["numbers"] = some mT_words := by kernel_rfl
theorem in4 (a : PyData) : ini vw "_law_words" ["numbers"] [a] = [.imm a, .un, .un, .un, .un] := by kernel_rfl
theorem tr5 : tr vw g1 [] "_law_rest" ["number", "places"] = some mT_rest := by kernel_rfl
theorem in5 (a b : PyData) : ini vw "_law_rest" ["number", "places"] [a, b] = [.imm a, .imm b, .un] := by kernel_rfl
theorem tr6 : tr vw g1 [] "_law_mirror" ["mark"] = some mT_mirror := by kernel_rfl
theorem in6 (a : PyData) : ini vw "_law_mirror" ["mark"] [a] = [.imm a, .un, .un] := by kernel_rfl
theorem tr7 : tr vw g1 [2, 4, 7] "_law_sums" ["word"] = some mT_sums := by kernel_rfl
theorem in7 (a : PyData) : ini vw "_law_sums" ["word"] [a] = [.imm a, .un, .un, .un, .un, .un, .un, .un, .un] := by kernel_rfl
theorem tr8 : tr vw g1 [] "_law_whole" ["word"] = some mT_whole := by kernel_rfl
theorem in8 (a : PyData) : ini vw "_law_whole" ["word"] [a] = [.imm a, .un, .un, .un] := by kernel_rfl
theorem tr9 : tr vw g1 [] "_law_shared" ["first", "second", "i", "j"] = some mT_shared := by kernel_rfl
theorem in9 (a b c d : PyData) : ini vw "_law_shared" ["first", "second", "i", "j"] [a, b, c, d] = [.imm a, .imm b, .imm c, .imm d, .un, .un, .un] := by kernel_rfl
theorem tr10 : tr vw g1 [] "_law_back" ["first", "second"] = some mT_back := by kernel_rfl
theorem in10 (a b : PyData) : ini vw "_law_back" ["first", "second"] [a, b] = [.imm a, .imm b, .un] := by kernel_rfl
theorem tr11 : tr vw g1 [3, 1004] "_law_price" ["first", "second"] = some mT_price := by kernel_rfl
theorem in11 (a b : PyData) : ini vw "_law_price" ["first", "second"] [a, b] = [.imm a, .imm b, .un, .un, .un, .un, .un, .un, .un, .un, .un] := by kernel_rfl
theorem tr12 : tr vw g1 [] "law" ["script"] = some mT_law := by kernel_rfl
theorem in12 (a : PyData) : ini vw "law" ["script"] [a] = [.imm a, .un, .un, .un, .un, .un, .un, .un, .un, .un, .un] := by kernel_rfl
theorem gok : groundOk vw (looseW vw []) g1 = true := by kernel_rfl
end Mine
end LN1

section Q1
open PySem PySem.W PyProof.Rows
namespace Mine

/-! # The edit distance -/
noncomputable def lowS (c : Nat) : Str := Txt.lower ⟨#[c]⟩
noncomputable def sc (x y : Nat) : Nat := if x = y then 0 else if lowS x = lowS y then 1 else 2
theorem sc_le (x y : Nat) : sc x y ≤ 2 := by unfold sc; split <;> (try split) <;> omega
theorem sc_self (x : Nat) : sc x x = 0 := by unfold sc; rw [if_pos rfl]
theorem sc_comm (x y : Nat) : sc x y = sc y x := by
  unfold sc
  by_cases h : x = y
  · rw [h]
  · have h' : ¬ y = x := fun e => h e.symm
    by_cases q : lowS x = lowS y
    · simp only [if_neg h, if_neg h', if_pos q, if_pos q.symm]
    · have q' : ¬ lowS y = lowS x := fun e => q e.symm
      simp only [if_neg h, if_neg h', if_neg q, if_neg q']

noncomputable def D : List Nat → List Nat → Nat
  | [], b => 2 * b.length
  | x :: a, [] => 2 * (a.length + 1)
  | x :: a, y :: b => min (sc x y + D a b) (min (2 + D a (y :: b)) (2 + D (x :: a) b))
termination_by a b => a.length + b.length

inductive Al : List Nat → List Nat → Nat → Prop
  | nil : Al [] [] 0
  | del {x a b n} : Al a b n → Al (x :: a) b (n + 2)
  | ins {y a b n} : Al a b n → Al a (y :: b) (n + 2)
  | sub {x y a b n} : Al a b n → Al (x :: a) (y :: b) (n + sc x y)

theorem D_nil (b : List Nat) : D [] b = 2 * b.length := by rw [D]
theorem D_nil' (a : List Nat) : D a [] = 2 * a.length := by
  cases a with
  | nil => rw [D]
  | cons x a => rw [D]; rfl
theorem D_cons (x y : Nat) (a b : List Nat) : D (x :: a) (y :: b) = min (sc x y + D a b) (min (2 + D a (y :: b)) (2 + D (x :: a) b)) := by rw [D]

theorem Al.allIns : ∀ b : List Nat, Al [] b (2 * b.length)
  | [] => .nil
  | y :: b => by
    have := Al.ins (y := y) (Al.allIns b)
    rw [List.length_cons]
    exact this
theorem Al.allDel : ∀ a : List Nat, Al a [] (2 * a.length)
  | [] => .nil
  | y :: b => by
    have := Al.del (x := y) (Al.allDel b)
    rw [List.length_cons]
    exact this
theorem D_al (a b : List Nat) : Al a b (D a b) := by
  induction a generalizing b with
  | nil => rw [D_nil]; exact Al.allIns b
  | cons x a iha =>
    induction b with
    | nil => rw [D_nil']; exact Al.allDel _
    | cons y b ihb =>
      rw [D_cons]
      have h1 := Al.sub (x := x) (y := y) (iha b)
      have h2 := Al.del (x := x) (iha (y :: b))
      have h3 := Al.ins (y := y) ihb
      rw [Nat.add_comm] at h1 h2 h3
      rcases Nat.le_total (sc x y + D a b) (min (2 + D a (y :: b)) (2 + D (x :: a) b)) with q | q
      · rw [Nat.min_eq_left q]; exact h1
      · rw [Nat.min_eq_right q]
        rcases Nat.le_total (2 + D a (y :: b)) (2 + D (x :: a) b) with q | q
        · rw [Nat.min_eq_left q]; exact h2
        · rw [Nat.min_eq_right q]; exact h3
theorem D_del (x : Nat) (a b : List Nat) : D (x :: a) b ≤ D a b + 2 := by
  cases b with
  | nil => rw [D_nil', D_nil', List.length_cons]; omega
  | cons y b => rw [D_cons]; omega
theorem D_ins (y : Nat) (a b : List Nat) : D a (y :: b) ≤ D a b + 2 := by
  cases a with
  | nil => rw [D_nil, D_nil, List.length_cons]; omega
  | cons x a => rw [D_cons]; omega
theorem D_le {a b : List Nat} {n : Nat} (h : Al a b n) : D a b ≤ n := by
  induction h with
  | nil => rw [D_nil]; exact Nat.le_refl _
  | del h ih => exact Nat.le_trans (D_del _ _ _) (Nat.add_le_add_right ih 2)
  | ins h ih => exact Nat.le_trans (D_ins _ _ _) (Nat.add_le_add_right ih 2)
  | sub h ih => rw [D_cons]; omega

theorem Al.append {a b a' b' : List Nat} {n m : Nat} (h : Al a b n) (h' : Al a' b' m) : Al (a ++ a') (b ++ b') (n + m) := by
  induction h with
  | nil => rw [Nat.zero_add]; exact h'
  | del h ih => rw [Nat.add_right_comm]; exact ih.del
  | ins h ih => rw [Nat.add_right_comm]; exact ih.ins
  | sub h ih => rw [Nat.add_right_comm]; exact ih.sub
theorem Al.rev {a b : List Nat} {n : Nat} (h : Al a b n) : Al a.reverse b.reverse n := by
  induction h with
  | nil => exact .nil
  | @del x a b n h ih =>
    have := ih.append (Al.del (x := x) .nil)
    rw [List.reverse_cons]
    simpa using this
  | @ins y a b n h ih =>
    have := ih.append (Al.ins (y := y) .nil)
    rw [List.reverse_cons]
    simpa using this
  | @sub x y a b n h ih =>
    have := ih.append (Al.sub (x := x) (y := y) .nil)
    rw [List.reverse_cons, List.reverse_cons]
    simpa using this
theorem D_rev (a b : List Nat) : D a.reverse b.reverse = D a b := by
  refine Nat.le_antisymm (D_le (D_al a b).rev) ?_
  have := D_le (D_al a.reverse b.reverse).rev
  rwa [List.reverse_reverse, List.reverse_reverse] at this
theorem Al.symm {a b : List Nat} {n : Nat} (h : Al a b n) : Al b a n := by
  induction h with
  | nil => exact .nil
  | del h ih => exact ih.ins
  | ins h ih => exact ih.del
  | @sub x y a b n h ih => rw [sc_comm]; exact ih.sub
theorem D_comm (a b : List Nat) : D a b = D b a := Nat.le_antisymm (D_le (D_al b a).symm) (D_le (D_al a b).symm)

theorem D_lip (a : List Nat) : ∀ (b : List Nat) (y : Nat), D a b ≤ D a (y :: b) + 2 := by
  induction a with
  | nil => intro b y; rw [D_nil, D_nil, List.length_cons]; omega
  | cons x a ih =>
    intro b y
    have h1 := D_del x a b
    have h2 := ih b y
    rw [D_cons]
    omega
theorem D_lip' (a b : List Nat) (x : Nat) : D a b ≤ D (x :: a) b + 2 := by
  rw [D_comm a b, D_comm (x :: a) b]
  exact D_lip b a x
theorem D_same (x : Nat) (a b : List Nat) : D (x :: a) (x :: b) = D a b := by
  have h1 := D_lip a b x
  have h2 := D_lip' a b x
  rw [D_cons, sc_self]
  omega
theorem D_pre (c : List Nat) (a b : List Nat) : D (c ++ a) (c ++ b) = D a b := by
  induction c with
  | nil => rfl
  | cons x c ih => rw [List.cons_append, List.cons_append, D_same, ih]
theorem D_post (c : List Nat) (a b : List Nat) : D (a ++ c) (b ++ c) = D a b := by
  rw [← D_rev, List.reverse_append, List.reverse_append, D_pre, D_rev]
theorem D_self (a : List Nat) : D a a = 0 := by
  have := D_pre a [] []
  rw [List.append_nil] at this
  rw [this, D_nil]; rfl
theorem D_len (a b : List Nat) : 2 * b.length ≤ D a b + 2 * a.length := by
  have : ∀ {a b n}, Al a b n → 2 * b.length ≤ n + 2 * a.length := by
    intro a b n h
    induction h with
    | nil => simp
    | del h ih => rw [List.length_cons]; omega
    | ins h ih => rw [List.length_cons]; omega
    | sub h ih => rw [List.length_cons, List.length_cons]; omega
  exact this (D_al a b)

/-- the distance of fronts, by their ends -/
theorem D_snoc (x y : Nat) (a b : List Nat) : D (a ++ [x]) (b ++ [y]) = min (sc x y + D a b) (min (2 + D a (b ++ [y])) (2 + D (a ++ [x]) b)) := by
  rw [← D_rev (a ++ [x]) (b ++ [y]), ← D_rev a b, ← D_rev a (b ++ [y]), ← D_rev (a ++ [x]) b]
  simp only [List.reverse_append, List.reverse_cons, List.reverse_nil, List.nil_append, List.singleton_append]
  rw [D_cons]

theorem Al.split {a b : List Nat} {n : Nat} (h : Al a b n) : ∀ b1 b2, b = b1 ++ b2 → ∃ a1 a2 n1 n2, a = a1 ++ a2 ∧ Al a1 b1 n1 ∧ Al a2 b2 n2 ∧ n = n1 + n2 := by
  induction h with
  | nil =>
    intro b1 b2 e
    obtain ⟨rfl, rfl⟩ := List.append_eq_nil_iff.mp e.symm
    exact ⟨[], [], 0, 0, rfl, .nil, .nil, rfl⟩
  | @del x a b n h ih =>
    intro b1 b2 e
    obtain ⟨a1, a2, n1, n2, rfl, h1, h2, rfl⟩ := ih b1 b2 e
    exact ⟨x :: a1, a2, n1 + 2, n2, rfl, h1.del, h2, by omega⟩
  | @ins y a b n h ih =>
    intro b1 b2 e
    cases b1 with
    | nil =>
      exact ⟨[], a, 0, n + 2, rfl, .nil, (by rw [List.nil_append] at e; rw [← e]; exact h.ins), by omega⟩
    | cons z b1 =>
      cases e
      obtain ⟨a1, a2, n1, n2, rfl, h1, h2, rfl⟩ := ih b1 b2 rfl
      exact ⟨a1, a2, n1 + 2, n2, rfl, h1.ins, h2, by omega⟩
  | @sub x y a b n h ih =>
    intro b1 b2 e
    cases b1 with
    | nil =>
      exact ⟨[], x :: a, 0, n + sc x y, rfl, .nil, (by rw [List.nil_append] at e; rw [← e]; exact h.sub), by omega⟩
    | cons z b1 =>
      cases e
      obtain ⟨a1, a2, n1, n2, rfl, h1, h2, rfl⟩ := ih b1 b2 rfl
      exact ⟨x :: a1, a2, n1 + sc x y, n2, rfl, h1.sub, h2, by omega⟩

/-- the row's numbers -/
noncomputable def P (a b : List Nat) (i j : Nat) : Nat := D (a.take i) (b.take j)
theorem P_zero (a b : List Nat) (j : Nat) (hj : j ≤ b.length) : P a b 0 j = 2 * j := by
  unfold P
  rw [List.take_zero, D_nil, List.length_take, Nat.min_eq_left hj]
theorem P_zero' (a b : List Nat) (i : Nat) (hi : i ≤ a.length) : P a b i 0 = 2 * i := by
  unfold P
  rw [List.take_zero, D_nil', List.length_take, Nat.min_eq_left hi]
theorem P_step (a b : List Nat) {i j x y : Nat} (hx : a[i]? = some x) (hy : b[j]? = some y) :
    P a b (i + 1) (j + 1) = min (sc x y + P a b i j) (min (2 + P a b i (j + 1)) (2 + P a b (i + 1) j)) := by
  unfold P
  rw [List.take_add_one, List.take_add_one, hx, hy]
  exact D_snoc x y _ _
theorem P_one (a b : List Nat) {j : Nat} (ha : a ≠ []) (hj : j < b.length) : P a b 1 (j + 1) ≤ 2 * (j + 1) := by
  cases a with
  | nil => exact absurd rfl ha
  | cons x a =>
    have hy : b[j]? = some b[j] := List.getElem?_eq_getElem hj
    rw [P_step (i := 0) (x := x) (x :: a) b rfl hy, P_zero _ _ j (by omega)]
    have := sc_le x b[j]
    omega
/-- no way round a row: so where all its numbers are above a bound, the distance is -/
theorem P_cut (a b : List Nat) (ha : a ≠ []) {j : Nat} (hj : j < b.length) {M : Int} (h : ∀ k, k < a.length → M < (P a b (k + 1) (j + 1) : Int)) : M < (D a b : Int) := by
  obtain ⟨a1, a2, n1, n2, e, h1, h2, hn⟩ := (D_al a b).split (b.take (j + 1)) (b.drop (j + 1)) (List.take_append_drop _ _).symm
  have hp : P a b a1.length (j + 1) ≤ n1 := by
    unfold P
    rw [e, List.take_left]
    exact D_le h1
  cases hk : a1.length with
  | zero =>
    rw [hk, P_zero a b _ (by omega)] at hp
    have h3 := P_one a b ha hj
    have h4 := h 0 (List.length_pos_iff.mpr ha)
    have h4 : M < (P a b 1 (j + 1) : Int) := h4
    omega
  | succ k =>
    rw [hk] at hp
    have hlen : a1.length ≤ a.length := by rw [e, List.length_append]; omega
    have := h k (by omega)
    omega

/-! ## trimmed ends -/
noncomputable def tp : List Nat → List Nat → List Nat × List Nat
  | x :: a, y :: b => if x = y then tp a b else (x :: a, y :: b)
  | a, b => (a, b)
theorem tp_spec : ∀ a b : List Nat, ∃ c, a = c ++ (tp a b).1 ∧ b = c ++ (tp a b).2 ∧ ((tp a b).1 = [] ∨ (tp a b).2 = [] ∨ (tp a b).1.head? ≠ (tp a b).2.head?)
  | [], b => ⟨[], by simp [tp]⟩
  | x :: a, [] => ⟨[], by simp [tp]⟩
  | x :: a, y :: b => by
    unfold tp
    by_cases h : x = y
    · obtain ⟨c, h1, h2, h3⟩ := tp_spec a b
      rw [if_pos h]
      exact ⟨x :: c, by rw [List.cons_append, ← h1], by rw [h, List.cons_append, ← h2], h3⟩
    · rw [if_neg h]
      exact ⟨[], rfl, rfl, .inr (.inr (by simpa using h))⟩
noncomputable def trim (a b : List Nat) : List Nat × List Nat :=
  ((tp (tp a b).1.reverse (tp a b).2.reverse).1.reverse, (tp (tp a b).1.reverse (tp a b).2.reverse).2.reverse)
theorem trim_spec (a b : List Nat) : ∃ c s, a = c ++ (trim a b).1 ++ s ∧ b = c ++ (trim a b).2 ++ s ∧
    ((trim a b).1 = [] ∨ (trim a b).2 = [] ∨ ((trim a b).1.head? ≠ (trim a b).2.head? ∧ (trim a b).1.getLast? ≠ (trim a b).2.getLast?)) := by
  obtain ⟨c, h1, h2, h3⟩ := tp_spec a b
  obtain ⟨s, g1, g2, g3⟩ := tp_spec (tp a b).1.reverse (tp a b).2.reverse
  have e1 : (tp a b).1 = (trim a b).1 ++ s.reverse := by
    have := congrArg List.reverse g1
    rw [List.reverse_reverse, List.reverse_append] at this
    exact this
  have e2 : (tp a b).2 = (trim a b).2 ++ s.reverse := by
    have := congrArg List.reverse g2
    rw [List.reverse_reverse, List.reverse_append] at this
    exact this
  refine ⟨c, s.reverse, by rw [List.append_assoc, ← e1]; exact h1, by rw [List.append_assoc, ← e2]; exact h2, ?_⟩
  by_cases q1 : (trim a b).1 = []
  · exact .inl q1
  · by_cases q2 : (trim a b).2 = []
    · exact .inr (.inl q2)
    · refine .inr (.inr ⟨?_, ?_⟩)
      · rcases h3 with h | h | h
        · rw [e1] at h; exact absurd (List.append_eq_nil_iff.mp h).1 q1
        · rw [e2] at h; exact absurd (List.append_eq_nil_iff.mp h).1 q2
        · rw [e1, e2] at h
          obtain ⟨x, l, hl⟩ := List.exists_cons_of_ne_nil q1
          obtain ⟨y, m, hm⟩ := List.exists_cons_of_ne_nil q2
          rw [hl, hm] at h ⊢
          simpa using h
      · rcases g3 with h | h | h
        · exact absurd (show (trim a b).1 = [] by unfold trim; rw [h]; rfl) q1
        · exact absurd (show (trim a b).2 = [] by unfold trim; rw [h]; rfl) q2
        · unfold trim
          rw [List.getLast?_reverse, List.getLast?_reverse]
          exact h
theorem trim_D (a b : List Nat) : D a b = D (trim a b).1 (trim a b).2 := by
  obtain ⟨c, s, h1, h2, _⟩ := trim_spec a b
  generalize (trim a b).1 = p at *
  generalize (trim a b).2 = q at *
  rw [h1, h2, D_post, D_pre]

/-- one word is the other one with a piece put in -/
noncomputable def Piece (a b : List Nat) : Prop := ∃ u m v, (a = u ++ v ∧ b = u ++ m ++ v) ∨ (b = u ++ v ∧ a = u ++ m ++ v)
theorem getLast?_getElem (l : List Nat) : l.getLast? = l[l.length - 1]? := List.getLast?_eq_getElem?
theorem piece_trim {a b : List Nat} (h : Piece a b) : (trim a b).1 = [] ∨ (trim a b).2 = [] := by
  obtain ⟨c, s, h1, h2, h3⟩ := trim_spec a b
  rcases h3 with h3 | h3 | ⟨h3, h4⟩
  · exact .inl h3
  · exact .inr h3
  · -- both fronts are maximal
    by_cases q1 : (trim a b).1 = []
    · exact .inl q1
    by_cases q2 : (trim a b).2 = []
    · exact .inr q2
    exfalso
    generalize (trim a b).1 = p at *
    generalize (trim a b).2 = q at *
    have p0 : 0 < p.length := List.length_pos_iff.mpr q1
    have q0 : 0 < q.length := List.length_pos_iff.mpr q2
    have front : ∀ u v v', a = u ++ v → b = u ++ v' → u.length ≤ c.length := by
      intro u v v' ea eb
      apply Nat.le_of_not_lt
      intro hlt
      apply h3
      have e1 : a[c.length]? = p.head? := by
        rw [h1, List.append_assoc, List.getElem?_append_right (Nat.le_refl _), Nat.sub_self, List.getElem?_append_left p0, List.head?_eq_getElem?]
      have e2 : b[c.length]? = q.head? := by
        rw [h2, List.append_assoc, List.getElem?_append_right (Nat.le_refl _), Nat.sub_self, List.getElem?_append_left q0, List.head?_eq_getElem?]
      rw [← e1, ← e2, ea, eb, List.getElem?_append_left hlt, List.getElem?_append_left hlt]
    have back : ∀ u u' v, a = u ++ v → b = u' ++ v → v.length ≤ s.length := by
      intro u u' v ea eb
      apply Nat.le_of_not_lt
      intro hlt
      apply h4
      have key : ∀ (l z t pp : List Nat), l = c ++ pp ++ s → l = t ++ v → 0 < pp.length → pp.getLast? = v[v.length - s.length - 1]? := by
        intro l z t pp e1 e2 hp
        have hl : l.length = c.length + pp.length + s.length := by rw [e1, List.length_append, List.length_append]
        have hl2 : l.length = t.length + v.length := by rw [e2, List.length_append]
        have g1 : l[c.length + pp.length - 1]? = pp.getLast? := by
          rw [e1, List.append_assoc, List.getElem?_append_right (by omega), List.getElem?_append_left (by omega), getLast?_getElem]
          congr 1; omega
        have g2 : l[c.length + pp.length - 1]? = v[v.length - s.length - 1]? := by
          rw [e2, List.getElem?_append_right (by omega)]
          congr 1; omega
        rw [← g1, g2]
      rw [key a [] u p h1 ea p0, key b [] u' q h2 eb q0]
    have la : a.length = c.length + p.length + s.length := by rw [h1, List.length_append, List.length_append]
    have lb : b.length = c.length + q.length + s.length := by rw [h2, List.length_append, List.length_append]
    obtain ⟨u, m, v, ⟨ea, eb⟩ | ⟨eb, ea⟩⟩ := h
    · have f := front u v (m ++ v) ea (by rw [eb, List.append_assoc])
      have g := back u (u ++ m) v ea eb
      rw [ea, List.length_append] at la
      omega
    · have f := front u (m ++ v) v (by rw [ea, List.append_assoc]) eb
      have g := back (u ++ m) u v ea eb
      rw [eb, List.length_append] at lb
      omega

/-! ## what the program tells -/
open Classical in
noncomputable def levC (a b : List Nat) (M : Int) : Int :=
  if a = [] ∨ b = [] then D a b
  else if M < ((b.length : Int) - a.length) * 2 then M + 1
  else if ∃ j, j < b.length ∧ ∀ k, k < a.length → M < (P a b (k + 1) (j + 1) : Int) then M + 1
  else D a b
noncomputable def levF (a b : List Nat) (M : Int) : Int :=
  if (trim a b).2.length < (trim a b).1.length then levC (trim a b).2 (trim a b).1 M else levC (trim a b).1 (trim a b).2 M

theorem levC_ok (a b : List Nat) (M : Int) : levC a b M = D a b ∨ (M < (D a b : Int) ∧ levC a b M = M + 1 ∧ a ≠ [] ∧ b ≠ []) := by
  unfold levC
  by_cases h : a = [] ∨ b = []
  · rw [if_pos h]; exact .inl rfl
  · rw [if_neg h]
    rw [not_or] at h
    by_cases h2 : M < ((b.length : Int) - a.length) * 2
    · rw [if_pos h2]
      have := D_len a b
      exact .inr ⟨by omega, rfl, h.1, h.2⟩
    · rw [if_neg h2]
      split
      · rename_i hj
        obtain ⟨j, hj, hk⟩ := hj
        exact .inr ⟨P_cut a b h.1 hj hk, rfl, h.1, h.2⟩
      · exact .inl rfl
theorem levF_ok (a b : List Nat) (M : Int) : levF a b M = D a b ∨ (M < (D a b : Int) ∧ levF a b M = M + 1 ∧ ¬ Piece a b) := by
  unfold levF
  rw [trim_D a b]
  split
  · rw [D_comm]
    rcases levC_ok (trim a b).2 (trim a b).1 M with h | ⟨h1, h2, h3, h4⟩
    · exact .inl h
    · exact .inr ⟨h1, h2, fun q => (piece_trim q).elim h4 h3⟩
  · rcases levC_ok (trim a b).1 (trim a b).2 M with h | ⟨h1, h2, h3, h4⟩
    · exact .inl h
    · exact .inr ⟨h1, h2, fun q => (piece_trim q).elim h3 h4⟩
theorem levF_le {a b : List Nat} {M : Int} (h : (D a b : Int) ≤ M) : levF a b M = D a b := by
  rcases levF_ok a b M with q | ⟨q, _⟩
  · exact q
  · omega
theorem levF_piece {a b : List Nat} {M : Int} (h : Piece a b) : levF a b M = D a b := by
  rcases levF_ok a b M with q | ⟨_, _, q⟩
  · exact q
  · exact absurd h q
end Mine
end Q1

section Q2
open PySem PySem.W PyProof.Rows PySem.Calls PyProof.V PySem.Spec PySem.SeqAt
namespace Mine
section
variable (Sp : String → List PyData → PyData → Prop)
noncomputable def tK (t : MX) : Ev → (Bool → Prop) → Prop := fun ρ k => wpT Sp t (allV ρ) k
noncomputable def bK (body : List MS) (kr : PyData → Prop) : Ev → (Ev → Prop) → Prop := fun ρ k => wpB Sp body ρ k kr
noncomputable def nK (r : List MS) (kn : Ev → Prop) (kr : PyData → Prop) : Ev → Prop := fun ρ => wpB Sp r ρ kn kr
end
noncomputable def wK (t : Ev → (Bool → Prop) → Prop) (f : Ev → (Ev → Prop) → Prop) (n : Nat) (kn : Ev → Prop) : Ev → Prop := fun ρ => whlK t f n ρ kn
noncomputable def fK (f : Ev → (Ev → Prop) → Prop) (x : Nat) (ds : List PyData) (kn : Ev → Prop) : Ev → Prop := fun ρ => forK f x ds ρ kn
section
variable {Sp : String → List PyData → PyData → Prop} {ρ : Ev} {kn : Ev → Prop} {kr : PyData → Prop} {r : List MS}
theorem tK_ (t : MX) (k : Bool → Prop) : tK Sp t ρ k = wpT Sp t (allV ρ) k := rfl
theorem bK_ (b : List MS) : bK Sp b kr ρ kn = wpB Sp b ρ kn kr := rfl
theorem nK_ : nK Sp r kn kr ρ = wpB Sp r ρ kn kr := rfl
theorem wK_ (t f n) : wK t f n kn ρ = whlK t f n ρ kn := rfl
theorem fK_ (f x ds) : fK f x ds kn ρ = forK f x ds ρ kn := rfl
theorem whl_s (t f n) : whlK t f (n + 1) ρ kn = t ρ fun b => (b = true → f ρ (wK t f n kn)) ∧ (b = false → kn ρ) := rfl
theorem for_s (f x d ds) : forK f x (d :: ds) ρ kn = f (setS ρ x (.imm d)) (fK f x ds kn) := rfl
theorem for_n (f x) : forK f x [] ρ kn = kn ρ := rfl
theorem wb_nil : wpB Sp [] ρ kn kr = kn ρ := rfl
theorem wb_asg (x e) : wpB Sp (.asg x e :: r) ρ kn kr = wpE Sp e (stillV ρ) fun d => wpB Sp r (setS ρ x (.imm d)) kn kr := rfl
theorem wb_asgS (x e) : wpB Sp (.asgS x e :: r) ρ kn kr = wpE Sp e (allV ρ) fun d => scalarD d = true ∧ wpB Sp r (setS ρ x (.imm d)) kn kr := rfl
theorem wb_asgO (x as) : wpB Sp (.asgO x as :: r) ρ kn kr = wpL Sp as (stillV ρ) fun ds => ds.length ≤ 2 ^ 20 ∧ wpB Sp r (setS ρ x (.own ds)) kn kr := rfl
theorem wb_asgR (x as) : wpB Sp (.asgR x as :: r) ρ kn kr = wpL Sp as (allV ρ) fun ds => rngK ds fun ns => wpB Sp r (setS ρ x (.own (intsOf ns))) kn kr := rfl
theorem wb_asg2 (x y e) : wpB Sp (.asg2 x y e :: r) ρ kn kr = wpE Sp e (allV ρ) fun d => scalarD d = true ∧ wpB Sp r (setS (setS ρ x (.imm d)) y (.imm d)) kn kr := rfl
theorem wb_swp (x y a b) : wpB Sp (.swp x y a b :: r) ρ kn kr = wpE Sp a (stillV ρ) fun p => wpE Sp b (stillV ρ) fun q => wpB Sp r (setS (setS ρ x (.imm p)) y (.imm q)) kn kr := rfl
theorem wb_aug (x op e) : wpB Sp (.aug x op e :: r) ρ kn kr = (match stillV ρ x with
    | some o => wpE Sp e (allV ρ) fun d => (scalarD o = true ∧ scalarD d = true) ∧ binK op o d fun q => wpB Sp r (setS ρ x (.imm q)) kn kr
    | none => False) := rfl
theorem wb_augL (x as) : wpB Sp (.augL x as :: r) ρ kn kr = (match getS ρ x with
    | .own ds => wpL Sp as (stillV ρ) fun es => (ds.length ≤ 2 ^ 20 ∧ es.length ≤ 2 ^ 20) ∧ wpB Sp r (setS ρ x (.own (ds ++ es))) kn kr
    | _ => False) := rfl
theorem wb_app (x e) : wpB Sp (.app x e :: r) ρ kn kr = (match getS ρ x with
    | .own ds => wpE Sp e (allV ρ) fun d => (ds.length ≤ 2 ^ 20 ∧ scalarD d = true) ∧ wpB Sp r (setS ρ x (.own (ds ++ [d]))) kn kr
    | _ => False) := rfl
theorem wb_appS (x e) : wpB Sp (.appS x e :: r) ρ kn kr = (match getS ρ x with
    | .own ds => wpE Sp e (stillV ρ) fun d => ds.length ≤ 2 ^ 20 ∧ wpB Sp r (setS ρ x (.own (ds ++ [d]))) kn kr
    | _ => False) := rfl
theorem wb_sti (x i e) : wpB Sp (.sti x i e :: r) ρ kn kr = (match getS ρ x with
    | .own ds => wpE Sp e (allV ρ) fun d => wpE Sp i (allV ρ) fun j => scalarD d = true ∧ (match j with
      | .int j => (0 ≤ j ∧ j < ds.length ∧ ds.length ≤ 2 ^ 20) ∧ wpB Sp r (setS ρ x (.own (ds.set j.toNat d))) kn kr
      | _ => False)
    | _ => False) := rfl
theorem wb_frz (x) : wpB Sp (.frz x :: r) ρ kn kr = wpB Sp r (setS ρ x (getS ρ x).froze) kn kr := rfl
theorem wb_ifs (t a b) : wpB Sp (.ifs t a b :: r) ρ kn kr = wpT Sp t (allV ρ) fun c => (c = true → wpB Sp a ρ (nK Sp r kn kr) kr) ∧ (c = false → wpB Sp b ρ (nK Sp r kn kr) kr) := rfl
theorem wb_whl (t b) : wpB Sp (.whl t b :: r) ρ kn kr = ∃ n, whlK (tK Sp t) (bK Sp b kr) n ρ (nK Sp r kn kr) := rfl
theorem wb_for (x src b) : wpB Sp (.forE x src b :: r) ρ kn kr = wpR Sp src (stillV ρ) fun ds => forK (bK Sp b kr) x ds ρ (nK Sp r kn kr) := rfl
theorem wb_ret (e) : wpB Sp (.ret e :: r) ρ kn kr = wpE Sp e (allV ρ) kr := rfl
end

section
variable {Sp : String → List PyData → PyData → Prop}
theorem one_eq (x y : Nat) : ((⟨#[x]⟩ : Str) == ⟨#[y]⟩) = decide (x = y) := by
  by_cases h : x = y
  · subst h; simp
  · have : (⟨#[x]⟩ : Str) ≠ ⟨#[y]⟩ := fun e => h (by
      have := congrArg (fun s : Str => s.cps.toList) e
      simpa using this)
    rw [beq_eq_false_iff_ne.mpr this, decide_eq_false h]
theorem sub_wp (x y : Nat) : wpB Sp m_substitution_cost [.imm (.str ⟨#[x]⟩), .imm (.str ⟨#[y]⟩)] (fun _ => False) (fun r => r = .int (sc x y)) := by
  unfold m_substitution_cost
  (try dsimp only [tK_, bK_, nK_, whl_s, for_s, for_n, wb_nil, wb_asg, wb_asgS, wb_asgO, wb_asgR, wb_asg2, wb_swp, wb_aug, wb_augL, wb_app, wb_appS, wb_sti, wb_frz, wb_ifs, wb_whl, wb_for, wb_ret, wm_litT, wm_litF, wm_varT, wm_varF, wm_binT, wm_binF, wm_negT, wm_negF, wm_noT, wm_noF, wm_andT, wm_andF, wm_orT, wm_orF, wm_cmpT, wm_cmpF, wm_iteT, wm_iteF, wm_idxT, wm_idxF, wm_slcT, wm_slcF, wm_callT, wm_callF, wm_biT, wm_biF, wm_lstT, wm_lstF, wm_tupT, wm_tupF, wl_n, wl_c, wc_n, wc_c, wr_rng, wr_var, wr_slc, wr_call, wr_idx, wr_bin, wr_lst, wr_tup, wr_comp, wr_bi, setS, getS, stillV, allV, Slot.still, Slot.all, Slot.froze, updV, fi_f, fi_t, as_b, cm_iEq, cm_iNotEq, cm_iLt, cm_iLtE, cm_iGt, cm_iGtE, cm_sEq, cm_sNotEq, cm_lEq, cm_lNe, cm_in_i, cm_in_s, bi_lenS, bi_lenL, bi_min2, bi_minL, bi_sum, bi_ord, bi_chr, bi_abs, bi_isint, bi_lower, bi_join, bi_str, tr_n, tr_b, tr_i, tr_s, tr_l, bn_Add, bn_Sub, bn_Mult, bn_FloorDiv, bn_Mod, bn_BitAnd, bn_BitXor, bn_LShift, bn_RShift, bn_s, bn_l, ix_s, ix_l, ix_t, slcK, partOf, sd_n, sd_b, sd_i, sd_s, sd_l, sd_t]; try simp only [tK_, bK_, nK_, whl_s, for_s, for_n, wb_nil, wb_asg, wb_asgS, wb_asgO, wb_asgR, wb_asg2, wb_swp, wb_aug, wb_augL, wb_app, wb_appS, wb_sti, wb_frz, wb_ifs, wb_whl, wb_for, wb_ret, wm_litT, wm_litF, wm_varT, wm_varF, wm_binT, wm_binF, wm_negT, wm_negF, wm_noT, wm_noF, wm_andT, wm_andF, wm_orT, wm_orF, wm_cmpT, wm_cmpF, wm_iteT, wm_iteF, wm_idxT, wm_idxF, wm_slcT, wm_slcF, wm_callT, wm_callF, wm_biT, wm_biF, wm_lstT, wm_lstF, wm_tupT, wm_tupF, wm_comp, wl_n, wl_c, wc_n, wc_c, wr_rng, wr_var, wr_slc, wr_call, wr_idx, wr_bin, wr_lst, wr_tup, wr_comp, wr_bi, setS, getS, stillV, allV, Slot.still, Slot.all, Slot.froze, updV, fi_f, fi_t, as_b, cm_iEq, cm_iNotEq, cm_iLt, cm_iLtE, cm_iGt, cm_iGtE, cm_sEq, cm_sNotEq, cm_lEq, cm_lNe, cm_in_i, cm_in_s, bi_lenS, bi_lenL, bi_min2, bi_minL, bi_sum, bi_ord, bi_chr, bi_abs, bi_isint, bi_lower, bi_join, bi_str, tr_n, tr_b, tr_i, tr_s, tr_l, bn_Add, bn_Sub, bn_Mult, bn_FloorDiv, bn_Mod, bn_BitAnd, bn_BitXor, bn_LShift, bn_RShift, bn_s, bn_l, ix_s, ix_l, ix_t, slcK, partOf, sd_n, sd_b, sd_i, sd_s, sd_l, sd_t, and_true, true_and, Bool.true_eq_false, Bool.false_eq_true, false_implies, true_implies, forall_const])
  rw [one_eq]
  unfold sc lowS
  have l1 : ∀ z : Nat, ((⟨#[z]⟩ : Str).length ≤ 2 ^ 20) := fun z => by show 1 ≤ 2 ^ 20; decide
  refine ⟨fun h => ?_, fun h => ⟨l1 x, l1 y, fun h2 => ?_, fun h2 => ?_⟩⟩
  · rw [if_pos (of_decide_eq_true h)]; rfl
  · rw [if_neg (of_decide_eq_false h), if_pos (beq_iff_eq.mp h2)]; rfl
  · rw [if_neg (of_decide_eq_false h), if_neg (fun e => by rw [beq_iff_eq.mpr e] at h2; cases h2)]; rfl

/-! ## strings of signs -/
theorem sOf_list (l : List Nat) : (sOf l).cps.toList = l := by simp [sOf]
theorem sOf_size (l : List Nat) : (sOf l).cps.size = l.length := by simp [sOf]
theorem sOf_len (l : List Nat) : (sOf l).length = l.length := sOf_size l
theorem sOf_inj {a b : List Nat} (h : sOf a = sOf b) : a = b := by rw [← sOf_list a, h, sOf_list]
theorem sOf_eq (a b : List Nat) : (sOf a == sOf b) = decide (a = b) := by
  by_cases h : a = b
  · subst h; simp
  · rw [beq_eq_false_iff_ne.mpr fun e => h (sOf_inj e), decide_eq_false h]
theorem seq_nat {k n : Nat} (h : k < n) : seqIndex? (k : Int) n = some k := by
  unfold seqIndex?
  simp only [if_neg (show ¬ (k : Int) < 0 by omega)]
  rw [if_pos (by simp only [Bool.and_eq_true, decide_eq_true_eq]; omega)]
  simp
theorem seq_neg {k n : Nat} (h : k < n) : seqIndex? (-((k : Int) + 1)) n = some (n - 1 - k) := by
  unfold seqIndex?
  simp only [if_pos (show -((k : Int) + 1) < 0 by omega)]
  rw [if_pos (by simp only [Bool.and_eq_true, decide_eq_true_eq]; omega)]
  congr 1; omega
theorem idx_nat {α : Type} (l : List α) (k : Nat) (h : k < l.length) : pyIdx l (k : Int) = some l[k] := by
  unfold pyIdx
  rw [seq_nat h]
  exact List.getElem?_eq_getElem h
theorem idx_neg {α : Type} (l : List α) (k : Nat) (h : k < l.length) : pyIdx l (-((k : Int) + 1)) = some (l[l.length - 1 - k]'(by omega)) := by
  unfold pyIdx
  rw [seq_neg h]
  exact List.getElem?_eq_getElem _
theorem clip_nat (n k : Nat) : clipAt n (k : Int) = min k n := by
  unfold clipAt
  rw [if_neg (by omega)]
  omega
theorem clip_neg (n k : Nat) (h : 0 < k) : clipAt n (-(k : Int)) = n - k := by
  unfold clipAt
  rw [if_pos (by omega)]
  omega
theorem slc_from {α : Type} (l : List α) (k : Nat) : pySlice l (some (k : Int)) none = l.drop k := by
  unfold pySlice
  simp only [Option.elim_some, Option.elim_none, clip_nat]
  rcases Nat.le_total k l.length with h | h
  · rw [Nat.min_eq_left h, List.take_of_length_le (by rw [List.length_drop]; omega)]
  · rw [Nat.min_eq_right h, List.drop_of_length_le (Nat.le_refl _), List.drop_of_length_le h, List.take_nil]
theorem slc_to {α : Type} (l : List α) (k : Nat) : pySlice l none (some (k : Int)) = l.take k := by
  unfold pySlice
  simp only [Option.elim_some, Option.elim_none, clip_nat, List.drop_zero, Nat.sub_zero]
  rcases Nat.le_total k l.length with h | h
  · rw [Nat.min_eq_left h]
  · rw [Nat.min_eq_right h, List.take_of_length_le (Nat.le_refl _), List.take_of_length_le h]
theorem slc_all {α : Type} (l : List α) : pySlice l none none = l := by
  unfold pySlice
  simp
theorem slc_neg {α : Type} (l : List α) (k : Nat) (h : 0 < k) : pySlice l none (some (-(k : Int))) = l.take (l.length - k) := by
  unfold pySlice
  simp only [Option.elim_some, Option.elim_none, clip_neg _ _ h, List.drop_zero, Nat.sub_zero]

/-! ## the distance as the program goes about it -/
noncomputable abbrev S (l : List Nat) : PyData := .str (sOf l)

theorem tp_nil (b : List Nat) : tp [] b = ([], b) := by cases b <;> rfl
theorem tp_nil' (a : List Nat) : tp a [] = (a, []) := by cases a <;> rfl
theorem tp_cons (x y : Nat) (a b : List Nat) : tp (x :: a) (y :: b) = if x = y then tp a b else (x :: a, y :: b) := rfl

noncomputable def t_lev1 : MX := .and (.slc (.var 0) (.var 3) (.lit .none)) (.and (.slc (.var 1) (.var 3) (.lit .none)) (.cmp .Eq (.idx (.var 0) (.var 3)) (.idx (.var 1) (.var 3))))
/-- the front's loop -/
theorem lev1 {kn : Ev → Prop} {kr : PyData → Prop} {a b : List Nat} {c : PyData} {rest : Ev} (ha : a.length ≤ 2 ^ 20) (hb : b.length ≤ 2 ^ 20) :
    ∀ (N k : Nat), a.length < N + k → k ≤ a.length → k ≤ b.length → tp (a.drop k) (b.drop k) = tp a b → (∀ k, k ≤ a.length → k ≤ b.length → a.drop k = (tp a b).1 → b.drop k = (tp a b).2 → kn (.imm (S a) :: .imm (S b) :: .imm c :: .imm (.int k) :: rest)) →
    whlK (tK Sp t_lev1) (bK Sp m_levenshtein_distance_1 kr) N (.imm (S a) :: .imm (S b) :: .imm c :: .imm (.int k) :: rest) kn
  | 0, k, h1, h2, _, _, _ => by omega
  | N + 1, k, h1, h2, h3, ht, hk => by
    unfold t_lev1 m_levenshtein_distance_1
    (try dsimp only [tK_, bK_, nK_, whl_s, for_s, for_n, wb_nil, wb_asg, wb_asgS, wb_asgO, wb_asgR, wb_asg2, wb_swp, wb_aug, wb_augL, wb_app, wb_appS, wb_sti, wb_frz, wb_ifs, wb_whl, wb_for, wb_ret, wm_litT, wm_litF, wm_varT, wm_varF, wm_binT, wm_binF, wm_negT, wm_negF, wm_noT, wm_noF, wm_andT, wm_andF, wm_orT, wm_orF, wm_cmpT, wm_cmpF, wm_iteT, wm_iteF, wm_idxT, wm_idxF, wm_slcT, wm_slcF, wm_callT, wm_callF, wm_biT, wm_biF, wm_lstT, wm_lstF, wm_tupT, wm_tupF, wl_n, wl_c, wc_n, wc_c, wr_rng, wr_var, wr_slc, wr_call, wr_idx, wr_bin, wr_lst, wr_tup, wr_comp, wr_bi, setS, getS, stillV, allV, Slot.still, Slot.all, Slot.froze, updV, fi_f, fi_t, as_b, cm_iEq, cm_iNotEq, cm_iLt, cm_iLtE, cm_iGt, cm_iGtE, cm_sEq, cm_sNotEq, cm_lEq, cm_lNe, cm_in_i, cm_in_s, bi_lenS, bi_lenL, bi_min2, bi_minL, bi_sum, bi_ord, bi_chr, bi_abs, bi_isint, bi_lower, bi_join, bi_str, tr_n, tr_b, tr_i, tr_s, tr_l, bn_Add, bn_Sub, bn_Mult, bn_FloorDiv, bn_Mod, bn_BitAnd, bn_BitXor, bn_LShift, bn_RShift, bn_s, bn_l, ix_s, ix_l, ix_t, slcK, partOf, sd_n, sd_b, sd_i, sd_s, sd_l, sd_t]; try simp only [tK_, bK_, nK_, whl_s, for_s, for_n, wb_nil, wb_asg, wb_asgS, wb_asgO, wb_asgR, wb_asg2, wb_swp, wb_aug, wb_augL, wb_app, wb_appS, wb_sti, wb_frz, wb_ifs, wb_whl, wb_for, wb_ret, wm_litT, wm_litF, wm_varT, wm_varF, wm_binT, wm_binF, wm_negT, wm_negF, wm_noT, wm_noF, wm_andT, wm_andF, wm_orT, wm_orF, wm_cmpT, wm_cmpF, wm_iteT, wm_iteF, wm_idxT, wm_idxF, wm_slcT, wm_slcF, wm_callT, wm_callF, wm_biT, wm_biF, wm_lstT, wm_lstF, wm_tupT, wm_tupF, wm_comp, wl_n, wl_c, wc_n, wc_c, wr_rng, wr_var, wr_slc, wr_call, wr_idx, wr_bin, wr_lst, wr_tup, wr_comp, wr_bi, setS, getS, stillV, allV, Slot.still, Slot.all, Slot.froze, updV, fi_f, fi_t, as_b, cm_iEq, cm_iNotEq, cm_iLt, cm_iLtE, cm_iGt, cm_iGtE, cm_sEq, cm_sNotEq, cm_lEq, cm_lNe, cm_in_i, cm_in_s, bi_lenS, bi_lenL, bi_min2, bi_minL, bi_sum, bi_ord, bi_chr, bi_abs, bi_isint, bi_lower, bi_join, bi_str, tr_n, tr_b, tr_i, tr_s, tr_l, bn_Add, bn_Sub, bn_Mult, bn_FloorDiv, bn_Mod, bn_BitAnd, bn_BitXor, bn_LShift, bn_RShift, bn_s, bn_l, ix_s, ix_l, ix_t, slcK, partOf, sd_n, sd_b, sd_i, sd_s, sd_l, sd_t, and_true, true_and, Bool.true_eq_false, Bool.false_eq_true, false_implies, true_implies, forall_const])
    simp only [sOf_list, sOf_size, sOf_len, slc_from, List.length_drop, bne_iff_ne, ne_eq, bne_eq_false_iff_eq]
    refine ⟨by omega, by omega, fun q1 => ⟨by omega, by omega, fun q2 => ?_, fun q2 => ?_⟩, fun q1 => ?_⟩
    · have la : k < a.length := by omega
      have lb : k < b.length := by omega
      have ea := List.drop_eq_getElem_cons la
      have eb := List.drop_eq_getElem_cons lb
      rw [idx_nat a k la, idx_nat b k lb]
      dsimp only
      refine ⟨⟨by omega, by omega⟩, ⟨by omega, by omega⟩, fun e => ?_, fun e => ?_⟩
      · rw [one_eq, decide_eq_true_eq] at e
        refine lev1 ha hb N (k + 1) (by omega) la lb ?_ hk
        rw [ea, eb, tp_cons, if_pos e] at ht
        exact ht
      · rw [one_eq, decide_eq_false_iff_not] at e
        rw [ea, eb, tp_cons, if_neg e, ← ea, ← eb] at ht
        exact hk k h2 h3 (by rw [← ht]) (by rw [← ht])
    · have eb : b.drop k = [] := List.drop_of_length_le (by omega)
      rw [eb, tp_nil'] at ht
      exact hk k h2 h3 (by rw [← ht]) (by rw [← ht, eb])
    · have ea : a.drop k = [] := List.drop_of_length_le (by omega)
      rw [ea, tp_nil] at ht
      exact hk k h2 h3 (by rw [← ht, ea]) (by rw [← ht])

noncomputable def t_lev2 : MX := .and (.slc (.var 0) (.lit .none) (.or (.var 4) (.lit .none))) (.and (.slc (.var 1) (.lit .none) (.or (.var 4) (.lit .none))) (.cmp .Eq (.idx (.var 0) (.bin .Sub (.var 4) (.lit (.int 1)))) (.idx (.var 1) (.bin .Sub (.var 4) (.lit (.int 1))))))
/-- the end's loop -/
theorem lev2 {kn : Ev → Prop} {kr : PyData → Prop} {a b : List Nat} {c d : PyData} {rest : Ev} (ha : a.length ≤ 2 ^ 20) (hb : b.length ≤ 2 ^ 20) :
    ∀ (N k : Nat), a.length < N + k → k ≤ a.length → k ≤ b.length → tp (a.reverse.drop k) (b.reverse.drop k) = tp a.reverse b.reverse →
    (∀ k, k ≤ a.length → k ≤ b.length → a.reverse.drop k = (tp a.reverse b.reverse).1 → b.reverse.drop k = (tp a.reverse b.reverse).2 → kn (.imm (S a) :: .imm (S b) :: .imm c :: .imm d :: .imm (.int (-(k : Int))) :: rest)) →
    whlK (tK Sp t_lev2) (bK Sp m_levenshtein_distance_2 kr) N (.imm (S a) :: .imm (S b) :: .imm c :: .imm d :: .imm (.int (-(k : Int))) :: rest) kn
  | 0, k, h1, h2, _, _, _ => by omega
  | N + 1, k, h1, h2, h3, ht, hk => by
    have done1 : k < a.length → ¬ k < b.length → kn (.imm (S a) :: .imm (S b) :: .imm c :: .imm d :: .imm (.int (-(k : Int))) :: rest) := fun la lb => by
      have eb : b.reverse.drop k = [] := List.drop_of_length_le (by rw [List.length_reverse]; omega)
      rw [eb, tp_nil'] at ht
      exact hk k h2 h3 (by rw [← ht]) (by rw [← ht, eb])
    have done2 : ¬ k < a.length → kn (.imm (S a) :: .imm (S b) :: .imm c :: .imm d :: .imm (.int (-(k : Int))) :: rest) := fun la => by
      have ea : a.reverse.drop k = [] := List.drop_of_length_le (by rw [List.length_reverse]; omega)
      rw [ea, tp_nil] at ht
      exact hk k h2 h3 (by rw [← ht, ea]) (by rw [← ht])
    have main : k < a.length → k < b.length → (match pyIdx a (-(k : Int) - 1) with
      | some c_1 => (-2 ^ 62 < -(k : Int) - 1 ∧ -(k : Int) - 1 < 2 ^ 62) ∧ (match pyIdx b (-(k : Int) - 1) with
        | some c_2 => (((⟨#[c_1]⟩ : Str) == ⟨#[c_2]⟩) = true → wK (tK Sp t_lev2) (bK Sp m_levenshtein_distance_2 kr) N kn (.imm (S a) :: .imm (S b) :: .imm c :: .imm d :: .imm (.int (-(k : Int) - 1)) :: rest)) ∧
            (((⟨#[c_1]⟩ : Str) == ⟨#[c_2]⟩) = false → kn (.imm (S a) :: .imm (S b) :: .imm c :: .imm d :: .imm (.int (-(k : Int))) :: rest))
        | none => False)
      | none => False) := by
      intro la lb
      have e1 : -(k : Int) - 1 = -((k : Int) + 1) := by omega
      have ea := List.drop_eq_getElem_cons (l := a.reverse) (i := k) (by rw [List.length_reverse]; exact la)
      have eb := List.drop_eq_getElem_cons (l := b.reverse) (i := k) (by rw [List.length_reverse]; exact lb)
      rw [List.getElem_reverse] at ea eb
      rw [e1, idx_neg a k la, idx_neg b k lb]
      dsimp only
      refine ⟨⟨by omega, by omega⟩, fun e => ?_, fun e => ?_⟩
      · rw [one_eq, decide_eq_true_eq] at e
        refine lev2 ha hb N (k + 1) (by omega) la lb ?_ hk
        rw [ea, eb, tp_cons, if_pos e] at ht
        exact ht
      · rw [one_eq, decide_eq_false_iff_not] at e
        rw [ea, eb, tp_cons, if_neg e, ← ea, ← eb] at ht
        exact hk k h2 h3 (by rw [← ht]) (by rw [← ht])
    have sl : ∀ l : List Nat, (-(k : Int) = 0) → (pySlice l none none).length = l.length - k := fun l q => by rw [slc_all]; omega
    have sl2 : ∀ l : List Nat, ¬ (-(k : Int) = 0) → (pySlice l none (some (-(k : Int)))).length = l.length - k := fun l q => by
      rw [slc_neg _ _ (by omega), List.length_take]; omega
    unfold t_lev2 m_levenshtein_distance_2
    (try dsimp only [tK_, bK_, nK_, whl_s, for_s, for_n, wb_nil, wb_asg, wb_asgS, wb_asgO, wb_asgR, wb_asg2, wb_swp, wb_aug, wb_augL, wb_app, wb_appS, wb_sti, wb_frz, wb_ifs, wb_whl, wb_for, wb_ret, wm_litT, wm_litF, wm_varT, wm_varF, wm_binT, wm_binF, wm_negT, wm_negF, wm_noT, wm_noF, wm_andT, wm_andF, wm_orT, wm_orF, wm_cmpT, wm_cmpF, wm_iteT, wm_iteF, wm_idxT, wm_idxF, wm_slcT, wm_slcF, wm_callT, wm_callF, wm_biT, wm_biF, wm_lstT, wm_lstF, wm_tupT, wm_tupF, wl_n, wl_c, wc_n, wc_c, wr_rng, wr_var, wr_slc, wr_call, wr_idx, wr_bin, wr_lst, wr_tup, wr_comp, wr_bi, setS, getS, stillV, allV, Slot.still, Slot.all, Slot.froze, updV, fi_f, fi_t, as_b, cm_iEq, cm_iNotEq, cm_iLt, cm_iLtE, cm_iGt, cm_iGtE, cm_sEq, cm_sNotEq, cm_lEq, cm_lNe, cm_in_i, cm_in_s, bi_lenS, bi_lenL, bi_min2, bi_minL, bi_sum, bi_ord, bi_chr, bi_abs, bi_isint, bi_lower, bi_join, bi_str, tr_n, tr_b, tr_i, tr_s, tr_l, bn_Add, bn_Sub, bn_Mult, bn_FloorDiv, bn_Mod, bn_BitAnd, bn_BitXor, bn_LShift, bn_RShift, bn_s, bn_l, ix_s, ix_l, ix_t, slcK, partOf, sd_n, sd_b, sd_i, sd_s, sd_l, sd_t]; try simp only [tK_, bK_, nK_, whl_s, for_s, for_n, wb_nil, wb_asg, wb_asgS, wb_asgO, wb_asgR, wb_asg2, wb_swp, wb_aug, wb_augL, wb_app, wb_appS, wb_sti, wb_frz, wb_ifs, wb_whl, wb_for, wb_ret, wm_litT, wm_litF, wm_varT, wm_varF, wm_binT, wm_binF, wm_negT, wm_negF, wm_noT, wm_noF, wm_andT, wm_andF, wm_orT, wm_orF, wm_cmpT, wm_cmpF, wm_iteT, wm_iteF, wm_idxT, wm_idxF, wm_slcT, wm_slcF, wm_callT, wm_callF, wm_biT, wm_biF, wm_lstT, wm_lstF, wm_tupT, wm_tupF, wm_comp, wl_n, wl_c, wc_n, wc_c, wr_rng, wr_var, wr_slc, wr_call, wr_idx, wr_bin, wr_lst, wr_tup, wr_comp, wr_bi, setS, getS, stillV, allV, Slot.still, Slot.all, Slot.froze, updV, fi_f, fi_t, as_b, cm_iEq, cm_iNotEq, cm_iLt, cm_iLtE, cm_iGt, cm_iGtE, cm_sEq, cm_sNotEq, cm_lEq, cm_lNe, cm_in_i, cm_in_s, bi_lenS, bi_lenL, bi_min2, bi_minL, bi_sum, bi_ord, bi_chr, bi_abs, bi_isint, bi_lower, bi_join, bi_str, tr_n, tr_b, tr_i, tr_s, tr_l, bn_Add, bn_Sub, bn_Mult, bn_FloorDiv, bn_Mod, bn_BitAnd, bn_BitXor, bn_LShift, bn_RShift, bn_s, bn_l, ix_s, ix_l, ix_t, slcK, partOf, sd_n, sd_b, sd_i, sd_s, sd_l, sd_t, and_true, true_and, Bool.true_eq_false, Bool.false_eq_true, false_implies, true_implies, forall_const])
    simp only [sOf_list, sOf_size, sOf_len, bne_iff_ne, ne_eq, bne_eq_false_iff_eq]
    refine ⟨fun z => ?_, fun z => ?_⟩
    · rw [sl2 a z]
      refine ⟨by omega, by omega, fun q1 => ⟨fun z => ?_, fun z' => absurd z' z⟩, fun q1 => done2 (by omega)⟩
      rw [sl2 b z]
      exact ⟨by omega, by omega, fun q2 => ⟨⟨by omega, by omega⟩, main (by omega) (by omega)⟩, fun q2 => done1 (by omega) (by omega)⟩
    · rw [sl a z]
      refine ⟨by omega, by omega, fun q1 => ⟨fun z' => absurd z z', fun z => ?_⟩, fun q1 => done2 (by omega)⟩
      rw [sl b z]
      exact ⟨by omega, by omega, fun q2 => ⟨⟨by omega, by omega⟩, main (by omega) (by omega)⟩, fun q2 => done1 (by omega) (by omega)⟩
end
end Mine
end Q2

section Q3
open PySem PySem.W PyProof.Rows PySem.Calls PyProof.V PySem.Spec PySem.SeqAt
namespace Mine
section
variable {Sp : String → List PyData → PyData → Prop}
noncomputable def rowL (a b : List Nat) (j i : Nat) : List Int := (List.range a.length).map fun k => (P a b (k + 1) (if k < i then j + 1 else j) : Int)
theorem rowL_len (a b : List Nat) (j i : Nat) : (intsOf (rowL a b j i)).length = a.length := by simp [intsOf, rowL]
theorem rowL_get (a b : List Nat) (j i k : Nat) (h : k < a.length) : (intsOf (rowL a b j i))[k]? = some (.int (P a b (k + 1) (if k < i then j + 1 else j) : Int)) := by
  simp [intsOf, rowL, h]
theorem rowL_idx (a b : List Nat) (j i : Nat) (h : i < a.length) : pyIdx (intsOf (rowL a b j i)) (i : Int) = some (.int (P a b (i + 1) j : Int)) := by
  unfold pyIdx
  rw [seq_nat (by rw [rowL_len]; exact h)]
  have := rowL_get a b j i i h
  rw [if_neg (Nat.lt_irrefl i)] at this
  exact this
theorem rowL_set (a b : List Nat) (j i : Nat) (h : i < a.length) : (intsOf (rowL a b j i)).set i (.int (P a b (i + 1) (j + 1) : Int)) = intsOf (rowL a b j (i + 1)) := by
  apply List.ext_getElem?
  intro k
  rw [List.getElem?_set]
  by_cases hk : k < a.length
  · by_cases e : i = k
    · subst e
      rw [if_pos rfl, if_pos (by rw [rowL_len]; exact h), rowL_get _ _ _ _ _ h, if_pos (Nat.lt_succ_self i)]
    · rw [if_neg e, rowL_get _ _ _ _ _ hk, rowL_get _ _ _ _ _ hk]
      by_cases q : k < i
      · rw [if_pos q, if_pos (by omega)]
      · rw [if_neg q, if_neg (by omega)]
  · rw [if_neg (by omega), List.getElem?_eq_none (by rw [rowL_len]; omega), List.getElem?_eq_none (by rw [rowL_len]; omega)]
theorem rowL_next (a b : List Nat) (j : Nat) : rowL a b j a.length = rowL a b (j + 1) 0 := by
  unfold rowL
  apply List.map_congr_left
  intro k hk
  rw [if_pos (List.mem_range.mp hk), if_neg (Nat.not_lt_zero _)]

noncomputable def lowOk (a b : List Nat) (j i : Nat) (mn : Int) : Prop := (∀ k, k < i → mn ≤ (P a b (k + 1) (j + 1) : Int)) ∧ (mn = 9223372036854775807 ∨ ∃ k, k < i ∧ mn = (P a b (k + 1) (j + 1) : Int))

theorem lev3 {kr : PyData → Prop} {a b : List Nat} {y : Nat} {j : Nat} {M : PyData} {p q : Slot} {kn : Ev → Prop} (hsc : ∀ x y, Sp "_substitution_cost" [.str ⟨#[x]⟩, .str ⟨#[y]⟩] (.int (sc x y))) (ha : a.length ≤ 40) (hb : b.length ≤ 40) (hy : b[j]? = some y)
    (hk : ∀ mn res s9 s11 s12 s13, lowOk a b j a.length mn → (res = if a.length = 0 then 2 * (j : Int) else (P a b a.length (j + 1) : Int)) → kn [.imm (S a), .imm (S b), .imm M, p, q, .own (intsOf (rowL a b j a.length)), .imm (.int res), .imm (.int j), .imm (.str ⟨#[y]⟩), s9, .imm (.int mn), s11, s12, s13]) :
    ∀ (m i : Nat) (mn res : Int) (s11 s12 s13 : Slot), i + m = a.length → lowOk a b j i mn → (res = if i = 0 then 2 * (j : Int) else (P a b i (j + 1) : Int)) →
    forK (bK Sp m_levenshtein_distance_3_1 kr) 11 (intsOf (upI i m)) [.imm (S a), .imm (S b), .imm M, p, q, .own (intsOf (rowL a b j i)), .imm (.int res), .imm (.int j), .imm (.str ⟨#[y]⟩), .imm (.int (P a b i j)), .imm (.int mn), s11, s12, s13] kn
  | 0, i, mn, res, s11, s12, s13, h1, h2, h3 => by
    have : i = a.length := by omega
    subst this
    exact hk mn res _ s11 s12 s13 h2 h3
  | m + 1, i, mn, res, s11, s12, s13, h1, h2, h3 => by
    have hi : i < a.length := by omega
    have hx : a[i]? = some a[i] := List.getElem?_eq_getElem hi
    show forK _ 11 (.int (i : Int) :: intsOf (upI ((i : Int) + 1) m)) _ kn
    unfold m_levenshtein_distance_3_1
    (try dsimp only [tK_, bK_, nK_, whl_s, for_s, for_n, wb_nil, wb_asg, wb_asgS, wb_asgO, wb_asgR, wb_asg2, wb_swp, wb_aug, wb_augL, wb_app, wb_appS, wb_sti, wb_frz, wb_ifs, wb_whl, wb_for, wb_ret, wm_litT, wm_litF, wm_varT, wm_varF, wm_binT, wm_binF, wm_negT, wm_negF, wm_noT, wm_noF, wm_andT, wm_andF, wm_orT, wm_orF, wm_cmpT, wm_cmpF, wm_iteT, wm_iteF, wm_idxT, wm_idxF, wm_slcT, wm_slcF, wm_callT, wm_callF, wm_biT, wm_biF, wm_lstT, wm_lstF, wm_tupT, wm_tupF, wl_n, wl_c, wc_n, wc_c, wr_rng, wr_var, wr_slc, wr_call, wr_idx, wr_bin, wr_lst, wr_tup, wr_comp, wr_bi, setS, getS, stillV, allV, Slot.still, Slot.all, Slot.froze, updV, fi_f, fi_t, as_b, cm_iEq, cm_iNotEq, cm_iLt, cm_iLtE, cm_iGt, cm_iGtE, cm_sEq, cm_sNotEq, cm_lEq, cm_lNe, cm_in_i, cm_in_s, bi_lenS, bi_lenL, bi_min2, bi_minL, bi_sum, bi_ord, bi_chr, bi_abs, bi_isint, bi_lower, bi_join, bi_str, tr_n, tr_b, tr_i, tr_s, tr_l, bn_Add, bn_Sub, bn_Mult, bn_FloorDiv, bn_Mod, bn_BitAnd, bn_BitXor, bn_LShift, bn_RShift, bn_s, bn_l, ix_s, ix_l, ix_t, slcK, partOf, sd_n, sd_b, sd_i, sd_s, sd_l, sd_t]; try simp only [tK_, bK_, nK_, whl_s, for_s, for_n, wb_nil, wb_asg, wb_asgS, wb_asgO, wb_asgR, wb_asg2, wb_swp, wb_aug, wb_augL, wb_app, wb_appS, wb_sti, wb_frz, wb_ifs, wb_whl, wb_for, wb_ret, wm_litT, wm_litF, wm_varT, wm_varF, wm_binT, wm_binF, wm_negT, wm_negF, wm_noT, wm_noF, wm_andT, wm_andF, wm_orT, wm_orF, wm_cmpT, wm_cmpF, wm_iteT, wm_iteF, wm_idxT, wm_idxF, wm_slcT, wm_slcF, wm_callT, wm_callF, wm_biT, wm_biF, wm_lstT, wm_lstF, wm_tupT, wm_tupF, wm_comp, wl_n, wl_c, wc_n, wc_c, wr_rng, wr_var, wr_slc, wr_call, wr_idx, wr_bin, wr_lst, wr_tup, wr_comp, wr_bi, setS, getS, stillV, allV, Slot.still, Slot.all, Slot.froze, updV, fi_f, fi_t, as_b, cm_iEq, cm_iNotEq, cm_iLt, cm_iLtE, cm_iGt, cm_iGtE, cm_sEq, cm_sNotEq, cm_lEq, cm_lNe, cm_in_i, cm_in_s, bi_lenS, bi_lenL, bi_min2, bi_minL, bi_sum, bi_ord, bi_chr, bi_abs, bi_isint, bi_lower, bi_join, bi_str, tr_n, tr_b, tr_i, tr_s, tr_l, bn_Add, bn_Sub, bn_Mult, bn_FloorDiv, bn_Mod, bn_BitAnd, bn_BitXor, bn_LShift, bn_RShift, bn_s, bn_l, ix_s, ix_l, ix_t, slcK, partOf, sd_n, sd_b, sd_i, sd_s, sd_l, sd_t, and_true, true_and, Bool.true_eq_false, Bool.false_eq_true, false_implies, true_implies, forall_const])
    simp only [sOf_list, idx_nat a i hi, rowL_idx a b j i hi]
    refine ⟨⟨by omega, by omega⟩, _, hsc _ _, ?_⟩
    (try dsimp only [tK_, bK_, nK_, whl_s, for_s, for_n, wb_nil, wb_asg, wb_asgS, wb_asgO, wb_asgR, wb_asg2, wb_swp, wb_aug, wb_augL, wb_app, wb_appS, wb_sti, wb_frz, wb_ifs, wb_whl, wb_for, wb_ret, wm_litT, wm_litF, wm_varT, wm_varF, wm_binT, wm_binF, wm_negT, wm_negF, wm_noT, wm_noF, wm_andT, wm_andF, wm_orT, wm_orF, wm_cmpT, wm_cmpF, wm_iteT, wm_iteF, wm_idxT, wm_idxF, wm_slcT, wm_slcF, wm_callT, wm_callF, wm_biT, wm_biF, wm_lstT, wm_lstF, wm_tupT, wm_tupF, wl_n, wl_c, wc_n, wc_c, wr_rng, wr_var, wr_slc, wr_call, wr_idx, wr_bin, wr_lst, wr_tup, wr_comp, wr_bi, setS, getS, stillV, allV, Slot.still, Slot.all, Slot.froze, updV, fi_f, fi_t, as_b, cm_iEq, cm_iNotEq, cm_iLt, cm_iLtE, cm_iGt, cm_iGtE, cm_sEq, cm_sNotEq, cm_lEq, cm_lNe, cm_in_i, cm_in_s, bi_lenS, bi_lenL, bi_min2, bi_minL, bi_sum, bi_ord, bi_chr, bi_abs, bi_isint, bi_lower, bi_join, bi_str, tr_n, tr_b, tr_i, tr_s, tr_l, bn_Add, bn_Sub, bn_Mult, bn_FloorDiv, bn_Mod, bn_BitAnd, bn_BitXor, bn_LShift, bn_RShift, bn_s, bn_l, ix_s, ix_l, ix_t, slcK, partOf, sd_n, sd_b, sd_i, sd_s, sd_l, sd_t]; try simp only [tK_, bK_, nK_, whl_s, for_s, for_n, wb_nil, wb_asg, wb_asgS, wb_asgO, wb_asgR, wb_asg2, wb_swp, wb_aug, wb_augL, wb_app, wb_appS, wb_sti, wb_frz, wb_ifs, wb_whl, wb_for, wb_ret, wm_litT, wm_litF, wm_varT, wm_varF, wm_binT, wm_binF, wm_negT, wm_negF, wm_noT, wm_noF, wm_andT, wm_andF, wm_orT, wm_orF, wm_cmpT, wm_cmpF, wm_iteT, wm_iteF, wm_idxT, wm_idxF, wm_slcT, wm_slcF, wm_callT, wm_callF, wm_biT, wm_biF, wm_lstT, wm_lstF, wm_tupT, wm_tupF, wm_comp, wl_n, wl_c, wc_n, wc_c, wr_rng, wr_var, wr_slc, wr_call, wr_idx, wr_bin, wr_lst, wr_tup, wr_comp, wr_bi, setS, getS, stillV, allV, Slot.still, Slot.all, Slot.froze, updV, fi_f, fi_t, as_b, cm_iEq, cm_iNotEq, cm_iLt, cm_iLtE, cm_iGt, cm_iGtE, cm_sEq, cm_sNotEq, cm_lEq, cm_lNe, cm_in_i, cm_in_s, bi_lenS, bi_lenL, bi_min2, bi_minL, bi_sum, bi_ord, bi_chr, bi_abs, bi_isint, bi_lower, bi_join, bi_str, tr_n, tr_b, tr_i, tr_s, tr_l, bn_Add, bn_Sub, bn_Mult, bn_FloorDiv, bn_Mod, bn_BitAnd, bn_BitXor, bn_LShift, bn_RShift, bn_s, bn_l, ix_s, ix_l, ix_t, slcK, partOf, sd_n, sd_b, sd_i, sd_s, sd_l, sd_t, and_true, true_and, Bool.true_eq_false, Bool.false_eq_true, false_implies, true_implies, forall_const])
    have hv : (if (P a b i j : Int) + (sc y a[i] : Int) < (if (P a b (i + 1) j : Int) < res then (P a b (i + 1) j : Int) else res) + 2 then (P a b i j : Int) + (sc y a[i] : Int) else (if (P a b (i + 1) j : Int) < res then (P a b (i + 1) j : Int) else res) + 2) = (P a b (i + 1) (j + 1) : Int) := by
      have hst := P_step a b hx hy
      have h6 := sc_le y a[i]
      rw [sc_comm] at hst
      by_cases h0 : i = 0
      · subst h0
        rw [if_pos rfl] at h3
        have hj : j < b.length := (List.getElem?_eq_some_iff.mp hy).1
        have e1 := P_zero a b j (by omega)
        have e2 := P_zero a b (j + 1) (by omega)
        split <;> split at * <;> omega
      · rw [if_neg h0] at h3
        split <;> split at * <;> omega
    simp only [hv, Int.toNat_natCast, rowL_set a b j i hi, rowL_len]
    refine ⟨⟨by omega, by omega⟩, ⟨by omega, by omega, by omega⟩, fun hlt => ?_, fun hge => ?_⟩
    · rw [decide_eq_true_eq] at hlt
      refine lev3 hsc ha hb hy hk m (i + 1) _ _ _ _ _ (by omega) ⟨fun k hk' => ?_, .inr ⟨i, Nat.lt_succ_self i, rfl⟩⟩ (by rw [if_neg (Nat.succ_ne_zero i)])
      rcases Nat.lt_or_ge k i with q | q
      · have := h2.1 k q; omega
      · have : k = i := by omega
        subst this
        exact Int.le_refl _
    · rw [decide_eq_false_iff_not] at hge
      refine lev3 hsc ha hb hy hk m (i + 1) _ _ _ _ _ (by omega) ⟨fun k hk' => ?_, ?_⟩ (by rw [if_neg (Nat.succ_ne_zero i)])
      · rcases Nat.lt_or_ge k i with q | q
        · exact h2.1 k q
        · have : k = i := by omega
          subst this
          omega
      · rcases h2.2 with q | ⟨k, q1, q2⟩
        · exact .inl q
        · exact .inr ⟨k, by omega, q2⟩

theorem rng1 {n : Nat} {k : List Int → Prop} (h : n < 2 ^ 20) (q : k (upI 0 n)) : rngK [.int (n : Int)] k := ⟨⟨by omega, by omega⟩, by rw [Int.toNat_natCast]; exact q⟩
theorem P_small (a b : List Nat) (i j : Nat) : P a b i j ≤ 2 * (a.length + b.length) := by
  have key : ∀ a b : List Nat, D a b ≤ 2 * (a.length + b.length) := by
    intro a b
    have := D_le ((Al.allDel a).append (Al.allIns b))
    rw [List.append_nil, List.nil_append] at this
    omega
  unfold P
  have := key (a.take i) (b.take j)
  rw [List.length_take, List.length_take] at this
  omega

/-- the rows -/
theorem lev4 {kr : PyData → Prop} {a b : List Nat} {M : Int} {p q : Slot} {kn : Ev → Prop} (hsc : ∀ x y, Sp "_substitution_cost" [.str ⟨#[x]⟩, .str ⟨#[y]⟩] (.int (sc x y))) (ha : a.length ≤ 40) (hb : b.length ≤ 40) (ha0 : a ≠ [])
    (hcut : (∃ j, j < b.length ∧ ∀ k, k < a.length → M < (P a b (k + 1) (j + 1) : Int)) → kr (.int (M + 1)))
    (hk : (¬ ∃ j, j < b.length ∧ ∀ k, k < a.length → M < (P a b (k + 1) (j + 1) : Int)) → ∀ res s5 s7 s8 s9 s10 s11 s12 s13, (res = if b.length = 0 then 0 else (P a b a.length b.length : Int)) → kn [.imm (S a), .imm (S b), .imm (.int M), p, q, s5, .imm (.int res), s7, s8, s9, s10, s11, s12, s13]) :
    ∀ (m j : Nat) (res : Int) (s7 s8 s9 s10 s11 s12 s13 : Slot), j + m = b.length → (¬ ∃ i, i < j ∧ ∀ k, k < a.length → M < (P a b (k + 1) (i + 1) : Int)) → (res = if j = 0 then 0 else (P a b a.length j : Int)) →
    forK (bK Sp m_levenshtein_distance_3 kr) 7 (intsOf (upI j m)) [.imm (S a), .imm (S b), .imm (.int M), p, q, .own (intsOf (rowL a b j 0)), .imm (.int res), s7, s8, s9, s10, s11, s12, s13] kn
  | 0, j, res, s7, s8, s9, s10, s11, s12, s13, h1, h2, h3 => by
    have : j = b.length := by omega
    subst this
    exact hk h2 res _ _ _ _ _ _ _ _ h3
  | m + 1, j, res, s7, s8, s9, s10, s11, s12, s13, h1, h2, h3 => by
    have hj : j < b.length := by omega
    have hy : b[j]? = some b[j] := List.getElem?_eq_getElem hj
    have l0 : 0 < a.length := List.length_pos_iff.mpr ha0
    show forK _ 7 (.int (j : Int) :: intsOf (upI ((j : Int) + 1) m)) _ kn
    unfold m_levenshtein_distance_3
    (try dsimp only [tK_, bK_, nK_, whl_s, for_s, for_n, wb_nil, wb_asg, wb_asgS, wb_asgO, wb_asgR, wb_asg2, wb_swp, wb_aug, wb_augL, wb_app, wb_appS, wb_sti, wb_frz, wb_ifs, wb_whl, wb_for, wb_ret, wm_litT, wm_litF, wm_varT, wm_varF, wm_binT, wm_binF, wm_negT, wm_negF, wm_noT, wm_noF, wm_andT, wm_andF, wm_orT, wm_orF, wm_cmpT, wm_cmpF, wm_iteT, wm_iteF, wm_idxT, wm_idxF, wm_slcT, wm_slcF, wm_callT, wm_callF, wm_biT, wm_biF, wm_lstT, wm_lstF, wm_tupT, wm_tupF, wl_n, wl_c, wc_n, wc_c, wr_rng, wr_var, wr_slc, wr_call, wr_idx, wr_bin, wr_lst, wr_tup, wr_comp, wr_bi, setS, getS, stillV, allV, Slot.still, Slot.all, Slot.froze, updV, fi_f, fi_t, as_b, cm_iEq, cm_iNotEq, cm_iLt, cm_iLtE, cm_iGt, cm_iGtE, cm_sEq, cm_sNotEq, cm_lEq, cm_lNe, cm_in_i, cm_in_s, bi_lenS, bi_lenL, bi_min2, bi_minL, bi_sum, bi_ord, bi_chr, bi_abs, bi_isint, bi_lower, bi_join, bi_str, tr_n, tr_b, tr_i, tr_s, tr_l, bn_Add, bn_Sub, bn_Mult, bn_FloorDiv, bn_Mod, bn_BitAnd, bn_BitXor, bn_LShift, bn_RShift, bn_s, bn_l, ix_s, ix_l, ix_t, slcK, partOf, sd_n, sd_b, sd_i, sd_s, sd_l, sd_t]; try simp only [tK_, bK_, nK_, whl_s, for_s, for_n, wb_nil, wb_asg, wb_asgS, wb_asgO, wb_asgR, wb_asg2, wb_swp, wb_aug, wb_augL, wb_app, wb_appS, wb_sti, wb_frz, wb_ifs, wb_whl, wb_for, wb_ret, wm_litT, wm_litF, wm_varT, wm_varF, wm_binT, wm_binF, wm_negT, wm_negF, wm_noT, wm_noF, wm_andT, wm_andF, wm_orT, wm_orF, wm_cmpT, wm_cmpF, wm_iteT, wm_iteF, wm_idxT, wm_idxF, wm_slcT, wm_slcF, wm_callT, wm_callF, wm_biT, wm_biF, wm_lstT, wm_lstF, wm_tupT, wm_tupF, wm_comp, wl_n, wl_c, wc_n, wc_c, wr_rng, wr_var, wr_slc, wr_call, wr_idx, wr_bin, wr_lst, wr_tup, wr_comp, wr_bi, setS, getS, stillV, allV, Slot.still, Slot.all, Slot.froze, updV, fi_f, fi_t, as_b, cm_iEq, cm_iNotEq, cm_iLt, cm_iLtE, cm_iGt, cm_iGtE, cm_sEq, cm_sNotEq, cm_lEq, cm_lNe, cm_in_i, cm_in_s, bi_lenS, bi_lenL, bi_min2, bi_minL, bi_sum, bi_ord, bi_chr, bi_abs, bi_isint, bi_lower, bi_join, bi_str, tr_n, tr_b, tr_i, tr_s, tr_l, bn_Add, bn_Sub, bn_Mult, bn_FloorDiv, bn_Mod, bn_BitAnd, bn_BitXor, bn_LShift, bn_RShift, bn_s, bn_l, ix_s, ix_l, ix_t, slcK, partOf, sd_n, sd_b, sd_i, sd_s, sd_l, sd_t, and_true, true_and, Bool.true_eq_false, Bool.false_eq_true, false_implies, true_implies, forall_const])
    simp only [sOf_list, sOf_size, sOf_len, idx_nat b j hj]
    have e : (j : Int) * 2 = (P a b 0 j : Int) := by rw [P_zero a b j (by omega)]; omega
    rw [e]
    refine ⟨⟨by omega, by omega⟩, .inr (by decide), by omega, rng1 (by omega) ?_⟩
    refine lev3 hsc ha hb hy (fun mn res s9 s11 s12 s13 hmn hres => ?_) a.length 0 _ _ _ _ _ (by omega) ⟨fun k q => absurd q (Nat.not_lt_zero k), .inl rfl⟩ (by rw [if_pos rfl, P_zero a b j (by omega)]; omega)
    rw [if_neg (by omega)] at hres
    show wpB Sp [MS.ifs (MX.cmp CmpOp.Gt (MX.var 10) (MX.var 2)) [MS.ret (MX.bin Operator.Add (MX.var 2) (MX.lit (PyData.int 1)))] []] _ _ kr
    (try dsimp only [tK_, bK_, nK_, whl_s, for_s, for_n, wb_nil, wb_asg, wb_asgS, wb_asgO, wb_asgR, wb_asg2, wb_swp, wb_aug, wb_augL, wb_app, wb_appS, wb_sti, wb_frz, wb_ifs, wb_whl, wb_for, wb_ret, wm_litT, wm_litF, wm_varT, wm_varF, wm_binT, wm_binF, wm_negT, wm_negF, wm_noT, wm_noF, wm_andT, wm_andF, wm_orT, wm_orF, wm_cmpT, wm_cmpF, wm_iteT, wm_iteF, wm_idxT, wm_idxF, wm_slcT, wm_slcF, wm_callT, wm_callF, wm_biT, wm_biF, wm_lstT, wm_lstF, wm_tupT, wm_tupF, wl_n, wl_c, wc_n, wc_c, wr_rng, wr_var, wr_slc, wr_call, wr_idx, wr_bin, wr_lst, wr_tup, wr_comp, wr_bi, setS, getS, stillV, allV, Slot.still, Slot.all, Slot.froze, updV, fi_f, fi_t, as_b, cm_iEq, cm_iNotEq, cm_iLt, cm_iLtE, cm_iGt, cm_iGtE, cm_sEq, cm_sNotEq, cm_lEq, cm_lNe, cm_in_i, cm_in_s, bi_lenS, bi_lenL, bi_min2, bi_minL, bi_sum, bi_ord, bi_chr, bi_abs, bi_isint, bi_lower, bi_join, bi_str, tr_n, tr_b, tr_i, tr_s, tr_l, bn_Add, bn_Sub, bn_Mult, bn_FloorDiv, bn_Mod, bn_BitAnd, bn_BitXor, bn_LShift, bn_RShift, bn_s, bn_l, ix_s, ix_l, ix_t, slcK, partOf, sd_n, sd_b, sd_i, sd_s, sd_l, sd_t]; try simp only [tK_, bK_, nK_, whl_s, for_s, for_n, wb_nil, wb_asg, wb_asgS, wb_asgO, wb_asgR, wb_asg2, wb_swp, wb_aug, wb_augL, wb_app, wb_appS, wb_sti, wb_frz, wb_ifs, wb_whl, wb_for, wb_ret, wm_litT, wm_litF, wm_varT, wm_varF, wm_binT, wm_binF, wm_negT, wm_negF, wm_noT, wm_noF, wm_andT, wm_andF, wm_orT, wm_orF, wm_cmpT, wm_cmpF, wm_iteT, wm_iteF, wm_idxT, wm_idxF, wm_slcT, wm_slcF, wm_callT, wm_callF, wm_biT, wm_biF, wm_lstT, wm_lstF, wm_tupT, wm_tupF, wm_comp, wl_n, wl_c, wc_n, wc_c, wr_rng, wr_var, wr_slc, wr_call, wr_idx, wr_bin, wr_lst, wr_tup, wr_comp, wr_bi, setS, getS, stillV, allV, Slot.still, Slot.all, Slot.froze, updV, fi_f, fi_t, as_b, cm_iEq, cm_iNotEq, cm_iLt, cm_iLtE, cm_iGt, cm_iGtE, cm_sEq, cm_sNotEq, cm_lEq, cm_lNe, cm_in_i, cm_in_s, bi_lenS, bi_lenL, bi_min2, bi_minL, bi_sum, bi_ord, bi_chr, bi_abs, bi_isint, bi_lower, bi_join, bi_str, tr_n, tr_b, tr_i, tr_s, tr_l, bn_Add, bn_Sub, bn_Mult, bn_FloorDiv, bn_Mod, bn_BitAnd, bn_BitXor, bn_LShift, bn_RShift, bn_s, bn_l, ix_s, ix_l, ix_t, slcK, partOf, sd_n, sd_b, sd_i, sd_s, sd_l, sd_t, and_true, true_and, Bool.true_eq_false, Bool.false_eq_true, false_implies, true_implies, forall_const])
    refine ⟨fun hgt => ?_, fun hle => ?_⟩
    · rw [decide_eq_true_eq] at hgt
      exact hcut ⟨j, hj, fun k hk' => Int.lt_of_lt_of_le hgt (hmn.1 k hk')⟩
    · rw [decide_eq_false_iff_not] at hle
      rw [rowL_next]
      refine lev4 hsc ha hb ha0 hcut hk m (j + 1) _ _ _ _ _ _ _ _ (by omega) ?_ (by rw [if_neg (Nat.succ_ne_zero j)]; exact hres)
      rintro ⟨i, hi, hall⟩
      rcases Nat.lt_or_ge i j with q | q
      · exact h2 ⟨i, q, hall⟩
      · have : i = j := by omega
        subst this
        rcases hmn.2 with q | ⟨k, q1, q2⟩
        · have h5 := hall 0 l0
          have h6 := hmn.1 0 l0
          have h7 := P_small a b 1 (i + 1)
          have h6 : mn ≤ (P a b 1 (i + 1) : Int) := h6
          omega
        · exact hle (by rw [q2]; exact hall k q1)
end
end Mine
end Q3

section Q4
open PySem PySem.W PyProof.Rows PySem.Calls PyProof.V PySem.Spec PySem.SeqAt
namespace Mine
section
variable {Sp : String → List PyData → PyData → Prop}
theorem rng3 {n : Nat} {k : List Int → Prop} (h : n ≤ 40) (q : k ((upI 0 n).map fun j => 2 + 2 * j)) : rngK [.int 2, .int (2 * ((n : Int) + 1)), .int 2] k :=
  ⟨⟨by omega, by omega, by omega, by omega⟩, .inr ⟨rfl, by omega, by
    have : ((2 * ((n : Int) + 1) - 2 + 1).fdiv 2).toNat = n := by
      rw [Int.fdiv_eq_ediv_of_nonneg _ (by decide)]; omega
    rw [this]; exact q⟩⟩
theorem upI_get' : ∀ (n : Nat) (a : Int) (i : Nat), (upI a n)[i]? = if i < n then some (a + i) else none
  | 0, a, i => by simp [upI]
  | n + 1, a, 0 => by simp [upI]
  | n + 1, a, i + 1 => by
    show (upI (a + 1) n)[i]? = _
    rw [upI_get' n (a + 1) i]
    by_cases h : i < n
    · rw [if_pos h, if_pos (by omega)]; congr 1; omega
    · rw [if_neg h, if_neg (by omega)]
theorem row0 (a b : List Nat) : (upI 0 a.length).map (fun j => 2 + 2 * j) = rowL a b 0 0 := by
  apply List.ext_getElem?
  intro k
  unfold rowL
  rw [List.getElem?_map, List.getElem?_map, upI_get']
  by_cases h : k < a.length
  · rw [if_pos h, List.getElem?_range h]
    show some (2 + 2 * (0 + (k : Int))) = some ((P a b (k + 1) (if k < 0 then 0 + 1 else 0) : Nat) : Int)
    rw [if_neg (Nat.not_lt_zero k), P_zero' a b (k + 1) (by omega)]
    congr 1; omega
  · rw [if_neg h, List.getElem?_eq_none (by rw [List.length_range]; omega)]
    rfl

noncomputable def lev_r2 : List MS := [
  .ifs (.cmp .Gt (.bin .Mult (.bin .Sub (.bi .len [(.var 1)]) (.bi .len [(.var 0)])) (.lit (.int 2))) (.var 2)) [.ret (.bin .Add (.var 2) (.lit (.int 1)))] [],
  .asgR 5 [(.lit (.int 2)), (.bin .Mult (.lit (.int 2)) (.bin .Add (.bi .len [(.var 0)]) (.lit (.int 1)))), (.lit (.int 2))],
  .asg 6 (.lit (.int 0)),
  .forE 7 (.rng [(.bi .len [(.var 1)])]) m_levenshtein_distance_3,
  .ret (.var 6)]
noncomputable def lev_r1c : List MS := .ifs (.cmp .Lt (.bi .len [(.var 1)]) (.bi .len [(.var 0)])) [.swp 0 1 (.var 1) (.var 0)] [] :: lev_r2
noncomputable def lev_r1b : List MS := .ifs (.or (.cmp .Gt (.bi .len [(.var 0)]) (.lit (.int 40))) (.cmp .Gt (.bi .len [(.var 1)]) (.lit (.int 40)))) [.ret (.bin .Add (.var 2) (.lit (.int 1)))] [] :: lev_r1c
noncomputable def lev_r1 : List MS := .ifs (.or (.no (.var 0)) (.no (.var 1))) [.ret (.bin .Mult (.lit (.int 2)) (.bin .Add (.bi .len [(.var 0)]) (.bi .len [(.var 1)])))] [] :: lev_r1b

theorem lev_core {kr : PyData → Prop} {a b : List Nat} {M : Int} {p q s5 s6 s7 s8 s9 s10 s11 s12 s13 : Slot} (hsc : ∀ x y, Sp "_substitution_cost" [.str ⟨#[x]⟩, .str ⟨#[y]⟩] (.int (sc x y))) (ha : a.length ≤ 40) (hb : b.length ≤ 40) (ha0 : a ≠ []) (hb0 : b ≠ [])
    (hk : ∀ r, r = levC a b M → kr (.int r)) :
    wpB Sp lev_r2 [.imm (S a), .imm (S b), .imm (.int M), p, q, s5, s6, s7, s8, s9, s10, s11, s12, s13] (fun _ => False) kr := by
  have hor : ¬ (a = [] ∨ b = []) := fun h => h.elim ha0 hb0
  unfold lev_r2
  (try dsimp only [tK_, bK_, nK_, whl_s, for_s, for_n, wb_nil, wb_asg, wb_asgS, wb_asgO, wb_asgR, wb_asg2, wb_swp, wb_aug, wb_augL, wb_app, wb_appS, wb_sti, wb_frz, wb_ifs, wb_whl, wb_for, wb_ret, wm_litT, wm_litF, wm_varT, wm_varF, wm_binT, wm_binF, wm_negT, wm_negF, wm_noT, wm_noF, wm_andT, wm_andF, wm_orT, wm_orF, wm_cmpT, wm_cmpF, wm_iteT, wm_iteF, wm_idxT, wm_idxF, wm_slcT, wm_slcF, wm_callT, wm_callF, wm_biT, wm_biF, wm_lstT, wm_lstF, wm_tupT, wm_tupF, wl_n, wl_c, wc_n, wc_c, wr_rng, wr_var, wr_slc, wr_call, wr_idx, wr_bin, wr_lst, wr_tup, wr_comp, wr_bi, setS, getS, stillV, allV, Slot.still, Slot.all, Slot.froze, updV, fi_f, fi_t, as_b, cm_iEq, cm_iNotEq, cm_iLt, cm_iLtE, cm_iGt, cm_iGtE, cm_sEq, cm_sNotEq, cm_lEq, cm_lNe, cm_in_i, cm_in_s, bi_lenS, bi_lenL, bi_min2, bi_minL, bi_sum, bi_ord, bi_chr, bi_abs, bi_isint, bi_lower, bi_join, bi_str, tr_n, tr_b, tr_i, tr_s, tr_l, bn_Add, bn_Sub, bn_Mult, bn_FloorDiv, bn_Mod, bn_BitAnd, bn_BitXor, bn_LShift, bn_RShift, bn_s, bn_l, ix_s, ix_l, ix_t, slcK, partOf, sd_n, sd_b, sd_i, sd_s, sd_l, sd_t]; try simp only [tK_, bK_, nK_, whl_s, for_s, for_n, wb_nil, wb_asg, wb_asgS, wb_asgO, wb_asgR, wb_asg2, wb_swp, wb_aug, wb_augL, wb_app, wb_appS, wb_sti, wb_frz, wb_ifs, wb_whl, wb_for, wb_ret, wm_litT, wm_litF, wm_varT, wm_varF, wm_binT, wm_binF, wm_negT, wm_negF, wm_noT, wm_noF, wm_andT, wm_andF, wm_orT, wm_orF, wm_cmpT, wm_cmpF, wm_iteT, wm_iteF, wm_idxT, wm_idxF, wm_slcT, wm_slcF, wm_callT, wm_callF, wm_biT, wm_biF, wm_lstT, wm_lstF, wm_tupT, wm_tupF, wm_comp, wl_n, wl_c, wc_n, wc_c, wr_rng, wr_var, wr_slc, wr_call, wr_idx, wr_bin, wr_lst, wr_tup, wr_comp, wr_bi, setS, getS, stillV, allV, Slot.still, Slot.all, Slot.froze, updV, fi_f, fi_t, as_b, cm_iEq, cm_iNotEq, cm_iLt, cm_iLtE, cm_iGt, cm_iGtE, cm_sEq, cm_sNotEq, cm_lEq, cm_lNe, cm_in_i, cm_in_s, bi_lenS, bi_lenL, bi_min2, bi_minL, bi_sum, bi_ord, bi_chr, bi_abs, bi_isint, bi_lower, bi_join, bi_str, tr_n, tr_b, tr_i, tr_s, tr_l, bn_Add, bn_Sub, bn_Mult, bn_FloorDiv, bn_Mod, bn_BitAnd, bn_BitXor, bn_LShift, bn_RShift, bn_s, bn_l, ix_s, ix_l, ix_t, slcK, partOf, sd_n, sd_b, sd_i, sd_s, sd_l, sd_t, and_true, true_and, Bool.true_eq_false, Bool.false_eq_true, false_implies, true_implies, forall_const])
  simp only [sOf_size, sOf_len]
  refine ⟨by omega, by omega, .inr (by decide), fun h => ?_, fun h => ⟨by omega, .inl (by decide), rng3 ha ?_⟩⟩
  · rw [decide_eq_true_eq] at h
    refine hk _ ?_
    unfold levC
    rw [if_neg hor, if_pos h]
  · rw [decide_eq_false_iff_not] at h
    refine ⟨by omega, rng1 (by omega) ?_⟩
    rw [row0 a b]
    refine lev4 hsc ha hb ha0 (fun hj => ?_) (fun hj res s5 s7 s8 s9 s10 s11 s12 s13 hres => ?_) b.length 0 0 _ _ _ _ _ _ _ (by omega) (fun ⟨i, hi, _⟩ => Nat.not_lt_zero i hi) (by rw [if_pos rfl])
    · refine hk _ ?_
      unfold levC
      rw [if_neg hor, if_neg h, if_pos hj]
    · show wpB Sp [MS.ret (MX.var 6)] _ _ _
      (try dsimp only [tK_, bK_, nK_, whl_s, for_s, for_n, wb_nil, wb_asg, wb_asgS, wb_asgO, wb_asgR, wb_asg2, wb_swp, wb_aug, wb_augL, wb_app, wb_appS, wb_sti, wb_frz, wb_ifs, wb_whl, wb_for, wb_ret, wm_litT, wm_litF, wm_varT, wm_varF, wm_binT, wm_binF, wm_negT, wm_negF, wm_noT, wm_noF, wm_andT, wm_andF, wm_orT, wm_orF, wm_cmpT, wm_cmpF, wm_iteT, wm_iteF, wm_idxT, wm_idxF, wm_slcT, wm_slcF, wm_callT, wm_callF, wm_biT, wm_biF, wm_lstT, wm_lstF, wm_tupT, wm_tupF, wl_n, wl_c, wc_n, wc_c, wr_rng, wr_var, wr_slc, wr_call, wr_idx, wr_bin, wr_lst, wr_tup, wr_comp, wr_bi, setS, getS, stillV, allV, Slot.still, Slot.all, Slot.froze, updV, fi_f, fi_t, as_b, cm_iEq, cm_iNotEq, cm_iLt, cm_iLtE, cm_iGt, cm_iGtE, cm_sEq, cm_sNotEq, cm_lEq, cm_lNe, cm_in_i, cm_in_s, bi_lenS, bi_lenL, bi_min2, bi_minL, bi_sum, bi_ord, bi_chr, bi_abs, bi_isint, bi_lower, bi_join, bi_str, tr_n, tr_b, tr_i, tr_s, tr_l, bn_Add, bn_Sub, bn_Mult, bn_FloorDiv, bn_Mod, bn_BitAnd, bn_BitXor, bn_LShift, bn_RShift, bn_s, bn_l, ix_s, ix_l, ix_t, slcK, partOf, sd_n, sd_b, sd_i, sd_s, sd_l, sd_t]; try simp only [tK_, bK_, nK_, whl_s, for_s, for_n, wb_nil, wb_asg, wb_asgS, wb_asgO, wb_asgR, wb_asg2, wb_swp, wb_aug, wb_augL, wb_app, wb_appS, wb_sti, wb_frz, wb_ifs, wb_whl, wb_for, wb_ret, wm_litT, wm_litF, wm_varT, wm_varF, wm_binT, wm_binF, wm_negT, wm_negF, wm_noT, wm_noF, wm_andT, wm_andF, wm_orT, wm_orF, wm_cmpT, wm_cmpF, wm_iteT, wm_iteF, wm_idxT, wm_idxF, wm_slcT, wm_slcF, wm_callT, wm_callF, wm_biT, wm_biF, wm_lstT, wm_lstF, wm_tupT, wm_tupF, wm_comp, wl_n, wl_c, wc_n, wc_c, wr_rng, wr_var, wr_slc, wr_call, wr_idx, wr_bin, wr_lst, wr_tup, wr_comp, wr_bi, setS, getS, stillV, allV, Slot.still, Slot.all, Slot.froze, updV, fi_f, fi_t, as_b, cm_iEq, cm_iNotEq, cm_iLt, cm_iLtE, cm_iGt, cm_iGtE, cm_sEq, cm_sNotEq, cm_lEq, cm_lNe, cm_in_i, cm_in_s, bi_lenS, bi_lenL, bi_min2, bi_minL, bi_sum, bi_ord, bi_chr, bi_abs, bi_isint, bi_lower, bi_join, bi_str, tr_n, tr_b, tr_i, tr_s, tr_l, bn_Add, bn_Sub, bn_Mult, bn_FloorDiv, bn_Mod, bn_BitAnd, bn_BitXor, bn_LShift, bn_RShift, bn_s, bn_l, ix_s, ix_l, ix_t, slcK, partOf, sd_n, sd_b, sd_i, sd_s, sd_l, sd_t, and_true, true_and, Bool.true_eq_false, Bool.false_eq_true, false_implies, true_implies, forall_const])
      refine hk _ ?_
      unfold levC
      rw [if_neg hor, if_neg h, if_neg hj, hres, if_neg (fun e => hb0 (List.length_eq_zero_iff.mp e))]
      unfold P
      rw [List.take_length, List.take_length]

section
variable {kr : PyData → Prop} {kn : Ev → Prop} {a b : List Nat} {M : Int} {rest : Ev} {r : List MS}
theorem swp_s {a b : PyData} (h : wpB Sp r (.imm b :: .imm a :: rest) kn kr) : wpB Sp (.swp 0 1 (.var 1) (.var 0) :: r) (.imm a :: .imm b :: rest) kn kr := by
  rw [wb_swp]
  exact h
theorem r_swap (ha : a.length ≤ 40) (hb : b.length ≤ 40) (hk2 : b.length < a.length → wpB Sp r (.imm (S b) :: .imm (S a) :: rest) kn kr) (hk3 : ¬ b.length < a.length → wpB Sp r (.imm (S a) :: .imm (S b) :: rest) kn kr) :
    wpB Sp (.ifs (.cmp .Lt (.bi .len [(.var 1)]) (.bi .len [(.var 0)])) [.swp 0 1 (.var 1) (.var 0)] [] :: r) (.imm (S a) :: .imm (S b) :: rest) kn kr := by
  rw [wb_ifs]
  simp only [wm_litT, wm_litF, wm_varT, wm_varF, wm_binT, wm_binF, wm_negT, wm_negF, wm_noT, wm_noF, wm_andT, wm_andF, wm_orT, wm_orF, wm_cmpT, wm_cmpF, wm_iteT, wm_iteF, wm_idxT, wm_idxF, wm_slcT, wm_slcF, wm_callT, wm_callF, wm_biT, wm_biF, wm_lstT, wm_lstF, wm_tupT, wm_tupF, wm_comp, wl_n, wl_c, allV, getS, Slot.all, bi_lenS, bi_lenL, bi_min2, bi_minL, bi_sum, bi_ord, bi_chr, bi_abs, bi_isint, bi_lower, bi_join, bi_str, cm_iEq, cm_iNotEq, cm_iLt, cm_iLtE, cm_iGt, cm_iGtE, cm_sEq, cm_sNotEq, cm_lEq, cm_lNe, cm_in_i, cm_in_s, fi_f, fi_t, as_b, sOf_size, sOf_len]
  refine ⟨by omega, by omega, fun h => swp_s ?_, fun h => ?_⟩
  · rw [wb_nil, nK_]
    exact hk2 (by have := of_decide_eq_true h; omega)
  · rw [wb_nil, nK_]
    exact hk3 (by have := of_decide_eq_false h; omega)
theorem r_big (ha : a.length ≤ 40) (hb : b.length ≤ 40) (hk : wpB Sp r (.imm (S a) :: .imm (S b) :: .imm (.int M) :: rest) kn kr) :
    wpB Sp (.ifs (.or (.cmp .Gt (.bi .len [(.var 0)]) (.lit (.int 40))) (.cmp .Gt (.bi .len [(.var 1)]) (.lit (.int 40)))) [.ret (.bin .Add (.var 2) (.lit (.int 1)))] [] :: r) (.imm (S a) :: .imm (S b) :: .imm (.int M) :: rest) kn kr := by
  (try dsimp only [tK_, bK_, nK_, whl_s, for_s, for_n, wb_nil, wb_asg, wb_asgS, wb_asgO, wb_asgR, wb_asg2, wb_swp, wb_aug, wb_augL, wb_app, wb_appS, wb_sti, wb_frz, wb_ifs, wb_whl, wb_for, wb_ret, wm_litT, wm_litF, wm_varT, wm_varF, wm_binT, wm_binF, wm_negT, wm_negF, wm_noT, wm_noF, wm_andT, wm_andF, wm_orT, wm_orF, wm_cmpT, wm_cmpF, wm_iteT, wm_iteF, wm_idxT, wm_idxF, wm_slcT, wm_slcF, wm_callT, wm_callF, wm_biT, wm_biF, wm_lstT, wm_lstF, wm_tupT, wm_tupF, wl_n, wl_c, wc_n, wc_c, wr_rng, wr_var, wr_slc, wr_call, wr_idx, wr_bin, wr_lst, wr_tup, wr_comp, wr_bi, setS, getS, stillV, allV, Slot.still, Slot.all, Slot.froze, updV, fi_f, fi_t, as_b, cm_iEq, cm_iNotEq, cm_iLt, cm_iLtE, cm_iGt, cm_iGtE, cm_sEq, cm_sNotEq, cm_lEq, cm_lNe, cm_in_i, cm_in_s, bi_lenS, bi_lenL, bi_min2, bi_minL, bi_sum, bi_ord, bi_chr, bi_abs, bi_isint, bi_lower, bi_join, bi_str, tr_n, tr_b, tr_i, tr_s, tr_l, bn_Add, bn_Sub, bn_Mult, bn_FloorDiv, bn_Mod, bn_BitAnd, bn_BitXor, bn_LShift, bn_RShift, bn_s, bn_l, ix_s, ix_l, ix_t, slcK, partOf, sd_n, sd_b, sd_i, sd_s, sd_l, sd_t]; try simp only [tK_, bK_, nK_, whl_s, for_s, for_n, wb_nil, wb_asg, wb_asgS, wb_asgO, wb_asgR, wb_asg2, wb_swp, wb_aug, wb_augL, wb_app, wb_appS, wb_sti, wb_frz, wb_ifs, wb_whl, wb_for, wb_ret, wm_litT, wm_litF, wm_varT, wm_varF, wm_binT, wm_binF, wm_negT, wm_negF, wm_noT, wm_noF, wm_andT, wm_andF, wm_orT, wm_orF, wm_cmpT, wm_cmpF, wm_iteT, wm_iteF, wm_idxT, wm_idxF, wm_slcT, wm_slcF, wm_callT, wm_callF, wm_biT, wm_biF, wm_lstT, wm_lstF, wm_tupT, wm_tupF, wm_comp, wl_n, wl_c, wc_n, wc_c, wr_rng, wr_var, wr_slc, wr_call, wr_idx, wr_bin, wr_lst, wr_tup, wr_comp, wr_bi, setS, getS, stillV, allV, Slot.still, Slot.all, Slot.froze, updV, fi_f, fi_t, as_b, cm_iEq, cm_iNotEq, cm_iLt, cm_iLtE, cm_iGt, cm_iGtE, cm_sEq, cm_sNotEq, cm_lEq, cm_lNe, cm_in_i, cm_in_s, bi_lenS, bi_lenL, bi_min2, bi_minL, bi_sum, bi_ord, bi_chr, bi_abs, bi_isint, bi_lower, bi_join, bi_str, tr_n, tr_b, tr_i, tr_s, tr_l, bn_Add, bn_Sub, bn_Mult, bn_FloorDiv, bn_Mod, bn_BitAnd, bn_BitXor, bn_LShift, bn_RShift, bn_s, bn_l, ix_s, ix_l, ix_t, slcK, partOf, sd_n, sd_b, sd_i, sd_s, sd_l, sd_t, and_true, true_and, Bool.true_eq_false, Bool.false_eq_true, false_implies, true_implies, forall_const])
  simp only [sOf_size, sOf_len]
  refine ⟨by omega, fun h => ?_, fun _ => ⟨by omega, fun h => ?_, fun _ => hk⟩⟩
  · have := of_decide_eq_true h; omega
  · have := of_decide_eq_true h; omega
theorem r_none (ha : a.length ≤ 40) (hb : b.length ≤ 40) (hk1 : a.length = 0 ∨ b.length = 0 → kr (.int (2 * ((a.length : Int) + b.length)))) (hk : a.length ≠ 0 → b.length ≠ 0 → wpB Sp r (.imm (S a) :: .imm (S b) :: .imm (.int M) :: rest) kn kr) :
    wpB Sp (.ifs (.or (.no (.var 0)) (.no (.var 1))) [.ret (.bin .Mult (.lit (.int 2)) (.bin .Add (.bi .len [(.var 0)]) (.bi .len [(.var 1)])))] [] :: r) (.imm (S a) :: .imm (S b) :: .imm (.int M) :: rest) kn kr := by
  have nz : ∀ n : Nat, (!(n != 0)) = true → n = 0 := fun n h => by simpa using h
  have nz' : ∀ n : Nat, (!(n != 0)) = false → n ≠ 0 := fun n h => by simpa using h
  (try dsimp only [tK_, bK_, nK_, whl_s, for_s, for_n, wb_nil, wb_asg, wb_asgS, wb_asgO, wb_asgR, wb_asg2, wb_swp, wb_aug, wb_augL, wb_app, wb_appS, wb_sti, wb_frz, wb_ifs, wb_whl, wb_for, wb_ret, wm_litT, wm_litF, wm_varT, wm_varF, wm_binT, wm_binF, wm_negT, wm_negF, wm_noT, wm_noF, wm_andT, wm_andF, wm_orT, wm_orF, wm_cmpT, wm_cmpF, wm_iteT, wm_iteF, wm_idxT, wm_idxF, wm_slcT, wm_slcF, wm_callT, wm_callF, wm_biT, wm_biF, wm_lstT, wm_lstF, wm_tupT, wm_tupF, wl_n, wl_c, wc_n, wc_c, wr_rng, wr_var, wr_slc, wr_call, wr_idx, wr_bin, wr_lst, wr_tup, wr_comp, wr_bi, setS, getS, stillV, allV, Slot.still, Slot.all, Slot.froze, updV, fi_f, fi_t, as_b, cm_iEq, cm_iNotEq, cm_iLt, cm_iLtE, cm_iGt, cm_iGtE, cm_sEq, cm_sNotEq, cm_lEq, cm_lNe, cm_in_i, cm_in_s, bi_lenS, bi_lenL, bi_min2, bi_minL, bi_sum, bi_ord, bi_chr, bi_abs, bi_isint, bi_lower, bi_join, bi_str, tr_n, tr_b, tr_i, tr_s, tr_l, bn_Add, bn_Sub, bn_Mult, bn_FloorDiv, bn_Mod, bn_BitAnd, bn_BitXor, bn_LShift, bn_RShift, bn_s, bn_l, ix_s, ix_l, ix_t, slcK, partOf, sd_n, sd_b, sd_i, sd_s, sd_l, sd_t]; try simp only [tK_, bK_, nK_, whl_s, for_s, for_n, wb_nil, wb_asg, wb_asgS, wb_asgO, wb_asgR, wb_asg2, wb_swp, wb_aug, wb_augL, wb_app, wb_appS, wb_sti, wb_frz, wb_ifs, wb_whl, wb_for, wb_ret, wm_litT, wm_litF, wm_varT, wm_varF, wm_binT, wm_binF, wm_negT, wm_negF, wm_noT, wm_noF, wm_andT, wm_andF, wm_orT, wm_orF, wm_cmpT, wm_cmpF, wm_iteT, wm_iteF, wm_idxT, wm_idxF, wm_slcT, wm_slcF, wm_callT, wm_callF, wm_biT, wm_biF, wm_lstT, wm_lstF, wm_tupT, wm_tupF, wm_comp, wl_n, wl_c, wc_n, wc_c, wr_rng, wr_var, wr_slc, wr_call, wr_idx, wr_bin, wr_lst, wr_tup, wr_comp, wr_bi, setS, getS, stillV, allV, Slot.still, Slot.all, Slot.froze, updV, fi_f, fi_t, as_b, cm_iEq, cm_iNotEq, cm_iLt, cm_iLtE, cm_iGt, cm_iGtE, cm_sEq, cm_sNotEq, cm_lEq, cm_lNe, cm_in_i, cm_in_s, bi_lenS, bi_lenL, bi_min2, bi_minL, bi_sum, bi_ord, bi_chr, bi_abs, bi_isint, bi_lower, bi_join, bi_str, tr_n, tr_b, tr_i, tr_s, tr_l, bn_Add, bn_Sub, bn_Mult, bn_FloorDiv, bn_Mod, bn_BitAnd, bn_BitXor, bn_LShift, bn_RShift, bn_s, bn_l, ix_s, ix_l, ix_t, slcK, partOf, sd_n, sd_b, sd_i, sd_s, sd_l, sd_t, and_true, true_and, Bool.true_eq_false, Bool.false_eq_true, false_implies, true_implies, forall_const])
  simp only [sOf_size, sOf_len]
  exact ⟨by omega, fun h => ⟨by omega, by omega, .inl (by decide), hk1 (.inl (nz _ h))⟩, fun h1 => ⟨by omega, fun h => ⟨by omega, by omega, .inl (by decide), hk1 (.inr (nz _ h))⟩, fun h4 => hk (nz' _ h1) (nz' _ h4)⟩⟩
end
theorem lev_rest {kr : PyData → Prop} {a b : List Nat} {M : Int} {p q s5 s6 s7 s8 s9 s10 s11 s12 s13 : Slot} (hsc : ∀ x y, Sp "_substitution_cost" [.str ⟨#[x]⟩, .str ⟨#[y]⟩] (.int (sc x y))) (ha : a.length ≤ 40) (hb : b.length ≤ 40)
    (hk1 : a.length = 0 ∨ b.length = 0 → kr (.int (2 * ((a.length : Int) + b.length)))) (hk2 : b.length < a.length → ∀ r, r = levC b a M → kr (.int r)) (hk3 : ¬ b.length < a.length → ∀ r, r = levC a b M → kr (.int r)) :
    wpB Sp lev_r1 [.imm (S a), .imm (S b), .imm (.int M), p, q, s5, s6, s7, s8, s9, s10, s11, s12, s13] (fun _ => False) kr :=
  r_none ha hb hk1 fun h1 h2 => r_big ha hb (r_swap ha hb
    (fun h => lev_core hsc hb ha (fun e => h2 (by rw [e]; rfl)) (fun e => h1 (by rw [e]; rfl)) (hk2 h))
    (fun h => lev_core hsc ha hb (fun e => h1 (by rw [e]; rfl)) (fun e => h2 (by rw [e]; rfl)) (hk3 h)))
end
end Mine
end Q4

section Q5
open PySem PySem.W PyProof.Rows PySem.Calls PyProof.V PySem.Spec PySem.SeqAt
namespace Mine
section
variable {Sp : String → List PyData → PyData → Prop}
theorem lev_head {kr : PyData → Prop} {kn : Ev → Prop} {a b : List Nat} {M : Int} {s3 s4 : Slot} {rest : Ev} {r : List MS} (ha : a.length ≤ 40) (hb : b.length ≤ 40) (he : a = b → kr (.int 0))
    (hr : ∀ k0 k1 : Int, wpB Sp r (.imm (S (trim a b).1) :: .imm (S (trim a b).2) :: .imm (.int M) :: .imm (.int k0) :: .imm (.int k1) :: rest) kn kr) :
    wpB Sp (.ifs (.cmp .Eq (.var 0) (.var 1)) [.ret (.lit (.int 0))] [] :: .asg 3 (.lit (.int 0)) :: .whl t_lev1 m_levenshtein_distance_1 :: .asg 0 (.slc (.var 0) (.var 3) (.lit .none)) :: .asg 1 (.slc (.var 1) (.var 3) (.lit .none)) ::
      .asg 4 (.lit (.int 0)) :: .whl t_lev2 m_levenshtein_distance_2 :: .asg 0 (.slc (.var 0) (.lit .none) (.or (.var 4) (.lit .none))) :: .asg 1 (.slc (.var 1) (.lit .none) (.or (.var 4) (.lit .none))) :: r)
      (.imm (S a) :: .imm (S b) :: .imm (.int M) :: s3 :: s4 :: rest) kn kr := by
  (try dsimp only [tK_, bK_, nK_, whl_s, for_s, for_n, wb_nil, wb_asg, wb_asgS, wb_asgO, wb_asgR, wb_asg2, wb_swp, wb_aug, wb_augL, wb_app, wb_appS, wb_sti, wb_frz, wb_ifs, wb_whl, wb_for, wb_ret, wm_litT, wm_litF, wm_varT, wm_varF, wm_binT, wm_binF, wm_negT, wm_negF, wm_noT, wm_noF, wm_andT, wm_andF, wm_orT, wm_orF, wm_cmpT, wm_cmpF, wm_iteT, wm_iteF, wm_idxT, wm_idxF, wm_slcT, wm_slcF, wm_callT, wm_callF, wm_biT, wm_biF, wm_lstT, wm_lstF, wm_tupT, wm_tupF, wl_n, wl_c, wc_n, wc_c, wr_rng, wr_var, wr_slc, wr_call, wr_idx, wr_bin, wr_lst, wr_tup, wr_comp, wr_bi, setS, getS, stillV, allV, Slot.still, Slot.all, Slot.froze, updV, fi_f, fi_t, as_b, cm_iEq, cm_iNotEq, cm_iLt, cm_iLtE, cm_iGt, cm_iGtE, cm_sEq, cm_sNotEq, cm_lEq, cm_lNe, cm_in_i, cm_in_s, bi_lenS, bi_lenL, bi_min2, bi_minL, bi_sum, bi_ord, bi_chr, bi_abs, bi_isint, bi_lower, bi_join, bi_str, tr_n, tr_b, tr_i, tr_s, tr_l, bn_Add, bn_Sub, bn_Mult, bn_FloorDiv, bn_Mod, bn_BitAnd, bn_BitXor, bn_LShift, bn_RShift, bn_s, bn_l, ix_s, ix_l, ix_t, slcK, partOf, sd_n, sd_b, sd_i, sd_s, sd_l, sd_t]; try simp only [tK_, bK_, nK_, whl_s, for_s, for_n, wb_nil, wb_asg, wb_asgS, wb_asgO, wb_asgR, wb_asg2, wb_swp, wb_aug, wb_augL, wb_app, wb_appS, wb_sti, wb_frz, wb_ifs, wb_whl, wb_for, wb_ret, wm_litT, wm_litF, wm_varT, wm_varF, wm_binT, wm_binF, wm_negT, wm_negF, wm_noT, wm_noF, wm_andT, wm_andF, wm_orT, wm_orF, wm_cmpT, wm_cmpF, wm_iteT, wm_iteF, wm_idxT, wm_idxF, wm_slcT, wm_slcF, wm_callT, wm_callF, wm_biT, wm_biF, wm_lstT, wm_lstF, wm_tupT, wm_tupF, wm_comp, wl_n, wl_c, wc_n, wc_c, wr_rng, wr_var, wr_slc, wr_call, wr_idx, wr_bin, wr_lst, wr_tup, wr_comp, wr_bi, setS, getS, stillV, allV, Slot.still, Slot.all, Slot.froze, updV, fi_f, fi_t, as_b, cm_iEq, cm_iNotEq, cm_iLt, cm_iLtE, cm_iGt, cm_iGtE, cm_sEq, cm_sNotEq, cm_lEq, cm_lNe, cm_in_i, cm_in_s, bi_lenS, bi_lenL, bi_min2, bi_minL, bi_sum, bi_ord, bi_chr, bi_abs, bi_isint, bi_lower, bi_join, bi_str, tr_n, tr_b, tr_i, tr_s, tr_l, bn_Add, bn_Sub, bn_Mult, bn_FloorDiv, bn_Mod, bn_BitAnd, bn_BitXor, bn_LShift, bn_RShift, bn_s, bn_l, ix_s, ix_l, ix_t, slcK, partOf, sd_n, sd_b, sd_i, sd_s, sd_l, sd_t, and_true, true_and, Bool.true_eq_false, Bool.false_eq_true, false_implies, true_implies, forall_const])
  refine ⟨fun e => ?_, fun e => ?_⟩
  · rw [sOf_eq, decide_eq_true_eq] at e
    exact he e
  · clear e
    refine ⟨a.length + 1, lev1 (by omega) (by omega) (a.length + 1) 0 (by omega) (by omega) (by omega) rfl fun k0 hk1 hk2 e1 e2 => ?_⟩
    rw [nK_]
    (try dsimp only [tK_, bK_, nK_, whl_s, for_s, for_n, wb_nil, wb_asg, wb_asgS, wb_asgO, wb_asgR, wb_asg2, wb_swp, wb_aug, wb_augL, wb_app, wb_appS, wb_sti, wb_frz, wb_ifs, wb_whl, wb_for, wb_ret, wm_litT, wm_litF, wm_varT, wm_varF, wm_binT, wm_binF, wm_negT, wm_negF, wm_noT, wm_noF, wm_andT, wm_andF, wm_orT, wm_orF, wm_cmpT, wm_cmpF, wm_iteT, wm_iteF, wm_idxT, wm_idxF, wm_slcT, wm_slcF, wm_callT, wm_callF, wm_biT, wm_biF, wm_lstT, wm_lstF, wm_tupT, wm_tupF, wl_n, wl_c, wc_n, wc_c, wr_rng, wr_var, wr_slc, wr_call, wr_idx, wr_bin, wr_lst, wr_tup, wr_comp, wr_bi, setS, getS, stillV, allV, Slot.still, Slot.all, Slot.froze, updV, fi_f, fi_t, as_b, cm_iEq, cm_iNotEq, cm_iLt, cm_iLtE, cm_iGt, cm_iGtE, cm_sEq, cm_sNotEq, cm_lEq, cm_lNe, cm_in_i, cm_in_s, bi_lenS, bi_lenL, bi_min2, bi_minL, bi_sum, bi_ord, bi_chr, bi_abs, bi_isint, bi_lower, bi_join, bi_str, tr_n, tr_b, tr_i, tr_s, tr_l, bn_Add, bn_Sub, bn_Mult, bn_FloorDiv, bn_Mod, bn_BitAnd, bn_BitXor, bn_LShift, bn_RShift, bn_s, bn_l, ix_s, ix_l, ix_t, slcK, partOf, sd_n, sd_b, sd_i, sd_s, sd_l, sd_t]; try simp only [tK_, bK_, nK_, whl_s, for_s, for_n, wb_nil, wb_asg, wb_asgS, wb_asgO, wb_asgR, wb_asg2, wb_swp, wb_aug, wb_augL, wb_app, wb_appS, wb_sti, wb_frz, wb_ifs, wb_whl, wb_for, wb_ret, wm_litT, wm_litF, wm_varT, wm_varF, wm_binT, wm_binF, wm_negT, wm_negF, wm_noT, wm_noF, wm_andT, wm_andF, wm_orT, wm_orF, wm_cmpT, wm_cmpF, wm_iteT, wm_iteF, wm_idxT, wm_idxF, wm_slcT, wm_slcF, wm_callT, wm_callF, wm_biT, wm_biF, wm_lstT, wm_lstF, wm_tupT, wm_tupF, wm_comp, wl_n, wl_c, wc_n, wc_c, wr_rng, wr_var, wr_slc, wr_call, wr_idx, wr_bin, wr_lst, wr_tup, wr_comp, wr_bi, setS, getS, stillV, allV, Slot.still, Slot.all, Slot.froze, updV, fi_f, fi_t, as_b, cm_iEq, cm_iNotEq, cm_iLt, cm_iLtE, cm_iGt, cm_iGtE, cm_sEq, cm_sNotEq, cm_lEq, cm_lNe, cm_in_i, cm_in_s, bi_lenS, bi_lenL, bi_min2, bi_minL, bi_sum, bi_ord, bi_chr, bi_abs, bi_isint, bi_lower, bi_join, bi_str, tr_n, tr_b, tr_i, tr_s, tr_l, bn_Add, bn_Sub, bn_Mult, bn_FloorDiv, bn_Mod, bn_BitAnd, bn_BitXor, bn_LShift, bn_RShift, bn_s, bn_l, ix_s, ix_l, ix_t, slcK, partOf, sd_n, sd_b, sd_i, sd_s, sd_l, sd_t, and_true, true_and, Bool.true_eq_false, Bool.false_eq_true, false_implies, true_implies, forall_const])
    simp only [sOf_list, sOf_size, sOf_len, slc_from]
    refine ⟨by omega, by omega, ?_⟩
    have la : (tp a b).1.length ≤ 40 := by rw [← e1, List.length_drop]; omega
    have lb : (tp a b).2.length ≤ 40 := by rw [← e2, List.length_drop]; omega
    rw [e1, e2]
    refine ⟨(tp a b).1.length + 1, lev2 (by omega) (by omega) ((tp a b).1.length + 1) 0 (by omega) (by omega) (by omega) rfl fun k hk1 hk2 e3 e4 => ?_⟩
    rw [nK_]
    have f1 : (trim a b).1 = (tp a b).1.take ((tp a b).1.length - k) := by
      unfold trim
      rw [← e3, List.reverse_drop, List.reverse_reverse, List.length_reverse]
    have f2 : (trim a b).2 = (tp a b).2.take ((tp a b).2.length - k) := by
      unfold trim
      rw [← e4, List.reverse_drop, List.reverse_reverse, List.length_reverse]
    have fin := hr k0 (-(k : Int))
    (try dsimp only [tK_, bK_, nK_, whl_s, for_s, for_n, wb_nil, wb_asg, wb_asgS, wb_asgO, wb_asgR, wb_asg2, wb_swp, wb_aug, wb_augL, wb_app, wb_appS, wb_sti, wb_frz, wb_ifs, wb_whl, wb_for, wb_ret, wm_litT, wm_litF, wm_varT, wm_varF, wm_binT, wm_binF, wm_negT, wm_negF, wm_noT, wm_noF, wm_andT, wm_andF, wm_orT, wm_orF, wm_cmpT, wm_cmpF, wm_iteT, wm_iteF, wm_idxT, wm_idxF, wm_slcT, wm_slcF, wm_callT, wm_callF, wm_biT, wm_biF, wm_lstT, wm_lstF, wm_tupT, wm_tupF, wl_n, wl_c, wc_n, wc_c, wr_rng, wr_var, wr_slc, wr_call, wr_idx, wr_bin, wr_lst, wr_tup, wr_comp, wr_bi, setS, getS, stillV, allV, Slot.still, Slot.all, Slot.froze, updV, fi_f, fi_t, as_b, cm_iEq, cm_iNotEq, cm_iLt, cm_iLtE, cm_iGt, cm_iGtE, cm_sEq, cm_sNotEq, cm_lEq, cm_lNe, cm_in_i, cm_in_s, bi_lenS, bi_lenL, bi_min2, bi_minL, bi_sum, bi_ord, bi_chr, bi_abs, bi_isint, bi_lower, bi_join, bi_str, tr_n, tr_b, tr_i, tr_s, tr_l, bn_Add, bn_Sub, bn_Mult, bn_FloorDiv, bn_Mod, bn_BitAnd, bn_BitXor, bn_LShift, bn_RShift, bn_s, bn_l, ix_s, ix_l, ix_t, slcK, partOf, sd_n, sd_b, sd_i, sd_s, sd_l, sd_t]; try simp only [tK_, bK_, nK_, whl_s, for_s, for_n, wb_nil, wb_asg, wb_asgS, wb_asgO, wb_asgR, wb_asg2, wb_swp, wb_aug, wb_augL, wb_app, wb_appS, wb_sti, wb_frz, wb_ifs, wb_whl, wb_for, wb_ret, wm_litT, wm_litF, wm_varT, wm_varF, wm_binT, wm_binF, wm_negT, wm_negF, wm_noT, wm_noF, wm_andT, wm_andF, wm_orT, wm_orF, wm_cmpT, wm_cmpF, wm_iteT, wm_iteF, wm_idxT, wm_idxF, wm_slcT, wm_slcF, wm_callT, wm_callF, wm_biT, wm_biF, wm_lstT, wm_lstF, wm_tupT, wm_tupF, wm_comp, wl_n, wl_c, wc_n, wc_c, wr_rng, wr_var, wr_slc, wr_call, wr_idx, wr_bin, wr_lst, wr_tup, wr_comp, wr_bi, setS, getS, stillV, allV, Slot.still, Slot.all, Slot.froze, updV, fi_f, fi_t, as_b, cm_iEq, cm_iNotEq, cm_iLt, cm_iLtE, cm_iGt, cm_iGtE, cm_sEq, cm_sNotEq, cm_lEq, cm_lNe, cm_in_i, cm_in_s, bi_lenS, bi_lenL, bi_min2, bi_minL, bi_sum, bi_ord, bi_chr, bi_abs, bi_isint, bi_lower, bi_join, bi_str, tr_n, tr_b, tr_i, tr_s, tr_l, bn_Add, bn_Sub, bn_Mult, bn_FloorDiv, bn_Mod, bn_BitAnd, bn_BitXor, bn_LShift, bn_RShift, bn_s, bn_l, ix_s, ix_l, ix_t, slcK, partOf, sd_n, sd_b, sd_i, sd_s, sd_l, sd_t, and_true, true_and, Bool.true_eq_false, Bool.false_eq_true, false_implies, true_implies, forall_const])
    simp only [sOf_list, sOf_size, sOf_len, bne_iff_ne, ne_eq, bne_eq_false_iff_eq]
    refine ⟨fun z => ⟨by omega, fun z => ⟨by omega, ?_⟩, fun z' => absurd z' z⟩, fun z => ⟨by omega, fun z' => absurd z z', fun z => ⟨by omega, ?_⟩⟩⟩
    · rw [slc_neg _ _ (by omega), slc_neg _ _ (by omega), ← f1, ← f2]
      exact fin
    · have hz : k = 0 := by omega
      subst hz
      rw [Nat.sub_zero, List.take_length] at f1 f2
      rw [slc_all, slc_all, ← f1, ← f2]
      exact fin
theorem trim_len (a b : List Nat) : (trim a b).1.length ≤ a.length ∧ (trim a b).2.length ≤ b.length := by
  obtain ⟨c, s, h1, h2, _⟩ := trim_spec a b
  generalize (trim a b).1 = p at *
  generalize (trim a b).2 = q at *
  subst h1 h2
  constructor <;> (simp only [List.length_append]; omega)

theorem lev_wp {a b : List Nat} {M : Int} (hsc : ∀ x y, Sp "_substitution_cost" [.str ⟨#[x]⟩, .str ⟨#[y]⟩] (.int (sc x y))) (ha : a.length ≤ 40) (hb : b.length ≤ 40) :
    wpB Sp m_levenshtein_distance [.imm (S a), .imm (S b), .imm (.int M), .un, .un, .un, .un, .un, .un, .un, .un, .un, .un, .un] (fun _ => False) (fun r => r = .int (levF a b M)) := by
  have e0 : (trim a b).1.length = 0 ∨ (trim a b).2.length = 0 → levF a b M = 2 * (((trim a b).1.length : Int) + (trim a b).2.length) := by
    intro h
    have h' : (trim a b).1 = [] ∨ (trim a b).2 = [] := h.imp List.length_eq_zero_iff.mp List.length_eq_zero_iff.mp
    unfold levF levC
    rw [if_pos h', if_pos h'.symm]
    rcases h' with h | h
    · rw [h, D_nil, D_nil']; simp
    · rw [h, D_nil, D_nil']; simp
  have hl := trim_len a b
  refine lev_head ha hb (fun e => ?_) fun k0 k1 => lev_rest hsc (by omega) (by omega) (fun h => ?_) (fun h r hr => ?_) (fun h r hr => ?_)
  · subst e
    rw [levF_piece ⟨a, [], [], .inl ⟨by simp, by simp⟩⟩, D_self]; rfl
  · rw [e0 h]
  · unfold levF
    rw [if_pos h, hr]
  · unfold levF
    rw [if_neg h, hr]
end
end Mine
end Q5

section V6
open PySem PySem.W PyProof.Rows PySem.Calls PyProof.V PySem.Spec PySem.SeqAt
namespace Mine
/-! # Registers -/
noncomputable def st1 (c : Nat) : Nat := if c &&& 1 = 0 then c >>> 1 else (c >>> 1) ^^^ 3988292384
noncomputable def itr (f : Nat → Nat) : Nat → Nat → Nat
  | 0, c => c
  | n + 1, c => itr f n (f c)
noncomputable def g8 (c : Nat) : Nat := itr st1 8 c
noncomputable def Lin (f : Nat → Nat) : Prop := ∀ a b, f (a ^^^ b) = f a ^^^ f b

theorem and1 (a b : Nat) : (a ^^^ b) &&& 1 = (a &&& 1) ^^^ (b &&& 1) := Nat.and_xor_distrib_right
theorem and1_cases (a : Nat) : a &&& 1 = 0 ∨ a &&& 1 = 1 := by
  rw [Nat.and_one_is_mod]; omega
theorem lin_if {c : Nat} {f : Nat → Nat} {s : Nat} (hf : Lin f) : Lin fun n => if (n >>> s) &&& 1 = 0 then f n else f n ^^^ c := by
  intro a b
  dsimp only
  rw [Nat.shiftRight_xor_distrib, and1, hf]
  have e1 : f a ^^^ c ^^^ (f b ^^^ c) = f a ^^^ f b := by
    rw [Nat.xor_assoc, ← Nat.xor_assoc c, Nat.xor_comm c (f b), Nat.xor_assoc (f b), Nat.xor_self, Nat.xor_zero]
  have e2 : f a ^^^ c ^^^ f b = f a ^^^ f b ^^^ c := by rw [Nat.xor_assoc, Nat.xor_comm c, ← Nat.xor_assoc]
  rcases and1_cases (a >>> s) with h1 | h1 <;> rcases and1_cases (b >>> s) with h2 | h2 <;> rw [h1, h2]
  · rfl
  · simp only [Nat.zero_xor, Nat.one_ne_zero, if_false, if_true]; rw [Nat.xor_assoc]
  · simp only [Nat.xor_zero, Nat.one_ne_zero, if_false, if_true]; rw [e2]
  · simp only [Nat.xor_self, Nat.one_ne_zero, if_false, if_true]; rw [e1]
theorem st1_lin : Lin st1 := by
  have := lin_if (c := 3988292384) (f := fun n => n >>> 1) (s := 0) (fun a b => Nat.shiftRight_xor_distrib)
  exact this
theorem itr_lin {f : Nat → Nat} (h : Lin f) : ∀ n, Lin (itr f n)
  | 0 => fun _ _ => rfl
  | n + 1 => fun a b => by
    show itr f n (f (a ^^^ b)) = itr f n (f a) ^^^ itr f n (f b)
    rw [h, itr_lin h n]
theorem g8_lin : Lin g8 := itr_lin st1_lin 8
theorem xor4 (a b c d : Nat) : (a ^^^ b) ^^^ (c ^^^ d) = (a ^^^ c) ^^^ (b ^^^ d) := by
  rw [Nat.xor_assoc, ← Nat.xor_assoc b, Nat.xor_comm b c, Nat.xor_assoc c, ← Nat.xor_assoc]
theorem nzT {x : Nat} (h : (((x : Nat) : Int) != 0) = true) : x ≠ 0 := by
  intro e; subst e; cases h
theorem nzF {x : Nat} (h : (((x : Nat) : Int) != 0) = false) : x = 0 := by
  rw [bne_eq_false_iff_eq] at h; omega

section
variable {Sp : String → List PyData → PyData → Prop} {kr : PyData → Prop} {kn : Ev → Prop}
theorem gen_loop : ∀ (n : Nat) (i : Int) (c : Nat) (s : Slot), (∀ s, kn [.imm (.int (itr st1 n c : Nat)), s]) → forK (bK Sp m_gen_crc_1 kr) 1 (intsOf (upI i n)) [.imm (.int (c : Nat)), s] kn
  | 0, i, c, s, h => h s
  | n + 1, i, c, s, h => by
    show forK _ 1 (.int i :: intsOf (upI (i + 1) n)) _ kn
    unfold m_gen_crc_1
    (try dsimp only [tK_, bK_, nK_, whl_s, for_s, for_n, wb_nil, wb_asg, wb_asgS, wb_asgO, wb_asgR, wb_asg2, wb_swp, wb_aug, wb_augL, wb_app, wb_appS, wb_sti, wb_frz, wb_ifs, wb_whl, wb_for, wb_ret, wm_litT, wm_litF, wm_varT, wm_varF, wm_binT, wm_binF, wm_negT, wm_negF, wm_noT, wm_noF, wm_andT, wm_andF, wm_orT, wm_orF, wm_cmpT, wm_cmpF, wm_iteT, wm_iteF, wm_idxT, wm_idxF, wm_slcT, wm_slcF, wm_callT, wm_callF, wm_biT, wm_biF, wm_lstT, wm_lstF, wm_tupT, wm_tupF, wl_n, wl_c, wc_n, wc_c, wr_rng, wr_var, wr_slc, wr_call, wr_idx, wr_bin, wr_lst, wr_tup, wr_comp, wr_bi, setS, getS, stillV, allV, Slot.still, Slot.all, Slot.froze, updV, fi_f, fi_t, as_b, cm_iEq, cm_iNotEq, cm_iLt, cm_iLtE, cm_iGt, cm_iGtE, cm_sEq, cm_sNotEq, cm_lEq, cm_lNe, cm_in_i, cm_in_s, bi_lenS, bi_lenL, bi_min2, bi_minL, bi_sum, bi_ord, bi_chr, bi_abs, bi_isint, bi_lower, bi_join, bi_str, tr_n, tr_b, tr_i, tr_s, tr_l, bn_Add, bn_Sub, bn_Mult, bn_FloorDiv, bn_Mod, bn_BitAnd, bn_BitXor, bn_LShift, bn_RShift, bn_s, bn_l, ix_s, ix_l, ix_t, slcK, partOf, sd_n, sd_b, sd_i, sd_s, sd_l, sd_t]; try simp only [tK_, bK_, nK_, whl_s, for_s, for_n, wb_nil, wb_asg, wb_asgS, wb_asgO, wb_asgR, wb_asg2, wb_swp, wb_aug, wb_augL, wb_app, wb_appS, wb_sti, wb_frz, wb_ifs, wb_whl, wb_for, wb_ret, wm_litT, wm_litF, wm_varT, wm_varF, wm_binT, wm_binF, wm_negT, wm_negF, wm_noT, wm_noF, wm_andT, wm_andF, wm_orT, wm_orF, wm_cmpT, wm_cmpF, wm_iteT, wm_iteF, wm_idxT, wm_idxF, wm_slcT, wm_slcF, wm_callT, wm_callF, wm_biT, wm_biF, wm_lstT, wm_lstF, wm_tupT, wm_tupF, wm_comp, wl_n, wl_c, wc_n, wc_c, wr_rng, wr_var, wr_slc, wr_call, wr_idx, wr_bin, wr_lst, wr_tup, wr_comp, wr_bi, setS, getS, stillV, allV, Slot.still, Slot.all, Slot.froze, updV, fi_f, fi_t, as_b, cm_iEq, cm_iNotEq, cm_iLt, cm_iLtE, cm_iGt, cm_iGtE, cm_sEq, cm_sNotEq, cm_lEq, cm_lNe, cm_in_i, cm_in_s, bi_lenS, bi_lenL, bi_min2, bi_minL, bi_sum, bi_ord, bi_chr, bi_abs, bi_isint, bi_lower, bi_join, bi_str, tr_n, tr_b, tr_i, tr_s, tr_l, bn_Add, bn_Sub, bn_Mult, bn_FloorDiv, bn_Mod, bn_BitAnd, bn_BitXor, bn_LShift, bn_RShift, bn_s, bn_l, ix_s, ix_l, ix_t, slcK, partOf, sd_n, sd_b, sd_i, sd_s, sd_l, sd_t, and_true, true_and, Bool.true_eq_false, Bool.false_eq_true, false_implies, true_implies, forall_const])
    simp only [Int.toNat_natCast, Int.reduceToNat, Int.toNat_one, Int.toNat_zero]
    refine ⟨⟨by omega, by decide⟩, fun q => ⟨⟨by omega, by decide⟩, ⟨by omega, by decide⟩, ?_⟩, fun q => ⟨⟨by omega, by decide⟩, ?_⟩⟩
    · have e : (c >>> 1) ^^^ 3988292384 = st1 c := by unfold st1; rw [if_neg (nzT q)]
      rw [e]
      exact gen_loop n (i + 1) (st1 c) _ h
    · have e : c >>> 1 = st1 c := by unfold st1; rw [if_pos (nzF q)]
      rw [e]
      exact gen_loop n (i + 1) (st1 c) _ h
theorem gen_wp (c : Nat) : wpB Sp m_gen_crc [.imm (.int (c : Nat)), .un] (fun _ => False) (fun r => r = .int (g8 c : Nat)) := by
  unfold m_gen_crc
  (try dsimp only [tK_, bK_, nK_, whl_s, for_s, for_n, wb_nil, wb_asg, wb_asgS, wb_asgO, wb_asgR, wb_asg2, wb_swp, wb_aug, wb_augL, wb_app, wb_appS, wb_sti, wb_frz, wb_ifs, wb_whl, wb_for, wb_ret, wm_litT, wm_litF, wm_varT, wm_varF, wm_binT, wm_binF, wm_negT, wm_negF, wm_noT, wm_noF, wm_andT, wm_andF, wm_orT, wm_orF, wm_cmpT, wm_cmpF, wm_iteT, wm_iteF, wm_idxT, wm_idxF, wm_slcT, wm_slcF, wm_callT, wm_callF, wm_biT, wm_biF, wm_lstT, wm_lstF, wm_tupT, wm_tupF, wl_n, wl_c, wc_n, wc_c, wr_rng, wr_var, wr_slc, wr_call, wr_idx, wr_bin, wr_lst, wr_tup, wr_comp, wr_bi, setS, getS, stillV, allV, Slot.still, Slot.all, Slot.froze, updV, fi_f, fi_t, as_b, cm_iEq, cm_iNotEq, cm_iLt, cm_iLtE, cm_iGt, cm_iGtE, cm_sEq, cm_sNotEq, cm_lEq, cm_lNe, cm_in_i, cm_in_s, bi_lenS, bi_lenL, bi_min2, bi_minL, bi_sum, bi_ord, bi_chr, bi_abs, bi_isint, bi_lower, bi_join, bi_str, tr_n, tr_b, tr_i, tr_s, tr_l, bn_Add, bn_Sub, bn_Mult, bn_FloorDiv, bn_Mod, bn_BitAnd, bn_BitXor, bn_LShift, bn_RShift, bn_s, bn_l, ix_s, ix_l, ix_t, slcK, partOf, sd_n, sd_b, sd_i, sd_s, sd_l, sd_t]; try simp only [tK_, bK_, nK_, whl_s, for_s, for_n, wb_nil, wb_asg, wb_asgS, wb_asgO, wb_asgR, wb_asg2, wb_swp, wb_aug, wb_augL, wb_app, wb_appS, wb_sti, wb_frz, wb_ifs, wb_whl, wb_for, wb_ret, wm_litT, wm_litF, wm_varT, wm_varF, wm_binT, wm_binF, wm_negT, wm_negF, wm_noT, wm_noF, wm_andT, wm_andF, wm_orT, wm_orF, wm_cmpT, wm_cmpF, wm_iteT, wm_iteF, wm_idxT, wm_idxF, wm_slcT, wm_slcF, wm_callT, wm_callF, wm_biT, wm_biF, wm_lstT, wm_lstF, wm_tupT, wm_tupF, wm_comp, wl_n, wl_c, wc_n, wc_c, wr_rng, wr_var, wr_slc, wr_call, wr_idx, wr_bin, wr_lst, wr_tup, wr_comp, wr_bi, setS, getS, stillV, allV, Slot.still, Slot.all, Slot.froze, updV, fi_f, fi_t, as_b, cm_iEq, cm_iNotEq, cm_iLt, cm_iLtE, cm_iGt, cm_iGtE, cm_sEq, cm_sNotEq, cm_lEq, cm_lNe, cm_in_i, cm_in_s, bi_lenS, bi_lenL, bi_min2, bi_minL, bi_sum, bi_ord, bi_chr, bi_abs, bi_isint, bi_lower, bi_join, bi_str, tr_n, tr_b, tr_i, tr_s, tr_l, bn_Add, bn_Sub, bn_Mult, bn_FloorDiv, bn_Mod, bn_BitAnd, bn_BitXor, bn_LShift, bn_RShift, bn_s, bn_l, ix_s, ix_l, ix_t, slcK, partOf, sd_n, sd_b, sd_i, sd_s, sd_l, sd_t, and_true, true_and, Bool.true_eq_false, Bool.false_eq_true, false_implies, true_implies, forall_const])
  refine ⟨⟨by decide, by decide⟩, gen_loop 8 0 c _ fun s => ?_⟩
  rw [nK_]
  (try dsimp only [tK_, bK_, nK_, whl_s, for_s, for_n, wb_nil, wb_asg, wb_asgS, wb_asgO, wb_asgR, wb_asg2, wb_swp, wb_aug, wb_augL, wb_app, wb_appS, wb_sti, wb_frz, wb_ifs, wb_whl, wb_for, wb_ret, wm_litT, wm_litF, wm_varT, wm_varF, wm_binT, wm_binF, wm_negT, wm_negF, wm_noT, wm_noF, wm_andT, wm_andF, wm_orT, wm_orF, wm_cmpT, wm_cmpF, wm_iteT, wm_iteF, wm_idxT, wm_idxF, wm_slcT, wm_slcF, wm_callT, wm_callF, wm_biT, wm_biF, wm_lstT, wm_lstF, wm_tupT, wm_tupF, wl_n, wl_c, wc_n, wc_c, wr_rng, wr_var, wr_slc, wr_call, wr_idx, wr_bin, wr_lst, wr_tup, wr_comp, wr_bi, setS, getS, stillV, allV, Slot.still, Slot.all, Slot.froze, updV, fi_f, fi_t, as_b, cm_iEq, cm_iNotEq, cm_iLt, cm_iLtE, cm_iGt, cm_iGtE, cm_sEq, cm_sNotEq, cm_lEq, cm_lNe, cm_in_i, cm_in_s, bi_lenS, bi_lenL, bi_min2, bi_minL, bi_sum, bi_ord, bi_chr, bi_abs, bi_isint, bi_lower, bi_join, bi_str, tr_n, tr_b, tr_i, tr_s, tr_l, bn_Add, bn_Sub, bn_Mult, bn_FloorDiv, bn_Mod, bn_BitAnd, bn_BitXor, bn_LShift, bn_RShift, bn_s, bn_l, ix_s, ix_l, ix_t, slcK, partOf, sd_n, sd_b, sd_i, sd_s, sd_l, sd_t]; try simp only [tK_, bK_, nK_, whl_s, for_s, for_n, wb_nil, wb_asg, wb_asgS, wb_asgO, wb_asgR, wb_asg2, wb_swp, wb_aug, wb_augL, wb_app, wb_appS, wb_sti, wb_frz, wb_ifs, wb_whl, wb_for, wb_ret, wm_litT, wm_litF, wm_varT, wm_varF, wm_binT, wm_binF, wm_negT, wm_negF, wm_noT, wm_noF, wm_andT, wm_andF, wm_orT, wm_orF, wm_cmpT, wm_cmpF, wm_iteT, wm_iteF, wm_idxT, wm_idxF, wm_slcT, wm_slcF, wm_callT, wm_callF, wm_biT, wm_biF, wm_lstT, wm_lstF, wm_tupT, wm_tupF, wm_comp, wl_n, wl_c, wc_n, wc_c, wr_rng, wr_var, wr_slc, wr_call, wr_idx, wr_bin, wr_lst, wr_tup, wr_comp, wr_bi, setS, getS, stillV, allV, Slot.still, Slot.all, Slot.froze, updV, fi_f, fi_t, as_b, cm_iEq, cm_iNotEq, cm_iLt, cm_iLtE, cm_iGt, cm_iGtE, cm_sEq, cm_sNotEq, cm_lEq, cm_lNe, cm_in_i, cm_in_s, bi_lenS, bi_lenL, bi_min2, bi_minL, bi_sum, bi_ord, bi_chr, bi_abs, bi_isint, bi_lower, bi_join, bi_str, tr_n, tr_b, tr_i, tr_s, tr_l, bn_Add, bn_Sub, bn_Mult, bn_FloorDiv, bn_Mod, bn_BitAnd, bn_BitXor, bn_LShift, bn_RShift, bn_s, bn_l, ix_s, ix_l, ix_t, slcK, partOf, sd_n, sd_b, sd_i, sd_s, sd_l, sd_t, and_true, true_and, Bool.true_eq_false, Bool.false_eq_true, false_implies, true_implies, forall_const])
  rfl

noncomputable def nats (os : List Nat) : List PyData := os.map fun o => PyData.int (o : Nat)
/-- the rest of a division -/
noncomputable def resF : Nat → Nat → Nat
  | 0, n => n
  | p + 1, n => resF p (if (n >>> (p + 32)) &&& 1 = 0 then n else n ^^^ (4374732215 <<< p))
theorem resF_lin : ∀ p, Lin (resF p)
  | 0 => fun _ _ => rfl
  | p + 1 => fun a b => by
    have := lin_if (c := 4374732215 <<< p) (s := p + 32) (f := fun n => n) (fun _ _ => rfl) a b
    dsimp only at this
    show resF p (if ((a ^^^ b) >>> (p + 32)) &&& 1 = 0 then a ^^^ b else (a ^^^ b) ^^^ (4374732215 <<< p)) = _
    rw [this, resF_lin p]
    rfl
theorem res_loop : ∀ (p n : Nat) (s1 s2 : Slot), p ≤ 200 → (∀ s, kn [.imm (.int (resF p n : Nat)), s1, s]) → forK (bK Sp mT_rest_1 kr) 2 (intsOf (downI ((p : Int) - 1) p)) [.imm (.int (n : Nat)), s1, s2] kn
  | 0, n, s1, s2, _, h => h s2
  | p + 1, n, s1, s2, hp, h => by
    have e : ((p + 1 : Nat) : Int) - 1 = (p : Int) := by omega
    rw [e]
    show forK _ 2 (.int (p : Int) :: intsOf (downI ((p : Int) - 1) p)) _ kn
    unfold mT_rest_1
    (try dsimp only [tK_, bK_, nK_, whl_s, for_s, for_n, wb_nil, wb_asg, wb_asgS, wb_asgO, wb_asgR, wb_asg2, wb_swp, wb_aug, wb_augL, wb_app, wb_appS, wb_sti, wb_frz, wb_ifs, wb_whl, wb_for, wb_ret, wm_litT, wm_litF, wm_varT, wm_varF, wm_binT, wm_binF, wm_negT, wm_negF, wm_noT, wm_noF, wm_andT, wm_andF, wm_orT, wm_orF, wm_cmpT, wm_cmpF, wm_iteT, wm_iteF, wm_idxT, wm_idxF, wm_slcT, wm_slcF, wm_callT, wm_callF, wm_biT, wm_biF, wm_lstT, wm_lstF, wm_tupT, wm_tupF, wl_n, wl_c, wc_n, wc_c, wr_rng, wr_var, wr_slc, wr_call, wr_idx, wr_bin, wr_lst, wr_tup, wr_comp, wr_bi, setS, getS, stillV, allV, Slot.still, Slot.all, Slot.froze, updV, fi_f, fi_t, as_b, cm_iEq, cm_iNotEq, cm_iLt, cm_iLtE, cm_iGt, cm_iGtE, cm_sEq, cm_sNotEq, cm_lEq, cm_lNe, cm_in_i, cm_in_s, bi_lenS, bi_lenL, bi_min2, bi_minL, bi_sum, bi_ord, bi_chr, bi_abs, bi_isint, bi_lower, bi_join, bi_str, tr_n, tr_b, tr_i, tr_s, tr_l, bn_Add, bn_Sub, bn_Mult, bn_FloorDiv, bn_Mod, bn_BitAnd, bn_BitXor, bn_LShift, bn_RShift, bn_s, bn_l, ix_s, ix_l, ix_t, slcK, partOf, sd_n, sd_b, sd_i, sd_s, sd_l, sd_t]; try simp only [tK_, bK_, nK_, whl_s, for_s, for_n, wb_nil, wb_asg, wb_asgS, wb_asgO, wb_asgR, wb_asg2, wb_swp, wb_aug, wb_augL, wb_app, wb_appS, wb_sti, wb_frz, wb_ifs, wb_whl, wb_for, wb_ret, wm_litT, wm_litF, wm_varT, wm_varF, wm_binT, wm_binF, wm_negT, wm_negF, wm_noT, wm_noF, wm_andT, wm_andF, wm_orT, wm_orF, wm_cmpT, wm_cmpF, wm_iteT, wm_iteF, wm_idxT, wm_idxF, wm_slcT, wm_slcF, wm_callT, wm_callF, wm_biT, wm_biF, wm_lstT, wm_lstF, wm_tupT, wm_tupF, wm_comp, wl_n, wl_c, wc_n, wc_c, wr_rng, wr_var, wr_slc, wr_call, wr_idx, wr_bin, wr_lst, wr_tup, wr_comp, wr_bi, setS, getS, stillV, allV, Slot.still, Slot.all, Slot.froze, updV, fi_f, fi_t, as_b, cm_iEq, cm_iNotEq, cm_iLt, cm_iLtE, cm_iGt, cm_iGtE, cm_sEq, cm_sNotEq, cm_lEq, cm_lNe, cm_in_i, cm_in_s, bi_lenS, bi_lenL, bi_min2, bi_minL, bi_sum, bi_ord, bi_chr, bi_abs, bi_isint, bi_lower, bi_join, bi_str, tr_n, tr_b, tr_i, tr_s, tr_l, bn_Add, bn_Sub, bn_Mult, bn_FloorDiv, bn_Mod, bn_BitAnd, bn_BitXor, bn_LShift, bn_RShift, bn_s, bn_l, ix_s, ix_l, ix_t, slcK, partOf, sd_n, sd_b, sd_i, sd_s, sd_l, sd_t, and_true, true_and, Bool.true_eq_false, Bool.false_eq_true, false_implies, true_implies, forall_const])
    have e2 : ((p : Int) + 32) = ((p + 32 : Nat) : Int) := by omega
    rw [e2]
    simp only [Int.toNat_natCast, Int.reduceToNat, Int.toNat_one, Int.toNat_zero]
    refine ⟨⟨Int.natCast_nonneg _, Int.natCast_nonneg _⟩, ⟨Int.natCast_nonneg _, by decide⟩, fun q => ⟨⟨by decide, by omega, by omega, by decide +kernel⟩, ⟨Int.natCast_nonneg _, Int.natCast_nonneg _⟩, ?_⟩, fun q => ?_⟩
    · refine res_loop p _ _ _ (by omega) ?_
      intro s
      have := h s
      unfold resF at this
      rw [if_neg (nzT q)] at this
      exact this
    · refine res_loop p _ _ _ (by omega) ?_
      intro s
      have := h s
      unfold resF at this
      rw [if_pos (nzF q)] at this
      exact this
theorem res_wp (n p : Nat) (hp : p ≤ 200) : wpB Sp mT_rest [.imm (.int (n : Nat)), .imm (.int (p : Nat)), .un] (fun _ => False) (fun r => r = .int (resF p n : Nat)) := by
  unfold mT_rest
  (try dsimp only [tK_, bK_, nK_, whl_s, for_s, for_n, wb_nil, wb_asg, wb_asgS, wb_asgO, wb_asgR, wb_asg2, wb_swp, wb_aug, wb_augL, wb_app, wb_appS, wb_sti, wb_frz, wb_ifs, wb_whl, wb_for, wb_ret, wm_litT, wm_litF, wm_varT, wm_varF, wm_binT, wm_binF, wm_negT, wm_negF, wm_noT, wm_noF, wm_andT, wm_andF, wm_orT, wm_orF, wm_cmpT, wm_cmpF, wm_iteT, wm_iteF, wm_idxT, wm_idxF, wm_slcT, wm_slcF, wm_callT, wm_callF, wm_biT, wm_biF, wm_lstT, wm_lstF, wm_tupT, wm_tupF, wl_n, wl_c, wc_n, wc_c, wr_rng, wr_var, wr_slc, wr_call, wr_idx, wr_bin, wr_lst, wr_tup, wr_comp, wr_bi, setS, getS, stillV, allV, Slot.still, Slot.all, Slot.froze, updV, fi_f, fi_t, as_b, cm_iEq, cm_iNotEq, cm_iLt, cm_iLtE, cm_iGt, cm_iGtE, cm_sEq, cm_sNotEq, cm_lEq, cm_lNe, cm_in_i, cm_in_s, bi_lenS, bi_lenL, bi_min2, bi_minL, bi_sum, bi_ord, bi_chr, bi_abs, bi_isint, bi_lower, bi_join, bi_str, tr_n, tr_b, tr_i, tr_s, tr_l, bn_Add, bn_Sub, bn_Mult, bn_FloorDiv, bn_Mod, bn_BitAnd, bn_BitXor, bn_LShift, bn_RShift, bn_s, bn_l, ix_s, ix_l, ix_t, slcK, partOf, sd_n, sd_b, sd_i, sd_s, sd_l, sd_t]; try simp only [tK_, bK_, nK_, whl_s, for_s, for_n, wb_nil, wb_asg, wb_asgS, wb_asgO, wb_asgR, wb_asg2, wb_swp, wb_aug, wb_augL, wb_app, wb_appS, wb_sti, wb_frz, wb_ifs, wb_whl, wb_for, wb_ret, wm_litT, wm_litF, wm_varT, wm_varF, wm_binT, wm_binF, wm_negT, wm_negF, wm_noT, wm_noF, wm_andT, wm_andF, wm_orT, wm_orF, wm_cmpT, wm_cmpF, wm_iteT, wm_iteF, wm_idxT, wm_idxF, wm_slcT, wm_slcF, wm_callT, wm_callF, wm_biT, wm_biF, wm_lstT, wm_lstF, wm_tupT, wm_tupF, wm_comp, wl_n, wl_c, wc_n, wc_c, wr_rng, wr_var, wr_slc, wr_call, wr_idx, wr_bin, wr_lst, wr_tup, wr_comp, wr_bi, setS, getS, stillV, allV, Slot.still, Slot.all, Slot.froze, updV, fi_f, fi_t, as_b, cm_iEq, cm_iNotEq, cm_iLt, cm_iLtE, cm_iGt, cm_iGtE, cm_sEq, cm_sNotEq, cm_lEq, cm_lNe, cm_in_i, cm_in_s, bi_lenS, bi_lenL, bi_min2, bi_minL, bi_sum, bi_ord, bi_chr, bi_abs, bi_isint, bi_lower, bi_join, bi_str, tr_n, tr_b, tr_i, tr_s, tr_l, bn_Add, bn_Sub, bn_Mult, bn_FloorDiv, bn_Mod, bn_BitAnd, bn_BitXor, bn_LShift, bn_RShift, bn_s, bn_l, ix_s, ix_l, ix_t, slcK, partOf, sd_n, sd_b, sd_i, sd_s, sd_l, sd_t, and_true, true_and, Bool.true_eq_false, Bool.false_eq_true, false_implies, true_implies, forall_const])
  refine ⟨⟨by omega, by omega, by decide, by decide⟩, .inl ⟨by decide, by omega, ?_⟩⟩
  have e : ((p : Int) - 1 - -1).toNat = p := by omega
  rw [e]
  refine res_loop p n _ _ hp fun s => ?_
  rw [nK_]
  (try dsimp only [tK_, bK_, nK_, whl_s, for_s, for_n, wb_nil, wb_asg, wb_asgS, wb_asgO, wb_asgR, wb_asg2, wb_swp, wb_aug, wb_augL, wb_app, wb_appS, wb_sti, wb_frz, wb_ifs, wb_whl, wb_for, wb_ret, wm_litT, wm_litF, wm_varT, wm_varF, wm_binT, wm_binF, wm_negT, wm_negF, wm_noT, wm_noF, wm_andT, wm_andF, wm_orT, wm_orF, wm_cmpT, wm_cmpF, wm_iteT, wm_iteF, wm_idxT, wm_idxF, wm_slcT, wm_slcF, wm_callT, wm_callF, wm_biT, wm_biF, wm_lstT, wm_lstF, wm_tupT, wm_tupF, wl_n, wl_c, wc_n, wc_c, wr_rng, wr_var, wr_slc, wr_call, wr_idx, wr_bin, wr_lst, wr_tup, wr_comp, wr_bi, setS, getS, stillV, allV, Slot.still, Slot.all, Slot.froze, updV, fi_f, fi_t, as_b, cm_iEq, cm_iNotEq, cm_iLt, cm_iLtE, cm_iGt, cm_iGtE, cm_sEq, cm_sNotEq, cm_lEq, cm_lNe, cm_in_i, cm_in_s, bi_lenS, bi_lenL, bi_min2, bi_minL, bi_sum, bi_ord, bi_chr, bi_abs, bi_isint, bi_lower, bi_join, bi_str, tr_n, tr_b, tr_i, tr_s, tr_l, bn_Add, bn_Sub, bn_Mult, bn_FloorDiv, bn_Mod, bn_BitAnd, bn_BitXor, bn_LShift, bn_RShift, bn_s, bn_l, ix_s, ix_l, ix_t, slcK, partOf, sd_n, sd_b, sd_i, sd_s, sd_l, sd_t]; try simp only [tK_, bK_, nK_, whl_s, for_s, for_n, wb_nil, wb_asg, wb_asgS, wb_asgO, wb_asgR, wb_asg2, wb_swp, wb_aug, wb_augL, wb_app, wb_appS, wb_sti, wb_frz, wb_ifs, wb_whl, wb_for, wb_ret, wm_litT, wm_litF, wm_varT, wm_varF, wm_binT, wm_binF, wm_negT, wm_negF, wm_noT, wm_noF, wm_andT, wm_andF, wm_orT, wm_orF, wm_cmpT, wm_cmpF, wm_iteT, wm_iteF, wm_idxT, wm_idxF, wm_slcT, wm_slcF, wm_callT, wm_callF, wm_biT, wm_biF, wm_lstT, wm_lstF, wm_tupT, wm_tupF, wm_comp, wl_n, wl_c, wc_n, wc_c, wr_rng, wr_var, wr_slc, wr_call, wr_idx, wr_bin, wr_lst, wr_tup, wr_comp, wr_bi, setS, getS, stillV, allV, Slot.still, Slot.all, Slot.froze, updV, fi_f, fi_t, as_b, cm_iEq, cm_iNotEq, cm_iLt, cm_iLtE, cm_iGt, cm_iGtE, cm_sEq, cm_sNotEq, cm_lEq, cm_lNe, cm_in_i, cm_in_s, bi_lenS, bi_lenL, bi_min2, bi_minL, bi_sum, bi_ord, bi_chr, bi_abs, bi_isint, bi_lower, bi_join, bi_str, tr_n, tr_b, tr_i, tr_s, tr_l, bn_Add, bn_Sub, bn_Mult, bn_FloorDiv, bn_Mod, bn_BitAnd, bn_BitXor, bn_LShift, bn_RShift, bn_s, bn_l, ix_s, ix_l, ix_t, slcK, partOf, sd_n, sd_b, sd_i, sd_s, sd_l, sd_t, and_true, true_and, Bool.true_eq_false, Bool.false_eq_true, false_implies, true_implies, forall_const])

noncomputable def toL (r : Nat) : Nat → Nat → Nat → Nat
  | 0, _, acc => acc
  | k + 1, i, acc => toL r k (i + 1) (2 * acc + ((r >>> i) &&& 1))
noncomputable def mirF (m : Nat) : Nat := toL m 32 0 0
theorem mir_loop (f : Nat) : ∀ (n i acc : Nat) (s2 : Slot), i + n ≤ 40 → (∀ s, kn [.imm (.int (f : Nat)), .imm (.int (toL f n i acc : Nat)), s]) → forK (bK Sp mT_mirror_1 kr) 2 (intsOf (upI i n)) [.imm (.int (f : Nat)), .imm (.int (acc : Nat)), s2] kn
  | 0, i, acc, s2, _, h => h s2
  | n + 1, i, acc, s2, hi, h => by
    show forK _ 2 (.int (i : Int) :: intsOf (upI ((i + 1 : Nat) : Int) n)) _ kn
    unfold mT_mirror_1
    (try dsimp only [tK_, bK_, nK_, whl_s, for_s, for_n, wb_nil, wb_asg, wb_asgS, wb_asgO, wb_asgR, wb_asg2, wb_swp, wb_aug, wb_augL, wb_app, wb_appS, wb_sti, wb_frz, wb_ifs, wb_whl, wb_for, wb_ret, wm_litT, wm_litF, wm_varT, wm_varF, wm_binT, wm_binF, wm_negT, wm_negF, wm_noT, wm_noF, wm_andT, wm_andF, wm_orT, wm_orF, wm_cmpT, wm_cmpF, wm_iteT, wm_iteF, wm_idxT, wm_idxF, wm_slcT, wm_slcF, wm_callT, wm_callF, wm_biT, wm_biF, wm_lstT, wm_lstF, wm_tupT, wm_tupF, wl_n, wl_c, wc_n, wc_c, wr_rng, wr_var, wr_slc, wr_call, wr_idx, wr_bin, wr_lst, wr_tup, wr_comp, wr_bi, setS, getS, stillV, allV, Slot.still, Slot.all, Slot.froze, updV, fi_f, fi_t, as_b, cm_iEq, cm_iNotEq, cm_iLt, cm_iLtE, cm_iGt, cm_iGtE, cm_sEq, cm_sNotEq, cm_lEq, cm_lNe, cm_in_i, cm_in_s, bi_lenS, bi_lenL, bi_min2, bi_minL, bi_sum, bi_ord, bi_chr, bi_abs, bi_isint, bi_lower, bi_join, bi_str, tr_n, tr_b, tr_i, tr_s, tr_l, bn_Add, bn_Sub, bn_Mult, bn_FloorDiv, bn_Mod, bn_BitAnd, bn_BitXor, bn_LShift, bn_RShift, bn_s, bn_l, ix_s, ix_l, ix_t, slcK, partOf, sd_n, sd_b, sd_i, sd_s, sd_l, sd_t]; try simp only [tK_, bK_, nK_, whl_s, for_s, for_n, wb_nil, wb_asg, wb_asgS, wb_asgO, wb_asgR, wb_asg2, wb_swp, wb_aug, wb_augL, wb_app, wb_appS, wb_sti, wb_frz, wb_ifs, wb_whl, wb_for, wb_ret, wm_litT, wm_litF, wm_varT, wm_varF, wm_binT, wm_binF, wm_negT, wm_negF, wm_noT, wm_noF, wm_andT, wm_andF, wm_orT, wm_orF, wm_cmpT, wm_cmpF, wm_iteT, wm_iteF, wm_idxT, wm_idxF, wm_slcT, wm_slcF, wm_callT, wm_callF, wm_biT, wm_biF, wm_lstT, wm_lstF, wm_tupT, wm_tupF, wm_comp, wl_n, wl_c, wc_n, wc_c, wr_rng, wr_var, wr_slc, wr_call, wr_idx, wr_bin, wr_lst, wr_tup, wr_comp, wr_bi, setS, getS, stillV, allV, Slot.still, Slot.all, Slot.froze, updV, fi_f, fi_t, as_b, cm_iEq, cm_iNotEq, cm_iLt, cm_iLtE, cm_iGt, cm_iGtE, cm_sEq, cm_sNotEq, cm_lEq, cm_lNe, cm_in_i, cm_in_s, bi_lenS, bi_lenL, bi_min2, bi_minL, bi_sum, bi_ord, bi_chr, bi_abs, bi_isint, bi_lower, bi_join, bi_str, tr_n, tr_b, tr_i, tr_s, tr_l, bn_Add, bn_Sub, bn_Mult, bn_FloorDiv, bn_Mod, bn_BitAnd, bn_BitXor, bn_LShift, bn_RShift, bn_s, bn_l, ix_s, ix_l, ix_t, slcK, partOf, sd_n, sd_b, sd_i, sd_s, sd_l, sd_t, and_true, true_and, Bool.true_eq_false, Bool.false_eq_true, false_implies, true_implies, forall_const])
    simp only [Int.toNat_natCast, Int.reduceToNat, Int.toNat_one, Int.toNat_zero]
    refine ⟨.inl (by decide), ⟨Int.natCast_nonneg _, Int.natCast_nonneg _⟩, ⟨Int.natCast_nonneg _, by decide⟩, ?_⟩
    exact mir_loop f n (i + 1) _ _ (by omega) h
theorem mir_wp (m : Nat) : wpB Sp mT_mirror [.imm (.int (m : Nat)), .un, .un] (fun _ => False) (fun r => r = .int (mirF m : Nat)) := by
  unfold mT_mirror
  (try dsimp only [tK_, bK_, nK_, whl_s, for_s, for_n, wb_nil, wb_asg, wb_asgS, wb_asgO, wb_asgR, wb_asg2, wb_swp, wb_aug, wb_augL, wb_app, wb_appS, wb_sti, wb_frz, wb_ifs, wb_whl, wb_for, wb_ret, wm_litT, wm_litF, wm_varT, wm_varF, wm_binT, wm_binF, wm_negT, wm_negF, wm_noT, wm_noF, wm_andT, wm_andF, wm_orT, wm_orF, wm_cmpT, wm_cmpF, wm_iteT, wm_iteF, wm_idxT, wm_idxF, wm_slcT, wm_slcF, wm_callT, wm_callF, wm_biT, wm_biF, wm_lstT, wm_lstF, wm_tupT, wm_tupF, wl_n, wl_c, wc_n, wc_c, wr_rng, wr_var, wr_slc, wr_call, wr_idx, wr_bin, wr_lst, wr_tup, wr_comp, wr_bi, setS, getS, stillV, allV, Slot.still, Slot.all, Slot.froze, updV, fi_f, fi_t, as_b, cm_iEq, cm_iNotEq, cm_iLt, cm_iLtE, cm_iGt, cm_iGtE, cm_sEq, cm_sNotEq, cm_lEq, cm_lNe, cm_in_i, cm_in_s, bi_lenS, bi_lenL, bi_min2, bi_minL, bi_sum, bi_ord, bi_chr, bi_abs, bi_isint, bi_lower, bi_join, bi_str, tr_n, tr_b, tr_i, tr_s, tr_l, bn_Add, bn_Sub, bn_Mult, bn_FloorDiv, bn_Mod, bn_BitAnd, bn_BitXor, bn_LShift, bn_RShift, bn_s, bn_l, ix_s, ix_l, ix_t, slcK, partOf, sd_n, sd_b, sd_i, sd_s, sd_l, sd_t]; try simp only [tK_, bK_, nK_, whl_s, for_s, for_n, wb_nil, wb_asg, wb_asgS, wb_asgO, wb_asgR, wb_asg2, wb_swp, wb_aug, wb_augL, wb_app, wb_appS, wb_sti, wb_frz, wb_ifs, wb_whl, wb_for, wb_ret, wm_litT, wm_litF, wm_varT, wm_varF, wm_binT, wm_binF, wm_negT, wm_negF, wm_noT, wm_noF, wm_andT, wm_andF, wm_orT, wm_orF, wm_cmpT, wm_cmpF, wm_iteT, wm_iteF, wm_idxT, wm_idxF, wm_slcT, wm_slcF, wm_callT, wm_callF, wm_biT, wm_biF, wm_lstT, wm_lstF, wm_tupT, wm_tupF, wm_comp, wl_n, wl_c, wc_n, wc_c, wr_rng, wr_var, wr_slc, wr_call, wr_idx, wr_bin, wr_lst, wr_tup, wr_comp, wr_bi, setS, getS, stillV, allV, Slot.still, Slot.all, Slot.froze, updV, fi_f, fi_t, as_b, cm_iEq, cm_iNotEq, cm_iLt, cm_iLtE, cm_iGt, cm_iGtE, cm_sEq, cm_sNotEq, cm_lEq, cm_lNe, cm_in_i, cm_in_s, bi_lenS, bi_lenL, bi_min2, bi_minL, bi_sum, bi_ord, bi_chr, bi_abs, bi_isint, bi_lower, bi_join, bi_str, tr_n, tr_b, tr_i, tr_s, tr_l, bn_Add, bn_Sub, bn_Mult, bn_FloorDiv, bn_Mod, bn_BitAnd, bn_BitXor, bn_LShift, bn_RShift, bn_s, bn_l, ix_s, ix_l, ix_t, slcK, partOf, sd_n, sd_b, sd_i, sd_s, sd_l, sd_t, and_true, true_and, Bool.true_eq_false, Bool.false_eq_true, false_implies, true_implies, forall_const])
  refine ⟨⟨by decide, by decide⟩, mir_loop m 32 0 0 _ (by omega) fun s => ?_⟩
  rw [nK_]
  (try dsimp only [tK_, bK_, nK_, whl_s, for_s, for_n, wb_nil, wb_asg, wb_asgS, wb_asgO, wb_asgR, wb_asg2, wb_swp, wb_aug, wb_augL, wb_app, wb_appS, wb_sti, wb_frz, wb_ifs, wb_whl, wb_for, wb_ret, wm_litT, wm_litF, wm_varT, wm_varF, wm_binT, wm_binF, wm_negT, wm_negF, wm_noT, wm_noF, wm_andT, wm_andF, wm_orT, wm_orF, wm_cmpT, wm_cmpF, wm_iteT, wm_iteF, wm_idxT, wm_idxF, wm_slcT, wm_slcF, wm_callT, wm_callF, wm_biT, wm_biF, wm_lstT, wm_lstF, wm_tupT, wm_tupF, wl_n, wl_c, wc_n, wc_c, wr_rng, wr_var, wr_slc, wr_call, wr_idx, wr_bin, wr_lst, wr_tup, wr_comp, wr_bi, setS, getS, stillV, allV, Slot.still, Slot.all, Slot.froze, updV, fi_f, fi_t, as_b, cm_iEq, cm_iNotEq, cm_iLt, cm_iLtE, cm_iGt, cm_iGtE, cm_sEq, cm_sNotEq, cm_lEq, cm_lNe, cm_in_i, cm_in_s, bi_lenS, bi_lenL, bi_min2, bi_minL, bi_sum, bi_ord, bi_chr, bi_abs, bi_isint, bi_lower, bi_join, bi_str, tr_n, tr_b, tr_i, tr_s, tr_l, bn_Add, bn_Sub, bn_Mult, bn_FloorDiv, bn_Mod, bn_BitAnd, bn_BitXor, bn_LShift, bn_RShift, bn_s, bn_l, ix_s, ix_l, ix_t, slcK, partOf, sd_n, sd_b, sd_i, sd_s, sd_l, sd_t]; try simp only [tK_, bK_, nK_, whl_s, for_s, for_n, wb_nil, wb_asg, wb_asgS, wb_asgO, wb_asgR, wb_asg2, wb_swp, wb_aug, wb_augL, wb_app, wb_appS, wb_sti, wb_frz, wb_ifs, wb_whl, wb_for, wb_ret, wm_litT, wm_litF, wm_varT, wm_varF, wm_binT, wm_binF, wm_negT, wm_negF, wm_noT, wm_noF, wm_andT, wm_andF, wm_orT, wm_orF, wm_cmpT, wm_cmpF, wm_iteT, wm_iteF, wm_idxT, wm_idxF, wm_slcT, wm_slcF, wm_callT, wm_callF, wm_biT, wm_biF, wm_lstT, wm_lstF, wm_tupT, wm_tupF, wm_comp, wl_n, wl_c, wc_n, wc_c, wr_rng, wr_var, wr_slc, wr_call, wr_idx, wr_bin, wr_lst, wr_tup, wr_comp, wr_bi, setS, getS, stillV, allV, Slot.still, Slot.all, Slot.froze, updV, fi_f, fi_t, as_b, cm_iEq, cm_iNotEq, cm_iLt, cm_iLtE, cm_iGt, cm_iGtE, cm_sEq, cm_sNotEq, cm_lEq, cm_lNe, cm_in_i, cm_in_s, bi_lenS, bi_lenL, bi_min2, bi_minL, bi_sum, bi_ord, bi_chr, bi_abs, bi_isint, bi_lower, bi_join, bi_str, tr_n, tr_b, tr_i, tr_s, tr_l, bn_Add, bn_Sub, bn_Mult, bn_FloorDiv, bn_Mod, bn_BitAnd, bn_BitXor, bn_LShift, bn_RShift, bn_s, bn_l, ix_s, ix_l, ix_t, slcK, partOf, sd_n, sd_b, sd_i, sd_s, sd_l, sd_t, and_true, true_and, Bool.true_eq_false, Bool.false_eq_true, false_implies, true_implies, forall_const])
  rfl

/-! ## marks -/
noncomputable def regs : Nat → List Nat → List Nat
  | _, [] => []
  | m, c :: cs => g8 (m ^^^ c) :: regs (g8 (m ^^^ c)) cs
noncomputable def marksF (l : List Nat) : List Nat := mirF 4294967295 :: (regs 4294967295 l).map mirF
theorem regs_len : ∀ (l : List Nat) (m : Nat), (regs m l).length = l.length
  | [], _ => rfl
  | _ :: l, m => by rw [regs, List.length_cons, List.length_cons, regs_len l]
theorem nats_len (l : List Nat) : (nats l).length = l.length := List.length_map ..
theorem marks_loop (hg : ∀ c : Nat, Sp "_gen_crc" [.int (c : Nat)] (.int (g8 c : Nat))) (hm : ∀ c : Nat, Sp "_law_mirror" [.int (c : Nat)] (.int (mirF c : Nat))) (s0 : Slot) (rest : Ev) :
    ∀ (l : List Nat) (m : Nat) (ms : List Nat) (s3 : Slot), ms.length + l.length ≤ 1000 → (∀ s1 s3, kn (s0 :: s1 :: .own (nats (ms ++ (regs m l).map mirF)) :: s3 :: rest)) →
    forK (bK Sp mT_sums_1 kr) 3 (l.map fun c => .str ⟨#[c]⟩) (s0 :: .imm (.int (m : Nat)) :: .own (nats ms) :: s3 :: rest) kn
  | [], m, ms, s3, _, h => by
    have := h (.imm (.int (m : Nat))) s3
    rw [regs, List.map_nil, List.append_nil] at this
    exact this
  | c :: l, m, ms, s3, hl, h => by
    show forK _ 3 (.str ⟨#[c]⟩ :: l.map fun c => .str ⟨#[c]⟩) _ kn
    unfold mT_sums_1
    (try dsimp only [tK_, bK_, nK_, whl_s, for_s, for_n, wb_nil, wb_asg, wb_asgS, wb_asgO, wb_asgR, wb_asg2, wb_swp, wb_aug, wb_augL, wb_app, wb_appS, wb_sti, wb_frz, wb_ifs, wb_whl, wb_for, wb_ret, wm_litT, wm_litF, wm_varT, wm_varF, wm_binT, wm_binF, wm_negT, wm_negF, wm_noT, wm_noF, wm_andT, wm_andF, wm_orT, wm_orF, wm_cmpT, wm_cmpF, wm_iteT, wm_iteF, wm_idxT, wm_idxF, wm_slcT, wm_slcF, wm_callT, wm_callF, wm_biT, wm_biF, wm_lstT, wm_lstF, wm_tupT, wm_tupF, wl_n, wl_c, wc_n, wc_c, wr_rng, wr_var, wr_slc, wr_call, wr_idx, wr_bin, wr_lst, wr_tup, wr_comp, wr_bi, setS, getS, stillV, allV, Slot.still, Slot.all, Slot.froze, updV, fi_f, fi_t, as_b, cm_iEq, cm_iNotEq, cm_iLt, cm_iLtE, cm_iGt, cm_iGtE, cm_sEq, cm_sNotEq, cm_lEq, cm_lNe, cm_in_i, cm_in_s, bi_lenS, bi_lenL, bi_min2, bi_minL, bi_sum, bi_ord, bi_chr, bi_abs, bi_isint, bi_lower, bi_join, bi_str, tr_n, tr_b, tr_i, tr_s, tr_l, bn_Add, bn_Sub, bn_Mult, bn_FloorDiv, bn_Mod, bn_BitAnd, bn_BitXor, bn_LShift, bn_RShift, bn_s, bn_l, ix_s, ix_l, ix_t, slcK, partOf, sd_n, sd_b, sd_i, sd_s, sd_l, sd_t]; try simp only [tK_, bK_, nK_, whl_s, for_s, for_n, wb_nil, wb_asg, wb_asgS, wb_asgO, wb_asgR, wb_asg2, wb_swp, wb_aug, wb_augL, wb_app, wb_appS, wb_sti, wb_frz, wb_ifs, wb_whl, wb_for, wb_ret, wm_litT, wm_litF, wm_varT, wm_varF, wm_binT, wm_binF, wm_negT, wm_negF, wm_noT, wm_noF, wm_andT, wm_andF, wm_orT, wm_orF, wm_cmpT, wm_cmpF, wm_iteT, wm_iteF, wm_idxT, wm_idxF, wm_slcT, wm_slcF, wm_callT, wm_callF, wm_biT, wm_biF, wm_lstT, wm_lstF, wm_tupT, wm_tupF, wm_comp, wl_n, wl_c, wc_n, wc_c, wr_rng, wr_var, wr_slc, wr_call, wr_idx, wr_bin, wr_lst, wr_tup, wr_comp, wr_bi, setS, getS, stillV, allV, Slot.still, Slot.all, Slot.froze, updV, fi_f, fi_t, as_b, cm_iEq, cm_iNotEq, cm_iLt, cm_iLtE, cm_iGt, cm_iGtE, cm_sEq, cm_sNotEq, cm_lEq, cm_lNe, cm_in_i, cm_in_s, bi_lenS, bi_lenL, bi_min2, bi_minL, bi_sum, bi_ord, bi_chr, bi_abs, bi_isint, bi_lower, bi_join, bi_str, tr_n, tr_b, tr_i, tr_s, tr_l, bn_Add, bn_Sub, bn_Mult, bn_FloorDiv, bn_Mod, bn_BitAnd, bn_BitXor, bn_LShift, bn_RShift, bn_s, bn_l, ix_s, ix_l, ix_t, slcK, partOf, sd_n, sd_b, sd_i, sd_s, sd_l, sd_t, and_true, true_and, Bool.true_eq_false, Bool.false_eq_true, false_implies, true_implies, forall_const])
    refine ⟨c, rfl, ⟨Int.natCast_nonneg _, Int.natCast_nonneg _⟩, ?_⟩
    simp only [Int.toNat_natCast, Int.reduceToNat, Int.toNat_one, Int.toNat_zero]
    refine ⟨_, hg _, ?_⟩
    (try dsimp only [tK_, bK_, nK_, whl_s, for_s, for_n, wb_nil, wb_asg, wb_asgS, wb_asgO, wb_asgR, wb_asg2, wb_swp, wb_aug, wb_augL, wb_app, wb_appS, wb_sti, wb_frz, wb_ifs, wb_whl, wb_for, wb_ret, wm_litT, wm_litF, wm_varT, wm_varF, wm_binT, wm_binF, wm_negT, wm_negF, wm_noT, wm_noF, wm_andT, wm_andF, wm_orT, wm_orF, wm_cmpT, wm_cmpF, wm_iteT, wm_iteF, wm_idxT, wm_idxF, wm_slcT, wm_slcF, wm_callT, wm_callF, wm_biT, wm_biF, wm_lstT, wm_lstF, wm_tupT, wm_tupF, wl_n, wl_c, wc_n, wc_c, wr_rng, wr_var, wr_slc, wr_call, wr_idx, wr_bin, wr_lst, wr_tup, wr_comp, wr_bi, setS, getS, stillV, allV, Slot.still, Slot.all, Slot.froze, updV, fi_f, fi_t, as_b, cm_iEq, cm_iNotEq, cm_iLt, cm_iLtE, cm_iGt, cm_iGtE, cm_sEq, cm_sNotEq, cm_lEq, cm_lNe, cm_in_i, cm_in_s, bi_lenS, bi_lenL, bi_min2, bi_minL, bi_sum, bi_ord, bi_chr, bi_abs, bi_isint, bi_lower, bi_join, bi_str, tr_n, tr_b, tr_i, tr_s, tr_l, bn_Add, bn_Sub, bn_Mult, bn_FloorDiv, bn_Mod, bn_BitAnd, bn_BitXor, bn_LShift, bn_RShift, bn_s, bn_l, ix_s, ix_l, ix_t, slcK, partOf, sd_n, sd_b, sd_i, sd_s, sd_l, sd_t]; try simp only [tK_, bK_, nK_, whl_s, for_s, for_n, wb_nil, wb_asg, wb_asgS, wb_asgO, wb_asgR, wb_asg2, wb_swp, wb_aug, wb_augL, wb_app, wb_appS, wb_sti, wb_frz, wb_ifs, wb_whl, wb_for, wb_ret, wm_litT, wm_litF, wm_varT, wm_varF, wm_binT, wm_binF, wm_negT, wm_negF, wm_noT, wm_noF, wm_andT, wm_andF, wm_orT, wm_orF, wm_cmpT, wm_cmpF, wm_iteT, wm_iteF, wm_idxT, wm_idxF, wm_slcT, wm_slcF, wm_callT, wm_callF, wm_biT, wm_biF, wm_lstT, wm_lstF, wm_tupT, wm_tupF, wm_comp, wl_n, wl_c, wc_n, wc_c, wr_rng, wr_var, wr_slc, wr_call, wr_idx, wr_bin, wr_lst, wr_tup, wr_comp, wr_bi, setS, getS, stillV, allV, Slot.still, Slot.all, Slot.froze, updV, fi_f, fi_t, as_b, cm_iEq, cm_iNotEq, cm_iLt, cm_iLtE, cm_iGt, cm_iGtE, cm_sEq, cm_sNotEq, cm_lEq, cm_lNe, cm_in_i, cm_in_s, bi_lenS, bi_lenL, bi_min2, bi_minL, bi_sum, bi_ord, bi_chr, bi_abs, bi_isint, bi_lower, bi_join, bi_str, tr_n, tr_b, tr_i, tr_s, tr_l, bn_Add, bn_Sub, bn_Mult, bn_FloorDiv, bn_Mod, bn_BitAnd, bn_BitXor, bn_LShift, bn_RShift, bn_s, bn_l, ix_s, ix_l, ix_t, slcK, partOf, sd_n, sd_b, sd_i, sd_s, sd_l, sd_t, and_true, true_and, Bool.true_eq_false, Bool.false_eq_true, false_implies, true_implies, forall_const])
    refine ⟨_, hm _, by rw [nats_len]; rw [List.length_cons] at hl; omega, ?_⟩
    have e : nats ms ++ [PyData.int (mirF (g8 (m ^^^ c)) : Nat)] = nats (ms ++ [mirF (g8 (m ^^^ c))]) := by unfold nats; rw [List.map_append]; rfl
    rw [e]
    refine marks_loop hg hm s0 rest l (g8 (m ^^^ c)) _ _ (by rw [List.length_append]; simp only [List.length_cons, List.length_nil] at hl ⊢; omega) fun s1 s3 => ?_
    have := h s1 s3
    rw [regs, List.map_cons] at this
    rw [List.append_assoc]
    exact this
end
end Mine
end V6

section V7
open PySem PySem.W PyProof.Rows PySem.Calls PyProof.V PySem.Spec PySem.SeqAt
namespace Mine
noncomputable def numF : List Nat → Nat → Nat
  | [], acc => acc
  | c :: l, acc => numF l (toL c 8 0 acc)
theorem toL_lt (r : Nat) : ∀ k i acc, toL r k i acc < 2 ^ k * (acc + 1)
  | 0, i, acc => by rw [toL]; omega
  | k + 1, i, acc => by
    have := toL_lt r k (i + 1) (2 * acc + ((r >>> i) &&& 1))
    rw [toL]
    have h1 : (r >>> i) &&& 1 ≤ 1 := by rcases and1_cases (r >>> i) with h | h <;> omega
    refine Nat.lt_of_lt_of_le this ?_
    rw [Nat.pow_succ, Nat.mul_assoc]
    exact Nat.mul_le_mul_left _ (by omega)
theorem numF_lt : ∀ l acc, numF l acc < 256 ^ l.length * (acc + 1)
  | [], acc => by rw [numF, List.length_nil]; omega
  | c :: l, acc => by
    have h1 := numF_lt l (toL c 8 0 acc)
    have h2 := toL_lt c 8 0 acc
    rw [numF, List.length_cons]
    refine Nat.lt_of_lt_of_le h1 ?_
    rw [Nat.pow_succ, Nat.mul_assoc]
    exact Nat.mul_le_mul_left _ (by omega)
theorem upI_nats : ∀ n i : Nat, intsOf (upI (i : Int) n) = nats (List.range' i n)
  | 0, _ => rfl
  | n + 1, i => by
    show PyData.int (i : Int) :: intsOf (upI ((i : Int) + 1) n) = PyData.int (i : Int) :: nats (List.range' (i + 1) n)
    rw [← upI_nats n (i + 1)]
    rfl
theorem upI_nats0 (n : Nat) : intsOf (upI 0 n) = nats (List.range n) := by
  rw [List.range_eq_range']
  exact upI_nats n 0
theorem nats_filter (l : List Nat) (keep : PyData → Bool) : (nats l).filter keep = nats (l.filter fun i => keep (.int (i : Nat))) := by
  unfold nats
  rw [List.filter_map]
  rfl
theorem nats_get (l : List Nat) (i : Nat) : (nats l)[i]? = (l[i]?).map fun (x : Nat) => PyData.int (x : Nat) := List.getElem?_map ..
theorem idx_nats (l : List Nat) (i : Nat) (h : i < l.length) : pyIdx (nats l) (i : Int) = some (.int (l.getD i 0 : Nat)) := by
  rw [idx_nat _ i (by rw [nats_len]; exact h)]
  simp only [nats, List.getElem_map, List.getD_eq_getElem?_getD, List.getElem?_eq_getElem h, Option.getD_some]
theorem beq_cast (a b : Nat) : (((a : Nat) : Int) == ((b : Nat) : Int)) = (a == b) := by
  rw [Bool.eq_iff_iff, beq_iff_eq, beq_iff_eq]
  omega
section
variable {Sp : String → List PyData → PyData → Prop} {kr : PyData → Prop} {kn : Ev → Prop}
theorem wh_in (c : Nat) (s0 : Slot) : ∀ (n i acc : Nat) (s3 : Slot), i + n ≤ 40 → (∀ s3, kn [s0, .imm (.int (toL c n i acc : Nat)), .imm (.str ⟨#[c]⟩), s3]) → forK (bK Sp mT_whole_1_1 kr) 3 (intsOf (upI i n)) [s0, .imm (.int (acc : Nat)), .imm (.str ⟨#[c]⟩), s3] kn
  | 0, i, acc, s3, _, h => h s3
  | n + 1, i, acc, s3, hi, h => by
    show forK _ 3 (.int (i : Int) :: intsOf (upI ((i + 1 : Nat) : Int) n)) _ kn
    unfold mT_whole_1_1
    (try dsimp only [tK_, bK_, nK_, whl_s, for_s, for_n, wb_nil, wb_asg, wb_asgS, wb_asgO, wb_asgR, wb_asg2, wb_swp, wb_aug, wb_augL, wb_app, wb_appS, wb_sti, wb_frz, wb_ifs, wb_whl, wb_for, wb_ret, wm_litT, wm_litF, wm_varT, wm_varF, wm_binT, wm_binF, wm_negT, wm_negF, wm_noT, wm_noF, wm_andT, wm_andF, wm_orT, wm_orF, wm_cmpT, wm_cmpF, wm_iteT, wm_iteF, wm_idxT, wm_idxF, wm_slcT, wm_slcF, wm_callT, wm_callF, wm_biT, wm_biF, wm_lstT, wm_lstF, wm_tupT, wm_tupF, wl_n, wl_c, wc_n, wc_c, wr_rng, wr_var, wr_slc, wr_call, wr_idx, wr_bin, wr_lst, wr_tup, wr_comp, wr_bi, setS, getS, stillV, allV, Slot.still, Slot.all, Slot.froze, updV, fi_f, fi_t, as_b, cm_iEq, cm_iNotEq, cm_iLt, cm_iLtE, cm_iGt, cm_iGtE, cm_sEq, cm_sNotEq, cm_lEq, cm_lNe, cm_in_i, cm_in_s, bi_lenS, bi_lenL, bi_min2, bi_minL, bi_sum, bi_ord, bi_chr, bi_abs, bi_isint, bi_lower, bi_join, bi_str, tr_n, tr_b, tr_i, tr_s, tr_l, bn_Add, bn_Sub, bn_Mult, bn_FloorDiv, bn_Mod, bn_BitAnd, bn_BitXor, bn_LShift, bn_RShift, bn_s, bn_l, ix_s, ix_l, ix_t, slcK, partOf, sd_n, sd_b, sd_i, sd_s, sd_l, sd_t]; try simp only [tK_, bK_, nK_, whl_s, for_s, for_n, wb_nil, wb_asg, wb_asgS, wb_asgO, wb_asgR, wb_asg2, wb_swp, wb_aug, wb_augL, wb_app, wb_appS, wb_sti, wb_frz, wb_ifs, wb_whl, wb_for, wb_ret, wm_litT, wm_litF, wm_varT, wm_varF, wm_binT, wm_binF, wm_negT, wm_negF, wm_noT, wm_noF, wm_andT, wm_andF, wm_orT, wm_orF, wm_cmpT, wm_cmpF, wm_iteT, wm_iteF, wm_idxT, wm_idxF, wm_slcT, wm_slcF, wm_callT, wm_callF, wm_biT, wm_biF, wm_lstT, wm_lstF, wm_tupT, wm_tupF, wm_comp, wl_n, wl_c, wc_n, wc_c, wr_rng, wr_var, wr_slc, wr_call, wr_idx, wr_bin, wr_lst, wr_tup, wr_comp, wr_bi, setS, getS, stillV, allV, Slot.still, Slot.all, Slot.froze, updV, fi_f, fi_t, as_b, cm_iEq, cm_iNotEq, cm_iLt, cm_iLtE, cm_iGt, cm_iGtE, cm_sEq, cm_sNotEq, cm_lEq, cm_lNe, cm_in_i, cm_in_s, bi_lenS, bi_lenL, bi_min2, bi_minL, bi_sum, bi_ord, bi_chr, bi_abs, bi_isint, bi_lower, bi_join, bi_str, tr_n, tr_b, tr_i, tr_s, tr_l, bn_Add, bn_Sub, bn_Mult, bn_FloorDiv, bn_Mod, bn_BitAnd, bn_BitXor, bn_LShift, bn_RShift, bn_s, bn_l, ix_s, ix_l, ix_t, slcK, partOf, sd_n, sd_b, sd_i, sd_s, sd_l, sd_t, and_true, true_and, Bool.true_eq_false, Bool.false_eq_true, false_implies, true_implies, forall_const])
    simp only [Int.toNat_natCast, Int.reduceToNat, Int.toNat_one, Int.toNat_zero]
    refine ⟨.inl (by decide), c, rfl, ⟨Int.natCast_nonneg _, Int.natCast_nonneg _⟩, ⟨Int.natCast_nonneg _, by decide⟩, ?_⟩
    exact wh_in c _ n (i + 1) _ _ (by omega) h
theorem wh_out (s0 : Slot) : ∀ (l : List Nat) (acc : Nat) (s2 s3 : Slot), (∀ s2 s3, kn [s0, .imm (.int (numF l acc : Nat)), s2, s3]) → forK (bK Sp mT_whole_1 kr) 2 (l.map fun c => .str ⟨#[c]⟩) [s0, .imm (.int (acc : Nat)), s2, s3] kn
  | [], acc, s2, s3, h => h s2 s3
  | c :: l, acc, s2, s3, h => by
    show forK _ 2 (.str ⟨#[c]⟩ :: l.map fun c => .str ⟨#[c]⟩) _ kn
    unfold mT_whole_1
    (try dsimp only [tK_, bK_, nK_, whl_s, for_s, for_n, wb_nil, wb_asg, wb_asgS, wb_asgO, wb_asgR, wb_asg2, wb_swp, wb_aug, wb_augL, wb_app, wb_appS, wb_sti, wb_frz, wb_ifs, wb_whl, wb_for, wb_ret, wm_litT, wm_litF, wm_varT, wm_varF, wm_binT, wm_binF, wm_negT, wm_negF, wm_noT, wm_noF, wm_andT, wm_andF, wm_orT, wm_orF, wm_cmpT, wm_cmpF, wm_iteT, wm_iteF, wm_idxT, wm_idxF, wm_slcT, wm_slcF, wm_callT, wm_callF, wm_biT, wm_biF, wm_lstT, wm_lstF, wm_tupT, wm_tupF, wl_n, wl_c, wc_n, wc_c, wr_rng, wr_var, wr_slc, wr_call, wr_idx, wr_bin, wr_lst, wr_tup, wr_comp, wr_bi, setS, getS, stillV, allV, Slot.still, Slot.all, Slot.froze, updV, fi_f, fi_t, as_b, cm_iEq, cm_iNotEq, cm_iLt, cm_iLtE, cm_iGt, cm_iGtE, cm_sEq, cm_sNotEq, cm_lEq, cm_lNe, cm_in_i, cm_in_s, bi_lenS, bi_lenL, bi_min2, bi_minL, bi_sum, bi_ord, bi_chr, bi_abs, bi_isint, bi_lower, bi_join, bi_str, tr_n, tr_b, tr_i, tr_s, tr_l, bn_Add, bn_Sub, bn_Mult, bn_FloorDiv, bn_Mod, bn_BitAnd, bn_BitXor, bn_LShift, bn_RShift, bn_s, bn_l, ix_s, ix_l, ix_t, slcK, partOf, sd_n, sd_b, sd_i, sd_s, sd_l, sd_t]; try simp only [tK_, bK_, nK_, whl_s, for_s, for_n, wb_nil, wb_asg, wb_asgS, wb_asgO, wb_asgR, wb_asg2, wb_swp, wb_aug, wb_augL, wb_app, wb_appS, wb_sti, wb_frz, wb_ifs, wb_whl, wb_for, wb_ret, wm_litT, wm_litF, wm_varT, wm_varF, wm_binT, wm_binF, wm_negT, wm_negF, wm_noT, wm_noF, wm_andT, wm_andF, wm_orT, wm_orF, wm_cmpT, wm_cmpF, wm_iteT, wm_iteF, wm_idxT, wm_idxF, wm_slcT, wm_slcF, wm_callT, wm_callF, wm_biT, wm_biF, wm_lstT, wm_lstF, wm_tupT, wm_tupF, wm_comp, wl_n, wl_c, wc_n, wc_c, wr_rng, wr_var, wr_slc, wr_call, wr_idx, wr_bin, wr_lst, wr_tup, wr_comp, wr_bi, setS, getS, stillV, allV, Slot.still, Slot.all, Slot.froze, updV, fi_f, fi_t, as_b, cm_iEq, cm_iNotEq, cm_iLt, cm_iLtE, cm_iGt, cm_iGtE, cm_sEq, cm_sNotEq, cm_lEq, cm_lNe, cm_in_i, cm_in_s, bi_lenS, bi_lenL, bi_min2, bi_minL, bi_sum, bi_ord, bi_chr, bi_abs, bi_isint, bi_lower, bi_join, bi_str, tr_n, tr_b, tr_i, tr_s, tr_l, bn_Add, bn_Sub, bn_Mult, bn_FloorDiv, bn_Mod, bn_BitAnd, bn_BitXor, bn_LShift, bn_RShift, bn_s, bn_l, ix_s, ix_l, ix_t, slcK, partOf, sd_n, sd_b, sd_i, sd_s, sd_l, sd_t, and_true, true_and, Bool.true_eq_false, Bool.false_eq_true, false_implies, true_implies, forall_const])
    refine ⟨⟨by decide, by decide⟩, wh_in c _ 8 0 acc _ (by omega) fun s3 => ?_⟩
    rw [nK_]
    (try dsimp only [tK_, bK_, nK_, whl_s, for_s, for_n, wb_nil, wb_asg, wb_asgS, wb_asgO, wb_asgR, wb_asg2, wb_swp, wb_aug, wb_augL, wb_app, wb_appS, wb_sti, wb_frz, wb_ifs, wb_whl, wb_for, wb_ret, wm_litT, wm_litF, wm_varT, wm_varF, wm_binT, wm_binF, wm_negT, wm_negF, wm_noT, wm_noF, wm_andT, wm_andF, wm_orT, wm_orF, wm_cmpT, wm_cmpF, wm_iteT, wm_iteF, wm_idxT, wm_idxF, wm_slcT, wm_slcF, wm_callT, wm_callF, wm_biT, wm_biF, wm_lstT, wm_lstF, wm_tupT, wm_tupF, wl_n, wl_c, wc_n, wc_c, wr_rng, wr_var, wr_slc, wr_call, wr_idx, wr_bin, wr_lst, wr_tup, wr_comp, wr_bi, setS, getS, stillV, allV, Slot.still, Slot.all, Slot.froze, updV, fi_f, fi_t, as_b, cm_iEq, cm_iNotEq, cm_iLt, cm_iLtE, cm_iGt, cm_iGtE, cm_sEq, cm_sNotEq, cm_lEq, cm_lNe, cm_in_i, cm_in_s, bi_lenS, bi_lenL, bi_min2, bi_minL, bi_sum, bi_ord, bi_chr, bi_abs, bi_isint, bi_lower, bi_join, bi_str, tr_n, tr_b, tr_i, tr_s, tr_l, bn_Add, bn_Sub, bn_Mult, bn_FloorDiv, bn_Mod, bn_BitAnd, bn_BitXor, bn_LShift, bn_RShift, bn_s, bn_l, ix_s, ix_l, ix_t, slcK, partOf, sd_n, sd_b, sd_i, sd_s, sd_l, sd_t]; try simp only [tK_, bK_, nK_, whl_s, for_s, for_n, wb_nil, wb_asg, wb_asgS, wb_asgO, wb_asgR, wb_asg2, wb_swp, wb_aug, wb_augL, wb_app, wb_appS, wb_sti, wb_frz, wb_ifs, wb_whl, wb_for, wb_ret, wm_litT, wm_litF, wm_varT, wm_varF, wm_binT, wm_binF, wm_negT, wm_negF, wm_noT, wm_noF, wm_andT, wm_andF, wm_orT, wm_orF, wm_cmpT, wm_cmpF, wm_iteT, wm_iteF, wm_idxT, wm_idxF, wm_slcT, wm_slcF, wm_callT, wm_callF, wm_biT, wm_biF, wm_lstT, wm_lstF, wm_tupT, wm_tupF, wm_comp, wl_n, wl_c, wc_n, wc_c, wr_rng, wr_var, wr_slc, wr_call, wr_idx, wr_bin, wr_lst, wr_tup, wr_comp, wr_bi, setS, getS, stillV, allV, Slot.still, Slot.all, Slot.froze, updV, fi_f, fi_t, as_b, cm_iEq, cm_iNotEq, cm_iLt, cm_iLtE, cm_iGt, cm_iGtE, cm_sEq, cm_sNotEq, cm_lEq, cm_lNe, cm_in_i, cm_in_s, bi_lenS, bi_lenL, bi_min2, bi_minL, bi_sum, bi_ord, bi_chr, bi_abs, bi_isint, bi_lower, bi_join, bi_str, tr_n, tr_b, tr_i, tr_s, tr_l, bn_Add, bn_Sub, bn_Mult, bn_FloorDiv, bn_Mod, bn_BitAnd, bn_BitXor, bn_LShift, bn_RShift, bn_s, bn_l, ix_s, ix_l, ix_t, slcK, partOf, sd_n, sd_b, sd_i, sd_s, sd_l, sd_t, and_true, true_and, Bool.true_eq_false, Bool.false_eq_true, false_implies, true_implies, forall_const])
    exact wh_out _ l _ _ _ h
noncomputable def sumF (p : List Nat) : Nat := resF (8 * p.length) (numF p 0 <<< 32)
theorem whole_wp (hr : ∀ n p : Nat, p ≤ 200 → Sp "_law_rest" [.int (n : Nat), .int (p : Nat)] (.int (resF p n : Nat))) (l : List Nat) (hl : l.length ≤ 10) :
    wpB Sp mT_whole [.imm (S l), .un, .un, .un] (fun _ => False) (fun r => r = .int (sumF l : Nat)) := by
  unfold mT_whole
  (try dsimp only [tK_, bK_, nK_, whl_s, for_s, for_n, wb_nil, wb_asg, wb_asgS, wb_asgO, wb_asgR, wb_asg2, wb_swp, wb_aug, wb_augL, wb_app, wb_appS, wb_sti, wb_frz, wb_ifs, wb_whl, wb_for, wb_ret, wm_litT, wm_litF, wm_varT, wm_varF, wm_binT, wm_binF, wm_negT, wm_negF, wm_noT, wm_noF, wm_andT, wm_andF, wm_orT, wm_orF, wm_cmpT, wm_cmpF, wm_iteT, wm_iteF, wm_idxT, wm_idxF, wm_slcT, wm_slcF, wm_callT, wm_callF, wm_biT, wm_biF, wm_lstT, wm_lstF, wm_tupT, wm_tupF, wl_n, wl_c, wc_n, wc_c, wr_rng, wr_var, wr_slc, wr_call, wr_idx, wr_bin, wr_lst, wr_tup, wr_comp, wr_bi, setS, getS, stillV, allV, Slot.still, Slot.all, Slot.froze, updV, fi_f, fi_t, as_b, cm_iEq, cm_iNotEq, cm_iLt, cm_iLtE, cm_iGt, cm_iGtE, cm_sEq, cm_sNotEq, cm_lEq, cm_lNe, cm_in_i, cm_in_s, bi_lenS, bi_lenL, bi_min2, bi_minL, bi_sum, bi_ord, bi_chr, bi_abs, bi_isint, bi_lower, bi_join, bi_str, tr_n, tr_b, tr_i, tr_s, tr_l, bn_Add, bn_Sub, bn_Mult, bn_FloorDiv, bn_Mod, bn_BitAnd, bn_BitXor, bn_LShift, bn_RShift, bn_s, bn_l, ix_s, ix_l, ix_t, slcK, partOf, sd_n, sd_b, sd_i, sd_s, sd_l, sd_t]; try simp only [tK_, bK_, nK_, whl_s, for_s, for_n, wb_nil, wb_asg, wb_asgS, wb_asgO, wb_asgR, wb_asg2, wb_swp, wb_aug, wb_augL, wb_app, wb_appS, wb_sti, wb_frz, wb_ifs, wb_whl, wb_for, wb_ret, wm_litT, wm_litF, wm_varT, wm_varF, wm_binT, wm_binF, wm_negT, wm_negF, wm_noT, wm_noF, wm_andT, wm_andF, wm_orT, wm_orF, wm_cmpT, wm_cmpF, wm_iteT, wm_iteF, wm_idxT, wm_idxF, wm_slcT, wm_slcF, wm_callT, wm_callF, wm_biT, wm_biF, wm_lstT, wm_lstF, wm_tupT, wm_tupF, wm_comp, wl_n, wl_c, wc_n, wc_c, wr_rng, wr_var, wr_slc, wr_call, wr_idx, wr_bin, wr_lst, wr_tup, wr_comp, wr_bi, setS, getS, stillV, allV, Slot.still, Slot.all, Slot.froze, updV, fi_f, fi_t, as_b, cm_iEq, cm_iNotEq, cm_iLt, cm_iLtE, cm_iGt, cm_iGtE, cm_sEq, cm_sNotEq, cm_lEq, cm_lNe, cm_in_i, cm_in_s, bi_lenS, bi_lenL, bi_min2, bi_minL, bi_sum, bi_ord, bi_chr, bi_abs, bi_isint, bi_lower, bi_join, bi_str, tr_n, tr_b, tr_i, tr_s, tr_l, bn_Add, bn_Sub, bn_Mult, bn_FloorDiv, bn_Mod, bn_BitAnd, bn_BitXor, bn_LShift, bn_RShift, bn_s, bn_l, ix_s, ix_l, ix_t, slcK, partOf, sd_n, sd_b, sd_i, sd_s, sd_l, sd_t, and_true, true_and, Bool.true_eq_false, Bool.false_eq_true, false_implies, true_implies, forall_const])
  unfold itemsK
  refine ⟨by rw [sOf_len]; omega, ?_⟩
  rw [sOf_list]
  refine wh_out _ l 0 _ _ fun s2 s3 => ?_
  rw [nK_]
  (try dsimp only [tK_, bK_, nK_, whl_s, for_s, for_n, wb_nil, wb_asg, wb_asgS, wb_asgO, wb_asgR, wb_asg2, wb_swp, wb_aug, wb_augL, wb_app, wb_appS, wb_sti, wb_frz, wb_ifs, wb_whl, wb_for, wb_ret, wm_litT, wm_litF, wm_varT, wm_varF, wm_binT, wm_binF, wm_negT, wm_negF, wm_noT, wm_noF, wm_andT, wm_andF, wm_orT, wm_orF, wm_cmpT, wm_cmpF, wm_iteT, wm_iteF, wm_idxT, wm_idxF, wm_slcT, wm_slcF, wm_callT, wm_callF, wm_biT, wm_biF, wm_lstT, wm_lstF, wm_tupT, wm_tupF, wl_n, wl_c, wc_n, wc_c, wr_rng, wr_var, wr_slc, wr_call, wr_idx, wr_bin, wr_lst, wr_tup, wr_comp, wr_bi, setS, getS, stillV, allV, Slot.still, Slot.all, Slot.froze, updV, fi_f, fi_t, as_b, cm_iEq, cm_iNotEq, cm_iLt, cm_iLtE, cm_iGt, cm_iGtE, cm_sEq, cm_sNotEq, cm_lEq, cm_lNe, cm_in_i, cm_in_s, bi_lenS, bi_lenL, bi_min2, bi_minL, bi_sum, bi_ord, bi_chr, bi_abs, bi_isint, bi_lower, bi_join, bi_str, tr_n, tr_b, tr_i, tr_s, tr_l, bn_Add, bn_Sub, bn_Mult, bn_FloorDiv, bn_Mod, bn_BitAnd, bn_BitXor, bn_LShift, bn_RShift, bn_s, bn_l, ix_s, ix_l, ix_t, slcK, partOf, sd_n, sd_b, sd_i, sd_s, sd_l, sd_t]; try simp only [tK_, bK_, nK_, whl_s, for_s, for_n, wb_nil, wb_asg, wb_asgS, wb_asgO, wb_asgR, wb_asg2, wb_swp, wb_aug, wb_augL, wb_app, wb_appS, wb_sti, wb_frz, wb_ifs, wb_whl, wb_for, wb_ret, wm_litT, wm_litF, wm_varT, wm_varF, wm_binT, wm_binF, wm_negT, wm_negF, wm_noT, wm_noF, wm_andT, wm_andF, wm_orT, wm_orF, wm_cmpT, wm_cmpF, wm_iteT, wm_iteF, wm_idxT, wm_idxF, wm_slcT, wm_slcF, wm_callT, wm_callF, wm_biT, wm_biF, wm_lstT, wm_lstF, wm_tupT, wm_tupF, wm_comp, wl_n, wl_c, wc_n, wc_c, wr_rng, wr_var, wr_slc, wr_call, wr_idx, wr_bin, wr_lst, wr_tup, wr_comp, wr_bi, setS, getS, stillV, allV, Slot.still, Slot.all, Slot.froze, updV, fi_f, fi_t, as_b, cm_iEq, cm_iNotEq, cm_iLt, cm_iLtE, cm_iGt, cm_iGtE, cm_sEq, cm_sNotEq, cm_lEq, cm_lNe, cm_in_i, cm_in_s, bi_lenS, bi_lenL, bi_min2, bi_minL, bi_sum, bi_ord, bi_chr, bi_abs, bi_isint, bi_lower, bi_join, bi_str, tr_n, tr_b, tr_i, tr_s, tr_l, bn_Add, bn_Sub, bn_Mult, bn_FloorDiv, bn_Mod, bn_BitAnd, bn_BitXor, bn_LShift, bn_RShift, bn_s, bn_l, ix_s, ix_l, ix_t, slcK, partOf, sd_n, sd_b, sd_i, sd_s, sd_l, sd_t, and_true, true_and, Bool.true_eq_false, Bool.false_eq_true, false_implies, true_implies, forall_const])
  rw [sOf_size]
  have e8 : (8 : Int) * (l.length : Int) = ((8 * l.length : Nat) : Int) := by omega
  rw [e8]
  simp only [Int.toNat_natCast, Int.reduceToNat, Int.toNat_one, Int.toNat_zero]
  have hn := numF_lt l 0
  have hn2 : numF l 0 < 2 ^ 1000 := by
    refine Nat.lt_trans hn ?_
    rw [Nat.zero_add, Nat.mul_one]
    exact Nat.lt_of_le_of_lt (Nat.pow_le_pow_right (by decide) hl) (by decide +kernel)
  refine ⟨⟨Int.natCast_nonneg _, by decide, by decide, hn2⟩, by rw [sOf_len]; omega, .inl (by decide), _, hr _ _ (by omega), ?_⟩
  rfl
end
end Mine
end V7

section V8
open PySem PySem.W PyProof.Rows PySem.Calls PyProof.V PySem.Spec PySem.SeqAt
namespace Mine
/-! # Sums -/
theorem bit_le (a : Nat) : a &&& 1 ≤ 1 := by rcases and1_cases a with h | h <;> omega
theorem bit_lt2 (a : Nat) : a &&& 1 < 2 ^ 1 := by have := bit_le a; omega
theorem addx {x k y : Nat} (h : x < 2 ^ k) : x + (y <<< k) = x ^^^ (y <<< k) := by
  rw [Nat.add_comm, Nat.shiftLeft_add_eq_or_of_lt h]
  apply Nat.eq_of_testBit_eq
  intro j
  rw [Nat.testBit_or, Nat.testBit_xor, Nat.testBit_shiftLeft]
  by_cases hj : k ≤ j
  · rw [Nat.testBit_lt_two_pow (Nat.lt_of_lt_of_le h (Nat.pow_le_pow_right (by decide) hj))]
    simp
  · simp [hj]
theorem lin_zero {f : Nat → Nat} (h : Lin f) : f 0 = 0 := by
  have := h 0 0
  rw [Nat.xor_self, Nat.xor_self] at this
  exact this
theorem lin_eq {f g : Nat → Nat} (hf : Lin f) (hg : Lin g) (N : Nat) (hb : ∀ i, i < N → f (2 ^ i) = g (2 ^ i)) : ∀ k, k ≤ N → ∀ n, n < 2 ^ k → f n = g n
  | 0, _, n, hn => by
    have : n = 0 := by simpa using hn
    subst this
    rw [lin_zero hf, lin_zero hg]
  | k + 1, hk, n, hn => by
    rcases Nat.lt_or_ge n (2 ^ k) with h | h
    · exact lin_eq hf hg N hb k (by omega) n h
    · have h2 : n - 2 ^ k < 2 ^ k := by rw [Nat.pow_succ] at hn; omega
      have e : n = (n - 2 ^ k) ^^^ (2 ^ k) := by
        have := addx (y := 1) h2
        rw [Nat.one_shiftLeft] at this
        rw [← this]; omega
      rw [e, hf, hg, lin_eq hf hg N hb k (by omega) _ h2, hb k (by omega)]
theorem toL_lin (a b : Nat) : ∀ k i x y, toL (a ^^^ b) k i (x ^^^ y) = toL a k i x ^^^ toL b k i y
  | 0, _, _, _ => rfl
  | k + 1, i, x, y => by
    show toL (a ^^^ b) k (i + 1) (2 * (x ^^^ y) + (((a ^^^ b) >>> i) &&& 1)) = toL a k (i + 1) (2 * x + ((a >>> i) &&& 1)) ^^^ toL b k (i + 1) (2 * y + ((b >>> i) &&& 1))
    rw [← toL_lin a b k (i + 1)]
    congr 1
    have e : ∀ z n : Nat, 2 * z + ((n >>> i) &&& 1) = ((n >>> i) &&& 1) ^^^ (z <<< 1) := by
      intro z n
      rw [← addx (bit_lt2 _), Nat.shiftLeft_eq]; omega
    rw [e, e, e, xor4, Nat.shiftRight_xor_distrib, and1, Nat.shiftLeft_xor_distrib]
theorem mirF_lin : Lin mirF := by
  intro a b
  have := toL_lin a b 32 0 0 0
  rw [Nat.xor_self] at this
  exact this
noncomputable def onF (p : Nat) (m : Nat) : Nat := resF p (mirF m <<< p)
theorem onF_lin (p : Nat) : Lin (onF p) := by
  intro a b
  unfold onF
  rw [mirF_lin, Nat.shiftLeft_xor_distrib, resF_lin]
theorem g8_lt {c : Nat} (h : c < 2 ^ 32) : g8 c < 2 ^ 32 := by
  have key : ∀ c, c < 2 ^ 32 → st1 c < 2 ^ 32 := by
    intro c h
    have h1 : c >>> 1 < 2 ^ 32 := by rw [Nat.shiftRight_eq_div_pow]; omega
    unfold st1
    split
    · exact h1
    · exact Nat.xor_lt_two_pow h1 (by decide)
  have : ∀ n c, c < 2 ^ 32 → itr st1 n c < 2 ^ 32 := by
    intro n
    induction n with
    | zero => exact fun c h => h
    | succ n ih => exact fun c h => ih _ (key c h)
  exact this 8 c h
/-- a mark, one letter on -/
theorem mk1 {m : Nat} (h : m < 2 ^ 32) : mirF (g8 m) = onF 8 m :=
  lin_eq (f := fun m => mirF (g8 m)) (fun a b => by show mirF (g8 (a ^^^ b)) = _; rw [g8_lin, mirF_lin]) (onF_lin 8) 32 (by decide +kernel) 32 (Nat.le_refl _) m h
/-- the register behind i letters -/
noncomputable def regA (m : Nat) : List Nat → Nat
  | [] => m
  | c :: l => regA (g8 (m ^^^ c)) l
theorem regs_get : ∀ (l : List Nat) (m i : Nat), i < l.length → (regs m l).getD i 0 = regA m (l.take (i + 1))
  | [], _, _, h => by cases h
  | c :: l, m, 0, _ => rfl
  | c :: l, m, i + 1, h => by
    show (regs (g8 (m ^^^ c)) l).getD i 0 = regA (g8 (m ^^^ c)) (l.take (i + 1))
    exact regs_get l _ i (by simpa using h)
theorem marks_get (l : List Nat) (i : Nat) (h : i ≤ l.length) : (marksF l).getD i 0 = mirF (regA 4294967295 (l.take i)) := by
  unfold marksF
  cases i with
  | zero => rfl
  | succ i =>
    have e := regs_get l 4294967295 i (by omega)
    rw [← e]
    show ((regs 4294967295 l).map mirF).getD i 0 = _
    rw [List.getD_eq_getElem?_getD, List.getElem?_map, List.getD_eq_getElem?_getD, List.getElem?_eq_getElem (by rw [regs_len]; omega)]
    rfl
theorem regA_app : ∀ (a b : List Nat) (m : Nat), regA m (a ++ b) = regA (regA m a) b
  | [], _, _ => rfl
  | c :: a, b, m => regA_app a b _
theorem regA_lt : ∀ (l : List Nat) (m : Nat), m < 2 ^ 32 → (∀ c ∈ l, c < 2 ^ 32) → regA m l < 2 ^ 32
  | [], _, h, _ => h
  | c :: l, m, h, hl => regA_lt l _ (g8_lt (Nat.xor_lt_two_pow h (hl c (.head _)))) fun d hd => hl d (.tail _ hd)
theorem mirF_lt (m : Nat) : mirF m < 2 ^ 32 := by
  have := toL_lt m 32 0 0
  unfold mirF
  omega
theorem marks_len (l : List Nat) : (marksF l).length = l.length + 1 := by
  unfold marksF
  rw [List.length_cons, List.length_map, regs_len]
/-! # A stretch's sum -/
noncomputable def zF (p : List Nat) : Nat := mirF (regA 0 p)
noncomputable def pw (n m : Nat) : Nat := itr g8 n m
theorem pw_lin (n : Nat) : Lin (pw n) := itr_lin g8_lin n
theorem pw_lt : ∀ (n m : Nat), m < 2 ^ 32 → pw n m < 2 ^ 32
  | 0, _, h => h
  | n + 1, m, h => pw_lt n (g8 m) (g8_lt h)
theorem pw_succ : ∀ (n m : Nat), pw (n + 1) m = g8 (pw n m)
  | 0, _ => rfl
  | n + 1, m => pw_succ n (g8 m)
theorem regA_split : ∀ (q : List Nat) (m m' : Nat), regA (m ^^^ m') q = pw q.length m ^^^ regA m' q
  | [], _, _ => rfl
  | c :: q, m, m' => by
    show regA (g8 ((m ^^^ m') ^^^ c)) q = pw (q.length + 1) m ^^^ regA (g8 (m' ^^^ c)) q
    rw [Nat.xor_assoc, g8_lin, regA_split q]
    rfl
/-- a mark's way on, k letters -/
theorem on_mark {m : Nat} (h : m < 2 ^ 32) (k : Nat) : resF 8 (mirF (pw k m) <<< 8) = mirF (pw (k + 1) m) := by
  rw [pw_succ, mk1 (pw_lt k m h)]
  rfl
theorem row_is {m : Nat} (q : List Nat) : mirF (pw q.length m) ^^^ mirF (regA m q) = zF q := by
  have h := regA_split q m 0
  rw [Nat.xor_zero] at h
  rw [h, mirF_lin, ← Nat.xor_assoc, Nat.xor_self, Nat.zero_xor]
  rfl

/-! ## a whole word's sum -/
theorem resF_shift : ∀ (p q x : Nat), resF (p + q) (x <<< q) = resF q (resF p x <<< q)
  | 0, q, x => by rw [Nat.zero_add]; rfl
  | p + 1, q, x => by
    have e1 : p + 1 + q = (p + q) + 1 := by omega
    rw [e1]
    show resF (p + q) (if ((x <<< q) >>> (p + q + 32)) &&& 1 = 0 then x <<< q else (x <<< q) ^^^ (4374732215 <<< (p + q))) = resF q (resF p (if (x >>> (p + 32)) &&& 1 = 0 then x else x ^^^ (4374732215 <<< p)) <<< q)
    have e2 : (x <<< q) >>> (p + q + 32) = x >>> (p + 32) := by
      rw [show p + q + 32 = q + (p + 32) by omega, Nat.shiftRight_add, Nat.shiftLeft_shiftRight]
    rw [e2, ← resF_shift p q]
    congr 1
    split
    · rfl
    · rw [Nat.shiftLeft_xor_distrib, ← Nat.shiftLeft_add]
theorem resF_small : ∀ (p q n : Nat), n < 2 ^ (32 + q) → resF (p + q) n = resF q n
  | 0, q, n, _ => by rw [Nat.zero_add]
  | p + 1, q, n, h => by
    rw [show p + 1 + q = (p + q) + 1 by omega]
    show resF (p + q) (if (n >>> (p + q + 32)) &&& 1 = 0 then n else n ^^^ (4374732215 <<< (p + q))) = _
    have e : n >>> (p + q + 32) = 0 := by
      rw [Nat.shiftRight_eq_div_pow]
      exact Nat.div_eq_of_lt (Nat.lt_of_lt_of_le h (Nat.pow_le_pow_right (by decide) (by omega)))
    rw [e, if_pos (by decide)]
    exact resF_small p q n h
theorem toL_acc (r : Nat) : ∀ (k i acc : Nat), toL r k i acc = toL r k i 0 ^^^ (acc <<< k)
  | 0, _, acc => by rw [toL, toL, Nat.zero_xor]; rfl
  | k + 1, i, acc => by
    have e : ∀ z : Nat, 2 * z + ((r >>> i) &&& 1) = ((r >>> i) &&& 1) ^^^ (z <<< 1) := fun z => by
      rw [← addx (bit_lt2 _), Nat.shiftLeft_eq]; omega
    rw [toL, toL, toL_acc r k (i + 1) (2 * acc + _), toL_acc r k (i + 1) (2 * 0 + _), e, e, Nat.shiftLeft_xor_distrib, Nat.shiftLeft_xor_distrib, Nat.zero_shiftLeft, Nat.zero_shiftLeft, Nat.xor_zero, ← Nat.xor_assoc, ← Nat.shiftLeft_add, Nat.add_comm 1 k]
theorem numF_app : ∀ (l : List Nat) (c acc : Nat), numF (l ++ [c]) acc = toL c 8 0 (numF l acc)
  | [], _, _ => rfl
  | _ :: l, c, acc => numF_app l c _
noncomputable def A8' : List Nat := [97, 65, 99, 67, 105, 73, 107, 75]
theorem let_bits : ∀ c ∈ A8', c < 2 ^ 32 ∧ toL c 8 0 0 < 2 ^ 8 ∧ mirF c <<< 8 = toL c 8 0 0 <<< 32 := by decide +kernel
theorem regA_snoc (l : List Nat) (c m : Nat) : regA m (l ++ [c]) = g8 (regA m l ^^^ c) := by rw [regA_app]; rfl
theorem onF_def (p m : Nat) : onF p m = resF p (mirF m <<< p) := rfl
theorem whole_is (n : Nat) : ∀ l : List Nat, l.length = n → (∀ c ∈ l, c ∈ A8') → sumF l = zF l := by
  induction n with
  | zero =>
    intro l h _
    rw [List.length_eq_zero_iff.mp h]
    decide +kernel
  | succ n ih =>
    intro l h hl
    obtain ⟨p, c, rfl⟩ : ∃ p c, l = p ++ [c] := by
      rcases List.eq_nil_or_concat l with e | ⟨p, c, e⟩
      · rw [e] at h; cases h
      · exact ⟨p, c, by rw [e, List.concat_eq_append]⟩
    have hp : p.length = n := by rw [List.length_append] at h; simpa using h
    have hpA : ∀ c ∈ p, c ∈ A8' := fun c hc => hl c (List.mem_append_left _ hc)
    obtain ⟨b1, b2, b3⟩ := let_bits c (hl c (List.mem_append_right _ (.head _)))
    have ih := ih p hp hpA
    have hr : regA 0 p < 2 ^ 32 := regA_lt p 0 (by decide) fun c hc => (let_bits c (hpA c hc)).1
    have e0 : zF (p ++ [c]) = onF 8 (regA 0 p) ^^^ onF 8 c := by
      unfold zF
      rw [regA_snoc, mk1 (Nat.xor_lt_two_pow hr b1), onF_lin]
    have e1 : sumF (p ++ [c]) = resF (8 * p.length + 8) ((toL c 8 0 0 <<< 32) ^^^ ((numF p 0 <<< 8) <<< 32)) := by
      unfold sumF
      rw [numF_app, toL_acc, Nat.shiftLeft_xor_distrib, List.length_append, List.length_singleton, Nat.mul_add, Nat.mul_one]
    have e2 : resF (8 * p.length + 8) ((numF p 0 <<< 8) <<< 32) = onF 8 (regA 0 p) := by
      rw [← Nat.shiftLeft_add, show 8 + 32 = 32 + 8 from rfl, Nat.shiftLeft_add, resF_shift, onF_def]
      exact congrArg (fun z => resF 8 (z <<< 8)) ih
    have e3 : resF (8 * p.length + 8) (toL c 8 0 0 <<< 32) = onF 8 c := by
      have hs : toL c 8 0 0 <<< 32 < 2 ^ (32 + 8) := by
        rw [Nat.shiftLeft_eq]
        exact Nat.lt_of_lt_of_le (Nat.mul_lt_mul_of_pos_right b2 (by decide)) (by decide)
      rw [resF_small _ _ _ hs, onF_def, b3]
    rw [e0, e1, resF_lin, e2, e3, Nat.xor_comm]

/-! ## a sum tells its stretch -/
theorem mir_mir {m : Nat} (h : m < 2 ^ 32) : mirF (mirF m) = m :=
  lin_eq (f := fun m => mirF (mirF m)) (g := fun m => m) (fun a b => by show mirF (mirF (a ^^^ b)) = _; rw [mirF_lin, mirF_lin]) (fun _ _ => rfl) 32 (by decide +kernel) 32 (Nat.le_refl _) m h
theorem st1_nz {c : Nat} (h : c < 2 ^ 32) (e : st1 c = 0) : c = 0 := by
  unfold st1 at e
  have h1 : c >>> 1 < 2 ^ 31 := by rw [Nat.shiftRight_eq_div_pow]; omega
  split at e
  · rename_i q
    rw [Nat.and_one_is_mod] at q
    rw [Nat.shiftRight_eq_div_pow] at e
    omega
  · exfalso
    have : c >>> 1 = 3988292384 := by
      have := congrArg (· ^^^ 3988292384) e
      simpa [Nat.xor_assoc] using this
    omega
theorem st1_lt {c : Nat} (h : c < 2 ^ 32) : st1 c < 2 ^ 32 := by
  have h1 : c >>> 1 < 2 ^ 32 := by rw [Nat.shiftRight_eq_div_pow]; omega
  unfold st1
  split
  · exact h1
  · exact Nat.xor_lt_two_pow h1 (by decide)
theorem itr_nz : ∀ (n c : Nat), c < 2 ^ 32 → itr st1 n c = 0 → c = 0
  | 0, _, _, e => e
  | n + 1, c, h, e => st1_nz h (itr_nz n (st1 c) (st1_lt h) e)
theorem g8_inj {a b : Nat} (ha : a < 2 ^ 32) (hb : b < 2 ^ 32) (e : g8 a = g8 b) : a = b := by
  have : a ^^^ b = 0 := itr_nz 8 _ (Nat.xor_lt_two_pow ha hb) (by show g8 (a ^^^ b) = 0; rw [g8_lin, e, Nat.xor_self])
  have := congrArg (· ^^^ b) this
  simpa [Nat.xor_assoc] using this
/-- what two letters can differ by -/
noncomputable def E8 : List Nat := [0, 2, 8, 10, 32, 34, 40, 42]
/-- the registers that come to such a difference, one letter on -/
noncomputable def I8 : List Nat := E8.map fun d => itr (fun x => if x &&& 2147483648 = 0 then x <<< 1 else ((x ^^^ 3988292384) <<< 1) + 1) 8 d
theorem I8_is : ∀ d ∈ E8, ∃ x ∈ I8, x < 2 ^ 32 ∧ g8 x = d := by decide +kernel
theorem E8_is : ∀ c ∈ A8', ∀ d ∈ A8', c ^^^ d ∈ E8 ∧ c < 2 ^ 32 := by decide +kernel
theorem E8_lt : ∀ d ∈ E8, d < 2 ^ 32 := by decide
noncomputable def S64 : List Nat := E8.flatMap fun d => I8.map fun x => x ^^^ d
noncomputable def three_ (a : Nat) : Bool := E8.all fun b => E8.all fun c => !S64.contains (g8 (g8 (g8 a ^^^ b) ^^^ c)) || (a == 0 && b == 0 && c == 0)
theorem three_0 : three_ 0 = true := by kernel_rfl
theorem three_2 : three_ 2 = true := by kernel_rfl
theorem three_8 : three_ 8 = true := by kernel_rfl
theorem three_10 : three_ 10 = true := by kernel_rfl
theorem three_32 : three_ 32 = true := by kernel_rfl
theorem three_34 : three_ 34 = true := by kernel_rfl
theorem three_40 : three_ 40 = true := by kernel_rfl
theorem three_42 : three_ 42 = true := by kernel_rfl
theorem three_all : ∀ a ∈ E8, three_ a = true := by
  intro a h
  unfold E8 at h
  rcases List.mem_cons.mp h with rfl | h
  · exact three_0
  rcases List.mem_cons.mp h with rfl | h
  · exact three_2
  rcases List.mem_cons.mp h with rfl | h
  · exact three_8
  rcases List.mem_cons.mp h with rfl | h
  · exact three_10
  rcases List.mem_cons.mp h with rfl | h
  · exact three_32
  rcases List.mem_cons.mp h with rfl | h
  · exact three_34
  rcases List.mem_cons.mp h with rfl | h
  · exact three_40
  rcases List.mem_cons.mp h with rfl | h
  · exact three_42
  cases h
theorem three (a : Nat) (ha : a ∈ E8) (b : Nat) (hb : b ∈ E8) (c : Nat) (hc : c ∈ E8) (h : S64.contains (g8 (g8 (g8 a ^^^ b) ^^^ c)) = true) : a = 0 ∧ b = 0 ∧ c = 0 := by
  have q := List.all_eq_true.mp (List.all_eq_true.mp (three_all a ha) b hb) c hc
  rw [h] at q
  simpa [and_assoc] using q
theorem one8 : ∀ x ∈ I8, x ∈ E8 → x = 0 := by decide +kernel
theorem five {a b c d e : Nat} (ha : a ∈ E8) (hb : b ∈ E8) (hc : c ∈ E8) (hd : d ∈ E8) (he : e ∈ E8) (h : regA 0 [a, b, c, d, e] = 0) : a = 0 ∧ b = 0 ∧ c = 0 ∧ d = 0 ∧ e = 0 := by
  have h : g8 (g8 (g8 (g8 (g8 (0 ^^^ a) ^^^ b) ^^^ c) ^^^ d) ^^^ e) = 0 := h
  rw [Nat.zero_xor] at h
  have l1 := g8_lt (E8_lt a ha)
  have l2 := g8_lt (Nat.xor_lt_two_pow l1 (E8_lt b hb))
  have l3 := g8_lt (Nat.xor_lt_two_pow l2 (E8_lt c hc))
  have l4 := g8_lt (Nat.xor_lt_two_pow l3 (E8_lt d hd))
  have z : ∀ x y : Nat, x ^^^ y = 0 → x = y := fun x y h => by have := congrArg (· ^^^ y) h; simpa [Nat.xor_assoc] using this
  have h4 := z _ _ (itr_nz 8 _ (Nat.xor_lt_two_pow l4 (E8_lt e he)) h)
  obtain ⟨x, hx, lx, gx⟩ := I8_is e he
  rw [← gx] at h4
  have h5 := g8_inj (Nat.xor_lt_two_pow l3 (E8_lt d hd)) lx h4
  have h6 : g8 (g8 (g8 a ^^^ b) ^^^ c) = x ^^^ d := by
    have := congrArg (· ^^^ d) h5
    simpa [Nat.xor_assoc] using this
  obtain ⟨rfl, rfl, rfl⟩ := three a ha b hb c hc (by
    rw [List.contains_iff_mem, h6]
    exact List.mem_flatMap.mpr ⟨d, hd, List.mem_map.mpr ⟨x, hx, rfl⟩⟩)
  have h7 : d = x := by
    have e0 : g8 (g8 (g8 0 ^^^ 0) ^^^ 0) = 0 := by decide +kernel
    rw [e0] at h5
    simpa using h5
  subst h7
  have hd0 := one8 d hx hd
  subst hd0
  refine ⟨rfl, rfl, rfl, rfl, ?_⟩
  rw [← gx]
  decide +kernel
theorem regA_xor : ∀ (p q : List Nat) (m m' : Nat), p.length = q.length → regA m p ^^^ regA m' q = regA (m ^^^ m') (List.zipWith (· ^^^ ·) p q)
  | [], [], _, _, _ => rfl
  | [], _ :: _, _, _, h => by cases h
  | _ :: _, [], _, _, h => by cases h
  | c :: p, d :: q, m, m', h => by
    show regA (g8 (m ^^^ c)) p ^^^ regA (g8 (m' ^^^ d)) q = regA (g8 ((m ^^^ m') ^^^ (c ^^^ d))) (List.zipWith (· ^^^ ·) p q)
    rw [regA_xor p q _ _ (by simpa using h), ← g8_lin, xor4]
theorem regA_pad (l : List Nat) : regA 0 (0 :: l) = regA 0 l := by
  show regA (g8 (0 ^^^ 0)) l = _
  rw [show g8 (0 ^^^ 0) = 0 by decide +kernel]
theorem all0 {l : List Nat} (hl : ∀ d ∈ l, d ∈ E8) (h5 : l.length ≤ 5) (h : regA 0 l = 0) : ∀ d ∈ l, d = 0 := by
  have z0 : (0 : Nat) ∈ E8 := .head _
  have key : ∀ (k : Nat) (l : List Nat), k + l.length = 5 → (∀ d ∈ l, d ∈ E8) → regA 0 l = 0 → ∀ d ∈ l, d = 0 := by
    intro k
    induction k with
    | zero =>
      intro l hk hl h
      rcases l with _ | ⟨a, _ | ⟨b, _ | ⟨c, _ | ⟨d, _ | ⟨e, _ | ⟨f, r⟩⟩⟩⟩⟩⟩ <;> simp only [List.length_cons, List.length_nil] at hk <;> first | omega | skip
      have q := five (hl a (by simp)) (hl b (by simp)) (hl c (by simp)) (hl d (by simp)) (hl e (by simp)) h
      intro x hx
      simp only [List.mem_cons, List.not_mem_nil, or_false] at hx
      rcases hx with rfl | rfl | rfl | rfl | rfl
      · exact q.1
      · exact q.2.1
      · exact q.2.2.1
      · exact q.2.2.2.1
      · exact q.2.2.2.2
    | succ k ih =>
      intro l hk hl h d hd
      exact ih (0 :: l) (by rw [List.length_cons]; omega) (fun d hd => (List.mem_cons.mp hd).elim (fun e => e ▸ z0) (hl d)) (by rw [regA_pad]; exact h) d (.tail _ hd)
  exact key (5 - l.length) l (by omega) hl h
theorem zip_eq : ∀ (p q : List Nat), p.length = q.length → (∀ d ∈ List.zipWith (· ^^^ ·) p q, d = 0) → p = q
  | [], [], _, _ => rfl
  | [], _ :: _, h, _ => by cases h
  | _ :: _, [], h, _ => by cases h
  | c :: p, d :: q, h, hz => by
    have h0 : c ^^^ d = 0 := hz _ (.head _)
    have e : c = d := by have := congrArg (· ^^^ d) h0; simpa [Nat.xor_assoc] using this
    rw [e, zip_eq p q (by simpa using h) fun x hx => hz x (.tail _ hx)]
theorem zip_E8 : ∀ (p q : List Nat), (∀ c ∈ p, c ∈ A8') → (∀ c ∈ q, c ∈ A8') → ∀ d ∈ List.zipWith (· ^^^ ·) p q, d ∈ E8
  | [], _, _, _, d, hd => by cases hd
  | _ :: _, [], _, _, d, hd => by cases hd
  | c :: p, e :: q, hp, hq, d, hd => by
    rcases List.mem_cons.mp hd with rfl | hd
    · exact (E8_is c (hp c (.head _)) e (hq e (.head _))).1
    · exact zip_E8 p q (fun c h => hp c (.tail _ h)) (fun c h => hq c (.tail _ h)) d hd
theorem zF_inj {p q : List Nat} (hp : ∀ c ∈ p, c ∈ A8') (hq : ∀ c ∈ q, c ∈ A8') (hl : p.length = q.length) (h5 : p.length ≤ 5) : zF p = zF q ↔ p = q := by
  refine ⟨fun h => ?_, fun h => by rw [h]⟩
  have b : ∀ l : List Nat, (∀ c ∈ l, c ∈ A8') → regA 0 l < 2 ^ 32 := fun l hl => regA_lt l 0 (by decide) fun c hc => (let_bits c (hl c hc)).1
  have e : regA 0 p = regA 0 q := by rw [← mir_mir (b p hp), ← mir_mir (b q hq)]; exact congrArg mirF h
  have h0 : regA 0 (List.zipWith (· ^^^ ·) p q) = 0 := by
    have := regA_xor p q 0 0 hl
    rw [e, Nat.xor_self, Nat.xor_self] at this
    exact this.symm
  refine zip_eq p q hl (all0 (zip_E8 p q hp hq) ?_ h0)
  rw [List.length_zipWith]; omega
end Mine
end V8

section V9
open PySem PySem.W PyProof.Rows PySem.Calls PyProof.V PySem.Spec PySem.SeqAt
namespace Mine
theorem sOf_cat (x y : List Nat) : sOf x ++ sOf y = sOf (x ++ y) := by
  have : (sOf x ++ sOf y).cps = (sOf (x ++ y)).cps := by
    show (sOf x).cps ++ (sOf y).cps = _
    simp [sOf]
  cases h : sOf x ++ sOf y
  cases h2 : sOf (x ++ y)
  rw [h, h2] at this
  exact congrArg _ this
noncomputable def A8 : List Nat := [97, 65, 99, 67, 105, 73, 107, 75]
noncomputable def B8 : List Nat := [65, 97, 67, 99, 73, 105, 75, 107]
noncomputable def wPart (r k : Nat) : List Nat := if r ≠ 3 then [A8.getD k 0] else []
noncomputable def bPart (r k l : Nat) : List Nat := (if r < 2 ∨ r = 3 then [A8.getD k 0] else []) ++ ((if r = 4 then [B8.getD k 0] else []) ++ (if r = 5 then [A8.getD l 0] else []))
noncomputable def kR (x : Int) : Nat := (x.fmod 6).toNat
noncomputable def kK (x : Int) : Nat := ((x.fdiv 6).fmod 8).toNat
noncomputable def kL (x : Int) : Nat := ((x.fdiv 48).fmod 8).toNat
noncomputable def wordF (xs : List Int) : List Nat := xs.flatMap fun x => wPart (kR x) (kK x)
noncomputable def bentF (xs : List Int) : List Nat := xs.flatMap fun x => bPart (kR x) (kK x) (kL x)
theorem fm_nat (a b : Int) (h : 0 < b) : a.fmod b = ((a.fmod b).toNat : Int) := by
  have := Int.fmod_nonneg_of_pos a h
  omega
theorem fm_lt (a : Int) (b : Nat) (h : 0 < b) : (a.fmod b).toNat < b := by
  have h1 := Int.fmod_nonneg_of_pos a (b := b) (by omega)
  have h2 := Int.fmod_lt_of_pos a (b := b) (by omega)
  omega
theorem setS_get : ∀ (ρ : Ev) (i : Nat), setS ρ i (getS ρ i) = ρ
  | [], _ => rfl
  | _ :: _, 0 => rfl
  | x :: r, i + 1 => by show x :: setS r i (getS r i) = _; rw [setS_get r i]
theorem idx_lit (L : List Nat) (k : Nat) (h : k < L.length) : pyIdx L (k : Int) = some (L.getD k 0) := by
  rw [idx_nat L k h, List.getD_eq_getElem?_getD, List.getElem?_eq_getElem h, Option.getD_some]
section
variable {Sp : String → List PyData → PyData → Prop} {kr : PyData → Prop} {kn : Ev → Prop}
theorem aug_if {t e : MX} {i : Nat} {rs : List MS} {ρ : Ev} (c : Bool) (w x : List Nat) (ht : ∀ k : Bool → Prop, k c → wpT Sp t (allV ρ) k) (hs : getS ρ i = .imm (S w)) (he : c = true → ∀ k : PyData → Prop, k (S x) → wpE Sp e (allV ρ) k)
    (hl : w.length + x.length ≤ 2 ^ 20) (next : wpB Sp rs (setS ρ i (.imm (S (w ++ if c then x else [])))) kn kr) : wpB Sp (.ifs t [.aug i .Add e] [] :: rs) ρ kn kr := by
  rw [wb_ifs]
  refine ht _ ⟨fun hc => ?_, fun hc => ?_⟩
  · subst hc
    have hv : stillV ρ i = some (S w) := by show (getS ρ i).still = _; rw [hs]; rfl
    rw [wb_aug, hv]
    refine he rfl _ ⟨⟨rfl, rfl⟩, rfl, by rw [sOf_len, sOf_len]; omega, ?_⟩
    show wpB Sp [] _ _ _
    rw [wb_nil, nK_, sOf_cat]
    exact next
  · subst hc
    rw [wb_nil, nK_]
    rw [if_neg (by decide), List.append_nil, ← hs, setS_get] at next
    exact next
theorem words_loop : ∀ (xs : List Int) (w b : List Nat) (s0 s3 s4 : Slot), w.length + 3 * xs.length ≤ 1000 → b.length + 3 * xs.length ≤ 1000 → (∀ s3 s4, kn [s0, .imm (S (w ++ wordF xs)), .imm (S (b ++ bentF xs)), s3, s4]) →
    forK (bK Sp mT_words_1 kr) 3 (intsOf xs) [s0, .imm (S w), .imm (S b), s3, s4] kn
  | [], w, b, s0, s3, s4, _, _, h => by
    have := h s3 s4
    unfold wordF bentF at this
    rw [List.flatMap_nil, List.flatMap_nil, List.append_nil, List.append_nil] at this
    exact this
  | x :: xs, w, b, s0, s3, s4, h1, h2, h => by
    show forK _ 3 (.int x :: intsOf xs) _ kn
    rw [List.length_cons] at h1 h2
    have hr : x.fmod 6 = (kR x : Int) := fm_nat x 6 (by decide)
    have hk : (x.fdiv 6).fmod 8 = (kK x : Int) := fm_nat (x.fdiv 6) 8 (by decide)
    have hl : (x.fdiv 48).fmod 8 = (kL x : Int) := fm_nat (x.fdiv 48) 8 (by decide)
    have hk8 : kK x < 8 := fm_lt (x.fdiv 6) 8 (by decide)
    have hl8 : kL x < 8 := fm_lt (x.fdiv 48) 8 (by decide)
    have i1 : pyIdx [97, 65, 99, 67, 105, 73, 107, 75] ((kK x : Nat) : Int) = some (A8.getD (kK x) 0) := idx_lit A8 (kK x) hk8
    have i2 : pyIdx [65, 97, 67, 99, 73, 105, 75, 107] ((kK x : Nat) : Int) = some (B8.getD (kK x) 0) := idx_lit B8 (kK x) hk8
    have i3 : pyIdx [97, 65, 99, 67, 105, 73, 107, 75] ((kL x : Nat) : Int) = some (A8.getD (kL x) 0) := idx_lit A8 (kL x) hl8
    have ih := words_loop xs (w ++ wPart (kR x) (kK x)) (b ++ bPart (kR x) (kK x) (kL x)) s0 (.imm (.int x)) (.imm (S [A8.getD (kK x) 0]))
      (by rw [List.length_append]; have : (wPart (kR x) (kK x)).length ≤ 1 := by (unfold wPart; split <;> simp); ; omega)
      (by rw [List.length_append]; have : (bPart (kR x) (kK x) (kL x)).length ≤ 3 := by (unfold bPart; rw [List.length_append, List.length_append]; split <;> split <;> split <;> simp); ; omega)
      (by
        intro s3 s4
        have := h s3 s4
        unfold wordF bentF at this
        rw [List.flatMap_cons, List.flatMap_cons] at this
        rw [List.append_assoc, List.append_assoc]
        exact this)
    rw [for_s, bK_]
    unfold mT_words_1
    rw [wb_asg]
    have g1 : ∀ k : PyData → Prop, k (S [A8.getD (kK x) 0]) → wpE Sp (.idx (.lit (.str (sOf [97, 65, 99, 67, 105, 73, 107, 75]))) (.bin .Mod (.bin .FloorDiv (.var 3) (.lit (.int 6))) (.lit (.int 8)))) (stillV (setS [s0, .imm (S w), .imm (S b), s3, s4] 3 (.imm (.int x)))) k := by
      intro k hk'
      (try dsimp only [tK_, bK_, nK_, whl_s, for_s, for_n, wb_nil, wb_asg, wb_asgS, wb_asgO, wb_asgR, wb_asg2, wb_swp, wb_aug, wb_augL, wb_app, wb_appS, wb_sti, wb_frz, wb_ifs, wb_whl, wb_for, wb_ret, wm_litT, wm_litF, wm_varT, wm_varF, wm_binT, wm_binF, wm_negT, wm_negF, wm_noT, wm_noF, wm_andT, wm_andF, wm_orT, wm_orF, wm_cmpT, wm_cmpF, wm_iteT, wm_iteF, wm_idxT, wm_idxF, wm_slcT, wm_slcF, wm_callT, wm_callF, wm_biT, wm_biF, wm_lstT, wm_lstF, wm_tupT, wm_tupF, wl_n, wl_c, wc_n, wc_c, wr_rng, wr_var, wr_slc, wr_call, wr_idx, wr_bin, wr_lst, wr_tup, wr_comp, wr_bi, setS, getS, stillV, allV, Slot.still, Slot.all, Slot.froze, updV, fi_f, fi_t, as_b, cm_iEq, cm_iNotEq, cm_iLt, cm_iLtE, cm_iGt, cm_iGtE, cm_sEq, cm_sNotEq, cm_lEq, cm_lNe, cm_in_i, cm_in_s, bi_lenS, bi_lenL, bi_min2, bi_minL, bi_sum, bi_ord, bi_chr, bi_abs, bi_isint, bi_lower, bi_join, bi_str, tr_n, tr_b, tr_i, tr_s, tr_l, bn_Add, bn_Sub, bn_Mult, bn_FloorDiv, bn_Mod, bn_BitAnd, bn_BitXor, bn_LShift, bn_RShift, bn_s, bn_l, ix_s, ix_l, ix_t, slcK, partOf, sd_n, sd_b, sd_i, sd_s, sd_l, sd_t]; try simp only [tK_, bK_, nK_, whl_s, for_s, for_n, wb_nil, wb_asg, wb_asgS, wb_asgO, wb_asgR, wb_asg2, wb_swp, wb_aug, wb_augL, wb_app, wb_appS, wb_sti, wb_frz, wb_ifs, wb_whl, wb_for, wb_ret, wm_litT, wm_litF, wm_varT, wm_varF, wm_binT, wm_binF, wm_negT, wm_negF, wm_noT, wm_noF, wm_andT, wm_andF, wm_orT, wm_orF, wm_cmpT, wm_cmpF, wm_iteT, wm_iteF, wm_idxT, wm_idxF, wm_slcT, wm_slcF, wm_callT, wm_callF, wm_biT, wm_biF, wm_lstT, wm_lstF, wm_tupT, wm_tupF, wm_comp, wl_n, wl_c, wc_n, wc_c, wr_rng, wr_var, wr_slc, wr_call, wr_idx, wr_bin, wr_lst, wr_tup, wr_comp, wr_bi, setS, getS, stillV, allV, Slot.still, Slot.all, Slot.froze, updV, fi_f, fi_t, as_b, cm_iEq, cm_iNotEq, cm_iLt, cm_iLtE, cm_iGt, cm_iGtE, cm_sEq, cm_sNotEq, cm_lEq, cm_lNe, cm_in_i, cm_in_s, bi_lenS, bi_lenL, bi_min2, bi_minL, bi_sum, bi_ord, bi_chr, bi_abs, bi_isint, bi_lower, bi_join, bi_str, tr_n, tr_b, tr_i, tr_s, tr_l, bn_Add, bn_Sub, bn_Mult, bn_FloorDiv, bn_Mod, bn_BitAnd, bn_BitXor, bn_LShift, bn_RShift, bn_s, bn_l, ix_s, ix_l, ix_t, slcK, partOf, sd_n, sd_b, sd_i, sd_s, sd_l, sd_t, and_true, true_and, Bool.true_eq_false, Bool.false_eq_true, false_implies, true_implies, forall_const])
      rw [hk, sOf_list, i1]
      exact ⟨⟨by decide, by decide⟩, by decide, ⟨by omega, by omega⟩, hk'⟩
    refine g1 _ ?_
    show wpB Sp _ [s0, .imm (S w), .imm (S b), .imm (.int x), .imm (S [A8.getD (kK x) 0])] _ kr
    refine aug_if (decide (kR x ≠ 3)) w [A8.getD (kK x) 0] ?_ rfl ?_ (by show w.length + 1 ≤ _; omega) ?_
    · intro k hk'
      (try dsimp only [tK_, bK_, nK_, whl_s, for_s, for_n, wb_nil, wb_asg, wb_asgS, wb_asgO, wb_asgR, wb_asg2, wb_swp, wb_aug, wb_augL, wb_app, wb_appS, wb_sti, wb_frz, wb_ifs, wb_whl, wb_for, wb_ret, wm_litT, wm_litF, wm_varT, wm_varF, wm_binT, wm_binF, wm_negT, wm_negF, wm_noT, wm_noF, wm_andT, wm_andF, wm_orT, wm_orF, wm_cmpT, wm_cmpF, wm_iteT, wm_iteF, wm_idxT, wm_idxF, wm_slcT, wm_slcF, wm_callT, wm_callF, wm_biT, wm_biF, wm_lstT, wm_lstF, wm_tupT, wm_tupF, wl_n, wl_c, wc_n, wc_c, wr_rng, wr_var, wr_slc, wr_call, wr_idx, wr_bin, wr_lst, wr_tup, wr_comp, wr_bi, setS, getS, stillV, allV, Slot.still, Slot.all, Slot.froze, updV, fi_f, fi_t, as_b, cm_iEq, cm_iNotEq, cm_iLt, cm_iLtE, cm_iGt, cm_iGtE, cm_sEq, cm_sNotEq, cm_lEq, cm_lNe, cm_in_i, cm_in_s, bi_lenS, bi_lenL, bi_min2, bi_minL, bi_sum, bi_ord, bi_chr, bi_abs, bi_isint, bi_lower, bi_join, bi_str, tr_n, tr_b, tr_i, tr_s, tr_l, bn_Add, bn_Sub, bn_Mult, bn_FloorDiv, bn_Mod, bn_BitAnd, bn_BitXor, bn_LShift, bn_RShift, bn_s, bn_l, ix_s, ix_l, ix_t, slcK, partOf, sd_n, sd_b, sd_i, sd_s, sd_l, sd_t]; try simp only [tK_, bK_, nK_, whl_s, for_s, for_n, wb_nil, wb_asg, wb_asgS, wb_asgO, wb_asgR, wb_asg2, wb_swp, wb_aug, wb_augL, wb_app, wb_appS, wb_sti, wb_frz, wb_ifs, wb_whl, wb_for, wb_ret, wm_litT, wm_litF, wm_varT, wm_varF, wm_binT, wm_binF, wm_negT, wm_negF, wm_noT, wm_noF, wm_andT, wm_andF, wm_orT, wm_orF, wm_cmpT, wm_cmpF, wm_iteT, wm_iteF, wm_idxT, wm_idxF, wm_slcT, wm_slcF, wm_callT, wm_callF, wm_biT, wm_biF, wm_lstT, wm_lstF, wm_tupT, wm_tupF, wm_comp, wl_n, wl_c, wc_n, wc_c, wr_rng, wr_var, wr_slc, wr_call, wr_idx, wr_bin, wr_lst, wr_tup, wr_comp, wr_bi, setS, getS, stillV, allV, Slot.still, Slot.all, Slot.froze, updV, fi_f, fi_t, as_b, cm_iEq, cm_iNotEq, cm_iLt, cm_iLtE, cm_iGt, cm_iGtE, cm_sEq, cm_sNotEq, cm_lEq, cm_lNe, cm_in_i, cm_in_s, bi_lenS, bi_lenL, bi_min2, bi_minL, bi_sum, bi_ord, bi_chr, bi_abs, bi_isint, bi_lower, bi_join, bi_str, tr_n, tr_b, tr_i, tr_s, tr_l, bn_Add, bn_Sub, bn_Mult, bn_FloorDiv, bn_Mod, bn_BitAnd, bn_BitXor, bn_LShift, bn_RShift, bn_s, bn_l, ix_s, ix_l, ix_t, slcK, partOf, sd_n, sd_b, sd_i, sd_s, sd_l, sd_t, and_true, true_and, Bool.true_eq_false, Bool.false_eq_true, false_implies, true_implies, forall_const])
      rw [hr]
      refine ⟨by decide, ?_⟩
      have : ((kR x : Int) != 3) = decide (kR x ≠ 3) := by
        rw [Bool.eq_iff_iff, bne_iff_ne, decide_eq_true_eq]
        show _ ↔ kR x ≠ 3
        omega
      rw [this]
      exact hk'
    · intro _ k hk'; exact hk'
    show wpB Sp _ [s0, .imm (S (w ++ _)), .imm (S b), .imm (.int x), .imm (S [A8.getD (kK x) 0])] _ kr
    refine aug_if (decide (kR x < 2 ∨ kR x = 3)) b [A8.getD (kK x) 0] ?_ rfl ?_ (by show b.length + 1 ≤ _; omega) ?_
    · intro k hk'
      (try dsimp only [tK_, bK_, nK_, whl_s, for_s, for_n, wb_nil, wb_asg, wb_asgS, wb_asgO, wb_asgR, wb_asg2, wb_swp, wb_aug, wb_augL, wb_app, wb_appS, wb_sti, wb_frz, wb_ifs, wb_whl, wb_for, wb_ret, wm_litT, wm_litF, wm_varT, wm_varF, wm_binT, wm_binF, wm_negT, wm_negF, wm_noT, wm_noF, wm_andT, wm_andF, wm_orT, wm_orF, wm_cmpT, wm_cmpF, wm_iteT, wm_iteF, wm_idxT, wm_idxF, wm_slcT, wm_slcF, wm_callT, wm_callF, wm_biT, wm_biF, wm_lstT, wm_lstF, wm_tupT, wm_tupF, wl_n, wl_c, wc_n, wc_c, wr_rng, wr_var, wr_slc, wr_call, wr_idx, wr_bin, wr_lst, wr_tup, wr_comp, wr_bi, setS, getS, stillV, allV, Slot.still, Slot.all, Slot.froze, updV, fi_f, fi_t, as_b, cm_iEq, cm_iNotEq, cm_iLt, cm_iLtE, cm_iGt, cm_iGtE, cm_sEq, cm_sNotEq, cm_lEq, cm_lNe, cm_in_i, cm_in_s, bi_lenS, bi_lenL, bi_min2, bi_minL, bi_sum, bi_ord, bi_chr, bi_abs, bi_isint, bi_lower, bi_join, bi_str, tr_n, tr_b, tr_i, tr_s, tr_l, bn_Add, bn_Sub, bn_Mult, bn_FloorDiv, bn_Mod, bn_BitAnd, bn_BitXor, bn_LShift, bn_RShift, bn_s, bn_l, ix_s, ix_l, ix_t, slcK, partOf, sd_n, sd_b, sd_i, sd_s, sd_l, sd_t]; try simp only [tK_, bK_, nK_, whl_s, for_s, for_n, wb_nil, wb_asg, wb_asgS, wb_asgO, wb_asgR, wb_asg2, wb_swp, wb_aug, wb_augL, wb_app, wb_appS, wb_sti, wb_frz, wb_ifs, wb_whl, wb_for, wb_ret, wm_litT, wm_litF, wm_varT, wm_varF, wm_binT, wm_binF, wm_negT, wm_negF, wm_noT, wm_noF, wm_andT, wm_andF, wm_orT, wm_orF, wm_cmpT, wm_cmpF, wm_iteT, wm_iteF, wm_idxT, wm_idxF, wm_slcT, wm_slcF, wm_callT, wm_callF, wm_biT, wm_biF, wm_lstT, wm_lstF, wm_tupT, wm_tupF, wm_comp, wl_n, wl_c, wc_n, wc_c, wr_rng, wr_var, wr_slc, wr_call, wr_idx, wr_bin, wr_lst, wr_tup, wr_comp, wr_bi, setS, getS, stillV, allV, Slot.still, Slot.all, Slot.froze, updV, fi_f, fi_t, as_b, cm_iEq, cm_iNotEq, cm_iLt, cm_iLtE, cm_iGt, cm_iGtE, cm_sEq, cm_sNotEq, cm_lEq, cm_lNe, cm_in_i, cm_in_s, bi_lenS, bi_lenL, bi_min2, bi_minL, bi_sum, bi_ord, bi_chr, bi_abs, bi_isint, bi_lower, bi_join, bi_str, tr_n, tr_b, tr_i, tr_s, tr_l, bn_Add, bn_Sub, bn_Mult, bn_FloorDiv, bn_Mod, bn_BitAnd, bn_BitXor, bn_LShift, bn_RShift, bn_s, bn_l, ix_s, ix_l, ix_t, slcK, partOf, sd_n, sd_b, sd_i, sd_s, sd_l, sd_t, and_true, true_and, Bool.true_eq_false, Bool.false_eq_true, false_implies, true_implies, forall_const])
      rw [hr]
      have e1 : decide ((kR x : Int) < 2) = decide (kR x < 2) := by
        rw [Bool.eq_iff_iff, decide_eq_true_eq, decide_eq_true_eq]
        show _ ↔ kR x < 2
        omega
      have e2 : ((kR x : Int) == 3) = decide (kR x = 3) := by
        rw [Bool.eq_iff_iff, beq_iff_eq, decide_eq_true_eq]
        show _ ↔ kR x = 3
        omega
      rw [e1, e2]
      refine ⟨by decide, fun q => ?_, fun q => ⟨by decide, ?_⟩⟩
      · rw [decide_eq_true (.inl (of_decide_eq_true q))] at hk'; exact hk'
      · have : decide (kR x < 2 ∨ kR x = 3) = decide (kR x = 3) := by
          rw [Bool.eq_iff_iff, decide_eq_true_eq, decide_eq_true_eq]
          have := of_decide_eq_false q
          omega
        rw [this] at hk'
        exact hk'
    · intro _ k hk'; exact hk'
    show wpB Sp _ [s0, .imm (S (w ++ _)), .imm (S (b ++ _)), .imm (.int x), .imm (S [A8.getD (kK x) 0])] _ kr
    have q1 : (b ++ if decide (kR x < 2 ∨ kR x = 3) = true then [A8.getD (kK x) 0] else []).length ≤ b.length + 1 := by
      rw [List.length_append]; split <;> simp
    refine aug_if (decide (kR x = 4)) _ [B8.getD (kK x) 0] ?_ rfl ?_ (by show _ + 1 ≤ _; omega) ?_
    · intro k hk'
      (try dsimp only [tK_, bK_, nK_, whl_s, for_s, for_n, wb_nil, wb_asg, wb_asgS, wb_asgO, wb_asgR, wb_asg2, wb_swp, wb_aug, wb_augL, wb_app, wb_appS, wb_sti, wb_frz, wb_ifs, wb_whl, wb_for, wb_ret, wm_litT, wm_litF, wm_varT, wm_varF, wm_binT, wm_binF, wm_negT, wm_negF, wm_noT, wm_noF, wm_andT, wm_andF, wm_orT, wm_orF, wm_cmpT, wm_cmpF, wm_iteT, wm_iteF, wm_idxT, wm_idxF, wm_slcT, wm_slcF, wm_callT, wm_callF, wm_biT, wm_biF, wm_lstT, wm_lstF, wm_tupT, wm_tupF, wl_n, wl_c, wc_n, wc_c, wr_rng, wr_var, wr_slc, wr_call, wr_idx, wr_bin, wr_lst, wr_tup, wr_comp, wr_bi, setS, getS, stillV, allV, Slot.still, Slot.all, Slot.froze, updV, fi_f, fi_t, as_b, cm_iEq, cm_iNotEq, cm_iLt, cm_iLtE, cm_iGt, cm_iGtE, cm_sEq, cm_sNotEq, cm_lEq, cm_lNe, cm_in_i, cm_in_s, bi_lenS, bi_lenL, bi_min2, bi_minL, bi_sum, bi_ord, bi_chr, bi_abs, bi_isint, bi_lower, bi_join, bi_str, tr_n, tr_b, tr_i, tr_s, tr_l, bn_Add, bn_Sub, bn_Mult, bn_FloorDiv, bn_Mod, bn_BitAnd, bn_BitXor, bn_LShift, bn_RShift, bn_s, bn_l, ix_s, ix_l, ix_t, slcK, partOf, sd_n, sd_b, sd_i, sd_s, sd_l, sd_t]; try simp only [tK_, bK_, nK_, whl_s, for_s, for_n, wb_nil, wb_asg, wb_asgS, wb_asgO, wb_asgR, wb_asg2, wb_swp, wb_aug, wb_augL, wb_app, wb_appS, wb_sti, wb_frz, wb_ifs, wb_whl, wb_for, wb_ret, wm_litT, wm_litF, wm_varT, wm_varF, wm_binT, wm_binF, wm_negT, wm_negF, wm_noT, wm_noF, wm_andT, wm_andF, wm_orT, wm_orF, wm_cmpT, wm_cmpF, wm_iteT, wm_iteF, wm_idxT, wm_idxF, wm_slcT, wm_slcF, wm_callT, wm_callF, wm_biT, wm_biF, wm_lstT, wm_lstF, wm_tupT, wm_tupF, wm_comp, wl_n, wl_c, wc_n, wc_c, wr_rng, wr_var, wr_slc, wr_call, wr_idx, wr_bin, wr_lst, wr_tup, wr_comp, wr_bi, setS, getS, stillV, allV, Slot.still, Slot.all, Slot.froze, updV, fi_f, fi_t, as_b, cm_iEq, cm_iNotEq, cm_iLt, cm_iLtE, cm_iGt, cm_iGtE, cm_sEq, cm_sNotEq, cm_lEq, cm_lNe, cm_in_i, cm_in_s, bi_lenS, bi_lenL, bi_min2, bi_minL, bi_sum, bi_ord, bi_chr, bi_abs, bi_isint, bi_lower, bi_join, bi_str, tr_n, tr_b, tr_i, tr_s, tr_l, bn_Add, bn_Sub, bn_Mult, bn_FloorDiv, bn_Mod, bn_BitAnd, bn_BitXor, bn_LShift, bn_RShift, bn_s, bn_l, ix_s, ix_l, ix_t, slcK, partOf, sd_n, sd_b, sd_i, sd_s, sd_l, sd_t, and_true, true_and, Bool.true_eq_false, Bool.false_eq_true, false_implies, true_implies, forall_const])
      rw [hr]
      refine ⟨by decide, ?_⟩
      have e2 : ((kR x : Int) == 4) = decide (kR x = 4) := by
        rw [Bool.eq_iff_iff, beq_iff_eq, decide_eq_true_eq]
        show _ ↔ kR x = 4
        omega
      rw [e2]
      exact hk'
    · intro _ k hk'
      (try dsimp only [tK_, bK_, nK_, whl_s, for_s, for_n, wb_nil, wb_asg, wb_asgS, wb_asgO, wb_asgR, wb_asg2, wb_swp, wb_aug, wb_augL, wb_app, wb_appS, wb_sti, wb_frz, wb_ifs, wb_whl, wb_for, wb_ret, wm_litT, wm_litF, wm_varT, wm_varF, wm_binT, wm_binF, wm_negT, wm_negF, wm_noT, wm_noF, wm_andT, wm_andF, wm_orT, wm_orF, wm_cmpT, wm_cmpF, wm_iteT, wm_iteF, wm_idxT, wm_idxF, wm_slcT, wm_slcF, wm_callT, wm_callF, wm_biT, wm_biF, wm_lstT, wm_lstF, wm_tupT, wm_tupF, wl_n, wl_c, wc_n, wc_c, wr_rng, wr_var, wr_slc, wr_call, wr_idx, wr_bin, wr_lst, wr_tup, wr_comp, wr_bi, setS, getS, stillV, allV, Slot.still, Slot.all, Slot.froze, updV, fi_f, fi_t, as_b, cm_iEq, cm_iNotEq, cm_iLt, cm_iLtE, cm_iGt, cm_iGtE, cm_sEq, cm_sNotEq, cm_lEq, cm_lNe, cm_in_i, cm_in_s, bi_lenS, bi_lenL, bi_min2, bi_minL, bi_sum, bi_ord, bi_chr, bi_abs, bi_isint, bi_lower, bi_join, bi_str, tr_n, tr_b, tr_i, tr_s, tr_l, bn_Add, bn_Sub, bn_Mult, bn_FloorDiv, bn_Mod, bn_BitAnd, bn_BitXor, bn_LShift, bn_RShift, bn_s, bn_l, ix_s, ix_l, ix_t, slcK, partOf, sd_n, sd_b, sd_i, sd_s, sd_l, sd_t]; try simp only [tK_, bK_, nK_, whl_s, for_s, for_n, wb_nil, wb_asg, wb_asgS, wb_asgO, wb_asgR, wb_asg2, wb_swp, wb_aug, wb_augL, wb_app, wb_appS, wb_sti, wb_frz, wb_ifs, wb_whl, wb_for, wb_ret, wm_litT, wm_litF, wm_varT, wm_varF, wm_binT, wm_binF, wm_negT, wm_negF, wm_noT, wm_noF, wm_andT, wm_andF, wm_orT, wm_orF, wm_cmpT, wm_cmpF, wm_iteT, wm_iteF, wm_idxT, wm_idxF, wm_slcT, wm_slcF, wm_callT, wm_callF, wm_biT, wm_biF, wm_lstT, wm_lstF, wm_tupT, wm_tupF, wm_comp, wl_n, wl_c, wc_n, wc_c, wr_rng, wr_var, wr_slc, wr_call, wr_idx, wr_bin, wr_lst, wr_tup, wr_comp, wr_bi, setS, getS, stillV, allV, Slot.still, Slot.all, Slot.froze, updV, fi_f, fi_t, as_b, cm_iEq, cm_iNotEq, cm_iLt, cm_iLtE, cm_iGt, cm_iGtE, cm_sEq, cm_sNotEq, cm_lEq, cm_lNe, cm_in_i, cm_in_s, bi_lenS, bi_lenL, bi_min2, bi_minL, bi_sum, bi_ord, bi_chr, bi_abs, bi_isint, bi_lower, bi_join, bi_str, tr_n, tr_b, tr_i, tr_s, tr_l, bn_Add, bn_Sub, bn_Mult, bn_FloorDiv, bn_Mod, bn_BitAnd, bn_BitXor, bn_LShift, bn_RShift, bn_s, bn_l, ix_s, ix_l, ix_t, slcK, partOf, sd_n, sd_b, sd_i, sd_s, sd_l, sd_t, and_true, true_and, Bool.true_eq_false, Bool.false_eq_true, false_implies, true_implies, forall_const])
      rw [hk, sOf_list, i2]
      exact ⟨⟨by decide, by decide⟩, by decide, ⟨by omega, by omega⟩, hk'⟩
    show wpB Sp _ [s0, .imm (S (w ++ _)), .imm (S (b ++ _ ++ _)), .imm (.int x), .imm (S [A8.getD (kK x) 0])] _ kr
    have q2 : (b ++ (if decide (kR x < 2 ∨ kR x = 3) = true then [A8.getD (kK x) 0] else []) ++ if decide (kR x = 4) = true then [B8.getD (kK x) 0] else []).length ≤ b.length + 2 := by
      rw [List.length_append]; split <;> simp <;> split <;> simp
    refine aug_if (decide (kR x = 5)) _ [A8.getD (kL x) 0] ?_ rfl ?_ (by show _ + 1 ≤ _; omega) ?_
    · intro k hk'
      (try dsimp only [tK_, bK_, nK_, whl_s, for_s, for_n, wb_nil, wb_asg, wb_asgS, wb_asgO, wb_asgR, wb_asg2, wb_swp, wb_aug, wb_augL, wb_app, wb_appS, wb_sti, wb_frz, wb_ifs, wb_whl, wb_for, wb_ret, wm_litT, wm_litF, wm_varT, wm_varF, wm_binT, wm_binF, wm_negT, wm_negF, wm_noT, wm_noF, wm_andT, wm_andF, wm_orT, wm_orF, wm_cmpT, wm_cmpF, wm_iteT, wm_iteF, wm_idxT, wm_idxF, wm_slcT, wm_slcF, wm_callT, wm_callF, wm_biT, wm_biF, wm_lstT, wm_lstF, wm_tupT, wm_tupF, wl_n, wl_c, wc_n, wc_c, wr_rng, wr_var, wr_slc, wr_call, wr_idx, wr_bin, wr_lst, wr_tup, wr_comp, wr_bi, setS, getS, stillV, allV, Slot.still, Slot.all, Slot.froze, updV, fi_f, fi_t, as_b, cm_iEq, cm_iNotEq, cm_iLt, cm_iLtE, cm_iGt, cm_iGtE, cm_sEq, cm_sNotEq, cm_lEq, cm_lNe, cm_in_i, cm_in_s, bi_lenS, bi_lenL, bi_min2, bi_minL, bi_sum, bi_ord, bi_chr, bi_abs, bi_isint, bi_lower, bi_join, bi_str, tr_n, tr_b, tr_i, tr_s, tr_l, bn_Add, bn_Sub, bn_Mult, bn_FloorDiv, bn_Mod, bn_BitAnd, bn_BitXor, bn_LShift, bn_RShift, bn_s, bn_l, ix_s, ix_l, ix_t, slcK, partOf, sd_n, sd_b, sd_i, sd_s, sd_l, sd_t]; try simp only [tK_, bK_, nK_, whl_s, for_s, for_n, wb_nil, wb_asg, wb_asgS, wb_asgO, wb_asgR, wb_asg2, wb_swp, wb_aug, wb_augL, wb_app, wb_appS, wb_sti, wb_frz, wb_ifs, wb_whl, wb_for, wb_ret, wm_litT, wm_litF, wm_varT, wm_varF, wm_binT, wm_binF, wm_negT, wm_negF, wm_noT, wm_noF, wm_andT, wm_andF, wm_orT, wm_orF, wm_cmpT, wm_cmpF, wm_iteT, wm_iteF, wm_idxT, wm_idxF, wm_slcT, wm_slcF, wm_callT, wm_callF, wm_biT, wm_biF, wm_lstT, wm_lstF, wm_tupT, wm_tupF, wm_comp, wl_n, wl_c, wc_n, wc_c, wr_rng, wr_var, wr_slc, wr_call, wr_idx, wr_bin, wr_lst, wr_tup, wr_comp, wr_bi, setS, getS, stillV, allV, Slot.still, Slot.all, Slot.froze, updV, fi_f, fi_t, as_b, cm_iEq, cm_iNotEq, cm_iLt, cm_iLtE, cm_iGt, cm_iGtE, cm_sEq, cm_sNotEq, cm_lEq, cm_lNe, cm_in_i, cm_in_s, bi_lenS, bi_lenL, bi_min2, bi_minL, bi_sum, bi_ord, bi_chr, bi_abs, bi_isint, bi_lower, bi_join, bi_str, tr_n, tr_b, tr_i, tr_s, tr_l, bn_Add, bn_Sub, bn_Mult, bn_FloorDiv, bn_Mod, bn_BitAnd, bn_BitXor, bn_LShift, bn_RShift, bn_s, bn_l, ix_s, ix_l, ix_t, slcK, partOf, sd_n, sd_b, sd_i, sd_s, sd_l, sd_t, and_true, true_and, Bool.true_eq_false, Bool.false_eq_true, false_implies, true_implies, forall_const])
      rw [hr]
      refine ⟨by decide, ?_⟩
      have e2 : ((kR x : Int) == 5) = decide (kR x = 5) := by
        rw [Bool.eq_iff_iff, beq_iff_eq, decide_eq_true_eq]
        show _ ↔ kR x = 5
        omega
      rw [e2]
      exact hk'
    · intro _ k hk'
      (try dsimp only [tK_, bK_, nK_, whl_s, for_s, for_n, wb_nil, wb_asg, wb_asgS, wb_asgO, wb_asgR, wb_asg2, wb_swp, wb_aug, wb_augL, wb_app, wb_appS, wb_sti, wb_frz, wb_ifs, wb_whl, wb_for, wb_ret, wm_litT, wm_litF, wm_varT, wm_varF, wm_binT, wm_binF, wm_negT, wm_negF, wm_noT, wm_noF, wm_andT, wm_andF, wm_orT, wm_orF, wm_cmpT, wm_cmpF, wm_iteT, wm_iteF, wm_idxT, wm_idxF, wm_slcT, wm_slcF, wm_callT, wm_callF, wm_biT, wm_biF, wm_lstT, wm_lstF, wm_tupT, wm_tupF, wl_n, wl_c, wc_n, wc_c, wr_rng, wr_var, wr_slc, wr_call, wr_idx, wr_bin, wr_lst, wr_tup, wr_comp, wr_bi, setS, getS, stillV, allV, Slot.still, Slot.all, Slot.froze, updV, fi_f, fi_t, as_b, cm_iEq, cm_iNotEq, cm_iLt, cm_iLtE, cm_iGt, cm_iGtE, cm_sEq, cm_sNotEq, cm_lEq, cm_lNe, cm_in_i, cm_in_s, bi_lenS, bi_lenL, bi_min2, bi_minL, bi_sum, bi_ord, bi_chr, bi_abs, bi_isint, bi_lower, bi_join, bi_str, tr_n, tr_b, tr_i, tr_s, tr_l, bn_Add, bn_Sub, bn_Mult, bn_FloorDiv, bn_Mod, bn_BitAnd, bn_BitXor, bn_LShift, bn_RShift, bn_s, bn_l, ix_s, ix_l, ix_t, slcK, partOf, sd_n, sd_b, sd_i, sd_s, sd_l, sd_t]; try simp only [tK_, bK_, nK_, whl_s, for_s, for_n, wb_nil, wb_asg, wb_asgS, wb_asgO, wb_asgR, wb_asg2, wb_swp, wb_aug, wb_augL, wb_app, wb_appS, wb_sti, wb_frz, wb_ifs, wb_whl, wb_for, wb_ret, wm_litT, wm_litF, wm_varT, wm_varF, wm_binT, wm_binF, wm_negT, wm_negF, wm_noT, wm_noF, wm_andT, wm_andF, wm_orT, wm_orF, wm_cmpT, wm_cmpF, wm_iteT, wm_iteF, wm_idxT, wm_idxF, wm_slcT, wm_slcF, wm_callT, wm_callF, wm_biT, wm_biF, wm_lstT, wm_lstF, wm_tupT, wm_tupF, wm_comp, wl_n, wl_c, wc_n, wc_c, wr_rng, wr_var, wr_slc, wr_call, wr_idx, wr_bin, wr_lst, wr_tup, wr_comp, wr_bi, setS, getS, stillV, allV, Slot.still, Slot.all, Slot.froze, updV, fi_f, fi_t, as_b, cm_iEq, cm_iNotEq, cm_iLt, cm_iLtE, cm_iGt, cm_iGtE, cm_sEq, cm_sNotEq, cm_lEq, cm_lNe, cm_in_i, cm_in_s, bi_lenS, bi_lenL, bi_min2, bi_minL, bi_sum, bi_ord, bi_chr, bi_abs, bi_isint, bi_lower, bi_join, bi_str, tr_n, tr_b, tr_i, tr_s, tr_l, bn_Add, bn_Sub, bn_Mult, bn_FloorDiv, bn_Mod, bn_BitAnd, bn_BitXor, bn_LShift, bn_RShift, bn_s, bn_l, ix_s, ix_l, ix_t, slcK, partOf, sd_n, sd_b, sd_i, sd_s, sd_l, sd_t, and_true, true_and, Bool.true_eq_false, Bool.false_eq_true, false_implies, true_implies, forall_const])
      rw [hl, sOf_list, i3]
      exact ⟨⟨by decide, by decide⟩, by decide, ⟨by omega, by omega⟩, hk'⟩
    show wpB Sp [] [s0, .imm (S (w ++ _)), .imm (S (b ++ _ ++ _ ++ _)), .imm (.int x), .imm (S [A8.getD (kK x) 0])] _ kr
    rw [wb_nil, fK_]
    unfold wPart bPart at ih
    rw [← List.append_assoc, ← List.append_assoc] at ih
    simp only [decide_eq_true_eq]
    exact ih
theorem words_wp (xs : List Int) (hx : xs.length ≤ 100) : wpB Sp mT_words [.imm (.list (intsOf xs)), .un, .un, .un, .un] (fun _ => False) (fun r => r = .tuple [S (wordF xs), S (bentF xs)]) := by
  unfold mT_words
  rw [wb_asg]
  show wpB Sp _ [.imm (.list (intsOf xs)), .imm (S []), .un, .un, .un] _ _
  rw [wb_asg]
  show wpB Sp _ [.imm (.list (intsOf xs)), .imm (S []), .imm (S []), .un, .un] _ _
  rw [wb_for]
  have li : (intsOf xs).length = xs.length := List.length_map ..
  refine (show (intsOf xs).length ≤ 2 ^ 20 ∧ _ from ⟨by omega, ?_⟩)
  refine words_loop xs [] [] _ _ _ (by simp; omega) (by simp; omega) fun s3 s4 => ?_
  rw [nK_]
  (try dsimp only [tK_, bK_, nK_, whl_s, for_s, for_n, wb_nil, wb_asg, wb_asgS, wb_asgO, wb_asgR, wb_asg2, wb_swp, wb_aug, wb_augL, wb_app, wb_appS, wb_sti, wb_frz, wb_ifs, wb_whl, wb_for, wb_ret, wm_litT, wm_litF, wm_varT, wm_varF, wm_binT, wm_binF, wm_negT, wm_negF, wm_noT, wm_noF, wm_andT, wm_andF, wm_orT, wm_orF, wm_cmpT, wm_cmpF, wm_iteT, wm_iteF, wm_idxT, wm_idxF, wm_slcT, wm_slcF, wm_callT, wm_callF, wm_biT, wm_biF, wm_lstT, wm_lstF, wm_tupT, wm_tupF, wl_n, wl_c, wc_n, wc_c, wr_rng, wr_var, wr_slc, wr_call, wr_idx, wr_bin, wr_lst, wr_tup, wr_comp, wr_bi, setS, getS, stillV, allV, Slot.still, Slot.all, Slot.froze, updV, fi_f, fi_t, as_b, cm_iEq, cm_iNotEq, cm_iLt, cm_iLtE, cm_iGt, cm_iGtE, cm_sEq, cm_sNotEq, cm_lEq, cm_lNe, cm_in_i, cm_in_s, bi_lenS, bi_lenL, bi_min2, bi_minL, bi_sum, bi_ord, bi_chr, bi_abs, bi_isint, bi_lower, bi_join, bi_str, tr_n, tr_b, tr_i, tr_s, tr_l, bn_Add, bn_Sub, bn_Mult, bn_FloorDiv, bn_Mod, bn_BitAnd, bn_BitXor, bn_LShift, bn_RShift, bn_s, bn_l, ix_s, ix_l, ix_t, slcK, partOf, sd_n, sd_b, sd_i, sd_s, sd_l, sd_t]; try simp only [tK_, bK_, nK_, whl_s, for_s, for_n, wb_nil, wb_asg, wb_asgS, wb_asgO, wb_asgR, wb_asg2, wb_swp, wb_aug, wb_augL, wb_app, wb_appS, wb_sti, wb_frz, wb_ifs, wb_whl, wb_for, wb_ret, wm_litT, wm_litF, wm_varT, wm_varF, wm_binT, wm_binF, wm_negT, wm_negF, wm_noT, wm_noF, wm_andT, wm_andF, wm_orT, wm_orF, wm_cmpT, wm_cmpF, wm_iteT, wm_iteF, wm_idxT, wm_idxF, wm_slcT, wm_slcF, wm_callT, wm_callF, wm_biT, wm_biF, wm_lstT, wm_lstF, wm_tupT, wm_tupF, wm_comp, wl_n, wl_c, wc_n, wc_c, wr_rng, wr_var, wr_slc, wr_call, wr_idx, wr_bin, wr_lst, wr_tup, wr_comp, wr_bi, setS, getS, stillV, allV, Slot.still, Slot.all, Slot.froze, updV, fi_f, fi_t, as_b, cm_iEq, cm_iNotEq, cm_iLt, cm_iLtE, cm_iGt, cm_iGtE, cm_sEq, cm_sNotEq, cm_lEq, cm_lNe, cm_in_i, cm_in_s, bi_lenS, bi_lenL, bi_min2, bi_minL, bi_sum, bi_ord, bi_chr, bi_abs, bi_isint, bi_lower, bi_join, bi_str, tr_n, tr_b, tr_i, tr_s, tr_l, bn_Add, bn_Sub, bn_Mult, bn_FloorDiv, bn_Mod, bn_BitAnd, bn_BitXor, bn_LShift, bn_RShift, bn_s, bn_l, ix_s, ix_l, ix_t, slcK, partOf, sd_n, sd_b, sd_i, sd_s, sd_l, sd_t, and_true, true_and, Bool.true_eq_false, Bool.false_eq_true, false_implies, true_implies, forall_const])
  exact ⟨by show 2 ≤ 2 ^ 20; decide, rfl⟩
end
theorem A8_get : ∀ k, k < 8 → A8.getD k 0 ∈ A8 ∧ B8.getD k 0 ∈ A8 := by decide
theorem wPart_in (x : Int) : ∀ c ∈ wPart (kR x) (kK x), c ∈ A8 := by
  intro c hc
  have hk8 : kK x < 8 := fm_lt (x.fdiv 6) 8 (by decide)
  unfold wPart at hc
  split at hc
  · rw [List.mem_singleton.mp hc]; exact (A8_get _ hk8).1
  · cases hc
theorem bPart_in (x : Int) : ∀ c ∈ bPart (kR x) (kK x) (kL x), c ∈ A8 := by
  intro c hc
  have hk8 : kK x < 8 := fm_lt (x.fdiv 6) 8 (by decide)
  have hl8 : kL x < 8 := fm_lt (x.fdiv 48) 8 (by decide)
  have key : ∀ {p : Prop} [Decidable p] {y : Nat}, y ∈ A8 → c ∈ (if p then [y] else []) → c ∈ A8 := by
    intro p _ y hy h
    split at h
    · rw [List.mem_singleton.mp h]; exact hy
    · cases h
  unfold bPart at hc
  rcases List.mem_append.mp hc with h | h
  · exact key (A8_get _ hk8).1 h
  · rcases List.mem_append.mp h with h | h
    · exact key (A8_get _ hk8).2 h
    · exact key (A8_get _ hl8).1 h
theorem wordF_in (xs : List Int) : ∀ c ∈ wordF xs, c ∈ A8 := by
  intro c hc
  obtain ⟨x, _, h⟩ := List.mem_flatMap.mp hc
  exact wPart_in x c h
theorem bentF_in (xs : List Int) : ∀ c ∈ bentF xs, c ∈ A8 := by
  intro c hc
  obtain ⟨x, _, h⟩ := List.mem_flatMap.mp hc
  exact bPart_in x c h

end Mine
end V9

section V10
open PySem PySem.W PyProof.Rows PySem.Calls PyProof.V PySem.Spec PySem.SeqAt
namespace Mine
/-! # The sums of a word's stretches -/
noncomputable def rowF (l : List Nat) (i : Nat) : List Nat := (List.range (l.length + 1 - i)).map fun k => zF ((l.drop i).take k)
noncomputable def rowD (l : List Nat) (i : Nat) : PyData := .list (nats (rowF l i))
noncomputable def SD (l : List Nat) : List PyData := (List.range (l.length + 1)).map (rowD l)
noncomputable abbrev FF : Nat := 4294967295
theorem nats_drop (l : List Nat) (i : Nat) (h : i < l.length) : nats (l.drop i) = PyData.int (l.getD i 0 : Nat) :: nats (l.drop (i + 1)) := by
  rw [List.drop_eq_getElem_cons h, List.getD_eq_getElem?_getD, List.getElem?_eq_getElem h]
  rfl
theorem nats_app (a : List Nat) (x : Nat) : nats a ++ [PyData.int (x : Nat)] = nats (a ++ [x]) := by
  unfold nats
  rw [List.map_append]
  rfl
theorem range_snoc {α : Type} (f : Nat → α) (n : Nat) : (List.range n).map f ++ [f n] = (List.range (n + 1)).map f := by
  rw [List.range_succ, List.map_append]
  rfl
theorem slc_nats (l : List Nat) (k : Nat) : pySlice (nats l) (some (k : Int)) none = nats (l.drop k) := by
  rw [slc_from]
  unfold nats
  rw [List.map_drop]
section
variable {Sp : String → List PyData → PyData → Prop} {kr : PyData → Prop} {kn : Ev → Prop}
theorem sums_in (hr : ∀ n p : Nat, p ≤ 200 → Sp "_law_rest" [.int (n : Nat), .int (p : Nat)] (.int (resF p n : Nat))) {l : List Nat} (hl : ∀ c ∈ l, c < 2 ^ 32) (hl5 : l.length ≤ 100) (i : Nat) (s0 s1 s2 s3 s4 s5 : Slot) :
    ∀ (j k : Nat) (s8 : Slot), i + k + j = l.length → (∀ s6 s8, kn [s0, s1, s2, s3, s4, s5, s6, .own (nats (rowF l i)), s8]) →
    forK (bK Sp mT_sums_2_1 kr) 8 (nats ((marksF l).drop (i + 1 + k))) [s0, s1, s2, s3, s4, s5, .imm (.int (mirF (pw k (regA FF (l.take i))) : Nat)), .own (nats ((List.range (k + 1)).map fun k => zF ((l.drop i).take k))), s8] kn
  | 0, k, s8, hk, h => by
    rw [List.drop_of_length_le (by rw [marks_len]; omega)]
    have e : rowF l i = (List.range (k + 1)).map fun k => zF ((l.drop i).take k) := by
      unfold rowF
      rw [show l.length + 1 - i = k + 1 by omega]
    rw [← e]
    exact h _ _
  | j + 1, k, s8, hk, h => by
    have hR : regA FF (l.take i) < 2 ^ 32 := regA_lt _ _ (by decide) fun c hc => hl c (List.mem_of_mem_take hc)
    have hq : ((l.drop i).take (k + 1)).length = k + 1 := by rw [List.length_take, List.length_drop]; omega
    have e1 : (marksF l).getD (i + 1 + k) 0 = mirF (regA (regA FF (l.take i)) ((l.drop i).take (k + 1))) := by
      rw [marks_get l _ (by omega), show i + 1 + k = i + (k + 1) by omega, List.take_add, regA_app]
    have e2 := on_mark hR k
    have e3 := row_is (m := regA FF (l.take i)) ((l.drop i).take (k + 1))
    rw [hq] at e3
    rw [nats_drop _ _ (by rw [marks_len]; omega), e1]
    show forK _ 8 (.int _ :: nats _) _ kn
    unfold mT_sums_2_1
    (try dsimp only [tK_, bK_, nK_, whl_s, for_s, for_n, wb_nil, wb_asg, wb_asgS, wb_asgO, wb_asgR, wb_asg2, wb_swp, wb_aug, wb_augL, wb_app, wb_appS, wb_sti, wb_frz, wb_ifs, wb_whl, wb_for, wb_ret, wm_litT, wm_litF, wm_varT, wm_varF, wm_binT, wm_binF, wm_negT, wm_negF, wm_noT, wm_noF, wm_andT, wm_andF, wm_orT, wm_orF, wm_cmpT, wm_cmpF, wm_iteT, wm_iteF, wm_idxT, wm_idxF, wm_slcT, wm_slcF, wm_callT, wm_callF, wm_biT, wm_biF, wm_lstT, wm_lstF, wm_tupT, wm_tupF, wl_n, wl_c, wc_n, wc_c, wr_rng, wr_var, wr_slc, wr_call, wr_idx, wr_bin, wr_lst, wr_tup, wr_comp, wr_bi, setS, getS, stillV, allV, Slot.still, Slot.all, Slot.froze, updV, fi_f, fi_t, as_b, cm_iEq, cm_iNotEq, cm_iLt, cm_iLtE, cm_iGt, cm_iGtE, cm_sEq, cm_sNotEq, cm_lEq, cm_lNe, cm_in_i, cm_in_s, bi_lenS, bi_lenL, bi_min2, bi_minL, bi_sum, bi_ord, bi_chr, bi_abs, bi_isint, bi_lower, bi_join, bi_str, tr_n, tr_b, tr_i, tr_s, tr_l, bn_Add, bn_Sub, bn_Mult, bn_FloorDiv, bn_Mod, bn_BitAnd, bn_BitXor, bn_LShift, bn_RShift, bn_s, bn_l, ix_s, ix_l, ix_t, slcK, partOf, sd_n, sd_b, sd_i, sd_s, sd_l, sd_t]; try simp only [tK_, bK_, nK_, whl_s, for_s, for_n, wb_nil, wb_asg, wb_asgS, wb_asgO, wb_asgR, wb_asg2, wb_swp, wb_aug, wb_augL, wb_app, wb_appS, wb_sti, wb_frz, wb_ifs, wb_whl, wb_for, wb_ret, wm_litT, wm_litF, wm_varT, wm_varF, wm_binT, wm_binF, wm_negT, wm_negF, wm_noT, wm_noF, wm_andT, wm_andF, wm_orT, wm_orF, wm_cmpT, wm_cmpF, wm_iteT, wm_iteF, wm_idxT, wm_idxF, wm_slcT, wm_slcF, wm_callT, wm_callF, wm_biT, wm_biF, wm_lstT, wm_lstF, wm_tupT, wm_tupF, wm_comp, wl_n, wl_c, wc_n, wc_c, wr_rng, wr_var, wr_slc, wr_call, wr_idx, wr_bin, wr_lst, wr_tup, wr_comp, wr_bi, setS, getS, stillV, allV, Slot.still, Slot.all, Slot.froze, updV, fi_f, fi_t, as_b, cm_iEq, cm_iNotEq, cm_iLt, cm_iLtE, cm_iGt, cm_iGtE, cm_sEq, cm_sNotEq, cm_lEq, cm_lNe, cm_in_i, cm_in_s, bi_lenS, bi_lenL, bi_min2, bi_minL, bi_sum, bi_ord, bi_chr, bi_abs, bi_isint, bi_lower, bi_join, bi_str, tr_n, tr_b, tr_i, tr_s, tr_l, bn_Add, bn_Sub, bn_Mult, bn_FloorDiv, bn_Mod, bn_BitAnd, bn_BitXor, bn_LShift, bn_RShift, bn_s, bn_l, ix_s, ix_l, ix_t, slcK, partOf, sd_n, sd_b, sd_i, sd_s, sd_l, sd_t, and_true, true_and, Bool.true_eq_false, Bool.false_eq_true, false_implies, true_implies, forall_const])
    simp only [Int.toNat_natCast, Int.reduceToNat, Int.toNat_one, Int.toNat_zero]
    refine ⟨⟨Int.natCast_nonneg _, by decide, by decide, Nat.lt_of_lt_of_le (mirF_lt _) (by decide +kernel)⟩, _, hr _ 8 (by decide), ?_⟩
    rw [e2]
    (try dsimp only [tK_, bK_, nK_, whl_s, for_s, for_n, wb_nil, wb_asg, wb_asgS, wb_asgO, wb_asgR, wb_asg2, wb_swp, wb_aug, wb_augL, wb_app, wb_appS, wb_sti, wb_frz, wb_ifs, wb_whl, wb_for, wb_ret, wm_litT, wm_litF, wm_varT, wm_varF, wm_binT, wm_binF, wm_negT, wm_negF, wm_noT, wm_noF, wm_andT, wm_andF, wm_orT, wm_orF, wm_cmpT, wm_cmpF, wm_iteT, wm_iteF, wm_idxT, wm_idxF, wm_slcT, wm_slcF, wm_callT, wm_callF, wm_biT, wm_biF, wm_lstT, wm_lstF, wm_tupT, wm_tupF, wl_n, wl_c, wc_n, wc_c, wr_rng, wr_var, wr_slc, wr_call, wr_idx, wr_bin, wr_lst, wr_tup, wr_comp, wr_bi, setS, getS, stillV, allV, Slot.still, Slot.all, Slot.froze, updV, fi_f, fi_t, as_b, cm_iEq, cm_iNotEq, cm_iLt, cm_iLtE, cm_iGt, cm_iGtE, cm_sEq, cm_sNotEq, cm_lEq, cm_lNe, cm_in_i, cm_in_s, bi_lenS, bi_lenL, bi_min2, bi_minL, bi_sum, bi_ord, bi_chr, bi_abs, bi_isint, bi_lower, bi_join, bi_str, tr_n, tr_b, tr_i, tr_s, tr_l, bn_Add, bn_Sub, bn_Mult, bn_FloorDiv, bn_Mod, bn_BitAnd, bn_BitXor, bn_LShift, bn_RShift, bn_s, bn_l, ix_s, ix_l, ix_t, slcK, partOf, sd_n, sd_b, sd_i, sd_s, sd_l, sd_t]; try simp only [tK_, bK_, nK_, whl_s, for_s, for_n, wb_nil, wb_asg, wb_asgS, wb_asgO, wb_asgR, wb_asg2, wb_swp, wb_aug, wb_augL, wb_app, wb_appS, wb_sti, wb_frz, wb_ifs, wb_whl, wb_for, wb_ret, wm_litT, wm_litF, wm_varT, wm_varF, wm_binT, wm_binF, wm_negT, wm_negF, wm_noT, wm_noF, wm_andT, wm_andF, wm_orT, wm_orF, wm_cmpT, wm_cmpF, wm_iteT, wm_iteF, wm_idxT, wm_idxF, wm_slcT, wm_slcF, wm_callT, wm_callF, wm_biT, wm_biF, wm_lstT, wm_lstF, wm_tupT, wm_tupF, wm_comp, wl_n, wl_c, wc_n, wc_c, wr_rng, wr_var, wr_slc, wr_call, wr_idx, wr_bin, wr_lst, wr_tup, wr_comp, wr_bi, setS, getS, stillV, allV, Slot.still, Slot.all, Slot.froze, updV, fi_f, fi_t, as_b, cm_iEq, cm_iNotEq, cm_iLt, cm_iLtE, cm_iGt, cm_iGtE, cm_sEq, cm_sNotEq, cm_lEq, cm_lNe, cm_in_i, cm_in_s, bi_lenS, bi_lenL, bi_min2, bi_minL, bi_sum, bi_ord, bi_chr, bi_abs, bi_isint, bi_lower, bi_join, bi_str, tr_n, tr_b, tr_i, tr_s, tr_l, bn_Add, bn_Sub, bn_Mult, bn_FloorDiv, bn_Mod, bn_BitAnd, bn_BitXor, bn_LShift, bn_RShift, bn_s, bn_l, ix_s, ix_l, ix_t, slcK, partOf, sd_n, sd_b, sd_i, sd_s, sd_l, sd_t, and_true, true_and, Bool.true_eq_false, Bool.false_eq_true, false_implies, true_implies, forall_const])
    simp only [Int.toNat_natCast, Int.reduceToNat, Int.toNat_one, Int.toNat_zero]
    refine ⟨⟨Int.natCast_nonneg _, Int.natCast_nonneg _⟩, by rw [nats_len, List.length_map, List.length_range]; omega, ?_⟩
    rw [e3, nats_app, range_snoc (fun k => zF ((l.drop i).take k)) (k + 1)]
    exact sums_in hr hl hl5 i _ _ _ _ _ _ j (k + 1) _ (by omega) h
theorem sums_out (hr : ∀ n p : Nat, p ≤ 200 → Sp "_law_rest" [.int (n : Nat), .int (p : Nat)] (.int (resF p n : Nat))) {l : List Nat} (hl : ∀ c ∈ l, c < 2 ^ 32) (hl5 : l.length ≤ 100) (s0 s1 s3 : Slot) :
    ∀ (j i : Nat) (s5 s6 s7 s8 : Slot), i + j = l.length + 1 → (∀ s5 s6 s7 s8, kn [s0, s1, .imm (.list (nats (marksF l))), s3, .own (SD l), s5, s6, s7, s8]) →
    forK (bK Sp mT_sums_2 kr) 5 (intsOf (upI (i : Int) j)) [s0, s1, .imm (.list (nats (marksF l))), s3, .own ((List.range i).map (rowD l)), s5, s6, s7, s8] kn
  | 0, i, s5, s6, s7, s8, hi, h => by
    have e : i = l.length + 1 := by omega
    rw [e]
    exact h _ _ _ _
  | j + 1, i, s5, s6, s7, s8, hi, h => by
    have e1 : pyIdx (nats (marksF l)) (i : Int) = some (.int (mirF (regA FF (l.take i)) : Nat)) := by
      rw [idx_nats _ i (by rw [marks_len]; omega), marks_get l i (by omega)]
    have e0 : [PyData.int 0] = nats ((List.range (0 + 1)).map fun k => zF ((l.drop i).take k)) := by
      show _ = [PyData.int ((zF ((l.drop i).take 0) : Nat) : Int)]
      rw [List.take_zero, show zF [] = 0 by decide +kernel]
      rfl
    show forK _ 5 (.int (i : Int) :: intsOf (upI ((i + 1 : Nat) : Int) j)) _ kn
    unfold mT_sums_2
    (try dsimp only [tK_, bK_, nK_, whl_s, for_s, for_n, wb_nil, wb_asg, wb_asgS, wb_asgO, wb_asgR, wb_asg2, wb_swp, wb_aug, wb_augL, wb_app, wb_appS, wb_sti, wb_frz, wb_ifs, wb_whl, wb_for, wb_ret, wm_litT, wm_litF, wm_varT, wm_varF, wm_binT, wm_binF, wm_negT, wm_negF, wm_noT, wm_noF, wm_andT, wm_andF, wm_orT, wm_orF, wm_cmpT, wm_cmpF, wm_iteT, wm_iteF, wm_idxT, wm_idxF, wm_slcT, wm_slcF, wm_callT, wm_callF, wm_biT, wm_biF, wm_lstT, wm_lstF, wm_tupT, wm_tupF, wl_n, wl_c, wc_n, wc_c, wr_rng, wr_var, wr_slc, wr_call, wr_idx, wr_bin, wr_lst, wr_tup, wr_comp, wr_bi, setS, getS, stillV, allV, Slot.still, Slot.all, Slot.froze, updV, fi_f, fi_t, as_b, cm_iEq, cm_iNotEq, cm_iLt, cm_iLtE, cm_iGt, cm_iGtE, cm_sEq, cm_sNotEq, cm_lEq, cm_lNe, cm_in_i, cm_in_s, bi_lenS, bi_lenL, bi_min2, bi_minL, bi_sum, bi_ord, bi_chr, bi_abs, bi_isint, bi_lower, bi_join, bi_str, tr_n, tr_b, tr_i, tr_s, tr_l, bn_Add, bn_Sub, bn_Mult, bn_FloorDiv, bn_Mod, bn_BitAnd, bn_BitXor, bn_LShift, bn_RShift, bn_s, bn_l, ix_s, ix_l, ix_t, slcK, partOf, sd_n, sd_b, sd_i, sd_s, sd_l, sd_t]; try simp only [tK_, bK_, nK_, whl_s, for_s, for_n, wb_nil, wb_asg, wb_asgS, wb_asgO, wb_asgR, wb_asg2, wb_swp, wb_aug, wb_augL, wb_app, wb_appS, wb_sti, wb_frz, wb_ifs, wb_whl, wb_for, wb_ret, wm_litT, wm_litF, wm_varT, wm_varF, wm_binT, wm_binF, wm_negT, wm_negF, wm_noT, wm_noF, wm_andT, wm_andF, wm_orT, wm_orF, wm_cmpT, wm_cmpF, wm_iteT, wm_iteF, wm_idxT, wm_idxF, wm_slcT, wm_slcF, wm_callT, wm_callF, wm_biT, wm_biF, wm_lstT, wm_lstF, wm_tupT, wm_tupF, wm_comp, wl_n, wl_c, wc_n, wc_c, wr_rng, wr_var, wr_slc, wr_call, wr_idx, wr_bin, wr_lst, wr_tup, wr_comp, wr_bi, setS, getS, stillV, allV, Slot.still, Slot.all, Slot.froze, updV, fi_f, fi_t, as_b, cm_iEq, cm_iNotEq, cm_iLt, cm_iLtE, cm_iGt, cm_iGtE, cm_sEq, cm_sNotEq, cm_lEq, cm_lNe, cm_in_i, cm_in_s, bi_lenS, bi_lenL, bi_min2, bi_minL, bi_sum, bi_ord, bi_chr, bi_abs, bi_isint, bi_lower, bi_join, bi_str, tr_n, tr_b, tr_i, tr_s, tr_l, bn_Add, bn_Sub, bn_Mult, bn_FloorDiv, bn_Mod, bn_BitAnd, bn_BitXor, bn_LShift, bn_RShift, bn_s, bn_l, ix_s, ix_l, ix_t, slcK, partOf, sd_n, sd_b, sd_i, sd_s, sd_l, sd_t, and_true, true_and, Bool.true_eq_false, Bool.false_eq_true, false_implies, true_implies, forall_const])
    rw [e1]
    (try dsimp only [tK_, bK_, nK_, whl_s, for_s, for_n, wb_nil, wb_asg, wb_asgS, wb_asgO, wb_asgR, wb_asg2, wb_swp, wb_aug, wb_augL, wb_app, wb_appS, wb_sti, wb_frz, wb_ifs, wb_whl, wb_for, wb_ret, wm_litT, wm_litF, wm_varT, wm_varF, wm_binT, wm_binF, wm_negT, wm_negF, wm_noT, wm_noF, wm_andT, wm_andF, wm_orT, wm_orF, wm_cmpT, wm_cmpF, wm_iteT, wm_iteF, wm_idxT, wm_idxF, wm_slcT, wm_slcF, wm_callT, wm_callF, wm_biT, wm_biF, wm_lstT, wm_lstF, wm_tupT, wm_tupF, wl_n, wl_c, wc_n, wc_c, wr_rng, wr_var, wr_slc, wr_call, wr_idx, wr_bin, wr_lst, wr_tup, wr_comp, wr_bi, setS, getS, stillV, allV, Slot.still, Slot.all, Slot.froze, updV, fi_f, fi_t, as_b, cm_iEq, cm_iNotEq, cm_iLt, cm_iLtE, cm_iGt, cm_iGtE, cm_sEq, cm_sNotEq, cm_lEq, cm_lNe, cm_in_i, cm_in_s, bi_lenS, bi_lenL, bi_min2, bi_minL, bi_sum, bi_ord, bi_chr, bi_abs, bi_isint, bi_lower, bi_join, bi_str, tr_n, tr_b, tr_i, tr_s, tr_l, bn_Add, bn_Sub, bn_Mult, bn_FloorDiv, bn_Mod, bn_BitAnd, bn_BitXor, bn_LShift, bn_RShift, bn_s, bn_l, ix_s, ix_l, ix_t, slcK, partOf, sd_n, sd_b, sd_i, sd_s, sd_l, sd_t]; try simp only [tK_, bK_, nK_, whl_s, for_s, for_n, wb_nil, wb_asg, wb_asgS, wb_asgO, wb_asgR, wb_asg2, wb_swp, wb_aug, wb_augL, wb_app, wb_appS, wb_sti, wb_frz, wb_ifs, wb_whl, wb_for, wb_ret, wm_litT, wm_litF, wm_varT, wm_varF, wm_binT, wm_binF, wm_negT, wm_negF, wm_noT, wm_noF, wm_andT, wm_andF, wm_orT, wm_orF, wm_cmpT, wm_cmpF, wm_iteT, wm_iteF, wm_idxT, wm_idxF, wm_slcT, wm_slcF, wm_callT, wm_callF, wm_biT, wm_biF, wm_lstT, wm_lstF, wm_tupT, wm_tupF, wm_comp, wl_n, wl_c, wc_n, wc_c, wr_rng, wr_var, wr_slc, wr_call, wr_idx, wr_bin, wr_lst, wr_tup, wr_comp, wr_bi, setS, getS, stillV, allV, Slot.still, Slot.all, Slot.froze, updV, fi_f, fi_t, as_b, cm_iEq, cm_iNotEq, cm_iLt, cm_iLtE, cm_iGt, cm_iGtE, cm_sEq, cm_sNotEq, cm_lEq, cm_lNe, cm_in_i, cm_in_s, bi_lenS, bi_lenL, bi_min2, bi_minL, bi_sum, bi_ord, bi_chr, bi_abs, bi_isint, bi_lower, bi_join, bi_str, tr_n, tr_b, tr_i, tr_s, tr_l, bn_Add, bn_Sub, bn_Mult, bn_FloorDiv, bn_Mod, bn_BitAnd, bn_BitXor, bn_LShift, bn_RShift, bn_s, bn_l, ix_s, ix_l, ix_t, slcK, partOf, sd_n, sd_b, sd_i, sd_s, sd_l, sd_t, and_true, true_and, Bool.true_eq_false, Bool.false_eq_true, false_implies, true_implies, forall_const])
    rw [nats_len, marks_len, show (i : Int) + 1 = ((i + 1 : Nat) : Int) by omega, slc_nats]
    refine ⟨⟨by omega, by omega⟩, by decide, by omega, ?_⟩
    unfold itemsK
    refine ⟨by rw [nats_len, List.length_drop, marks_len]; omega, ?_⟩
    rw [e0]
    refine sums_in hr hl hl5 i _ _ _ _ _ _ (l.length - i) 0 _ (by omega) fun s6 s8 => ?_
    rw [nK_]
    (try dsimp only [tK_, bK_, nK_, whl_s, for_s, for_n, wb_nil, wb_asg, wb_asgS, wb_asgO, wb_asgR, wb_asg2, wb_swp, wb_aug, wb_augL, wb_app, wb_appS, wb_sti, wb_frz, wb_ifs, wb_whl, wb_for, wb_ret, wm_litT, wm_litF, wm_varT, wm_varF, wm_binT, wm_binF, wm_negT, wm_negF, wm_noT, wm_noF, wm_andT, wm_andF, wm_orT, wm_orF, wm_cmpT, wm_cmpF, wm_iteT, wm_iteF, wm_idxT, wm_idxF, wm_slcT, wm_slcF, wm_callT, wm_callF, wm_biT, wm_biF, wm_lstT, wm_lstF, wm_tupT, wm_tupF, wl_n, wl_c, wc_n, wc_c, wr_rng, wr_var, wr_slc, wr_call, wr_idx, wr_bin, wr_lst, wr_tup, wr_comp, wr_bi, setS, getS, stillV, allV, Slot.still, Slot.all, Slot.froze, updV, fi_f, fi_t, as_b, cm_iEq, cm_iNotEq, cm_iLt, cm_iLtE, cm_iGt, cm_iGtE, cm_sEq, cm_sNotEq, cm_lEq, cm_lNe, cm_in_i, cm_in_s, bi_lenS, bi_lenL, bi_min2, bi_minL, bi_sum, bi_ord, bi_chr, bi_abs, bi_isint, bi_lower, bi_join, bi_str, tr_n, tr_b, tr_i, tr_s, tr_l, bn_Add, bn_Sub, bn_Mult, bn_FloorDiv, bn_Mod, bn_BitAnd, bn_BitXor, bn_LShift, bn_RShift, bn_s, bn_l, ix_s, ix_l, ix_t, slcK, partOf, sd_n, sd_b, sd_i, sd_s, sd_l, sd_t]; try simp only [tK_, bK_, nK_, whl_s, for_s, for_n, wb_nil, wb_asg, wb_asgS, wb_asgO, wb_asgR, wb_asg2, wb_swp, wb_aug, wb_augL, wb_app, wb_appS, wb_sti, wb_frz, wb_ifs, wb_whl, wb_for, wb_ret, wm_litT, wm_litF, wm_varT, wm_varF, wm_binT, wm_binF, wm_negT, wm_negF, wm_noT, wm_noF, wm_andT, wm_andF, wm_orT, wm_orF, wm_cmpT, wm_cmpF, wm_iteT, wm_iteF, wm_idxT, wm_idxF, wm_slcT, wm_slcF, wm_callT, wm_callF, wm_biT, wm_biF, wm_lstT, wm_lstF, wm_tupT, wm_tupF, wm_comp, wl_n, wl_c, wc_n, wc_c, wr_rng, wr_var, wr_slc, wr_call, wr_idx, wr_bin, wr_lst, wr_tup, wr_comp, wr_bi, setS, getS, stillV, allV, Slot.still, Slot.all, Slot.froze, updV, fi_f, fi_t, as_b, cm_iEq, cm_iNotEq, cm_iLt, cm_iLtE, cm_iGt, cm_iGtE, cm_sEq, cm_sNotEq, cm_lEq, cm_lNe, cm_in_i, cm_in_s, bi_lenS, bi_lenL, bi_min2, bi_minL, bi_sum, bi_ord, bi_chr, bi_abs, bi_isint, bi_lower, bi_join, bi_str, tr_n, tr_b, tr_i, tr_s, tr_l, bn_Add, bn_Sub, bn_Mult, bn_FloorDiv, bn_Mod, bn_BitAnd, bn_BitXor, bn_LShift, bn_RShift, bn_s, bn_l, ix_s, ix_l, ix_t, slcK, partOf, sd_n, sd_b, sd_i, sd_s, sd_l, sd_t, and_true, true_and, Bool.true_eq_false, Bool.false_eq_true, false_implies, true_implies, forall_const])
    refine ⟨by rw [List.length_map, List.length_range]; omega, ?_⟩
    rw [fK_]
    have e := range_snoc (rowD l) i
    unfold rowD at e ⊢
    rw [e]
    exact sums_out hr hl hl5 s0 s1 s3 j (i + 1) _ _ _ _ (by omega) h
theorem sums_wp (hg : ∀ c : Nat, Sp "_gen_crc" [.int (c : Nat)] (.int (g8 c : Nat))) (hm : ∀ c : Nat, Sp "_law_mirror" [.int (c : Nat)] (.int (mirF c : Nat)))
    (hr : ∀ n p : Nat, p ≤ 200 → Sp "_law_rest" [.int (n : Nat), .int (p : Nat)] (.int (resF p n : Nat))) (l : List Nat) (hl : ∀ c ∈ l, c < 2 ^ 32) (hl5 : l.length ≤ 100) :
    wpB Sp mT_sums [.imm (S l), .un, .un, .un, .un, .un, .un, .un, .un] (fun _ => False) (fun r => r = .list (SD l)) := by
  unfold mT_sums
  (try dsimp only [tK_, bK_, nK_, whl_s, for_s, for_n, wb_nil, wb_asg, wb_asgS, wb_asgO, wb_asgR, wb_asg2, wb_swp, wb_aug, wb_augL, wb_app, wb_appS, wb_sti, wb_frz, wb_ifs, wb_whl, wb_for, wb_ret, wm_litT, wm_litF, wm_varT, wm_varF, wm_binT, wm_binF, wm_negT, wm_negF, wm_noT, wm_noF, wm_andT, wm_andF, wm_orT, wm_orF, wm_cmpT, wm_cmpF, wm_iteT, wm_iteF, wm_idxT, wm_idxF, wm_slcT, wm_slcF, wm_callT, wm_callF, wm_biT, wm_biF, wm_lstT, wm_lstF, wm_tupT, wm_tupF, wl_n, wl_c, wc_n, wc_c, wr_rng, wr_var, wr_slc, wr_call, wr_idx, wr_bin, wr_lst, wr_tup, wr_comp, wr_bi, setS, getS, stillV, allV, Slot.still, Slot.all, Slot.froze, updV, fi_f, fi_t, as_b, cm_iEq, cm_iNotEq, cm_iLt, cm_iLtE, cm_iGt, cm_iGtE, cm_sEq, cm_sNotEq, cm_lEq, cm_lNe, cm_in_i, cm_in_s, bi_lenS, bi_lenL, bi_min2, bi_minL, bi_sum, bi_ord, bi_chr, bi_abs, bi_isint, bi_lower, bi_join, bi_str, tr_n, tr_b, tr_i, tr_s, tr_l, bn_Add, bn_Sub, bn_Mult, bn_FloorDiv, bn_Mod, bn_BitAnd, bn_BitXor, bn_LShift, bn_RShift, bn_s, bn_l, ix_s, ix_l, ix_t, slcK, partOf, sd_n, sd_b, sd_i, sd_s, sd_l, sd_t]; try simp only [tK_, bK_, nK_, whl_s, for_s, for_n, wb_nil, wb_asg, wb_asgS, wb_asgO, wb_asgR, wb_asg2, wb_swp, wb_aug, wb_augL, wb_app, wb_appS, wb_sti, wb_frz, wb_ifs, wb_whl, wb_for, wb_ret, wm_litT, wm_litF, wm_varT, wm_varF, wm_binT, wm_binF, wm_negT, wm_negF, wm_noT, wm_noF, wm_andT, wm_andF, wm_orT, wm_orF, wm_cmpT, wm_cmpF, wm_iteT, wm_iteF, wm_idxT, wm_idxF, wm_slcT, wm_slcF, wm_callT, wm_callF, wm_biT, wm_biF, wm_lstT, wm_lstF, wm_tupT, wm_tupF, wm_comp, wl_n, wl_c, wc_n, wc_c, wr_rng, wr_var, wr_slc, wr_call, wr_idx, wr_bin, wr_lst, wr_tup, wr_comp, wr_bi, setS, getS, stillV, allV, Slot.still, Slot.all, Slot.froze, updV, fi_f, fi_t, as_b, cm_iEq, cm_iNotEq, cm_iLt, cm_iLtE, cm_iGt, cm_iGtE, cm_sEq, cm_sNotEq, cm_lEq, cm_lNe, cm_in_i, cm_in_s, bi_lenS, bi_lenL, bi_min2, bi_minL, bi_sum, bi_ord, bi_chr, bi_abs, bi_isint, bi_lower, bi_join, bi_str, tr_n, tr_b, tr_i, tr_s, tr_l, bn_Add, bn_Sub, bn_Mult, bn_FloorDiv, bn_Mod, bn_BitAnd, bn_BitXor, bn_LShift, bn_RShift, bn_s, bn_l, ix_s, ix_l, ix_t, slcK, partOf, sd_n, sd_b, sd_i, sd_s, sd_l, sd_t, and_true, true_and, Bool.true_eq_false, Bool.false_eq_true, false_implies, true_implies, forall_const])
  refine ⟨_, hm 4294967295, by show 1 ≤ 2 ^ 20; decide, ?_⟩
  unfold itemsK
  refine ⟨by rw [sOf_len]; omega, ?_⟩
  rw [sOf_list]
  refine marks_loop hg hm _ _ l 4294967295 [mirF 4294967295] _ (by show 1 + l.length ≤ 1000; omega) fun s1 s3 => ?_
  rw [nK_]
  (try dsimp only [tK_, bK_, nK_, whl_s, for_s, for_n, wb_nil, wb_asg, wb_asgS, wb_asgO, wb_asgR, wb_asg2, wb_swp, wb_aug, wb_augL, wb_app, wb_appS, wb_sti, wb_frz, wb_ifs, wb_whl, wb_for, wb_ret, wm_litT, wm_litF, wm_varT, wm_varF, wm_binT, wm_binF, wm_negT, wm_negF, wm_noT, wm_noF, wm_andT, wm_andF, wm_orT, wm_orF, wm_cmpT, wm_cmpF, wm_iteT, wm_iteF, wm_idxT, wm_idxF, wm_slcT, wm_slcF, wm_callT, wm_callF, wm_biT, wm_biF, wm_lstT, wm_lstF, wm_tupT, wm_tupF, wl_n, wl_c, wc_n, wc_c, wr_rng, wr_var, wr_slc, wr_call, wr_idx, wr_bin, wr_lst, wr_tup, wr_comp, wr_bi, setS, getS, stillV, allV, Slot.still, Slot.all, Slot.froze, updV, fi_f, fi_t, as_b, cm_iEq, cm_iNotEq, cm_iLt, cm_iLtE, cm_iGt, cm_iGtE, cm_sEq, cm_sNotEq, cm_lEq, cm_lNe, cm_in_i, cm_in_s, bi_lenS, bi_lenL, bi_min2, bi_minL, bi_sum, bi_ord, bi_chr, bi_abs, bi_isint, bi_lower, bi_join, bi_str, tr_n, tr_b, tr_i, tr_s, tr_l, bn_Add, bn_Sub, bn_Mult, bn_FloorDiv, bn_Mod, bn_BitAnd, bn_BitXor, bn_LShift, bn_RShift, bn_s, bn_l, ix_s, ix_l, ix_t, slcK, partOf, sd_n, sd_b, sd_i, sd_s, sd_l, sd_t]; try simp only [tK_, bK_, nK_, whl_s, for_s, for_n, wb_nil, wb_asg, wb_asgS, wb_asgO, wb_asgR, wb_asg2, wb_swp, wb_aug, wb_augL, wb_app, wb_appS, wb_sti, wb_frz, wb_ifs, wb_whl, wb_for, wb_ret, wm_litT, wm_litF, wm_varT, wm_varF, wm_binT, wm_binF, wm_negT, wm_negF, wm_noT, wm_noF, wm_andT, wm_andF, wm_orT, wm_orF, wm_cmpT, wm_cmpF, wm_iteT, wm_iteF, wm_idxT, wm_idxF, wm_slcT, wm_slcF, wm_callT, wm_callF, wm_biT, wm_biF, wm_lstT, wm_lstF, wm_tupT, wm_tupF, wm_comp, wl_n, wl_c, wc_n, wc_c, wr_rng, wr_var, wr_slc, wr_call, wr_idx, wr_bin, wr_lst, wr_tup, wr_comp, wr_bi, setS, getS, stillV, allV, Slot.still, Slot.all, Slot.froze, updV, fi_f, fi_t, as_b, cm_iEq, cm_iNotEq, cm_iLt, cm_iLtE, cm_iGt, cm_iGtE, cm_sEq, cm_sNotEq, cm_lEq, cm_lNe, cm_in_i, cm_in_s, bi_lenS, bi_lenL, bi_min2, bi_minL, bi_sum, bi_ord, bi_chr, bi_abs, bi_isint, bi_lower, bi_join, bi_str, tr_n, tr_b, tr_i, tr_s, tr_l, bn_Add, bn_Sub, bn_Mult, bn_FloorDiv, bn_Mod, bn_BitAnd, bn_BitXor, bn_LShift, bn_RShift, bn_s, bn_l, ix_s, ix_l, ix_t, slcK, partOf, sd_n, sd_b, sd_i, sd_s, sd_l, sd_t, and_true, true_and, Bool.true_eq_false, Bool.false_eq_true, false_implies, true_implies, forall_const])
  have e : nats ([mirF 4294967295] ++ (regs 4294967295 l).map mirF) = nats (marksF l) := rfl
  rw [e, nats_len, marks_len]
  refine ⟨by decide, by omega, rng1 (by omega) ?_⟩
  try (show forK _ 5 _ [_, _, _, _, .own ((List.range 0).map (rowD l)), _, _, _, _] _)
  refine sums_out hr hl hl5 _ _ _ (l.length + 1) 0 _ _ _ _ (by omega) fun s5 s6 s7 s8 => ?_
  rw [nK_]
  (try dsimp only [tK_, bK_, nK_, whl_s, for_s, for_n, wb_nil, wb_asg, wb_asgS, wb_asgO, wb_asgR, wb_asg2, wb_swp, wb_aug, wb_augL, wb_app, wb_appS, wb_sti, wb_frz, wb_ifs, wb_whl, wb_for, wb_ret, wm_litT, wm_litF, wm_varT, wm_varF, wm_binT, wm_binF, wm_negT, wm_negF, wm_noT, wm_noF, wm_andT, wm_andF, wm_orT, wm_orF, wm_cmpT, wm_cmpF, wm_iteT, wm_iteF, wm_idxT, wm_idxF, wm_slcT, wm_slcF, wm_callT, wm_callF, wm_biT, wm_biF, wm_lstT, wm_lstF, wm_tupT, wm_tupF, wl_n, wl_c, wc_n, wc_c, wr_rng, wr_var, wr_slc, wr_call, wr_idx, wr_bin, wr_lst, wr_tup, wr_comp, wr_bi, setS, getS, stillV, allV, Slot.still, Slot.all, Slot.froze, updV, fi_f, fi_t, as_b, cm_iEq, cm_iNotEq, cm_iLt, cm_iLtE, cm_iGt, cm_iGtE, cm_sEq, cm_sNotEq, cm_lEq, cm_lNe, cm_in_i, cm_in_s, bi_lenS, bi_lenL, bi_min2, bi_minL, bi_sum, bi_ord, bi_chr, bi_abs, bi_isint, bi_lower, bi_join, bi_str, tr_n, tr_b, tr_i, tr_s, tr_l, bn_Add, bn_Sub, bn_Mult, bn_FloorDiv, bn_Mod, bn_BitAnd, bn_BitXor, bn_LShift, bn_RShift, bn_s, bn_l, ix_s, ix_l, ix_t, slcK, partOf, sd_n, sd_b, sd_i, sd_s, sd_l, sd_t]; try simp only [tK_, bK_, nK_, whl_s, for_s, for_n, wb_nil, wb_asg, wb_asgS, wb_asgO, wb_asgR, wb_asg2, wb_swp, wb_aug, wb_augL, wb_app, wb_appS, wb_sti, wb_frz, wb_ifs, wb_whl, wb_for, wb_ret, wm_litT, wm_litF, wm_varT, wm_varF, wm_binT, wm_binF, wm_negT, wm_negF, wm_noT, wm_noF, wm_andT, wm_andF, wm_orT, wm_orF, wm_cmpT, wm_cmpF, wm_iteT, wm_iteF, wm_idxT, wm_idxF, wm_slcT, wm_slcF, wm_callT, wm_callF, wm_biT, wm_biF, wm_lstT, wm_lstF, wm_tupT, wm_tupF, wm_comp, wl_n, wl_c, wc_n, wc_c, wr_rng, wr_var, wr_slc, wr_call, wr_idx, wr_bin, wr_lst, wr_tup, wr_comp, wr_bi, setS, getS, stillV, allV, Slot.still, Slot.all, Slot.froze, updV, fi_f, fi_t, as_b, cm_iEq, cm_iNotEq, cm_iLt, cm_iLtE, cm_iGt, cm_iGtE, cm_sEq, cm_sNotEq, cm_lEq, cm_lNe, cm_in_i, cm_in_s, bi_lenS, bi_lenL, bi_min2, bi_minL, bi_sum, bi_ord, bi_chr, bi_abs, bi_isint, bi_lower, bi_join, bi_str, tr_n, tr_b, tr_i, tr_s, tr_l, bn_Add, bn_Sub, bn_Mult, bn_FloorDiv, bn_Mod, bn_BitAnd, bn_BitXor, bn_LShift, bn_RShift, bn_s, bn_l, ix_s, ix_l, ix_t, slcK, partOf, sd_n, sd_b, sd_i, sd_s, sd_l, sd_t, and_true, true_and, Bool.true_eq_false, Bool.false_eq_true, false_implies, true_implies, forall_const])
end
end Mine
end V10

section V11
open PySem PySem.W PyProof.Rows PySem.Calls PyProof.V PySem.Spec PySem.SeqAt
namespace Mine
/-! # The stretch that two words share -/
noncomputable def lcpF : List Nat → List Nat → Nat
  | x :: a, y :: b => if x = y then lcpF a b + 1 else 0
  | _, _ => 0
theorem lcp_nil (b : List Nat) : lcpF [] b = 0 := by cases b <;> rfl
theorem lcp_nil' (a : List Nat) : lcpF a [] = 0 := by cases a <;> rfl
theorem lcp_cons (x y : Nat) (a b : List Nat) : lcpF (x :: a) (y :: b) = if x = y then lcpF a b + 1 else 0 := rfl
theorem lcp_le : ∀ a b : List Nat, lcpF a b ≤ a.length ∧ lcpF a b ≤ b.length
  | [], b => by rw [lcp_nil]; exact ⟨Nat.zero_le _, Nat.zero_le _⟩
  | _ :: _, [] => ⟨Nat.zero_le _, Nat.zero_le _⟩
  | x :: a, y :: b => by
    have := lcp_le a b
    rw [lcp_cons, List.length_cons, List.length_cons]
    split <;> omega
theorem lcp_iff : ∀ (a b : List Nat) (k : Nat), k ≤ a.length → k ≤ b.length → (a.take k = b.take k ↔ k ≤ lcpF a b)
  | _, _, 0, _, _ => by simp
  | [], _, k + 1, h, _ => by cases h
  | _ :: _, [], k + 1, _, h => by cases h
  | x :: a, y :: b, k + 1, h1, h2 => by
    rw [List.take_succ_cons, List.take_succ_cons, List.cons.injEq, lcp_cons, lcp_iff a b k (by simpa using h1) (by simpa using h2)]
    by_cases e : x = y
    · rw [if_pos e]
      exact ⟨fun q => by omega, fun q => ⟨e, by omega⟩⟩
    · rw [if_neg e]
      exact ⟨fun q => absurd q.1 e, fun q => absurd q (by omega)⟩
theorem lcp_take (a b : List Nat) : a.take (lcpF a b) = b.take (lcpF a b) := (lcp_iff a b _ (lcp_le a b).1 (lcp_le a b).2).mpr (Nat.le_refl _)

theorem row_len (a : List Nat) (i : Nat) : (rowF a i).length = a.length + 1 - i := by unfold rowF; rw [List.length_map, List.length_range]
theorem SD_len (a : List Nat) : (SD a).length = a.length + 1 := by unfold SD; rw [List.length_map, List.length_range]
theorem idx_SD {a : List Nat} {i : Nat} (h : i ≤ a.length) : pyIdx (SD a) (i : Int) = some (.list (nats (rowF a i))) := by
  rw [idx_nat _ i (by rw [SD_len]; omega)]
  simp only [SD, List.getElem_map, List.getElem_range]
  rfl
theorem row_get {a : List Nat} {i k : Nat} (h : i + k ≤ a.length) : (rowF a i).getD k 0 = zF ((a.drop i).take k) := by
  unfold rowF
  rw [List.getD_eq_getElem?_getD, List.getElem?_eq_getElem (by rw [List.length_map, List.length_range]; omega), Option.getD_some, List.getElem_map, List.getElem_range]
theorem idx_row {a : List Nat} {i k : Nat} (h : i + k ≤ a.length) : pyIdx (nats (rowF a i)) (k : Int) = some (.int (zF ((a.drop i).take k) : Nat)) := by
  rw [idx_nats _ k (by rw [row_len]; omega), row_get h]
/-- a word of the law's letters -/
structure Wd (a : List Nat) : Prop where
  let8 : ∀ c ∈ a, c ∈ A8'
  five : a.length ≤ 5
theorem Wd.part {a : List Nat} (h : Wd a) (i k : Nat) : ∀ c ∈ (a.drop i).take k, c ∈ A8' := fun c hc => h.let8 c (List.mem_of_mem_drop (List.mem_of_mem_take hc))
theorem zF_eq {a b : List Nat} (ha : Wd a) (hb : Wd b) {i j k : Nat} (h1 : i + k ≤ a.length) (h2 : j + k ≤ b.length) : zF ((a.drop i).take k) = zF ((b.drop j).take k) ↔ (a.drop i).take k = (b.drop j).take k :=
  zF_inj (ha.part i k) (hb.part j k) (by rw [List.length_take, List.length_take, List.length_drop, List.length_drop]; omega) (by have := ha.five; rw [List.length_take, List.length_drop]; omega)
theorem min_cast (a b : Nat) : (if (b : Int) < (a : Int) then (b : Int) else (a : Int)) = ((min a b : Nat) : Int) := by
  rw [Nat.min_def]
  split <;> split <;> omega
section
variable {Sp : String → List PyData → PyData → Prop} {kr : PyData → Prop} {kn : Ev → Prop}
theorem sh_loop {a b : List Nat} (ha : Wd a) (hb : Wd b) {i j : Nat} (hi : i ≤ a.length) (hj : j ≤ b.length) :
    ∀ (N low high : Nat) (s6 : Slot), high < N + low → low ≤ lcpF (a.drop i) (b.drop j) → lcpF (a.drop i) (b.drop j) ≤ high → i + high ≤ a.length → j + high ≤ b.length →
    (∀ s5 s6, kn [.imm (.list (SD a)), .imm (.list (SD b)), .imm (.int (i : Nat)), .imm (.int (j : Nat)), .imm (.int (lcpF (a.drop i) (b.drop j) : Nat)), s5, s6]) →
    whlK (tK Sp (.cmp .Lt (.var 4) (.var 5))) (bK Sp mT_shared_1 kr) N [.imm (.list (SD a)), .imm (.list (SD b)), .imm (.int (i : Nat)), .imm (.int (j : Nat)), .imm (.int (low : Nat)), .imm (.int (high : Nat)), s6] kn
  | 0, low, high, s6, h1, h2, h3, _, _, _ => by omega
  | N + 1, low, high, s6, h1, h2, h3, h4, h5, h => by
    have l5 := ha.five
    have l6 := hb.five
    unfold mT_shared_1
    (try dsimp only [tK_, bK_, nK_, whl_s, for_s, for_n, wb_nil, wb_asg, wb_asgS, wb_asgO, wb_asgR, wb_asg2, wb_swp, wb_aug, wb_augL, wb_app, wb_appS, wb_sti, wb_frz, wb_ifs, wb_whl, wb_for, wb_ret, wm_litT, wm_litF, wm_varT, wm_varF, wm_binT, wm_binF, wm_negT, wm_negF, wm_noT, wm_noF, wm_andT, wm_andF, wm_orT, wm_orF, wm_cmpT, wm_cmpF, wm_iteT, wm_iteF, wm_idxT, wm_idxF, wm_slcT, wm_slcF, wm_callT, wm_callF, wm_biT, wm_biF, wm_lstT, wm_lstF, wm_tupT, wm_tupF, wl_n, wl_c, wc_n, wc_c, wr_rng, wr_var, wr_slc, wr_call, wr_idx, wr_bin, wr_lst, wr_tup, wr_comp, wr_bi, setS, getS, stillV, allV, Slot.still, Slot.all, Slot.froze, updV, fi_f, fi_t, as_b, cm_iEq, cm_iNotEq, cm_iLt, cm_iLtE, cm_iGt, cm_iGtE, cm_sEq, cm_sNotEq, cm_lEq, cm_lNe, cm_in_i, cm_in_s, bi_lenS, bi_lenL, bi_min2, bi_minL, bi_sum, bi_ord, bi_chr, bi_abs, bi_isint, bi_lower, bi_join, bi_str, tr_n, tr_b, tr_i, tr_s, tr_l, bn_Add, bn_Sub, bn_Mult, bn_FloorDiv, bn_Mod, bn_BitAnd, bn_BitXor, bn_LShift, bn_RShift, bn_s, bn_l, ix_s, ix_l, ix_t, slcK, partOf, sd_n, sd_b, sd_i, sd_s, sd_l, sd_t]; try simp only [tK_, bK_, nK_, whl_s, for_s, for_n, wb_nil, wb_asg, wb_asgS, wb_asgO, wb_asgR, wb_asg2, wb_swp, wb_aug, wb_augL, wb_app, wb_appS, wb_sti, wb_frz, wb_ifs, wb_whl, wb_for, wb_ret, wm_litT, wm_litF, wm_varT, wm_varF, wm_binT, wm_binF, wm_negT, wm_negF, wm_noT, wm_noF, wm_andT, wm_andF, wm_orT, wm_orF, wm_cmpT, wm_cmpF, wm_iteT, wm_iteF, wm_idxT, wm_idxF, wm_slcT, wm_slcF, wm_callT, wm_callF, wm_biT, wm_biF, wm_lstT, wm_lstF, wm_tupT, wm_tupF, wm_comp, wl_n, wl_c, wc_n, wc_c, wr_rng, wr_var, wr_slc, wr_call, wr_idx, wr_bin, wr_lst, wr_tup, wr_comp, wr_bi, setS, getS, stillV, allV, Slot.still, Slot.all, Slot.froze, updV, fi_f, fi_t, as_b, cm_iEq, cm_iNotEq, cm_iLt, cm_iLtE, cm_iGt, cm_iGtE, cm_sEq, cm_sNotEq, cm_lEq, cm_lNe, cm_in_i, cm_in_s, bi_lenS, bi_lenL, bi_min2, bi_minL, bi_sum, bi_ord, bi_chr, bi_abs, bi_isint, bi_lower, bi_join, bi_str, tr_n, tr_b, tr_i, tr_s, tr_l, bn_Add, bn_Sub, bn_Mult, bn_FloorDiv, bn_Mod, bn_BitAnd, bn_BitXor, bn_LShift, bn_RShift, bn_s, bn_l, ix_s, ix_l, ix_t, slcK, partOf, sd_n, sd_b, sd_i, sd_s, sd_l, sd_t, and_true, true_and, Bool.true_eq_false, Bool.false_eq_true, false_implies, true_implies, forall_const])
    refine ⟨fun q => ⟨by decide, ?_⟩, fun q => ?_⟩
    · have q := of_decide_eq_true q
      have e : ((low : Int) + (high : Int) + 1).fdiv 2 = (((low + high + 1) / 2 : Nat) : Int) := by
        rw [Int.fdiv_eq_ediv_of_nonneg _ (by decide)]
        omega
      rw [e]
      have q : low < high := by omega
      have l1 : low + 1 ≤ (low + high + 1) / 2 := by omega
      have l2 : (low + high + 1) / 2 ≤ high := by omega
      generalize (low + high + 1) / 2 = half at *
      rw [idx_SD hi, idx_SD hj]
      (try dsimp only [tK_, bK_, nK_, whl_s, for_s, for_n, wb_nil, wb_asg, wb_asgS, wb_asgO, wb_asgR, wb_asg2, wb_swp, wb_aug, wb_augL, wb_app, wb_appS, wb_sti, wb_frz, wb_ifs, wb_whl, wb_for, wb_ret, wm_litT, wm_litF, wm_varT, wm_varF, wm_binT, wm_binF, wm_negT, wm_negF, wm_noT, wm_noF, wm_andT, wm_andF, wm_orT, wm_orF, wm_cmpT, wm_cmpF, wm_iteT, wm_iteF, wm_idxT, wm_idxF, wm_slcT, wm_slcF, wm_callT, wm_callF, wm_biT, wm_biF, wm_lstT, wm_lstF, wm_tupT, wm_tupF, wl_n, wl_c, wc_n, wc_c, wr_rng, wr_var, wr_slc, wr_call, wr_idx, wr_bin, wr_lst, wr_tup, wr_comp, wr_bi, setS, getS, stillV, allV, Slot.still, Slot.all, Slot.froze, updV, fi_f, fi_t, as_b, cm_iEq, cm_iNotEq, cm_iLt, cm_iLtE, cm_iGt, cm_iGtE, cm_sEq, cm_sNotEq, cm_lEq, cm_lNe, cm_in_i, cm_in_s, bi_lenS, bi_lenL, bi_min2, bi_minL, bi_sum, bi_ord, bi_chr, bi_abs, bi_isint, bi_lower, bi_join, bi_str, tr_n, tr_b, tr_i, tr_s, tr_l, bn_Add, bn_Sub, bn_Mult, bn_FloorDiv, bn_Mod, bn_BitAnd, bn_BitXor, bn_LShift, bn_RShift, bn_s, bn_l, ix_s, ix_l, ix_t, slcK, partOf, sd_n, sd_b, sd_i, sd_s, sd_l, sd_t]; try simp only [tK_, bK_, nK_, whl_s, for_s, for_n, wb_nil, wb_asg, wb_asgS, wb_asgO, wb_asgR, wb_asg2, wb_swp, wb_aug, wb_augL, wb_app, wb_appS, wb_sti, wb_frz, wb_ifs, wb_whl, wb_for, wb_ret, wm_litT, wm_litF, wm_varT, wm_varF, wm_binT, wm_binF, wm_negT, wm_negF, wm_noT, wm_noF, wm_andT, wm_andF, wm_orT, wm_orF, wm_cmpT, wm_cmpF, wm_iteT, wm_iteF, wm_idxT, wm_idxF, wm_slcT, wm_slcF, wm_callT, wm_callF, wm_biT, wm_biF, wm_lstT, wm_lstF, wm_tupT, wm_tupF, wm_comp, wl_n, wl_c, wc_n, wc_c, wr_rng, wr_var, wr_slc, wr_call, wr_idx, wr_bin, wr_lst, wr_tup, wr_comp, wr_bi, setS, getS, stillV, allV, Slot.still, Slot.all, Slot.froze, updV, fi_f, fi_t, as_b, cm_iEq, cm_iNotEq, cm_iLt, cm_iLtE, cm_iGt, cm_iGtE, cm_sEq, cm_sNotEq, cm_lEq, cm_lNe, cm_in_i, cm_in_s, bi_lenS, bi_lenL, bi_min2, bi_minL, bi_sum, bi_ord, bi_chr, bi_abs, bi_isint, bi_lower, bi_join, bi_str, tr_n, tr_b, tr_i, tr_s, tr_l, bn_Add, bn_Sub, bn_Mult, bn_FloorDiv, bn_Mod, bn_BitAnd, bn_BitXor, bn_LShift, bn_RShift, bn_s, bn_l, ix_s, ix_l, ix_t, slcK, partOf, sd_n, sd_b, sd_i, sd_s, sd_l, sd_t, and_true, true_and, Bool.true_eq_false, Bool.false_eq_true, false_implies, true_implies, forall_const])
      rw [idx_row (show i + half ≤ a.length by omega), idx_row (show j + half ≤ b.length by omega)]
      (try dsimp only [tK_, bK_, nK_, whl_s, for_s, for_n, wb_nil, wb_asg, wb_asgS, wb_asgO, wb_asgR, wb_asg2, wb_swp, wb_aug, wb_augL, wb_app, wb_appS, wb_sti, wb_frz, wb_ifs, wb_whl, wb_for, wb_ret, wm_litT, wm_litF, wm_varT, wm_varF, wm_binT, wm_binF, wm_negT, wm_negF, wm_noT, wm_noF, wm_andT, wm_andF, wm_orT, wm_orF, wm_cmpT, wm_cmpF, wm_iteT, wm_iteF, wm_idxT, wm_idxF, wm_slcT, wm_slcF, wm_callT, wm_callF, wm_biT, wm_biF, wm_lstT, wm_lstF, wm_tupT, wm_tupF, wl_n, wl_c, wc_n, wc_c, wr_rng, wr_var, wr_slc, wr_call, wr_idx, wr_bin, wr_lst, wr_tup, wr_comp, wr_bi, setS, getS, stillV, allV, Slot.still, Slot.all, Slot.froze, updV, fi_f, fi_t, as_b, cm_iEq, cm_iNotEq, cm_iLt, cm_iLtE, cm_iGt, cm_iGtE, cm_sEq, cm_sNotEq, cm_lEq, cm_lNe, cm_in_i, cm_in_s, bi_lenS, bi_lenL, bi_min2, bi_minL, bi_sum, bi_ord, bi_chr, bi_abs, bi_isint, bi_lower, bi_join, bi_str, tr_n, tr_b, tr_i, tr_s, tr_l, bn_Add, bn_Sub, bn_Mult, bn_FloorDiv, bn_Mod, bn_BitAnd, bn_BitXor, bn_LShift, bn_RShift, bn_s, bn_l, ix_s, ix_l, ix_t, slcK, partOf, sd_n, sd_b, sd_i, sd_s, sd_l, sd_t]; try simp only [tK_, bK_, nK_, whl_s, for_s, for_n, wb_nil, wb_asg, wb_asgS, wb_asgO, wb_asgR, wb_asg2, wb_swp, wb_aug, wb_augL, wb_app, wb_appS, wb_sti, wb_frz, wb_ifs, wb_whl, wb_for, wb_ret, wm_litT, wm_litF, wm_varT, wm_varF, wm_binT, wm_binF, wm_negT, wm_negF, wm_noT, wm_noF, wm_andT, wm_andF, wm_orT, wm_orF, wm_cmpT, wm_cmpF, wm_iteT, wm_iteF, wm_idxT, wm_idxF, wm_slcT, wm_slcF, wm_callT, wm_callF, wm_biT, wm_biF, wm_lstT, wm_lstF, wm_tupT, wm_tupF, wm_comp, wl_n, wl_c, wc_n, wc_c, wr_rng, wr_var, wr_slc, wr_call, wr_idx, wr_bin, wr_lst, wr_tup, wr_comp, wr_bi, setS, getS, stillV, allV, Slot.still, Slot.all, Slot.froze, updV, fi_f, fi_t, as_b, cm_iEq, cm_iNotEq, cm_iLt, cm_iLtE, cm_iGt, cm_iGtE, cm_sEq, cm_sNotEq, cm_lEq, cm_lNe, cm_in_i, cm_in_s, bi_lenS, bi_lenL, bi_min2, bi_minL, bi_sum, bi_ord, bi_chr, bi_abs, bi_isint, bi_lower, bi_join, bi_str, tr_n, tr_b, tr_i, tr_s, tr_l, bn_Add, bn_Sub, bn_Mult, bn_FloorDiv, bn_Mod, bn_BitAnd, bn_BitXor, bn_LShift, bn_RShift, bn_s, bn_l, ix_s, ix_l, ix_t, slcK, partOf, sd_n, sd_b, sd_i, sd_s, sd_l, sd_t, and_true, true_and, Bool.true_eq_false, Bool.false_eq_true, false_implies, true_implies, forall_const])
      rw [beq_cast]
      have key := (zF_eq ha hb (k := half) (show i + half ≤ a.length by omega) (show j + half ≤ b.length by omega)).trans (lcp_iff (a.drop i) (b.drop j) half (by rw [List.length_drop]; omega) (by rw [List.length_drop]; omega))
      refine ⟨⟨by omega, by omega⟩, ⟨by omega, by omega⟩, ⟨by omega, by omega⟩, ⟨by omega, by omega⟩, fun z => ?_, fun z => ?_⟩
      · rw [wK_]
        exact sh_loop ha hb hi hj N half high _ (by omega) (key.mp (beq_iff_eq.mp z)) h3 h4 h5 h
      · rw [wK_, show (half : Int) - 1 = ((half - 1 : Nat) : Int) by omega]
        have : ¬ half ≤ lcpF (a.drop i) (b.drop j) := fun e => by rw [key.mpr e, beq_self_eq_true] at z; cases z
        exact sh_loop ha hb hi hj N low (half - 1) _ (by omega) h2 (by omega) (by omega) (by omega) h
    · have q := of_decide_eq_false q
      have e : low = lcpF (a.drop i) (b.drop j) := by omega
      rw [e]
      exact h _ _
theorem shared_wp {a b : List Nat} (ha : Wd a) (hb : Wd b) {i j : Nat} (hi : i ≤ a.length) (hj : j ≤ b.length) :
    wpB Sp mT_shared [.imm (.list (SD a)), .imm (.list (SD b)), .imm (.int (i : Nat)), .imm (.int (j : Nat)), .un, .un, .un] (fun _ => False) (fun r => r = .int (lcpF (a.drop i) (b.drop j) : Nat)) := by
  have l5 := ha.five
  have l6 := hb.five
  have ll := lcp_le (a.drop i) (b.drop j)
  rw [List.length_drop, List.length_drop] at ll
  unfold mT_shared
  (try dsimp only [tK_, bK_, nK_, whl_s, for_s, for_n, wb_nil, wb_asg, wb_asgS, wb_asgO, wb_asgR, wb_asg2, wb_swp, wb_aug, wb_augL, wb_app, wb_appS, wb_sti, wb_frz, wb_ifs, wb_whl, wb_for, wb_ret, wm_litT, wm_litF, wm_varT, wm_varF, wm_binT, wm_binF, wm_negT, wm_negF, wm_noT, wm_noF, wm_andT, wm_andF, wm_orT, wm_orF, wm_cmpT, wm_cmpF, wm_iteT, wm_iteF, wm_idxT, wm_idxF, wm_slcT, wm_slcF, wm_callT, wm_callF, wm_biT, wm_biF, wm_lstT, wm_lstF, wm_tupT, wm_tupF, wl_n, wl_c, wc_n, wc_c, wr_rng, wr_var, wr_slc, wr_call, wr_idx, wr_bin, wr_lst, wr_tup, wr_comp, wr_bi, setS, getS, stillV, allV, Slot.still, Slot.all, Slot.froze, updV, fi_f, fi_t, as_b, cm_iEq, cm_iNotEq, cm_iLt, cm_iLtE, cm_iGt, cm_iGtE, cm_sEq, cm_sNotEq, cm_lEq, cm_lNe, cm_in_i, cm_in_s, bi_lenS, bi_lenL, bi_min2, bi_minL, bi_sum, bi_ord, bi_chr, bi_abs, bi_isint, bi_lower, bi_join, bi_str, tr_n, tr_b, tr_i, tr_s, tr_l, bn_Add, bn_Sub, bn_Mult, bn_FloorDiv, bn_Mod, bn_BitAnd, bn_BitXor, bn_LShift, bn_RShift, bn_s, bn_l, ix_s, ix_l, ix_t, slcK, partOf, sd_n, sd_b, sd_i, sd_s, sd_l, sd_t]; try simp only [tK_, bK_, nK_, whl_s, for_s, for_n, wb_nil, wb_asg, wb_asgS, wb_asgO, wb_asgR, wb_asg2, wb_swp, wb_aug, wb_augL, wb_app, wb_appS, wb_sti, wb_frz, wb_ifs, wb_whl, wb_for, wb_ret, wm_litT, wm_litF, wm_varT, wm_varF, wm_binT, wm_binF, wm_negT, wm_negF, wm_noT, wm_noF, wm_andT, wm_andF, wm_orT, wm_orF, wm_cmpT, wm_cmpF, wm_iteT, wm_iteF, wm_idxT, wm_idxF, wm_slcT, wm_slcF, wm_callT, wm_callF, wm_biT, wm_biF, wm_lstT, wm_lstF, wm_tupT, wm_tupF, wm_comp, wl_n, wl_c, wc_n, wc_c, wr_rng, wr_var, wr_slc, wr_call, wr_idx, wr_bin, wr_lst, wr_tup, wr_comp, wr_bi, setS, getS, stillV, allV, Slot.still, Slot.all, Slot.froze, updV, fi_f, fi_t, as_b, cm_iEq, cm_iNotEq, cm_iLt, cm_iLtE, cm_iGt, cm_iGtE, cm_sEq, cm_sNotEq, cm_lEq, cm_lNe, cm_in_i, cm_in_s, bi_lenS, bi_lenL, bi_min2, bi_minL, bi_sum, bi_ord, bi_chr, bi_abs, bi_isint, bi_lower, bi_join, bi_str, tr_n, tr_b, tr_i, tr_s, tr_l, bn_Add, bn_Sub, bn_Mult, bn_FloorDiv, bn_Mod, bn_BitAnd, bn_BitXor, bn_LShift, bn_RShift, bn_s, bn_l, ix_s, ix_l, ix_t, slcK, partOf, sd_n, sd_b, sd_i, sd_s, sd_l, sd_t, and_true, true_and, Bool.true_eq_false, Bool.false_eq_true, false_implies, true_implies, forall_const])
  rw [idx_SD hi, idx_SD hj]
  (try dsimp only [tK_, bK_, nK_, whl_s, for_s, for_n, wb_nil, wb_asg, wb_asgS, wb_asgO, wb_asgR, wb_asg2, wb_swp, wb_aug, wb_augL, wb_app, wb_appS, wb_sti, wb_frz, wb_ifs, wb_whl, wb_for, wb_ret, wm_litT, wm_litF, wm_varT, wm_varF, wm_binT, wm_binF, wm_negT, wm_negF, wm_noT, wm_noF, wm_andT, wm_andF, wm_orT, wm_orF, wm_cmpT, wm_cmpF, wm_iteT, wm_iteF, wm_idxT, wm_idxF, wm_slcT, wm_slcF, wm_callT, wm_callF, wm_biT, wm_biF, wm_lstT, wm_lstF, wm_tupT, wm_tupF, wl_n, wl_c, wc_n, wc_c, wr_rng, wr_var, wr_slc, wr_call, wr_idx, wr_bin, wr_lst, wr_tup, wr_comp, wr_bi, setS, getS, stillV, allV, Slot.still, Slot.all, Slot.froze, updV, fi_f, fi_t, as_b, cm_iEq, cm_iNotEq, cm_iLt, cm_iLtE, cm_iGt, cm_iGtE, cm_sEq, cm_sNotEq, cm_lEq, cm_lNe, cm_in_i, cm_in_s, bi_lenS, bi_lenL, bi_min2, bi_minL, bi_sum, bi_ord, bi_chr, bi_abs, bi_isint, bi_lower, bi_join, bi_str, tr_n, tr_b, tr_i, tr_s, tr_l, bn_Add, bn_Sub, bn_Mult, bn_FloorDiv, bn_Mod, bn_BitAnd, bn_BitXor, bn_LShift, bn_RShift, bn_s, bn_l, ix_s, ix_l, ix_t, slcK, partOf, sd_n, sd_b, sd_i, sd_s, sd_l, sd_t]; try simp only [tK_, bK_, nK_, whl_s, for_s, for_n, wb_nil, wb_asg, wb_asgS, wb_asgO, wb_asgR, wb_asg2, wb_swp, wb_aug, wb_augL, wb_app, wb_appS, wb_sti, wb_frz, wb_ifs, wb_whl, wb_for, wb_ret, wm_litT, wm_litF, wm_varT, wm_varF, wm_binT, wm_binF, wm_negT, wm_negF, wm_noT, wm_noF, wm_andT, wm_andF, wm_orT, wm_orF, wm_cmpT, wm_cmpF, wm_iteT, wm_iteF, wm_idxT, wm_idxF, wm_slcT, wm_slcF, wm_callT, wm_callF, wm_biT, wm_biF, wm_lstT, wm_lstF, wm_tupT, wm_tupF, wm_comp, wl_n, wl_c, wc_n, wc_c, wr_rng, wr_var, wr_slc, wr_call, wr_idx, wr_bin, wr_lst, wr_tup, wr_comp, wr_bi, setS, getS, stillV, allV, Slot.still, Slot.all, Slot.froze, updV, fi_f, fi_t, as_b, cm_iEq, cm_iNotEq, cm_iLt, cm_iLtE, cm_iGt, cm_iGtE, cm_sEq, cm_sNotEq, cm_lEq, cm_lNe, cm_in_i, cm_in_s, bi_lenS, bi_lenL, bi_min2, bi_minL, bi_sum, bi_ord, bi_chr, bi_abs, bi_isint, bi_lower, bi_join, bi_str, tr_n, tr_b, tr_i, tr_s, tr_l, bn_Add, bn_Sub, bn_Mult, bn_FloorDiv, bn_Mod, bn_BitAnd, bn_BitXor, bn_LShift, bn_RShift, bn_s, bn_l, ix_s, ix_l, ix_t, slcK, partOf, sd_n, sd_b, sd_i, sd_s, sd_l, sd_t, and_true, true_and, Bool.true_eq_false, Bool.false_eq_true, false_implies, true_implies, forall_const])
  rw [nats_len, nats_len, row_len, row_len, min_cast, show ((min (a.length + 1 - i) (b.length + 1 - j) : Nat) : Int) - 1 = ((min (a.length - i) (b.length - j) : Nat) : Int) by omega]
  refine ⟨⟨by omega, by omega⟩, by omega, ⟨by omega, by omega⟩, by omega, 10, ?_⟩
  refine sh_loop ha hb hi hj 10 0 (min (a.length - i) (b.length - j)) _ (by omega) (by omega) (by omega) (by omega) (by omega) fun s5 s6 => ?_
  rw [nK_]
  (try dsimp only [tK_, bK_, nK_, whl_s, for_s, for_n, wb_nil, wb_asg, wb_asgS, wb_asgO, wb_asgR, wb_asg2, wb_swp, wb_aug, wb_augL, wb_app, wb_appS, wb_sti, wb_frz, wb_ifs, wb_whl, wb_for, wb_ret, wm_litT, wm_litF, wm_varT, wm_varF, wm_binT, wm_binF, wm_negT, wm_negF, wm_noT, wm_noF, wm_andT, wm_andF, wm_orT, wm_orF, wm_cmpT, wm_cmpF, wm_iteT, wm_iteF, wm_idxT, wm_idxF, wm_slcT, wm_slcF, wm_callT, wm_callF, wm_biT, wm_biF, wm_lstT, wm_lstF, wm_tupT, wm_tupF, wl_n, wl_c, wc_n, wc_c, wr_rng, wr_var, wr_slc, wr_call, wr_idx, wr_bin, wr_lst, wr_tup, wr_comp, wr_bi, setS, getS, stillV, allV, Slot.still, Slot.all, Slot.froze, updV, fi_f, fi_t, as_b, cm_iEq, cm_iNotEq, cm_iLt, cm_iLtE, cm_iGt, cm_iGtE, cm_sEq, cm_sNotEq, cm_lEq, cm_lNe, cm_in_i, cm_in_s, bi_lenS, bi_lenL, bi_min2, bi_minL, bi_sum, bi_ord, bi_chr, bi_abs, bi_isint, bi_lower, bi_join, bi_str, tr_n, tr_b, tr_i, tr_s, tr_l, bn_Add, bn_Sub, bn_Mult, bn_FloorDiv, bn_Mod, bn_BitAnd, bn_BitXor, bn_LShift, bn_RShift, bn_s, bn_l, ix_s, ix_l, ix_t, slcK, partOf, sd_n, sd_b, sd_i, sd_s, sd_l, sd_t]; try simp only [tK_, bK_, nK_, whl_s, for_s, for_n, wb_nil, wb_asg, wb_asgS, wb_asgO, wb_asgR, wb_asg2, wb_swp, wb_aug, wb_augL, wb_app, wb_appS, wb_sti, wb_frz, wb_ifs, wb_whl, wb_for, wb_ret, wm_litT, wm_litF, wm_varT, wm_varF, wm_binT, wm_binF, wm_negT, wm_negF, wm_noT, wm_noF, wm_andT, wm_andF, wm_orT, wm_orF, wm_cmpT, wm_cmpF, wm_iteT, wm_iteF, wm_idxT, wm_idxF, wm_slcT, wm_slcF, wm_callT, wm_callF, wm_biT, wm_biF, wm_lstT, wm_lstF, wm_tupT, wm_tupF, wm_comp, wl_n, wl_c, wc_n, wc_c, wr_rng, wr_var, wr_slc, wr_call, wr_idx, wr_bin, wr_lst, wr_tup, wr_comp, wr_bi, setS, getS, stillV, allV, Slot.still, Slot.all, Slot.froze, updV, fi_f, fi_t, as_b, cm_iEq, cm_iNotEq, cm_iLt, cm_iLtE, cm_iGt, cm_iGtE, cm_sEq, cm_sNotEq, cm_lEq, cm_lNe, cm_in_i, cm_in_s, bi_lenS, bi_lenL, bi_min2, bi_minL, bi_sum, bi_ord, bi_chr, bi_abs, bi_isint, bi_lower, bi_join, bi_str, tr_n, tr_b, tr_i, tr_s, tr_l, bn_Add, bn_Sub, bn_Mult, bn_FloorDiv, bn_Mod, bn_BitAnd, bn_BitXor, bn_LShift, bn_RShift, bn_s, bn_l, ix_s, ix_l, ix_t, slcK, partOf, sd_n, sd_b, sd_i, sd_s, sd_l, sd_t, and_true, true_and, Bool.true_eq_false, Bool.false_eq_true, false_implies, true_implies, forall_const])

/-! ## .. and from behind -/
noncomputable def lcsF (a b : List Nat) : Nat := lcpF a.reverse b.reverse
theorem lcs_iff (a b : List Nat) (k : Nat) (h1 : k ≤ a.length) (h2 : k ≤ b.length) : a.drop (a.length - k) = b.drop (b.length - k) ↔ k ≤ lcsF a b := by
  unfold lcsF
  rw [← lcp_iff a.reverse b.reverse k (by rw [List.length_reverse]; exact h1) (by rw [List.length_reverse]; exact h2), List.take_reverse, List.take_reverse]
  exact ⟨fun e => by rw [e], fun e => List.reverse_inj.mp e⟩
noncomputable def t_back : MX := (.and (.cmp .Lt (.var 2) (.bin .Sub (.bi .min2 [(.bi .len [(.var 0)]), (.bi .len [(.var 1)])]) (.lit (.int 1)))) (.cmp .Eq (.idx (.idx (.var 0) (.bin .Sub (.bin .Sub (.bi .len [(.var 0)]) (.lit (.int 2))) (.var 2))) (.bin .Add (.var 2) (.lit (.int 1)))) (.idx (.idx (.var 1) (.bin .Sub (.bin .Sub (.bi .len [(.var 1)]) (.lit (.int 2))) (.var 2))) (.bin .Add (.var 2) (.lit (.int 1))))))
theorem bk_loop {a b : List Nat} (ha : Wd a) (hb : Wd b) :
    ∀ (N s : Nat), min a.length b.length < N + s → s ≤ lcsF a b → kn [.imm (.list (SD a)), .imm (.list (SD b)), .imm (.int (lcsF a b : Nat))] →
    whlK (tK Sp t_back) (bK Sp mT_back_1 kr) N [.imm (.list (SD a)), .imm (.list (SD b)), .imm (.int (s : Nat))] kn
  | 0, s, h1, h2, _ => by
    have := lcp_le a.reverse b.reverse
    rw [List.length_reverse, List.length_reverse] at this
    unfold lcsF at h2
    omega
  | N + 1, s, h1, h2, h => by
    have l5 := ha.five
    have l6 := hb.five
    have ll : lcsF a b ≤ a.length ∧ lcsF a b ≤ b.length := by
      have := lcp_le a.reverse b.reverse
      rw [List.length_reverse, List.length_reverse] at this
      exact this
    unfold t_back mT_back_1
    (try dsimp only [tK_, bK_, nK_, whl_s, for_s, for_n, wb_nil, wb_asg, wb_asgS, wb_asgO, wb_asgR, wb_asg2, wb_swp, wb_aug, wb_augL, wb_app, wb_appS, wb_sti, wb_frz, wb_ifs, wb_whl, wb_for, wb_ret, wm_litT, wm_litF, wm_varT, wm_varF, wm_binT, wm_binF, wm_negT, wm_negF, wm_noT, wm_noF, wm_andT, wm_andF, wm_orT, wm_orF, wm_cmpT, wm_cmpF, wm_iteT, wm_iteF, wm_idxT, wm_idxF, wm_slcT, wm_slcF, wm_callT, wm_callF, wm_biT, wm_biF, wm_lstT, wm_lstF, wm_tupT, wm_tupF, wl_n, wl_c, wc_n, wc_c, wr_rng, wr_var, wr_slc, wr_call, wr_idx, wr_bin, wr_lst, wr_tup, wr_comp, wr_bi, setS, getS, stillV, allV, Slot.still, Slot.all, Slot.froze, updV, fi_f, fi_t, as_b, cm_iEq, cm_iNotEq, cm_iLt, cm_iLtE, cm_iGt, cm_iGtE, cm_sEq, cm_sNotEq, cm_lEq, cm_lNe, cm_in_i, cm_in_s, bi_lenS, bi_lenL, bi_min2, bi_minL, bi_sum, bi_ord, bi_chr, bi_abs, bi_isint, bi_lower, bi_join, bi_str, tr_n, tr_b, tr_i, tr_s, tr_l, bn_Add, bn_Sub, bn_Mult, bn_FloorDiv, bn_Mod, bn_BitAnd, bn_BitXor, bn_LShift, bn_RShift, bn_s, bn_l, ix_s, ix_l, ix_t, slcK, partOf, sd_n, sd_b, sd_i, sd_s, sd_l, sd_t]; try simp only [tK_, bK_, nK_, whl_s, for_s, for_n, wb_nil, wb_asg, wb_asgS, wb_asgO, wb_asgR, wb_asg2, wb_swp, wb_aug, wb_augL, wb_app, wb_appS, wb_sti, wb_frz, wb_ifs, wb_whl, wb_for, wb_ret, wm_litT, wm_litF, wm_varT, wm_varF, wm_binT, wm_binF, wm_negT, wm_negF, wm_noT, wm_noF, wm_andT, wm_andF, wm_orT, wm_orF, wm_cmpT, wm_cmpF, wm_iteT, wm_iteF, wm_idxT, wm_idxF, wm_slcT, wm_slcF, wm_callT, wm_callF, wm_biT, wm_biF, wm_lstT, wm_lstF, wm_tupT, wm_tupF, wm_comp, wl_n, wl_c, wc_n, wc_c, wr_rng, wr_var, wr_slc, wr_call, wr_idx, wr_bin, wr_lst, wr_tup, wr_comp, wr_bi, setS, getS, stillV, allV, Slot.still, Slot.all, Slot.froze, updV, fi_f, fi_t, as_b, cm_iEq, cm_iNotEq, cm_iLt, cm_iLtE, cm_iGt, cm_iGtE, cm_sEq, cm_sNotEq, cm_lEq, cm_lNe, cm_in_i, cm_in_s, bi_lenS, bi_lenL, bi_min2, bi_minL, bi_sum, bi_ord, bi_chr, bi_abs, bi_isint, bi_lower, bi_join, bi_str, tr_n, tr_b, tr_i, tr_s, tr_l, bn_Add, bn_Sub, bn_Mult, bn_FloorDiv, bn_Mod, bn_BitAnd, bn_BitXor, bn_LShift, bn_RShift, bn_s, bn_l, ix_s, ix_l, ix_t, slcK, partOf, sd_n, sd_b, sd_i, sd_s, sd_l, sd_t, and_true, true_and, Bool.true_eq_false, Bool.false_eq_true, false_implies, true_implies, forall_const])
    rw [SD_len, SD_len, min_cast]
    refine ⟨by omega, by omega, fun q => ⟨by omega, ?_⟩, fun q => ?_⟩
    · have q := of_decide_eq_true q
      have q : s < min a.length b.length := by omega
      rw [show ((a.length + 1 : Nat) : Int) - 2 - (s : Int) = ((a.length - (s + 1) : Nat) : Int) by omega, show ((b.length + 1 : Nat) : Int) - 2 - (s : Int) = ((b.length - (s + 1) : Nat) : Int) by omega, idx_SD (by omega), idx_SD (by omega), show (s : Int) + 1 = ((s + 1 : Nat) : Int) by omega]
      (try dsimp only [tK_, bK_, nK_, whl_s, for_s, for_n, wb_nil, wb_asg, wb_asgS, wb_asgO, wb_asgR, wb_asg2, wb_swp, wb_aug, wb_augL, wb_app, wb_appS, wb_sti, wb_frz, wb_ifs, wb_whl, wb_for, wb_ret, wm_litT, wm_litF, wm_varT, wm_varF, wm_binT, wm_binF, wm_negT, wm_negF, wm_noT, wm_noF, wm_andT, wm_andF, wm_orT, wm_orF, wm_cmpT, wm_cmpF, wm_iteT, wm_iteF, wm_idxT, wm_idxF, wm_slcT, wm_slcF, wm_callT, wm_callF, wm_biT, wm_biF, wm_lstT, wm_lstF, wm_tupT, wm_tupF, wl_n, wl_c, wc_n, wc_c, wr_rng, wr_var, wr_slc, wr_call, wr_idx, wr_bin, wr_lst, wr_tup, wr_comp, wr_bi, setS, getS, stillV, allV, Slot.still, Slot.all, Slot.froze, updV, fi_f, fi_t, as_b, cm_iEq, cm_iNotEq, cm_iLt, cm_iLtE, cm_iGt, cm_iGtE, cm_sEq, cm_sNotEq, cm_lEq, cm_lNe, cm_in_i, cm_in_s, bi_lenS, bi_lenL, bi_min2, bi_minL, bi_sum, bi_ord, bi_chr, bi_abs, bi_isint, bi_lower, bi_join, bi_str, tr_n, tr_b, tr_i, tr_s, tr_l, bn_Add, bn_Sub, bn_Mult, bn_FloorDiv, bn_Mod, bn_BitAnd, bn_BitXor, bn_LShift, bn_RShift, bn_s, bn_l, ix_s, ix_l, ix_t, slcK, partOf, sd_n, sd_b, sd_i, sd_s, sd_l, sd_t]; try simp only [tK_, bK_, nK_, whl_s, for_s, for_n, wb_nil, wb_asg, wb_asgS, wb_asgO, wb_asgR, wb_asg2, wb_swp, wb_aug, wb_augL, wb_app, wb_appS, wb_sti, wb_frz, wb_ifs, wb_whl, wb_for, wb_ret, wm_litT, wm_litF, wm_varT, wm_varF, wm_binT, wm_binF, wm_negT, wm_negF, wm_noT, wm_noF, wm_andT, wm_andF, wm_orT, wm_orF, wm_cmpT, wm_cmpF, wm_iteT, wm_iteF, wm_idxT, wm_idxF, wm_slcT, wm_slcF, wm_callT, wm_callF, wm_biT, wm_biF, wm_lstT, wm_lstF, wm_tupT, wm_tupF, wm_comp, wl_n, wl_c, wc_n, wc_c, wr_rng, wr_var, wr_slc, wr_call, wr_idx, wr_bin, wr_lst, wr_tup, wr_comp, wr_bi, setS, getS, stillV, allV, Slot.still, Slot.all, Slot.froze, updV, fi_f, fi_t, as_b, cm_iEq, cm_iNotEq, cm_iLt, cm_iLtE, cm_iGt, cm_iGtE, cm_sEq, cm_sNotEq, cm_lEq, cm_lNe, cm_in_i, cm_in_s, bi_lenS, bi_lenL, bi_min2, bi_minL, bi_sum, bi_ord, bi_chr, bi_abs, bi_isint, bi_lower, bi_join, bi_str, tr_n, tr_b, tr_i, tr_s, tr_l, bn_Add, bn_Sub, bn_Mult, bn_FloorDiv, bn_Mod, bn_BitAnd, bn_BitXor, bn_LShift, bn_RShift, bn_s, bn_l, ix_s, ix_l, ix_t, slcK, partOf, sd_n, sd_b, sd_i, sd_s, sd_l, sd_t, and_true, true_and, Bool.true_eq_false, Bool.false_eq_true, false_implies, true_implies, forall_const])
      rw [idx_row (show a.length - (s + 1) + (s + 1) ≤ a.length by omega), idx_row (show b.length - (s + 1) + (s + 1) ≤ b.length by omega)]
      (try dsimp only [tK_, bK_, nK_, whl_s, for_s, for_n, wb_nil, wb_asg, wb_asgS, wb_asgO, wb_asgR, wb_asg2, wb_swp, wb_aug, wb_augL, wb_app, wb_appS, wb_sti, wb_frz, wb_ifs, wb_whl, wb_for, wb_ret, wm_litT, wm_litF, wm_varT, wm_varF, wm_binT, wm_binF, wm_negT, wm_negF, wm_noT, wm_noF, wm_andT, wm_andF, wm_orT, wm_orF, wm_cmpT, wm_cmpF, wm_iteT, wm_iteF, wm_idxT, wm_idxF, wm_slcT, wm_slcF, wm_callT, wm_callF, wm_biT, wm_biF, wm_lstT, wm_lstF, wm_tupT, wm_tupF, wl_n, wl_c, wc_n, wc_c, wr_rng, wr_var, wr_slc, wr_call, wr_idx, wr_bin, wr_lst, wr_tup, wr_comp, wr_bi, setS, getS, stillV, allV, Slot.still, Slot.all, Slot.froze, updV, fi_f, fi_t, as_b, cm_iEq, cm_iNotEq, cm_iLt, cm_iLtE, cm_iGt, cm_iGtE, cm_sEq, cm_sNotEq, cm_lEq, cm_lNe, cm_in_i, cm_in_s, bi_lenS, bi_lenL, bi_min2, bi_minL, bi_sum, bi_ord, bi_chr, bi_abs, bi_isint, bi_lower, bi_join, bi_str, tr_n, tr_b, tr_i, tr_s, tr_l, bn_Add, bn_Sub, bn_Mult, bn_FloorDiv, bn_Mod, bn_BitAnd, bn_BitXor, bn_LShift, bn_RShift, bn_s, bn_l, ix_s, ix_l, ix_t, slcK, partOf, sd_n, sd_b, sd_i, sd_s, sd_l, sd_t]; try simp only [tK_, bK_, nK_, whl_s, for_s, for_n, wb_nil, wb_asg, wb_asgS, wb_asgO, wb_asgR, wb_asg2, wb_swp, wb_aug, wb_augL, wb_app, wb_appS, wb_sti, wb_frz, wb_ifs, wb_whl, wb_for, wb_ret, wm_litT, wm_litF, wm_varT, wm_varF, wm_binT, wm_binF, wm_negT, wm_negF, wm_noT, wm_noF, wm_andT, wm_andF, wm_orT, wm_orF, wm_cmpT, wm_cmpF, wm_iteT, wm_iteF, wm_idxT, wm_idxF, wm_slcT, wm_slcF, wm_callT, wm_callF, wm_biT, wm_biF, wm_lstT, wm_lstF, wm_tupT, wm_tupF, wm_comp, wl_n, wl_c, wc_n, wc_c, wr_rng, wr_var, wr_slc, wr_call, wr_idx, wr_bin, wr_lst, wr_tup, wr_comp, wr_bi, setS, getS, stillV, allV, Slot.still, Slot.all, Slot.froze, updV, fi_f, fi_t, as_b, cm_iEq, cm_iNotEq, cm_iLt, cm_iLtE, cm_iGt, cm_iGtE, cm_sEq, cm_sNotEq, cm_lEq, cm_lNe, cm_in_i, cm_in_s, bi_lenS, bi_lenL, bi_min2, bi_minL, bi_sum, bi_ord, bi_chr, bi_abs, bi_isint, bi_lower, bi_join, bi_str, tr_n, tr_b, tr_i, tr_s, tr_l, bn_Add, bn_Sub, bn_Mult, bn_FloorDiv, bn_Mod, bn_BitAnd, bn_BitXor, bn_LShift, bn_RShift, bn_s, bn_l, ix_s, ix_l, ix_t, slcK, partOf, sd_n, sd_b, sd_i, sd_s, sd_l, sd_t, and_true, true_and, Bool.true_eq_false, Bool.false_eq_true, false_implies, true_implies, forall_const])
      rw [beq_cast]
      have key := zF_eq ha hb (i := a.length - (s + 1)) (j := b.length - (s + 1)) (k := s + 1) (by omega) (by omega)
      rw [List.take_of_length_le (by rw [List.length_drop]; omega), List.take_of_length_le (by rw [List.length_drop]; omega)] at key ⊢
      rw [lcs_iff a b (s + 1) (by omega) (by omega)] at key
      refine ⟨⟨by omega, by omega⟩, ⟨by omega, by omega⟩, by omega, ⟨by omega, by omega⟩, ⟨by omega, by omega⟩, fun z => ?_, fun z => ?_⟩
      · rw [wK_]
        exact bk_loop ha hb N (s + 1) (by omega) (key.mp (beq_iff_eq.mp z)) h
      · have : ¬ s + 1 ≤ lcsF a b := fun e => by rw [key.mpr e, beq_self_eq_true] at z; cases z
        have e : s = lcsF a b := by omega
        rw [e]
        exact h
    · have q := of_decide_eq_false q
      have e : s = lcsF a b := by omega
      rw [e]
      exact h
theorem back_wp {a b : List Nat} (ha : Wd a) (hb : Wd b) : wpB Sp mT_back [.imm (.list (SD a)), .imm (.list (SD b)), .un] (fun _ => False) (fun r => r = .int (lcsF a b : Nat)) := by
  have l5 := ha.five
  unfold mT_back
  (try dsimp only [tK_, bK_, nK_, whl_s, for_s, for_n, wb_nil, wb_asg, wb_asgS, wb_asgO, wb_asgR, wb_asg2, wb_swp, wb_aug, wb_augL, wb_app, wb_appS, wb_sti, wb_frz, wb_ifs, wb_whl, wb_for, wb_ret, wm_litT, wm_litF, wm_varT, wm_varF, wm_binT, wm_binF, wm_negT, wm_negF, wm_noT, wm_noF, wm_andT, wm_andF, wm_orT, wm_orF, wm_cmpT, wm_cmpF, wm_iteT, wm_iteF, wm_idxT, wm_idxF, wm_slcT, wm_slcF, wm_callT, wm_callF, wm_biT, wm_biF, wm_lstT, wm_lstF, wm_tupT, wm_tupF, wl_n, wl_c, wc_n, wc_c, wr_rng, wr_var, wr_slc, wr_call, wr_idx, wr_bin, wr_lst, wr_tup, wr_comp, wr_bi, setS, getS, stillV, allV, Slot.still, Slot.all, Slot.froze, updV, fi_f, fi_t, as_b, cm_iEq, cm_iNotEq, cm_iLt, cm_iLtE, cm_iGt, cm_iGtE, cm_sEq, cm_sNotEq, cm_lEq, cm_lNe, cm_in_i, cm_in_s, bi_lenS, bi_lenL, bi_min2, bi_minL, bi_sum, bi_ord, bi_chr, bi_abs, bi_isint, bi_lower, bi_join, bi_str, tr_n, tr_b, tr_i, tr_s, tr_l, bn_Add, bn_Sub, bn_Mult, bn_FloorDiv, bn_Mod, bn_BitAnd, bn_BitXor, bn_LShift, bn_RShift, bn_s, bn_l, ix_s, ix_l, ix_t, slcK, partOf, sd_n, sd_b, sd_i, sd_s, sd_l, sd_t]; try simp only [tK_, bK_, nK_, whl_s, for_s, for_n, wb_nil, wb_asg, wb_asgS, wb_asgO, wb_asgR, wb_asg2, wb_swp, wb_aug, wb_augL, wb_app, wb_appS, wb_sti, wb_frz, wb_ifs, wb_whl, wb_for, wb_ret, wm_litT, wm_litF, wm_varT, wm_varF, wm_binT, wm_binF, wm_negT, wm_negF, wm_noT, wm_noF, wm_andT, wm_andF, wm_orT, wm_orF, wm_cmpT, wm_cmpF, wm_iteT, wm_iteF, wm_idxT, wm_idxF, wm_slcT, wm_slcF, wm_callT, wm_callF, wm_biT, wm_biF, wm_lstT, wm_lstF, wm_tupT, wm_tupF, wm_comp, wl_n, wl_c, wc_n, wc_c, wr_rng, wr_var, wr_slc, wr_call, wr_idx, wr_bin, wr_lst, wr_tup, wr_comp, wr_bi, setS, getS, stillV, allV, Slot.still, Slot.all, Slot.froze, updV, fi_f, fi_t, as_b, cm_iEq, cm_iNotEq, cm_iLt, cm_iLtE, cm_iGt, cm_iGtE, cm_sEq, cm_sNotEq, cm_lEq, cm_lNe, cm_in_i, cm_in_s, bi_lenS, bi_lenL, bi_min2, bi_minL, bi_sum, bi_ord, bi_chr, bi_abs, bi_isint, bi_lower, bi_join, bi_str, tr_n, tr_b, tr_i, tr_s, tr_l, bn_Add, bn_Sub, bn_Mult, bn_FloorDiv, bn_Mod, bn_BitAnd, bn_BitXor, bn_LShift, bn_RShift, bn_s, bn_l, ix_s, ix_l, ix_t, slcK, partOf, sd_n, sd_b, sd_i, sd_s, sd_l, sd_t, and_true, true_and, Bool.true_eq_false, Bool.false_eq_true, false_implies, true_implies, forall_const])
  refine ⟨10, bk_loop ha hb 10 0 (by omega) (Nat.zero_le _) ?_⟩
  rw [nK_]
  (try dsimp only [tK_, bK_, nK_, whl_s, for_s, for_n, wb_nil, wb_asg, wb_asgS, wb_asgO, wb_asgR, wb_asg2, wb_swp, wb_aug, wb_augL, wb_app, wb_appS, wb_sti, wb_frz, wb_ifs, wb_whl, wb_for, wb_ret, wm_litT, wm_litF, wm_varT, wm_varF, wm_binT, wm_binF, wm_negT, wm_negF, wm_noT, wm_noF, wm_andT, wm_andF, wm_orT, wm_orF, wm_cmpT, wm_cmpF, wm_iteT, wm_iteF, wm_idxT, wm_idxF, wm_slcT, wm_slcF, wm_callT, wm_callF, wm_biT, wm_biF, wm_lstT, wm_lstF, wm_tupT, wm_tupF, wl_n, wl_c, wc_n, wc_c, wr_rng, wr_var, wr_slc, wr_call, wr_idx, wr_bin, wr_lst, wr_tup, wr_comp, wr_bi, setS, getS, stillV, allV, Slot.still, Slot.all, Slot.froze, updV, fi_f, fi_t, as_b, cm_iEq, cm_iNotEq, cm_iLt, cm_iLtE, cm_iGt, cm_iGtE, cm_sEq, cm_sNotEq, cm_lEq, cm_lNe, cm_in_i, cm_in_s, bi_lenS, bi_lenL, bi_min2, bi_minL, bi_sum, bi_ord, bi_chr, bi_abs, bi_isint, bi_lower, bi_join, bi_str, tr_n, tr_b, tr_i, tr_s, tr_l, bn_Add, bn_Sub, bn_Mult, bn_FloorDiv, bn_Mod, bn_BitAnd, bn_BitXor, bn_LShift, bn_RShift, bn_s, bn_l, ix_s, ix_l, ix_t, slcK, partOf, sd_n, sd_b, sd_i, sd_s, sd_l, sd_t]; try simp only [tK_, bK_, nK_, whl_s, for_s, for_n, wb_nil, wb_asg, wb_asgS, wb_asgO, wb_asgR, wb_asg2, wb_swp, wb_aug, wb_augL, wb_app, wb_appS, wb_sti, wb_frz, wb_ifs, wb_whl, wb_for, wb_ret, wm_litT, wm_litF, wm_varT, wm_varF, wm_binT, wm_binF, wm_negT, wm_negF, wm_noT, wm_noF, wm_andT, wm_andF, wm_orT, wm_orF, wm_cmpT, wm_cmpF, wm_iteT, wm_iteF, wm_idxT, wm_idxF, wm_slcT, wm_slcF, wm_callT, wm_callF, wm_biT, wm_biF, wm_lstT, wm_lstF, wm_tupT, wm_tupF, wm_comp, wl_n, wl_c, wc_n, wc_c, wr_rng, wr_var, wr_slc, wr_call, wr_idx, wr_bin, wr_lst, wr_tup, wr_comp, wr_bi, setS, getS, stillV, allV, Slot.still, Slot.all, Slot.froze, updV, fi_f, fi_t, as_b, cm_iEq, cm_iNotEq, cm_iLt, cm_iLtE, cm_iGt, cm_iGtE, cm_sEq, cm_sNotEq, cm_lEq, cm_lNe, cm_in_i, cm_in_s, bi_lenS, bi_lenL, bi_min2, bi_minL, bi_sum, bi_ord, bi_chr, bi_abs, bi_isint, bi_lower, bi_join, bi_str, tr_n, tr_b, tr_i, tr_s, tr_l, bn_Add, bn_Sub, bn_Mult, bn_FloorDiv, bn_Mod, bn_BitAnd, bn_BitXor, bn_LShift, bn_RShift, bn_s, bn_l, ix_s, ix_l, ix_t, slcK, partOf, sd_n, sd_b, sd_i, sd_s, sd_l, sd_t, and_true, true_and, Bool.true_eq_false, Bool.false_eq_true, false_implies, true_implies, forall_const])
end
/-! ## a piece put in -/
theorem piece_half {a b : List Nat} (h : a.length ≤ lcpF a b + lcsF a b) (hl : a.length ≤ b.length) : ∃ u m v, a = u ++ v ∧ b = u ++ m ++ v := by
  have l1 := lcp_le a b
  refine ⟨a.take (lcpF a b), (b.drop (lcpF a b)).take (b.length - a.length), a.drop (lcpF a b), (List.take_append_drop _ _).symm, ?_⟩
  have e1 := lcp_take a b
  have e2 : a.drop (a.length - (a.length - lcpF a b)) = b.drop (b.length - (a.length - lcpF a b)) := (lcs_iff a b (a.length - lcpF a b) (by omega) (by omega)).mpr (by omega)
  rw [show a.length - (a.length - lcpF a b) = lcpF a b by omega] at e2
  rw [e2, e1, List.append_assoc]
  have e3 : b.drop (b.length - (a.length - lcpF a b)) = (b.drop (lcpF a b)).drop (b.length - a.length) := by
    rw [List.drop_drop]
    congr 1
    omega
  rw [e3, List.take_append_drop, List.take_append_drop]
theorem piece_of {a b : List Nat} (h : min a.length b.length ≤ lcpF a b + lcsF a b) : Piece a b := by
  rcases Nat.le_total a.length b.length with hl | hl
  · obtain ⟨u, m, v, e1, e2⟩ := piece_half (a := a) (b := b) (by omega) hl
    exact ⟨u, m, v, .inl ⟨e1, e2⟩⟩
  · have comm : ∀ a b : List Nat, lcpF a b = lcpF b a := by
      intro a
      induction a with
      | nil => intro b; rw [lcp_nil, lcp_nil']
      | cons x a ih => intro b; cases b with
        | nil => rfl
        | cons y b =>
          rw [lcp_cons, lcp_cons, ih]
          by_cases e : x = y
          · rw [if_pos e, if_pos e.symm]
          · rw [if_neg e, if_neg (Ne.symm e)]
    obtain ⟨u, m, v, e1, e2⟩ := piece_half (a := b) (b := a) (by have c1 := comm a b; have c2 : lcsF a b = lcsF b a := comm _ _; omega) hl
    exact ⟨u, m, v, .inr ⟨e1, e2⟩⟩
end Mine
end V11

section V12
open PySem PySem.W PyProof.Rows PySem.Calls PyProof.V PySem.Spec PySem.SeqAt
namespace Mine
/-! # The search by waves: plain -/
noncomputable abbrev Pt := Nat × Nat
noncomputable abbrev Ws := List (List Pt)
noncomputable def push : Ws → Nat → Pt → Ws
  | [], _, _ => []
  | l :: ws, 0, p => (l ++ [p]) :: ws
  | l :: ws, k + 1, p => l :: push ws k p
theorem push_len : ∀ (ws : Ws) (k : Nat) (p : Pt), (push ws k p).length = ws.length
  | [], _, _ => rfl
  | _ :: _, 0, _ => rfl
  | _ :: ws, k + 1, p => by rw [push, List.length_cons, List.length_cons, push_len ws]
theorem push_get : ∀ (ws : Ws) (k : Nat) (p : Pt) (j : Nat), (push ws k p)[j]? = if j = k then (ws[j]?).map (· ++ [p]) else ws[j]?
  | [], _, _, j => by simp [push]
  | _ :: _, 0, _, 0 => by simp [push]
  | _ :: _, 0, _, j + 1 => by simp [push]
  | _ :: _, k + 1, _, 0 => by simp [push]
  | _ :: ws, k + 1, p, j + 1 => by
    rw [push, List.getElem?_cons_succ, push_get ws k p j, List.getElem?_cons_succ]
    by_cases e : j = k
    · rw [if_pos e, if_pos (by omega)]
    · rw [if_neg e, if_neg (by omega)]
noncomputable def In (ws : Ws) (k : Nat) (q : Pt) : Prop := ∃ l, ws[k]? = some l ∧ q ∈ l
theorem In_push {ws : Ws} {k : Nat} {p : Pt} {j : Nat} {q : Pt} : In (push ws k p) j q ↔ In ws j q ∨ (j = k ∧ q = p ∧ k < ws.length) := by
  unfold In
  rw [push_get]
  by_cases e : j = k
  · subst e
    rw [if_pos rfl]
    constructor
    · rintro ⟨l, h1, h2⟩
      obtain ⟨l0, h0, rfl⟩ := Option.map_eq_some_iff.mp h1
      rcases List.mem_append.mp h2 with h | h
      · exact .inl ⟨l0, h0, h⟩
      · exact .inr ⟨rfl, List.mem_singleton.mp h, (List.getElem?_eq_some_iff.mp h0).1⟩
    · rintro (⟨l, h1, h2⟩ | ⟨_, rfl, h⟩)
      · exact ⟨l ++ [p], by rw [h1]; rfl, List.mem_append_left _ h2⟩
      · exact ⟨ws[j] ++ [q], by rw [List.getElem?_eq_getElem h]; rfl, List.mem_append_right _ (.head _)⟩
  · rw [if_neg e]
    exact ⟨.inl, fun h => h.elim id fun h => absurd h.1 e⟩
theorem push_wl {ws : Ws} {k : Nat} {p : Pt} {N : Nat} (h : ∀ (j : Nat) (l : List Pt), ws[j]? = some l → l.length ≤ N) : ∀ (j : Nat) (l : List Pt), (push ws k p)[j]? = some l → l.length ≤ N + 1 := by
  intro j l q
  rw [push_get] at q
  split at q
  · obtain ⟨l0, h0, rfl⟩ := Option.map_eq_some_iff.mp q
    have := h j l0 h0
    rw [List.length_append, List.length_singleton]; omega
  · have := h j l q; omega
/-- what may be seen yet -/
noncomputable def grid : List Pt := (List.range 6).flatMap fun i => (List.range 6).map fun j => (i, j)
noncomputable def U (seen : List Pt) : Nat := (grid.filter fun p => !seen.contains p).length
theorem grid_mem {p : Pt} (h1 : p.1 ≤ 5) (h2 : p.2 ≤ 5) : p ∈ grid :=
  List.mem_flatMap.mpr ⟨p.1, List.mem_range.mpr (by omega), List.mem_map.mpr ⟨p.2, List.mem_range.mpr (by omega), rfl⟩⟩
theorem filt_le (seen : List Pt) (p : Pt) : ∀ g : List Pt, (g.filter fun q => !(seen ++ [p]).contains q).length ≤ (g.filter fun q => !seen.contains q).length ∧
    (p ∈ g → seen.contains p = false → (g.filter fun q => !(seen ++ [p]).contains q).length + 1 ≤ (g.filter fun q => !seen.contains q).length)
  | [] => ⟨Nat.le_refl _, fun h => by cases h⟩
  | x :: g => by
    obtain ⟨i1, i2⟩ := filt_le seen p g
    rw [List.filter_cons, List.filter_cons]
    by_cases e : x = p
    · subst e
      have h1 : (seen ++ [x]).contains x = true := by simp
      rw [h1]
      cases h2 : seen.contains x with
      | true => exact ⟨i1, fun _ h => by cases h⟩
      | false => exact ⟨Nat.le_succ_of_le i1, fun _ _ => Nat.succ_le_succ i1⟩
    · have h1 : (seen ++ [p]).contains x = seen.contains x := by simp [e]
      rw [h1]
      cases seen.contains x with
      | true => exact ⟨i1, fun h q => i2 ((List.mem_cons.mp h).resolve_left (Ne.symm e)) q⟩
      | false => exact ⟨Nat.succ_le_succ i1, fun h q => Nat.succ_le_succ (i2 ((List.mem_cons.mp h).resolve_left (Ne.symm e)) q)⟩
theorem U_le {seen : List Pt} {p : Pt} (h1 : p.1 ≤ 5) (h2 : p.2 ≤ 5) (h : seen.contains p = false) : U (seen ++ [p]) + 1 ≤ U seen := (filt_le seen p grid).2 (grid_mem h1 h2) h

/-! ## what is left to pay -/
noncomputable def Dd (a b : List Nat) (p : Pt) : Nat := D (a.drop p.1) (b.drop p.2)
noncomputable def szF : Nat := resF 8 (1 <<< 34)
noncomputable def stF (a b : List Nat) (p : Pt) : Nat := if zF ((a.drop p.1).take 1) ^^^ zF ((b.drop p.2).take 1) = szF then 1 else 2
noncomputable def visit (a b : List Nat) (c : Nat) (p : Pt) (ws : Ws) : Ws :=
  let w1 := if p.1 < a.length then push ws (c + 2) (p.1 + 1, p.2) else ws
  let w2 := if p.2 < b.length then push w1 (c + 2) (p.1, p.2 + 1) else w1
  if p.1 < a.length ∧ p.2 < b.length then push w2 (c + stF a b p) (p.1 + 1, p.2 + 1) else w2
theorem st_sc : ∀ x ∈ A8', ∀ y ∈ A8', x ≠ y → (if zF [x] ^^^ zF [y] = szF then 1 else 2) = sc x y := by
  have key : ∀ x ∈ A8', ∀ y ∈ A8', x ≠ y → (if zF [x] ^^^ zF [y] = szF then 1 else 2) = (if x = y then 0 else if lo1 x = lo1 y then 1 else 2) := by decide +kernel
  intro x hx y hy ne
  rw [key x hx y hy ne]
  have lt : ∀ z ∈ A8', z < 128 := by decide
  have e : ∀ z, z < 128 → lowS z = ⟨#[lo1 z]⟩ := fun z hz => by
    unfold lowS
    rw [lower_ascii (by intro c hc; simp at hc; omega)]
    simp
  unfold sc
  rw [e x (lt x hx), e y (lt y hy), if_neg ne, if_neg ne]
  by_cases q : lo1 x = lo1 y
  · rw [if_pos q, if_pos (by rw [q])]
  · rw [if_neg q, if_neg fun h => q (by have := congrArg (fun s : Str => s.cps.toList) h; simpa using this)]
theorem lcp_drop : ∀ a b : List Nat, lcpF (a.drop (lcpF a b)) (b.drop (lcpF a b)) = 0
  | [], b => by rw [List.drop_nil, lcp_nil]
  | _ :: _, [] => by rw [List.drop_nil, lcp_nil']
  | x :: a, y :: b => by
    rw [lcp_cons]
    by_cases e : x = y
    · rw [if_pos e, List.drop_succ_cons, List.drop_succ_cons]; exact lcp_drop a b
    · rw [if_neg e, List.drop_zero, List.drop_zero, lcp_cons, if_neg e]
/-- along the shared stretch -/
noncomputable def ext (a b : List Nat) (p : Pt) : Pt := (p.1 + lcpF (a.drop p.1) (b.drop p.2), p.2 + lcpF (a.drop p.1) (b.drop p.2))
theorem ext_D (a b : List Nat) (p : Pt) : Dd a b (ext a b p) = Dd a b p := by
  unfold Dd ext
  have h := D_pre ((a.drop p.1).take (lcpF (a.drop p.1) (b.drop p.2))) ((a.drop p.1).drop (lcpF (a.drop p.1) (b.drop p.2))) ((b.drop p.2).drop (lcpF (a.drop p.1) (b.drop p.2)))
  rw [List.take_append_drop] at h
  rw [lcp_take, List.take_append_drop, List.drop_drop, List.drop_drop] at h
  exact h.symm
theorem ext_le {a b : List Nat} {p : Pt} (h1 : p.1 ≤ a.length) (h2 : p.2 ≤ b.length) : (ext a b p).1 ≤ a.length ∧ (ext a b p).2 ≤ b.length := by
  have := lcp_le (a.drop p.1) (b.drop p.2)
  rw [List.length_drop, List.length_drop] at this
  unfold ext
  exact ⟨by show p.1 + _ ≤ _; omega, by show p.2 + _ ≤ _; omega⟩
theorem ext_lcp (a b : List Nat) (p : Pt) : lcpF (a.drop (ext a b p).1) (b.drop (ext a b p).2) = 0 := by
  have := lcp_drop (a.drop p.1) (b.drop p.2)
  rw [List.drop_drop, List.drop_drop] at this
  exact this
theorem Dd_lo {a b : List Nat} {p : Pt} : (p.1 < a.length → Dd a b p ≤ 2 + Dd a b (p.1 + 1, p.2)) ∧ (p.2 < b.length → Dd a b p ≤ 2 + Dd a b (p.1, p.2 + 1)) := by
  unfold Dd
  refine ⟨fun h => ?_, fun h => ?_⟩
  · rw [List.drop_eq_getElem_cons h]
    have := D_del a[p.1] (a.drop (p.1 + 1)) (b.drop p.2)
    dsimp only
    omega
  · rw [List.drop_eq_getElem_cons h]
    have := D_ins b[p.2] (a.drop p.1) (b.drop (p.2 + 1))
    dsimp only
    omega
theorem st_is {a b : List Nat} (ha : Wd a) (hb : Wd b) {p : Pt} (h1 : p.1 < a.length) (h2 : p.2 < b.length) (hl : lcpF (a.drop p.1) (b.drop p.2) = 0) : stF a b p = sc a[p.1] b[p.2] := by
  unfold stF
  rw [List.drop_eq_getElem_cons h1, List.drop_eq_getElem_cons h2] at hl ⊢
  rw [lcp_cons] at hl
  refine st_sc _ (ha.let8 _ (List.getElem_mem _)) _ (hb.let8 _ (List.getElem_mem _)) fun e => ?_
  rw [if_pos e] at hl
  omega
theorem Dd_lo3 {a b : List Nat} (ha : Wd a) (hb : Wd b) {p : Pt} (h1 : p.1 < a.length) (h2 : p.2 < b.length) (hl : lcpF (a.drop p.1) (b.drop p.2) = 0) : Dd a b p ≤ stF a b p + Dd a b (p.1 + 1, p.2 + 1) := by
  rw [st_is ha hb h1 h2 hl]
  unfold Dd
  rw [List.drop_eq_getElem_cons h1, List.drop_eq_getElem_cons h2, D_cons]
  dsimp only
  omega
theorem Dd_ex {a b : List Nat} (ha : Wd a) (hb : Wd b) {p : Pt} (h1 : p.1 ≤ a.length) (h2 : p.2 ≤ b.length) (hne : ¬ (p.1 = a.length ∧ p.2 = b.length)) (hl : lcpF (a.drop p.1) (b.drop p.2) = 0) :
    (p.1 < a.length ∧ Dd a b p = 2 + Dd a b (p.1 + 1, p.2)) ∨ (p.2 < b.length ∧ Dd a b p = 2 + Dd a b (p.1, p.2 + 1)) ∨ ((p.1 < a.length ∧ p.2 < b.length) ∧ Dd a b p = stF a b p + Dd a b (p.1 + 1, p.2 + 1)) := by
  by_cases q1 : p.1 < a.length
  · by_cases q2 : p.2 < b.length
    · have e := st_is ha hb q1 q2 hl
      unfold Dd
      rw [e]
      show _ ∨ _ ∨ _ ∧ _ = _ + D (a.drop (p.1 + 1)) (b.drop (p.2 + 1))
      rw [List.drop_eq_getElem_cons q1, List.drop_eq_getElem_cons q2, D_cons]
      show (_ ∧ _ = 2 + D (a.drop (p.1 + 1)) (b[p.2] :: b.drop (p.2 + 1))) ∨ (_ ∧ _ = 2 + D (a[p.1] :: a.drop (p.1 + 1)) (b.drop (p.2 + 1))) ∨ _
      omega
    · refine .inl ⟨q1, ?_⟩
      have e : b.drop p.2 = [] := List.drop_of_length_le (by omega)
      unfold Dd
      rw [e, D_nil', D_nil', List.length_drop, List.length_drop]
      show 2 * (a.length - p.1) = 2 + 2 * (a.length - (p.1 + 1))
      omega
  · have q2 : p.2 < b.length := by omega
    refine .inr (.inl ⟨q2, ?_⟩)
    have e : a.drop p.1 = [] := List.drop_of_length_le (by omega)
    unfold Dd
    rw [e, D_nil, D_nil, List.length_drop, List.length_drop]
    show 2 * (b.length - p.2) = 2 + 2 * (b.length - (p.2 + 1))
    omega
theorem Dd_end {a b : List Nat} {p : Pt} (h1 : p.1 = a.length) (h2 : p.2 = b.length) : Dd a b p = 0 := by
  unfold Dd
  rw [h1, h2, List.drop_length, List.drop_length]
  exact D_self []
theorem D_max : ∀ a b : List Nat, D a b ≤ 2 * a.length + 2 * b.length
  | [], b => by rw [D_nil]; omega
  | x :: a, b => by
    have h1 := D_max a b
    have h2 := D_del x a b
    rw [List.length_cons]; omega

/-! ## the search's state -/
structure Ok (a b : List Nat) (k : Nat) (q : Pt) : Prop where
  l1 : q.1 ≤ a.length
  l2 : q.2 ≤ b.length
  up : D a b ≤ k + Dd a b q
structure Inv (a b : List Nat) (c : Nat) (rs seen : List Pt) (ws : Ws) : Prop where
  len : ws.length = c + 3
  ok : ∀ k q, In ws k q → Ok a b k q
  rok : ∀ q ∈ rs, Ok a b c q
  sn : ∀ p ∈ seen, (p.1 ≤ a.length ∧ p.2 ≤ b.length) ∧ ∃ c0, c0 ≤ c ∧ D a b ≤ c0 + Dd a b p ∧ (c0 + Dd a b p = D a b → ∃ k q, c0 < k ∧ In ws k q ∧ k + Dd a b q = D a b)
  wit : (∃ p ∈ rs, c + Dd a b p = D a b) ∨ (∃ k q, c < k ∧ In ws k q ∧ k + Dd a b q = D a b)
  cnt : seen.length + U seen ≤ 36
  wl : ∀ (k : Nat) (l : List Pt), ws[k]? = some l → l.length ≤ 1 + 3 * seen.length
section
variable {a b : List Nat} {c : Nat} {rs seen : List Pt} {ws : Ws} {p : Pt}
theorem Inv.ret (I : Inv a b c (p :: rs) seen ws) (h1 : (ext a b p).1 = a.length) (h2 : (ext a b p).2 = b.length) : D a b = c := by
  have h := Dd_end h1 h2
  rw [ext_D] at h
  have up := (I.rok p (.head _)).up
  rcases I.wit with ⟨q, _, e⟩ | ⟨k, q, hk, _, e⟩ <;> omega
theorem Inv.skip (I : Inv a b c (p :: rs) seen ws) (h : ext a b p ∈ seen) : Inv a b c rs seen ws := by
  refine ⟨I.len, I.ok, fun q hq => I.rok q (.tail _ hq), I.sn, ?_, I.cnt, I.wl⟩
  rcases I.wit with ⟨q, hq, e⟩ | h
  · rcases List.mem_cons.mp hq with rfl | hq
    · obtain ⟨_, c0, h0, h1, h2⟩ := I.sn _ h
      rw [ext_D] at h1 h2
      have : c0 = c := by omega
      subst this
      exact .inr (h2 e)
    · exact .inl ⟨q, hq, e⟩
  · exact .inr h
theorem visit_len (a b : List Nat) (c : Nat) (p : Pt) (ws : Ws) : (visit a b c p ws).length = ws.length := by
  unfold visit
  dsimp only
  split <;> split <;> split <;> simp only [push_len]
theorem In_if {P : Prop} [Decidable P] {ws : Ws} {k : Nat} {p : Pt} {j : Nat} {q : Pt} (hk : k < ws.length) : In (if P then push ws k p else ws) j q ↔ In ws j q ∨ (P ∧ j = k ∧ q = p) := by
  split
  · rename_i h
    rw [In_push]
    exact ⟨fun e => e.imp id fun e => ⟨h, e.1, e.2.1⟩, fun e => e.imp id fun e => ⟨e.2.1, e.2.2, hk⟩⟩
  · rename_i h
    exact ⟨.inl, fun e => e.elim id fun e => absurd e.1 h⟩
theorem len_if {P : Prop} [Decidable P] {ws : Ws} {k : Nat} {p : Pt} : (if P then push ws k p else ws).length = ws.length := by
  split
  · exact push_len _ _ _
  · rfl
theorem wl_if {P : Prop} [Decidable P] {ws : Ws} {k : Nat} {p : Pt} {N : Nat} (h : ∀ (j : Nat) (l : List Pt), ws[j]? = some l → l.length ≤ N) : ∀ (j : Nat) (l : List Pt), (if P then push ws k p else ws)[j]? = some l → l.length ≤ N + 1 := by
  split
  · exact push_wl h
  · exact fun j l q => by have := h j l q; omega
theorem st_le (a b : List Nat) (p : Pt) : 1 ≤ stF a b p ∧ stF a b p ≤ 2 := by unfold stF; split <;> omega
theorem In_visit (hl : ws.length = c + 3) {j : Nat} {q : Pt} : In (visit a b c p ws) j q ↔ In ws j q ∨ (p.1 < a.length ∧ j = c + 2 ∧ q = (p.1 + 1, p.2)) ∨ (p.2 < b.length ∧ j = c + 2 ∧ q = (p.1, p.2 + 1)) ∨ ((p.1 < a.length ∧ p.2 < b.length) ∧ j = c + stF a b p ∧ q = (p.1 + 1, p.2 + 1)) := by
  have := st_le a b p
  unfold visit
  dsimp only
  rw [In_if (by rw [len_if, len_if]; omega), In_if (by rw [len_if]; omega), In_if (by omega), or_assoc, or_assoc]
theorem Inv.visit (ha : Wd a) (hb : Wd b) (I : Inv a b c (p :: rs) seen ws) (h : seen.contains (ext a b p) = false) (hne : ¬ ((ext a b p).1 = a.length ∧ (ext a b p).2 = b.length)) :
    Inv a b c rs (seen ++ [ext a b p]) (Mine.visit a b c (ext a b p) ws) := by
  have o := I.rok p (.head _)
  obtain ⟨e1, e2⟩ := ext_le o.l1 o.l2
  have hl := ext_lcp a b p
  have up : D a b ≤ c + Dd a b (ext a b p) := by rw [ext_D]; exact o.up
  have ed := ext_D a b p
  generalize ext a b p = p' at *
  have ex := Dd_ex ha hb e1 e2 hne hl
  have hst := st_le a b p'
  have lo := Dd_lo (a := a) (b := b) (p := p')
  have wit' : c + Dd a b p' = D a b → ∃ k q, c < k ∧ In (Mine.visit a b c p' ws) k q ∧ k + Dd a b q = D a b := by
    intro e
    rcases ex with ⟨g1, g2⟩ | ⟨g1, g2⟩ | ⟨g1, g2⟩
    · exact ⟨c + 2, _, by omega, (In_visit I.len).mpr (.inr (.inl ⟨g1, rfl, rfl⟩)), by omega⟩
    · exact ⟨c + 2, _, by omega, (In_visit I.len).mpr (.inr (.inr (.inl ⟨g1, rfl, rfl⟩))), by omega⟩
    · exact ⟨c + stF a b p', _, by omega, (In_visit I.len).mpr (.inr (.inr (.inr ⟨g1, rfl, rfl⟩))), by omega⟩
  have up' : ∀ {k q}, In ws k q → In (Mine.visit a b c p' ws) k q := fun h => (In_visit I.len).mpr (.inl h)
  refine ⟨by rw [visit_len, I.len], fun k q hq => ?_, fun q hq => I.rok q (.tail _ hq), fun q hq => ?_, ?_, ?_, ?_⟩
  · rcases (In_visit I.len).mp hq with hq | ⟨g1, rfl, rfl⟩ | ⟨g1, rfl, rfl⟩ | ⟨g1, rfl, rfl⟩
    · exact I.ok k q hq
    · exact ⟨g1, e2, by have := lo.1 g1; omega⟩
    · exact ⟨e1, g1, by have := lo.2 g1; omega⟩
    · exact ⟨g1.1, g1.2, by have := Dd_lo3 ha hb g1.1 g1.2 hl; omega⟩
  · rcases List.mem_append.mp hq with hq | hq
    · obtain ⟨h0, c0, h1, h2, h3⟩ := I.sn q hq
      exact ⟨h0, c0, h1, h2, fun e => let ⟨k, r, g1, g2, g3⟩ := h3 e; ⟨k, r, g1, up' g2, g3⟩⟩
    · rw [List.mem_singleton.mp hq]
      exact ⟨⟨e1, e2⟩, c, Nat.le_refl _, up, wit'⟩
  · rcases I.wit with ⟨q, hq, e⟩ | ⟨k, q, g1, g2, g3⟩
    · rcases List.mem_cons.mp hq with rfl | hq
      · exact .inr (wit' (by omega))
      · exact .inl ⟨q, hq, e⟩
    · exact .inr ⟨k, q, g1, up' g2, g3⟩
  · have := U_le (p := p') (by have := ha.five; omega) (by have := hb.five; omega) h
    have := I.cnt
    rw [List.length_append, List.length_singleton]; omega
  · intro k l q
    have := wl_if (P := p'.1 < a.length ∧ p'.2 < b.length) (k := c + stF a b p') (p := (p'.1 + 1, p'.2 + 1)) (wl_if (P := p'.2 < b.length) (k := c + 2) (p := (p'.1, p'.2 + 1)) (wl_if (P := p'.1 < a.length) (k := c + 2) (p := (p'.1 + 1, p'.2)) I.wl)) k l q
    rw [List.length_append, List.length_singleton]; omega
theorem In_snoc {j : Nat} {q : Pt} : In (ws ++ [[]]) j q ↔ In ws j q := by
  unfold In
  constructor
  · rintro ⟨l, h1, h2⟩
    rcases Nat.lt_or_ge j ws.length with h | h
    · rw [List.getElem?_append_left h] at h1
      exact ⟨l, h1, h2⟩
    · rw [List.getElem?_append_right h] at h1
      cases hz : j - ws.length with
      | zero => rw [hz] at h1; cases h1; cases h2
      | succ n => rw [hz] at h1; cases h1
  · rintro ⟨l, h1, h2⟩
    exact ⟨l, by rw [List.getElem?_append_left (List.getElem?_eq_some_iff.mp h1).1]; exact h1, h2⟩
theorem Inv.next (I : Inv a b c [] seen ws) {l : List Pt} (hl : ws[c + 1]? = some l) : Inv a b (c + 1) l seen (ws ++ [[]]) := by
  refine ⟨by rw [List.length_append, I.len]; rfl, fun k q hq => I.ok k q (In_snoc.mp hq), fun q hq => I.ok _ q ⟨l, hl, hq⟩, fun q hq => ?_, ?_, I.cnt, fun k m q => ?_⟩
  · obtain ⟨h0, c0, h1, h2, h3⟩ := I.sn q hq
    exact ⟨h0, c0, by omega, h2, fun e => let ⟨k, r, g1, g2, g3⟩ := h3 e; ⟨k, r, g1, In_snoc.mpr g2, g3⟩⟩
  · rcases I.wit with ⟨q, hq, _⟩ | ⟨k, q, g1, g2, g3⟩
    · cases hq
    · rcases Nat.lt_or_ge (c + 1) k with h | h
      · exact .inr ⟨k, q, h, In_snoc.mpr g2, g3⟩
      · have : k = c + 1 := by omega
        subst this
        obtain ⟨l', e1, e2⟩ := g2
        rw [hl] at e1
        cases e1
        exact .inl ⟨q, e2, g3⟩
  · rcases Nat.lt_or_ge k ws.length with h | h
    · rw [List.getElem?_append_left h] at q
      exact I.wl k m q
    · rw [List.getElem?_append_right h] at q
      cases hz : k - ws.length with
      | zero => rw [hz] at q; cases q; exact Nat.zero_le _
      | succ n => rw [hz] at q; cases q
theorem inv0 (a b : List Nat) : Inv a b 0 [(0, 0)] [] [[(0, 0)], [], []] := by
  refine ⟨rfl, fun k q hq => ?_, fun q hq => ?_, fun q hq => (by cases hq), .inl ⟨_, .head _, ?_⟩, by decide +kernel, fun k l q => ?_⟩
  · obtain ⟨l, h1, h2⟩ := hq
    match k, h1 with
    | 0, h1 => cases h1; rw [List.mem_singleton.mp h2]; exact ⟨Nat.zero_le _, Nat.zero_le _, by show _ ≤ 0 + D a b; omega⟩
    | 1, h1 => cases h1; cases h2
    | 2, h1 => cases h1; cases h2
    | k + 3, h1 => cases h1
  · rw [List.mem_singleton.mp hq]; exact ⟨Nat.zero_le _, Nat.zero_le _, by show _ ≤ 0 + D a b; omega⟩
  · show 0 + D a b = D a b; omega
  · match k, q with
    | 0, q => cases q; decide
    | 1, q => cases q; decide
    | 2, q => cases q; decide
    | k + 3, q => cases q
end
end Mine
end V12

section V13
open PySem PySem.W PyProof.Rows PySem.Calls PyProof.V PySem.Spec PySem.SeqAt
namespace Mine
/-! # The search by waves: the walk -/
noncomputable abbrev tup (p : Pt) : PyData := .tuple [.int (p.1 : Nat), .int (p.2 : Nat)]
noncomputable def prs (l : List Pt) : List PyData := l.map tup
theorem prs_len (l : List Pt) : (prs l).length = l.length := List.length_map ..
theorem prs_app (l : List Pt) (p : Pt) : prs l ++ [tup p] = prs (l ++ [p]) := by unfold prs; rw [List.map_append]; rfl
theorem tup_eqv (q p : Pt) : PyData.eqv (tup q) (tup p) = (q == p) := by
  show (((q.1 : Nat) : Int) == ((p.1 : Nat) : Int) && ((((q.2 : Nat) : Int) == ((p.2 : Nat) : Int)) && true)) = _
  rw [beq_cast, beq_cast, Bool.and_true]
  rfl
theorem any_seen (seen : List Pt) (p : Pt) : ((prs seen).any fun y => PyData.eqv y (tup p)) = seen.contains p := by
  unfold prs
  rw [List.any_map]
  induction seen with
  | nil => rfl
  | cons q l ih =>
    rw [List.any_cons, ih]
    show (PyData.eqv (tup q) (tup p) || l.contains p) = _
    rw [tup_eqv, List.contains_cons]
    congr 1
    rw [Bool.eq_iff_iff, beq_iff_eq, beq_iff_eq]
    exact ⟨Eq.symm, Eq.symm⟩
theorem prs_lay : ∀ l : List Pt, PyData.canLayAll0 (prs l) = true
  | [] => rfl
  | p :: l => by
    show (PyData.canLay0 (tup p) && PyData.canLayAll0 (prs l)) = true
    rw [prs_lay l]
    rfl
noncomputable def wE : Nat → Ws → List Elt
  | 0, ws => ws.map fun l => .deep (prs l)
  | _ + 1, [] => []
  | c + 1, w :: ws => .flat (.list (prs w)) :: wE c ws
theorem wE_len : ∀ (c : Nat) (ws : Ws), (wE c ws).length = ws.length
  | 0, ws => List.length_map ..
  | _ + 1, [] => rfl
  | c + 1, w :: ws => by rw [wE, List.length_cons, List.length_cons, wE_len c ws]
theorem wE_get : ∀ (c : Nat) (ws : Ws) (k : Nat) (l : List Pt), c ≤ k → ws[k]? = some l → (wE c ws)[k]? = some (.deep (prs l))
  | 0, ws, k, l, _, h => by rw [wE, List.getElem?_map, h]; rfl
  | c + 1, [], k, l, _, h => by cases h
  | c + 1, w :: ws, 0, l, h, _ => by omega
  | c + 1, w :: ws, k + 1, l, h1, h2 => wE_get c ws k l (by omega) h2
theorem push0 : ∀ (ws : Ws) (k : Nat) (l : List Pt) (p : Pt), ws[k]? = some l → (ws.map fun l => Elt.deep (prs l)).set k (.deep (prs l ++ [tup p])) = (push ws k p).map fun l => Elt.deep (prs l)
  | [], k, l, p, h => by cases h
  | w :: ws, 0, l, p, h => by
    cases h
    rw [prs_app]
    rfl
  | w :: ws, k + 1, l, p, h => by
    show Elt.deep (prs w) :: (ws.map fun l => Elt.deep (prs l)).set k (.deep (prs l ++ [tup p])) = Elt.deep (prs w) :: (push ws k p).map fun l => Elt.deep (prs l)
    rw [push0 ws k l p h]
theorem wE_push : ∀ (c : Nat) (ws : Ws) (k : Nat) (l : List Pt) (p : Pt), c ≤ k → ws[k]? = some l → (wE c ws).set k (.deep (prs l ++ [tup p])) = wE c (push ws k p)
  | 0, ws, k, l, p, _, h => push0 ws k l p h
  | c + 1, [], k, l, p, _, h => by cases h
  | c + 1, w :: ws, 0, l, p, h, _ => by omega
  | c + 1, w :: ws, k + 1, l, p, h1, h2 => by
    show Elt.flat (.list (prs w)) :: (wE c ws).set k (.deep (prs l ++ [tup p])) = Elt.flat (.list (prs w)) :: wE c (push ws k p)
    rw [wE_push c ws k l p (by omega) h2]
theorem wE_flat : ∀ (c : Nat) (ws : Ws) (l : List Pt), ws[c]? = some l → (wE c ws).set c (.flat (.list (prs l))) = wE (c + 1) ws
  | 0, [], l, h => by cases h
  | 0, w :: ws, l, h => by cases h; rfl
  | c + 1, [], l, h => by cases h
  | c + 1, w :: ws, l, h => by
    show Elt.flat (.list (prs w)) :: (wE c ws).set c (.flat (.list (prs l))) = Elt.flat (.list (prs w)) :: wE (c + 1) ws
    rw [wE_flat c ws l h]
theorem wE_snoc : ∀ (c : Nat) (ws : Ws), c ≤ ws.length → wE c ws ++ [.deep []] = wE c (ws ++ [[]])
  | 0, ws, _ => by rw [wE, wE, List.map_append]; rfl
  | c + 1, [], h => by cases h
  | c + 1, w :: ws, h => by
    show Elt.flat (.list (prs w)) :: (wE c ws ++ [.deep []]) = Elt.flat (.list (prs w)) :: wE c (ws ++ [[]])
    rw [wE_snoc c ws (by simpa using h)]
section
variable {Sp : String → List PyData → PyData → Prop} {ρ : Ev} {kn : Ev → Prop} {kr : PyData → Prop} {r : List MS} {k : PyData → Prop}
theorem wb_asgD (x ass) : wpB Sp (.asgD x ass :: r) ρ kn kr = wpLL Sp ass (stillV ρ) fun dss => dss.length ≤ 2 ^ 20 ∧ wpB Sp r (setS ρ x (.deep (dss.map Elt.deep))) kn kr := rfl
theorem wb_apD (x i e) : wpB Sp (.apD x i e :: r) ρ kn kr = (match getS ρ x with
    | .deep xs => wpE Sp i (stillV ρ) fun j => eltK xs j fun n es => wpE Sp e (stillV ρ) fun d => wpB Sp r (setS ρ x (.deep (xs.set n (.deep (es ++ [d]))))) kn kr
    | _ => False) := rfl
theorem wb_apN (x as) : wpB Sp (.apN x as :: r) ρ kn kr = (match getS ρ x with
    | .deep xs => wpL Sp as (stillV ρ) fun ds => (xs.length ≤ 2 ^ 20 ∧ ds.length ≤ 2 ^ 20) ∧ wpB Sp r (setS ρ x (.deep (xs ++ [.deep ds]))) kn kr
    | _ => False) := rfl
theorem wb_forD (y x i b) : wpB Sp (.forD y x i b :: r) ρ kn kr = (match getS ρ x with
    | .deep xs => wpE Sp i (stillV ρ) fun j => eltK xs j fun n es => forK (bK Sp b kr) y es (setS ρ x (.deep (xs.set n (.flat (.list es))))) (nK Sp r kn kr)
    | _ => False) := rfl
theorem cm_in_t {op : CmpOp} {a b : List PyData} : cmpK op (.tuple a) (.list b) k = inK op (.tuple a) b k := rfl
theorem in_not {d : PyData} {b : List PyData} : inK .NotIn d b k = ((eqOk d ∧ PyData.canLayAll0 b = true) ∧ k (.bool (!(b.any fun y => PyData.eqv y d)))) := rfl
theorem elt_go {xs : List Elt} {n : Nat} {es : List PyData} {P : Nat → List PyData → Prop} (h : xs[n]? = some (.deep es)) (hn : n < 2 ^ 20) (hx : xs.length ≤ 2 ^ 20) (he : es.length ≤ 2 ^ 20) (hp : P n es) : eltK xs (.int (n : Nat)) P := by
  unfold eltK
  dsimp only
  rw [Int.toNat_natCast, h]
  exact ⟨⟨by omega, by omega, hx⟩, he, hp⟩
/-- a place put into a wave -/
theorem apD_go {ie e : MX} {c j : Nat} {ws : Ws} {p : Pt} {N : Nat} (hs : getS ρ 4 = .deep (wE c ws)) (hc : c ≤ j) (hj : j < ws.length) (hw : ws.length ≤ 1000) (hN : N ≤ 1000) (hl : ∀ (k : Nat) (l : List Pt), ws[k]? = some l → l.length ≤ N)
    (hi : ∀ P : PyData → Prop, P (.int (j : Nat)) → wpE Sp ie (stillV ρ) P) (he : ∀ P : PyData → Prop, P (tup p) → wpE Sp e (stillV ρ) P)
    (next : wpB Sp r (setS ρ 4 (.deep (wE c (push ws j p)))) kn kr) : wpB Sp (.apD 4 ie e :: r) ρ kn kr := by
  rw [wb_apD, hs]
  obtain ⟨l, h⟩ : ∃ l, ws[j]? = some l := ⟨_, List.getElem?_eq_getElem hj⟩
  have := hl j l h
  refine hi _ (elt_go (wE_get c ws j l hc h) (by omega) (by rw [wE_len]; omega) (by rw [prs_len]; omega) (he _ ?_))
  rw [wE_push c ws j l p hc h]
  exact next
/-- .. if a test says so -/
theorem apD_if {t ie e : MX} {c j : Nat} {ws : Ws} {p : Pt} {N : Nat} {C : Prop} [Decidable C] (ht : ∀ P : Bool → Prop, P (decide C) → wpT Sp t (allV ρ) P) (hs : getS ρ 4 = .deep (wE c ws)) (hc : c ≤ j) (hj : j < ws.length) (hw : ws.length ≤ 1000) (hN : N ≤ 1000) (hl : ∀ (k : Nat) (l : List Pt), ws[k]? = some l → l.length ≤ N)
    (hi : ∀ P : PyData → Prop, P (.int (j : Nat)) → wpE Sp ie (stillV ρ) P) (he : ∀ P : PyData → Prop, P (tup p) → wpE Sp e (stillV ρ) P)
    (next : wpB Sp r (setS ρ 4 (.deep (wE c (if C then push ws j p else ws)))) kn kr) : wpB Sp (.ifs t [.apD 4 ie e] [] :: r) ρ kn kr := by
  rw [wb_ifs]
  refine ht _ ⟨fun q => ?_, fun q => ?_⟩
  · refine apD_go hs hc hj hw hN hl hi he ?_
    rw [wb_nil, nK_]
    rw [if_pos (of_decide_eq_true q)] at next
    exact next
  · rw [wb_nil, nK_]
    rw [if_neg (of_decide_eq_false q), ← hs, setS_get] at next
    exact next
end
end Mine
end V13

section V14
open PySem PySem.W PyProof.Rows PySem.Calls PyProof.V PySem.Spec PySem.SeqAt
namespace Mine
theorem ix_0 (x y : PyData) : pyIdx [x, y] (0 : Int) = some x := rfl
theorem ix_1 (x y : PyData) : pyIdx [x, y] (1 : Int) = some y := rfl
noncomputable abbrev stP (a b : List Nat) (c : Nat) (seen : List Pt) (ws : Ws) (s6 s7 s8 s9 s10 : Slot) : Ev :=
  [.imm (.list (SD a)), .imm (.list (SD b)), .imm (.int (szF : Nat)), .own (prs seen), .deep (wE (c + 1) ws), .imm (.int (c : Nat)), s6, s7, s8, s9, s10]
section
variable {Sp : String → List PyData → PyData → Prop} {ρ : Ev} {kn : Ev → Prop} {kr : PyData → Prop} {r : List MS} {v : Vw}
theorem asg_go {x : Nat} {e : MX} {d : PyData} (he : ∀ P : PyData → Prop, P d → wpE Sp e (stillV ρ) P) (next : wpB Sp r (setS ρ x (.imm d)) kn kr) : wpB Sp (.asg x e :: r) ρ kn kr := by
  rw [wb_asg]
  exact he _ next
theorem t_lt {x y i : Nat} {a : List Nat} (h1 : v x = some (.int (i : Nat))) (h2 : v y = some (.list (SD a))) (ha : a.length ≤ 100) {P : Bool → Prop} (h : P (decide (i < a.length))) :
    wpT Sp (.cmp .Lt (.var x) (.bin .Sub (.bi .len [(.var y)]) (.lit (.int 1)))) v P := by
  show wpM Sp true _ v _
  simp only [wm_cmpT, wm_varF, wm_binF, wm_biF, wl_c, wl_n, wm_litF, h1, h2, fi_f, bi_lenL, bn_Sub, cm_iLt, fi_t, tr_b, as_b]
  rw [SD_len]
  refine ⟨by omega, ?_⟩
  rw [show decide ((i : Int) < ((a.length + 1 : Nat) : Int) - 1) = decide (i < a.length) by rw [Bool.eq_iff_iff, decide_eq_true_eq, decide_eq_true_eq]; omega]
  exact h
theorem t_eq {x y i : Nat} {a : List Nat} (h1 : v x = some (.int (i : Nat))) (h2 : v y = some (.list (SD a))) (ha : a.length ≤ 100) {P : Bool → Prop} (h : P (decide (i = a.length))) :
    wpT Sp (.cmp .Eq (.var x) (.bin .Sub (.bi .len [(.var y)]) (.lit (.int 1)))) v P := by
  show wpM Sp true _ v _
  simp only [wm_cmpT, wm_varF, wm_binF, wm_biF, wl_c, wl_n, wm_litF, h1, h2, fi_f, bi_lenL, bn_Sub, cm_iEq, fi_t, tr_b, as_b]
  rw [SD_len]
  refine ⟨by omega, ?_⟩
  rw [show ((i : Int) == ((a.length + 1 : Nat) : Int) - 1) = decide (i = a.length) by rw [Bool.eq_iff_iff, beq_iff_eq, decide_eq_true_eq]; omega]
  exact h
theorem t_and {s t : MX} {C D : Prop} [Decidable C] [Decidable D] (hs : ∀ P : Bool → Prop, P (decide C) → wpT Sp s v P) (ht : ∀ P : Bool → Prop, P (decide D) → wpT Sp t v P) {P : Bool → Prop} (h : P (decide (C ∧ D))) : wpT Sp (.and s t) v P := by
  show wpM Sp true _ v _
  rw [wm_andT]
  refine hs _ ⟨fun q => ht P ?_, fun q => ?_⟩
  · have q := of_decide_eq_true q
    rw [show decide D = decide (C ∧ D) by rw [Bool.eq_iff_iff, decide_eq_true_eq, decide_eq_true_eq]; exact ⟨fun z => ⟨q, z⟩, fun z => z.2⟩]
    exact h
  · rw [decide_eq_false (fun z : C ∧ D => of_decide_eq_false q z.1)] at h
    exact h
theorem pair_go {x y : MX} {i j : Nat} (hx : ∀ P : PyData → Prop, P (.int (i : Nat)) → wpE Sp x v P) (hy : ∀ P : PyData → Prop, P (.int (j : Nat)) → wpE Sp y v P) (P : PyData → Prop) (h : P (tup (i, j))) : wpE Sp (.tup [x, y]) v P := by
  show wpM Sp false _ v _
  rw [wm_tupF, wl_c]
  refine hx _ ?_
  rw [wl_c]
  refine hy _ ?_
  rw [wl_n]
  exact ⟨by show 2 ≤ 2 ^ 20; decide, h⟩
theorem v_go {x i : Nat} (h1 : v x = some (.int (i : Nat))) (P : PyData → Prop) (h : P (.int (i : Nat))) : wpE Sp (.var x) v P := by
  show wpM Sp false _ v _
  rw [wm_varF, h1]
  exact h
theorem v1_go {x i : Nat} {n : Nat} (h1 : v x = some (.int (i : Nat))) (P : PyData → Prop) (h : P (.int ((i + n : Nat) : Int))) : wpE Sp (.bin .Add (.var x) (.lit (.int (n : Nat)))) v P := by
  show wpM Sp false _ v _
  simp only [wm_binF, wm_varF, wm_litF, h1, fi_f, bn_Add]
  exact h
theorem v2_go {x y i j : Nat} (h1 : v x = some (.int (i : Nat))) (h2 : v y = some (.int (j : Nat))) (P : PyData → Prop) (h : P (.int ((i + j : Nat) : Int))) : wpE Sp (.bin .Add (.var x) (.var y)) v P := by
  show wpM Sp false _ v _
  simp only [wm_binF, wm_varF, h1, h2, fi_f, bn_Add]
  exact h
noncomputable def m_push : List MS := [.appS 3 (.tup [(.var 8), (.var 9)]), .ifs (.cmp .Lt (.var 8) (.bin .Sub (.bi .len [(.var 0)]) (.lit (.int 1)))) [.apD 4 (.bin .Add (.var 5) (.lit (.int 2))) (.tup [(.bin .Add (.var 8) (.lit (.int 1))), (.var 9)])] [], .ifs (.cmp .Lt (.var 9) (.bin .Sub (.bi .len [(.var 1)]) (.lit (.int 1)))) [.apD 4 (.bin .Add (.var 5) (.lit (.int 2))) (.tup [(.var 8), (.bin .Add (.var 9) (.lit (.int 1)))])] [], .ifs (.and (.cmp .Lt (.var 8) (.bin .Sub (.bi .len [(.var 0)]) (.lit (.int 1)))) (.cmp .Lt (.var 9) (.bin .Sub (.bi .len [(.var 1)]) (.lit (.int 1))))) [.asg 10 (.ite (.cmp .Eq (.bin .BitXor (.idx (.idx (.var 0) (.var 8)) (.lit (.int 1))) (.idx (.idx (.var 1) (.var 9)) (.lit (.int 1)))) (.var 2)) (.lit (.int 1)) (.lit (.int 2))), .apD 4 (.bin .Add (.var 5) (.var 10)) (.tup [(.bin .Add (.var 8) (.lit (.int 1))), (.bin .Add (.var 9) (.lit (.int 1)))])] []]
theorem push_wp {a b : List Nat} (ha : Wd a) (hb : Wd b) {c : Nat} {seen : List Pt} {ws : Ws} {p : Pt} {s6 s7 s10 : Slot} (hc : c ≤ 100) (hlen : ws.length = c + 3) (hN : 1 + 3 * seen.length ≤ 900) (hl : ∀ (k : Nat) (l : List Pt), ws[k]? = some l → l.length ≤ 1 + 3 * seen.length)
    (h1 : p.1 ≤ a.length) (h2 : p.2 ≤ b.length) (h : ∀ s10, kn (stP a b c (seen ++ [p]) (visit a b c p ws) s6 s7 (.imm (.int (p.1 : Nat))) (.imm (.int (p.2 : Nat))) s10)) :
    wpB Sp m_push (stP a b c seen ws s6 s7 (.imm (.int (p.1 : Nat))) (.imm (.int (p.2 : Nat))) s10) kn kr := by
  have l5 := ha.five
  have l6 := hb.five
  have hst := st_le a b p
  unfold m_push
  rw [wb_appS]
  show wpE Sp (.tup [(.var 8), (.var 9)]) _ _
  refine pair_go (v_go rfl) (v_go rfl) _ ⟨by rw [prs_len]; omega, ?_⟩
  rw [show (p.1, p.2) = p from rfl, prs_app]
  show wpB Sp _ (stP a b c (seen ++ [p]) ws s6 s7 (.imm (.int (p.1 : Nat))) (.imm (.int (p.2 : Nat))) s10) kn kr
  unfold visit at h
  dsimp only at h
  refine apD_if (C := p.1 < a.length) (N := 900) (p := (p.1 + 1, p.2)) (fun P q => t_lt rfl rfl (by omega) q) rfl (show c + 1 ≤ c + 2 by omega) (by omega) (by omega) (by omega) (fun k l q => Nat.le_trans (hl k l q) hN) (v1_go (n := 2) rfl) (pair_go (v1_go (n := 1) rfl) (v_go rfl)) ?_
  have g1 := len_if (P := p.1 < a.length) (ws := ws) (k := c + 2) (p := (p.1 + 1, p.2))
  have g2 := wl_if (P := p.1 < a.length) (ws := ws) (k := c + 2) (p := (p.1 + 1, p.2)) (fun j l q => Nat.le_trans (hl j l q) hN)
  generalize (if p.1 < a.length then push ws (c + 2) (p.1 + 1, p.2) else ws) = w1 at *
  show wpB Sp _ (stP a b c (seen ++ [p]) w1 s6 s7 (.imm (.int (p.1 : Nat))) (.imm (.int (p.2 : Nat))) s10) kn kr
  refine apD_if (C := p.2 < b.length) (N := 901) (p := (p.1, p.2 + 1)) (fun P q => t_lt rfl rfl (by omega) q) rfl (show c + 1 ≤ c + 2 by omega) (by omega) (by omega) (by omega) g2 (v1_go (n := 2) rfl) (pair_go (v_go rfl) (v1_go (n := 1) rfl)) ?_
  have g3 := len_if (P := p.2 < b.length) (ws := w1) (k := c + 2) (p := (p.1, p.2 + 1))
  have g4 := wl_if (P := p.2 < b.length) (ws := w1) (k := c + 2) (p := (p.1, p.2 + 1)) g2
  generalize (if p.2 < b.length then push w1 (c + 2) (p.1, p.2 + 1) else w1) = w2 at *
  show wpB Sp _ (stP a b c (seen ++ [p]) w2 s6 s7 (.imm (.int (p.1 : Nat))) (.imm (.int (p.2 : Nat))) s10) kn kr
  rw [wb_ifs]
  refine t_and (fun P q => t_lt rfl rfl (by omega) q) (fun P q => t_lt rfl rfl (by omega) q) ⟨fun q => ?_, fun q => ?_⟩
  · have q := of_decide_eq_true q
    rw [if_pos q] at h
    refine asg_go (d := .int (stF a b p : Nat)) (fun P z => ?_) ?_
    · show wpM Sp false _ _ _
      simp only [wm_iteF, wm_cmpT, wm_binF, wm_idxF, wm_varF, wm_litF, stillV, getS, Slot.still, fi_f, ix_l]
      rw [idx_SD h1, idx_SD h2]
      simp only [ix_l]
      rw [show (1 : Int) = ((1 : Nat) : Int) from rfl, idx_row (show p.1 + 1 ≤ a.length from q.1), idx_row (show p.2 + 1 ≤ b.length from q.2)]
      simp only [fi_f, bn_BitXor, cm_iEq, fi_t, tr_b, as_b]
      simp only [Int.toNat_natCast, Int.reduceToNat, Int.toNat_one, Int.toNat_zero]
      rw [beq_cast]
      unfold stF at z
      refine ⟨⟨by omega, by omega⟩, ⟨by omega, by omega⟩, ⟨by omega, by omega⟩, ⟨by omega, by omega⟩, ⟨Int.natCast_nonneg _, Int.natCast_nonneg _⟩, fun y => ?_, fun y => ?_⟩
      · rw [if_pos (beq_iff_eq.mp y)] at z
        exact z
      · rw [if_neg (beq_eq_false_iff_ne.mp y)] at z
        exact z
    · show wpB Sp _ (stP a b c (seen ++ [p]) w2 s6 s7 (.imm (.int (p.1 : Nat))) (.imm (.int (p.2 : Nat))) (.imm (.int (stF a b p : Nat)))) _ kr
      refine apD_go (N := 902) (p := (p.1 + 1, p.2 + 1)) rfl (show c + 1 ≤ c + stF a b p by omega) (by omega) (by omega) (by omega) g4 (v2_go rfl rfl) (pair_go (v1_go (n := 1) rfl) (v1_go (n := 1) rfl)) ?_
      rw [wb_nil, nK_, wb_nil]
      exact h _
  · rw [wb_nil, nK_, wb_nil]
    rw [if_neg (of_decide_eq_false q)] at h
    exact h _
theorem in_lp {a b : List Nat} (ha : Wd a) (hb : Wd b) (hsh : ∀ i j : Nat, i ≤ a.length → j ≤ b.length → Sp "_law_shared" [.list (SD a), .list (SD b), .int (i : Nat), .int (j : Nat)] (.int (lcpF (a.drop i) (b.drop j) : Nat))) {c : Nat} (hc : c ≤ 100) (hkr : kr (.int (D a b : Nat))) :
    ∀ (rs seen : List Pt) (ws : Ws) (s6 s7 s8 s9 s10 : Slot), Inv a b c rs seen ws → (∀ seen ws s6 s7 s8 s9 s10, Inv a b c [] seen ws → kn (stP a b c seen ws s6 s7 s8 s9 s10)) →
    forK (bK Sp mT_price_1_1 kr) 6 (prs rs) (stP a b c seen ws s6 s7 s8 s9 s10) kn
  | [], seen, ws, s6, s7, s8, s9, s10, I, h => h _ _ _ _ _ _ _ I
  | p :: rs, seen, ws, s6, s7, s8, s9, s10, I, h => by
    have l5 := ha.five
    have l6 := hb.five
    have o := I.rok p (.head _)
    obtain ⟨e1, e2⟩ := ext_le o.l1 o.l2
    have hcnt := I.cnt
    show forK _ 6 (tup p :: prs rs) _ kn
    rw [for_s, bK_]
    unfold mT_price_1_1
    refine asg_go (d := .int (lcpF (a.drop p.1) (b.drop p.2) : Nat)) (fun P z => ?_) ?_
    · show wpM Sp false _ _ _
      simp only [wm_callF, wl_c, wl_n, wm_varF, wm_idxF, wm_litF, stillV, getS, setS, Slot.still, fi_f, ix_t, ix_0, ix_1]
      exact ⟨⟨by decide, by decide⟩, ⟨by decide, by decide⟩, _, hsh p.1 p.2 o.l1 o.l2, z⟩
    refine asg_go (d := .int ((ext a b p).1 : Nat)) (fun P z => ?_) ?_
    · show wpM Sp false _ _ _
      simp only [wm_binF, wm_varF, wm_idxF, wm_litF, stillV, getS, setS, Slot.still, fi_f, ix_t, ix_0, bn_Add]
      exact ⟨⟨by decide, by decide⟩, z⟩
    refine asg_go (d := .int ((ext a b p).2 : Nat)) (fun P z => ?_) ?_
    · show wpM Sp false _ _ _
      simp only [wm_binF, wm_varF, wm_idxF, wm_litF, stillV, getS, setS, Slot.still, fi_f, ix_t, ix_1, bn_Add]
      exact ⟨⟨by decide, by decide⟩, z⟩
    show wpB Sp _ (stP a b c seen ws (.imm (tup p)) (.imm (.int (lcpF (a.drop p.1) (b.drop p.2) : Nat))) (.imm (.int ((ext a b p).1 : Nat))) (.imm (.int ((ext a b p).2 : Nat))) s10) _ kr
    rw [wb_ifs]
    refine t_and (fun P q => t_eq rfl rfl (by omega) q) (fun P q => t_eq rfl rfl (by omega) q) ⟨fun q => ?_, fun q => ?_⟩
    · have q := of_decide_eq_true q
      have e := I.ret q.1 q.2
      rw [wb_ret]
      rw [e] at hkr
      exact v_go rfl _ hkr
    have q := of_decide_eq_false q
    rw [wb_nil, nK_, wb_ifs]
    show wpM Sp true _ _ _
    rw [wm_cmpT]
    refine pair_go (v_go rfl) (v_go rfl) _ ?_
    rw [wm_varF]
    show cmpK .NotIn (tup (ext a b p)) (.list (prs seen)) _
    rw [cm_in_t, in_not, any_seen]
    simp only [fi_t, tr_b, as_b]
    refine ⟨⟨⟨rfl, Nat.le_of_ble_eq_true rfl⟩, prs_lay seen⟩, fun z => ?_, fun z => ?_⟩
    · have z : seen.contains (ext a b p) = false := by simpa using z
      have I' := I.visit ha hb z q
      refine push_wp ha hb hc I.len (by omega) I.wl e1 e2 fun s10 => ?_
      rw [nK_, wb_nil, fK_]
      exact in_lp ha hb hsh hc hkr rs _ _ _ _ _ _ _ I' h
    · have z : seen.contains (ext a b p) = true := by simpa using z
      have I' := I.skip (List.contains_iff_mem.mp z)
      rw [wb_nil, nK_, wb_nil, fK_]
      exact in_lp ha hb hsh hc hkr rs _ _ _ _ _ _ _ I' h
end
end Mine
end V14

section V15
open PySem PySem.W PyProof.Rows PySem.Calls PyProof.V PySem.Spec PySem.SeqAt
namespace Mine
section
variable {Sp : String → List PyData → PyData → Prop} {ρ : Ev} {kn : Ev → Prop} {kr : PyData → Prop} {r : List MS} {v : Vw}
theorem out_lp {a b : List Nat} (ha : Wd a) (hb : Wd b) (hsh : ∀ i j : Nat, i ≤ a.length → j ≤ b.length → Sp "_law_shared" [.list (SD a), .list (SD b), .int (i : Nat), .int (j : Nat)] (.int (lcpF (a.drop i) (b.drop j) : Nat))) (hkr : kr (.int (D a b : Nat))) :
    ∀ (j c : Nat) (l seen : List Pt) (ws : Ws) (s5 s6 s7 s8 s9 s10 : Slot), c + j = 2 * (a.length + 1) + 2 * (b.length + 1) → ws[c]? = some l → Inv a b c l seen ws →
    forK (bK Sp mT_price_1 kr) 5 (intsOf (upI (c : Int) j)) [.imm (.list (SD a)), .imm (.list (SD b)), .imm (.int (szF : Nat)), .own (prs seen), .deep (wE c ws), s5, s6, s7, s8, s9, s10] kn
  | 0, c, l, seen, ws, s5, s6, s7, s8, s9, s10, hc, hl, I => by
    have := D_max a b
    rcases I.wit with ⟨q, _, e⟩ | ⟨k, q, hk, _, e⟩ <;> omega
  | j + 1, c, l, seen, ws, s5, s6, s7, s8, s9, s10, hc, hl, I => by
    have l5 := ha.five
    have l6 := hb.five
    have len := I.len
    have hcnt := I.cnt
    have hw := I.wl c l hl
    show forK _ 5 (.int (c : Int) :: intsOf (upI ((c + 1 : Nat) : Int) j)) _ kn
    rw [for_s, bK_]
    unfold mT_price_1
    rw [wb_forD]
    show wpE Sp (.var 5) _ _
    refine v_go (i := c) rfl _ (elt_go (wE_get c ws c l (Nat.le_refl _) hl) (by omega) (by rw [wE_len]; omega) (by rw [prs_len]; omega) ?_)
    rw [wE_flat c ws l hl]
    show forK _ 6 (prs l) (stP a b c seen ws s6 s7 s8 s9 s10) _
    refine in_lp ha hb hsh (by omega) hkr l seen ws _ _ _ _ _ I fun seen ws s6 s7 s8 s9 s10 I => ?_
    have len := I.len
    rw [nK_, wb_apN]
    show (((wE (c + 1) ws).length ≤ 2 ^ 20 ∧ ([] : List PyData).length ≤ 2 ^ 20) ∧ _)
    refine ⟨⟨by rw [wE_len]; omega, by decide⟩, ?_⟩
    rw [wE_snoc (c + 1) ws (by omega), wb_nil, fK_]
    have hl' : ws[c + 1]? = some ws[c + 1] := List.getElem?_eq_getElem (by omega)
    refine out_lp ha hb hsh hkr j (c + 1) _ seen (ws ++ [[]]) _ _ _ _ _ _ (by omega) ?_ (I.next hl')
    rw [List.getElem?_append_left (by omega)]
    exact hl'
theorem wll_c {as : List MX} {rs : List (List MX)} {k : List (List PyData) → Prop} : wpLL Sp (as :: rs) v k = wpL Sp as v fun ds => ds.length ≤ 2 ^ 20 ∧ wpLL Sp rs v fun dss => k (ds :: dss) := rfl
theorem wll_n {k : List (List PyData) → Prop} : wpLL Sp [] v k = k [] := rfl
theorem szF_def : szF = resF 8 (1 <<< 34) := by unfold szF; rfl
theorem price_wp {a b : List Nat} (ha : Wd a) (hb : Wd b) (hr : ∀ n p : Nat, p ≤ 200 → Sp "_law_rest" [.int (n : Nat), .int (p : Nat)] (.int (resF p n : Nat))) (hsh : ∀ i j : Nat, i ≤ a.length → j ≤ b.length → Sp "_law_shared" [.list (SD a), .list (SD b), .int (i : Nat), .int (j : Nat)] (.int (lcpF (a.drop i) (b.drop j) : Nat))) :
    wpB Sp mT_price [.imm (.list (SD a)), .imm (.list (SD b)), .un, .un, .un, .un, .un, .un, .un, .un, .un] (fun _ => False) (fun r => r = .int (D a b : Nat)) := by
  have l5 := ha.five
  have l6 := hb.five
  unfold mT_price
  refine asg_go (d := .int (szF : Nat)) (fun P z => ?_) ?_
  · show wpM Sp false _ _ _
    simp only [wm_callF, wl_c, wl_n, wm_binF, wm_litF, fi_f, bn_LShift]
    simp only [Int.toNat_natCast, Int.reduceToNat, Int.toNat_one, Int.toNat_zero]
    have h := hr (1 <<< 34) 8 (by decide)
    have e : ((resF 8 (1 <<< 34) : Nat) : Int) = (szF : Nat) := congrArg Nat.cast szF_def.symm
    rw [e] at h
    exact ⟨⟨by decide, by decide, by decide, by decide +kernel⟩, _, h, z⟩
  rw [wb_asgO]
  show ([] : List PyData).length ≤ 2 ^ 20 ∧ _
  refine ⟨by decide, ?_⟩
  rw [wb_asgD]
  simp only [wll_c, wll_n, wl_c, wl_n, wm_tupF, wm_litF, fi_f]
  refine ⟨Nat.le_of_ble_eq_true rfl, Nat.le_of_ble_eq_true rfl, Nat.le_of_ble_eq_true rfl, Nat.le_of_ble_eq_true rfl, Nat.le_of_ble_eq_true rfl, ?_⟩
  rw [wb_for, wr_rng, wl_c]
  simp only [wm_binF, wm_biF, wm_varF, wm_litF, wl_c, wl_n, stillV, getS, setS, Slot.still, fi_f, bi_lenL, bn_Mult, bn_Add]
  rw [SD_len, SD_len, show (2 : Int) * ((a.length + 1 : Nat) : Int) + 2 * ((b.length + 1 : Nat) : Int) = ((2 * (a.length + 1) + 2 * (b.length + 1) : Nat) : Int) by omega]
  refine ⟨by omega, .inl (by decide), by omega, .inl (by decide), rng1 (by omega) ?_⟩
  have e4 : ([[PyData.tuple [.int 0, .int 0]], [], []] : List (List PyData)).map Elt.deep = wE 0 [[(0, 0)], [], []] := rfl
  have h : ∀ kn, forK (bK Sp mT_price_1 (fun r => r = .int (D a b : Nat))) 5 (intsOf (upI ((0 : Nat) : Int) (2 * (a.length + 1) + 2 * (b.length + 1)))) [.imm (.list (SD a)), .imm (.list (SD b)), .imm (.int (szF : Nat)), .own (prs []), .deep (wE 0 [[(0, 0)], [], []]), .un, .un, .un, .un, .un, .un] kn :=
    fun kn => out_lp ha hb hsh (by exact rfl) (2 * (a.length + 1) + 2 * (b.length + 1)) 0 [(0, 0)] [] [[(0, 0)], [], []] _ _ _ _ _ _ (by omega) rfl (inv0 a b)
  rw [e4]
  exact h _
end
end Mine
end V15

section V16
open PySem PySem.W PyProof.Rows PySem.Calls PyProof.V PySem.Spec PySem.SeqAt
set_option maxHeartbeats 8000000
namespace Mine
noncomputable def Pgen (args : List PyData) (d : PyData) : Prop := ∃ c : Nat, args = [.int (c : Nat)] ∧ d = .int (g8 c : Nat)
noncomputable def Psub (args : List PyData) (d : PyData) : Prop := ∃ x y : Nat, args = [.str ⟨#[x]⟩, .str ⟨#[y]⟩] ∧ d = .int (sc x y : Nat)
noncomputable def Plev (args : List PyData) (d : PyData) : Prop := ∃ (a b : List Nat) (M : Int), a.length ≤ 40 ∧ b.length ≤ 40 ∧ args = [S a, S b, .int M] ∧ d = .int (levF a b M)
noncomputable def Pwords (args : List PyData) (d : PyData) : Prop := ∃ xs : List Int, xs.length ≤ 100 ∧ args = [.list (intsOf xs)] ∧ d = .tuple [S (wordF xs), S (bentF xs)]
noncomputable def Pres (args : List PyData) (d : PyData) : Prop := ∃ n p : Nat, p ≤ 200 ∧ args = [.int (n : Nat), .int (p : Nat)] ∧ d = .int (resF p n : Nat)
noncomputable def Pmir (args : List PyData) (d : PyData) : Prop := ∃ n : Nat, args = [.int (n : Nat)] ∧ d = .int (mirF n : Nat)
noncomputable def Psums (args : List PyData) (d : PyData) : Prop := ∃ l : List Nat, Wd l ∧ args = [S l] ∧ d = .list (SD l)
noncomputable def Pwhole (args : List PyData) (d : PyData) : Prop := ∃ l : List Nat, Wd l ∧ args = [S l] ∧ d = .int (zF l : Nat)
noncomputable def Pshared (args : List PyData) (d : PyData) : Prop := ∃ (a b : List Nat) (i j : Nat), (Wd a ∧ Wd b ∧ i ≤ a.length ∧ j ≤ b.length) ∧ args = [.list (SD a), .list (SD b), .int (i : Nat), .int (j : Nat)] ∧ d = .int (lcpF (a.drop i) (b.drop j) : Nat)
noncomputable def Pback (args : List PyData) (d : PyData) : Prop := ∃ a b : List Nat, (Wd a ∧ Wd b) ∧ args = [.list (SD a), .list (SD b)] ∧ d = .int (lcsF a b : Nat)
noncomputable def Pprice (args : List PyData) (d : PyData) : Prop := ∃ a b : List Nat, (Wd a ∧ Wd b) ∧ args = [.list (SD a), .list (SD b)] ∧ d = .int (D a b : Nat)

noncomputable abbrev Spc := String → List PyData → PyData → Prop
noncomputable def T1 : Spc := fun nm args d => False ∨ (nm = "_gen_crc" ∧ Pgen args d)
noncomputable def T2 : Spc := fun nm args d => T1 nm args d ∨ (nm = "_law_rest" ∧ Pres args d)
noncomputable def T3 : Spc := fun nm args d => T2 nm args d ∨ (nm = "_law_mirror" ∧ Pmir args d)
noncomputable def T4 : Spc := fun nm args d => T3 nm args d ∨ (nm = "_law_shared" ∧ Pshared args d)
noncomputable def T5 : Spc := fun nm args d => T4 nm args d ∨ (nm = "_law_price" ∧ Pprice args d)
noncomputable def T6 : Spc := fun nm args d => T5 nm args d ∨ (nm = "_law_sums" ∧ Psums args d)
noncomputable def T7 : Spc := fun nm args d => T6 nm args d ∨ (nm = "_law_whole" ∧ Pwhole args d)
noncomputable def T8 : Spc := fun nm args d => T7 nm args d ∨ (nm = "_law_back" ∧ Pback args d)
noncomputable def T9 : Spc := fun nm args d => T8 nm args d ∨ (nm = "_law_words" ∧ Pwords args d)
noncomputable def T10 : Spc := fun nm args d => T9 nm args d ∨ (nm = "_substitution_cost" ∧ Psub args d)
noncomputable def T11 : Spc := fun nm args d => T10 nm args d ∨ (nm = "_levenshtein_distance" ∧ Plev args d)

theorem lvl1 {w : World} {hb : Heap} {mg mb : Str → Option Value} {mean : ExcName → Option Value} (T : Top vw (looseW vw []) mean mg mb hb) : BaseM PySem.Challenge.rw_pm0010_01.row.prog w hb mg mb T11 g1 29 := by
  have B0 := base0 (prog := PySem.Challenge.rw_pm0010_01.row.prog) (w := w) T gok 18
  have B1 : BaseM _ _ _ _ _ T1 _ _ := B0.step T "_gen_crc" "_gen_crc" _ _ tr1 (by decide +kernel) Pgen (by
    rintro args d ⟨c, rfl, rfl⟩
    exact ⟨rfl, by rw [in1]; exact gen_wp c⟩)
  have B2 : BaseM _ _ _ _ _ T2 _ _ := B1.step T "_law_rest" "_law_rest" _ _ tr5 (by decide +kernel) Pres (by
    rintro args d ⟨n, p, hp, rfl, rfl⟩
    exact ⟨rfl, by rw [in5]; exact res_wp n p hp⟩)
  have B3 : BaseM _ _ _ _ _ T3 _ _ := B2.step T "_law_mirror" "_law_mirror" _ _ tr6 (by decide +kernel) Pmir (by
    rintro args d ⟨n, rfl, rfl⟩
    exact ⟨rfl, by rw [in6]; exact mir_wp n⟩)
  have B4 : BaseM _ _ _ _ _ T4 _ _ := B3.step T "_law_shared" "_law_shared" _ _ tr9 (by decide +kernel) Pshared (by
    rintro args d ⟨a, b, i, j, ⟨h1, h2, h3, h4⟩, rfl, rfl⟩
    exact ⟨rfl, by rw [in9]; exact shared_wp h1 h2 h3 h4⟩)
  have B5 : BaseM _ _ _ _ _ T5 _ _ := B4.step T "_law_price" "_law_price" _ _ tr11 (by decide +kernel) Pprice (by
    rintro args d ⟨a, b, ⟨h1, h2⟩, rfl, rfl⟩
    exact ⟨rfl, by rw [in11]; exact price_wp h1 h2 (fun n p hp => .inl (.inl (.inr ⟨rfl, n, p, hp, rfl, rfl⟩))) fun i j h3 h4 => .inr ⟨rfl, a, b, i, j, ⟨h1, h2, h3, h4⟩, rfl, rfl⟩⟩)
  have B6 : BaseM _ _ _ _ _ T6 _ _ := B5.step T "_law_sums" "_law_sums" _ _ tr7 (by decide +kernel) Psums (by
    rintro args d ⟨l, h, rfl, rfl⟩
    exact ⟨rfl, by rw [in7]; exact sums_wp (fun c => .inl (.inl (.inl (.inl (.inr ⟨rfl, c, rfl, rfl⟩))))) (fun c => .inl (.inl (.inr ⟨rfl, c, rfl, rfl⟩))) (fun n p hp => .inl (.inl (.inl (.inr ⟨rfl, n, p, hp, rfl, rfl⟩)))) l (fun c hc => (let_bits c (h.let8 c hc)).1) (by have := h.five; omega)⟩)
  have B7 : BaseM _ _ _ _ _ T7 _ _ := B6.step T "_law_whole" "_law_whole" _ _ tr8 (by decide +kernel) Pwhole (by
    rintro args d ⟨l, h, rfl, rfl⟩
    refine ⟨rfl, ?_⟩
    rw [in8, ← whole_is l.length l rfl h.let8]
    exact whole_wp (fun n p hp => .inl (.inl (.inl (.inl (.inr ⟨rfl, n, p, hp, rfl, rfl⟩))))) l (by have := h.five; omega))
  have B8 : BaseM _ _ _ _ _ T8 _ _ := B7.step T "_law_back" "_law_back" _ _ tr10 (by decide +kernel) Pback (by
    rintro args d ⟨a, b, ⟨h1, h2⟩, rfl, rfl⟩
    exact ⟨rfl, by rw [in10]; exact back_wp h1 h2⟩)
  have B9 : BaseM _ _ _ _ _ T9 _ _ := B8.step T "_law_words" "_law_words" _ _ tr4 (by decide +kernel) Pwords (by
    rintro args d ⟨xs, hx, rfl, rfl⟩
    exact ⟨rfl, by rw [in4]; exact words_wp xs hx⟩)
  have B10 : BaseM _ _ _ _ _ T10 _ _ := B9.step T "_substitution_cost" "_substitution_cost" _ _ tr2 (by decide +kernel) Psub (by
    rintro args d ⟨x, y, rfl, rfl⟩
    exact ⟨rfl, by rw [in2]; exact sub_wp x y⟩)
  exact B10.step T "_levenshtein_distance" "_levenshtein_distance" _ _ tr3 (by decide +kernel) Plev (by
    rintro args d ⟨a, b, M, ha, hb, rfl, rfl⟩
    exact ⟨rfl, by rw [in3]; exact lev_wp (fun x y => .inr ⟨rfl, x, y, rfl, rfl⟩) ha hb⟩)
theorem T_lev (a b : List Nat) (M : Int) (ha : Wd a) (hb : Wd b) : T11 "_levenshtein_distance" [S a, S b, .int M] (.int (levF a b M)) := .inr ⟨rfl, a, b, M, by have := ha.five; omega, by have := hb.five; omega, rfl, rfl⟩
theorem T_words (xs : List Int) (h : xs.length ≤ 100) : T11 "_law_words" [.list (intsOf xs)] (.tuple [S (wordF xs), S (bentF xs)]) := .inl (.inl (.inr ⟨rfl, xs, h, rfl, rfl⟩))
theorem T_back {a b : List Nat} (ha : Wd a) (hb : Wd b) : T11 "_law_back" [.list (SD a), .list (SD b)] (.int (lcsF a b : Nat)) := .inl (.inl (.inl (.inr ⟨rfl, a, b, ⟨ha, hb⟩, rfl, rfl⟩)))
theorem T_whole {a : List Nat} (ha : Wd a) : T11 "_law_whole" [S a] (.int (zF a : Nat)) := .inl (.inl (.inl (.inl (.inr ⟨rfl, a, ha, rfl, rfl⟩))))
theorem T_sums {a : List Nat} (ha : Wd a) : T11 "_law_sums" [S a] (.list (SD a)) := .inl (.inl (.inl (.inl (.inl (.inr ⟨rfl, a, ha, rfl, rfl⟩)))))
theorem T_price {a b : List Nat} (ha : Wd a) (hb : Wd b) : T11 "_law_price" [.list (SD a), .list (SD b)] (.int (D a b : Nat)) := .inl (.inl (.inl (.inl (.inl (.inl (.inr ⟨rfl, a, b, ⟨ha, hb⟩, rfl, rfl⟩))))))
theorem T_shared {a b : List Nat} (ha : Wd a) (hb : Wd b) : T11 "_law_shared" [.list (SD a), .list (SD b), .int 0, .int 0] (.int (lcpF a b : Nat)) := .inl (.inl (.inl (.inl (.inl (.inl (.inl (.inr ⟨rfl, a, b, 0, 0, ⟨ha, hb, Nat.zero_le _, Nat.zero_le _⟩, rfl, rfl⟩)))))))
end Mine
end V16

section V17
open PySem PySem.W PyProof.Rows PySem.Calls PyProof.V PySem.Spec PySem.SeqAt
namespace Mine
noncomputable def xsF (ns : List Int) : List Int := (ns ++ [14, 0, 36, 27, 4]).take 5
theorem ints_app (a b : List Int) : intsOf a ++ intsOf b = intsOf (a ++ b) := by unfold intsOf; rw [List.map_append]
theorem ints_take (a : List Int) (n : Nat) : (intsOf a).take n = intsOf (a.take n) := by unfold intsOf; rw [List.map_take]
theorem ints_len (a : List Int) : (intsOf a).length = a.length := List.length_map ..
theorem xs_len (ns : List Int) : (xsF ns).length = 5 := by
  unfold xsF
  rw [List.length_take, List.length_append]
  show min 5 (ns.length + 5) = 5
  omega
theorem flat_len {α β : Type} (f : α → List β) (h : ∀ x, (f x).length ≤ 1) : ∀ l : List α, (l.flatMap f).length ≤ l.length
  | [] => Nat.le_refl _
  | x :: l => by
    rw [List.flatMap_cons, List.length_append, List.length_cons]
    have := flat_len f h l
    have := h x
    omega
theorem wPart_len (r k : Nat) : (wPart r k).length ≤ 1 := by unfold wPart; split <;> simp
theorem bPart_len (r k l : Nat) : (bPart r k l).length ≤ 1 := by
  unfold bPart
  rw [List.length_append, List.length_append]
  split <;> split <;> split <;> simp <;> omega
theorem A8_is : A8' = A8 := rfl
theorem one_wd (ns : List Int) : Wd (wordF (xsF ns)) := ⟨wordF_in (xsF ns), by have := flat_len _ (fun x => wPart_len (kR x) (kK x)) (xsF ns); rw [xs_len] at this; exact this⟩
theorem other_wd (ns : List Int) : Wd (bentF (xsF ns)) := ⟨bentF_in (xsF ns), by have := flat_len _ (fun x => bPart_len (kR x) (kK x) (kL x)) (xsF ns); rw [xs_len] at this; exact this⟩
section
variable {Sp : String → List PyData → PyData → Prop} {ρ : Ev} {kn : Ev → Prop} {kr : PyData → Prop} {r a : List MS} {v : Vw}
theorem unp_go {x y : Nat} {e : MX} {p q : PyData} (he : ∀ P : PyData → Prop, P (.tuple [p, q]) → wpE Sp e (stillV ρ) P) (next : wpB Sp r (setS (setS ρ x (.imm p)) y (.imm q)) kn kr) : wpB Sp (.unp x y e :: r) ρ kn kr := by
  show wpE Sp e (stillV ρ) _
  exact he _ next
theorem ifF_go {t : MX} (ht : ∀ P : Bool → Prop, P false → wpT Sp t (allV ρ) P) (next : wpB Sp r ρ kn kr) : wpB Sp (.ifs t a [] :: r) ρ kn kr := by
  rw [wb_ifs]
  exact ht _ ⟨(fun h => by cases h), fun _ => next⟩
theorem call1_go {f : String} {x : Nat} {p q : PyData} (h1 : v x = some p) (h : Sp f [p] q) (P : PyData → Prop) (z : P q) : wpE Sp (.call f [.var x]) v P := by
  show wpM Sp false _ v _
  rw [wm_callF, wl_c, wm_varF, h1]
  exact ⟨_, h, z⟩
theorem call2_go {f : String} {x y : Nat} {p q d : PyData} (h1 : v x = some p) (h2 : v y = some q) (h : Sp f [p, q] d) (P : PyData → Prop) (z : P d) : wpE Sp (.call f [.var x, .var y]) v P := by
  show wpM Sp false _ v _
  simp only [wm_callF, wl_c, wl_n, wm_varF, h1, h2, fi_f]
  exact ⟨_, h, z⟩
theorem call3_go {f : String} {x y w : Nat} {p q o d : PyData} (h1 : v x = some p) (h2 : v y = some q) (h3 : v w = some o) (h : Sp f [p, q, o] d) (P : PyData → Prop) (z : P d) : wpE Sp (.call f [.var x, .var y, .var w]) v P := by
  show wpM Sp false _ v _
  simp only [wm_callF, wl_c, wl_n, wm_varF, h1, h2, h3, fi_f]
  exact ⟨_, h, z⟩
theorem last_row (a : List Nat) : pyIdx (nats (rowF a 0)) (-1) = some (.int (zF a : Nat)) := by
  have h := idx_neg (nats (rowF a 0)) 0 (by rw [nats_len, row_len]; omega)
  rw [show (-1 : Int) = -(((0 : Nat) : Int) + 1) from rfl, h]
  simp only [nats_len, row_len]
  have e := row_get (a := a) (i := 0) (k := a.length) (by omega)
  rw [List.drop_zero, List.take_length] at e
  rw [List.getD_eq_getElem?_getD, List.getElem?_eq_getElem (by rw [row_len]; omega), Option.getD_some] at e
  simp only [nats, List.getElem_map, Nat.sub_zero, Nat.add_sub_cancel]
  rw [e]
theorem first_row (a : List Nat) : pyIdx (SD a) (0 : Int) = some (.list (nats (rowF a 0))) := idx_SD (i := 0) (Nat.zero_le _)
theorem eqv2 (x y : Int) : PyData.eqvAll [.int x, .int y] [.int x, .int y] = true := by
  show ((x == x) && ((y == y) && true)) = true
  rw [beq_self_eq_true, beq_self_eq_true]; rfl
theorem eqv3 (x : Int) : PyData.eqvAll [.int x, .int x, .int x] [.int x, .int x, .int x] = true := by
  show ((x == x) && ((x == x) && ((x == x) && true))) = true
  rw [beq_self_eq_true]; rfl
/-- the sums of the whole words are as they should be -/
theorem t_whole {a b : List Nat} (ha : Wd a) (hb : Wd b) (h2 : v 2 = some (S a)) (h3 : v 3 = some (S b)) (h4 : v 4 = some (.list (SD a))) (h5 : v 5 = some (.list (SD b))) (P : Bool → Prop) (z : P false) :
    wpT T11 (.cmp .NotEq (.lst [(.idx (.idx (.var 4) (.lit (.int 0))) (.neg (.lit (.int 1)))), (.idx (.idx (.var 5) (.lit (.int 0))) (.neg (.lit (.int 1))))]) (.lst [(.call "_law_whole" [(.var 2)]), (.call "_law_whole" [(.var 3)])])) v P := by
  show wpM T11 true _ v _
  simp only [wm_cmpT, wm_lstF, wl_c, wl_n, wm_idxF, wm_varF, wm_litF, wm_negF, wm_callF, h2, h3, h4, h5, fi_f, ix_l, first_row, last_row]
  refine ⟨⟨by decide, by decide⟩, ⟨by decide, by decide⟩, ⟨by decide, by decide⟩, ⟨by decide, by decide⟩, Nat.le_of_ble_eq_true rfl, _, T_whole ha, _, T_whole hb, Nat.le_of_ble_eq_true rfl, ?_⟩
  rw [cm_lNe, eqv2]
  exact ⟨⟨⟨rfl, Nat.le_of_ble_eq_true rfl⟩, ⟨rfl, Nat.le_of_ble_eq_true rfl⟩⟩, z⟩
/-- all that is told is whole numbers -/
theorem t_ints {x y u w : Int} (h7 : v 7 = some (.list [.int x, .int y, .int u])) (h9 : v 9 = some (.int w)) (P : Bool → Prop) (z : P false) :
    wpT T11 (.cmp .NotEq (.comp 11 (.bi .isint [(.var 11)]) (.bin .Add (.var 7) (.lst [(.var 9)])) []) (.lst [(.lit (.bool true)), (.lit (.bool true)), (.lit (.bool true)), (.lit (.bool true))])) v P := by
  show wpM T11 true _ v _
  rw [wm_cmpT, wm_comp, wr_bin]
  simp only [wm_binF, wm_varF, wm_lstF, wl_c, wl_n, h7, h9, fi_f, bn_l]
  refine ⟨Nat.le_of_ble_eq_true rfl, trivial, Nat.le_of_ble_eq_true rfl, ?_⟩
  unfold itemsK
  refine ⟨Nat.le_of_ble_eq_true rfl, fun _ => true, fun _ => .bool true, fun d _ => rfl, fun d hd _ => ?_, ?_⟩
  · obtain ⟨i, rfl⟩ : ∃ i, d = .int i := by
      rcases List.mem_append.mp hd with hd | hd
      · simp only [List.mem_cons, List.not_mem_nil, or_false] at hd
        rcases hd with h | h | h <;> exact ⟨_, h⟩
      · exact ⟨_, List.mem_singleton.mp hd⟩
    have e : updV v 11 (.int i) 11 = some (.int i) := rfl
    simp only [wm_biF, wl_c, wl_n, wm_varF, e, fi_f, bi_isint]
    exact ⟨trivial, rfl⟩
  · simp only [wm_lstF, wl_c, wl_n, wm_litF, fi_f]
    refine ⟨Nat.le_of_ble_eq_true rfl, ?_⟩
    show cmpK .NotEq (.list [.bool true, .bool true, .bool true, .bool true]) _ _
    rw [cm_lNe]
    exact ⟨⟨⟨rfl, Nat.le_of_ble_eq_true rfl⟩, ⟨rfl, Nat.le_of_ble_eq_true rfl⟩⟩, z⟩
/-- the last look -/
theorem t_last {T M L : Int} {pc : Bool} (h6 : v 6 = some (.int T)) (h7 : v 7 = some (.list [.int T, .int T, .int T])) (h8 : v 8 = some (.int M)) (h9 : v 9 = some (.int L)) (h10 : v 10 = some (.bool pc)) (h : L = T ∨ (M < T ∧ L = M + 1 ∧ pc = false)) (P : PyData → Prop) (z : P (.bool true)) :
    wpE Sp (.and (.cmp .Eq (.var 7) (.lst [(.var 6), (.var 6), (.var 6)])) (.or (.cmp .Eq (.var 9) (.var 6)) (.and (.cmp .Gt (.var 6) (.var 8)) (.and (.no (.var 10)) (.cmp .Eq (.var 9) (.bin .Add (.var 8) (.lit (.int 1)))))))) v P := by
  show wpM Sp false _ v _
  simp only [wm_andF, wm_orF, wm_cmpF, wm_noF, wm_lstF, wm_binF, wm_litF, wl_c, wl_n, wm_varF, h6, h7, h8, h9, h10, fi_f, cm_iEq, cm_iGt, cm_lEq, bn_Add, tr_b, eqv3]
  refine ⟨Nat.le_of_ble_eq_true rfl, ⟨⟨rfl, Nat.le_of_ble_eq_true rfl⟩, ⟨rfl, Nat.le_of_ble_eq_true rfl⟩⟩, fun _ => ⟨fun q => by rw [q]; exact z, fun q => ?_⟩, (fun q => by cases q)⟩
  have q := beq_eq_false_iff_ne.mp q
  rcases h with h | ⟨g1, g2, g3⟩
  · exact absurd h q
  · subst g3
    refine ⟨fun _ => ⟨fun _ => ?_, (fun e => by cases e)⟩, fun e => absurd g1 (of_decide_eq_false e)⟩
    rw [g2, beq_self_eq_true]
    exact z
end
theorem told_is (a b : List Nat) : levF a b (D a b : Nat) = D a b ∧ levF b a (D a b : Nat) = D a b ∧ levF b a ((D a b : Nat) - 1) = D a b := by
  refine ⟨levF_le (Int.le_refl _), ?_, ?_⟩
  · rw [levF_le (by rw [D_comm b a]; exact Int.le_refl _), D_comm b a]
  · rcases levF_ok b a ((D a b : Nat) - 1) with h | ⟨_, h, _⟩
    · rw [h, D_comm b a]
    · rw [h]; omega
theorem hlaw1 (ns : List Int) (hn : ns.length ≤ 63) : wpB T11 mT_law [.imm (.list (intsOf ns)), .un, .un, .un, .un, .un, .un, .un, .un, .un, .un] (fun _ => False) (fun r => r = .bool true) := by
  have ha := one_wd ns
  have hb := other_wd ns
  have hW := T_words (xsF ns) (by rw [xs_len]; decide)
  unfold mT_law
  refine asg_go (d := .list (intsOf (xsF ns))) (fun P z => ?_) ?_
  · show wpM T11 false _ _ _
    have h5 : pySlice (intsOf ns ++ [PyData.int 14, .int 0, .int 36, .int 27, .int 4]) none (some (5 : Int)) = intsOf (xsF ns) := by
      have : pySlice (intsOf ns ++ [PyData.int 14, .int 0, .int 36, .int 27, .int 4]) none (some (5 : Int)) = (intsOf ns ++ [PyData.int 14, .int 0, .int 36, .int 27, .int 4]).take 5 := slc_to _ 5
      rw [this, show (intsOf ns ++ [PyData.int 14, .int 0, .int 36, .int 27, .int 4]) = intsOf (ns ++ [14, 0, 36, 27, 4]) from ints_app ns [14, 0, 36, 27, 4], ints_take]
      rfl
    simp only [wm_slcF, wm_binF, wm_varF, wm_lstF, wl_c, wl_n, wm_litF, stillV, getS, Slot.still, fi_f, bn_l, slcK, partOf, h5]
    exact ⟨Nat.le_of_ble_eq_true rfl, trivial, by rw [ints_len]; show ns.length + 5 ≤ _; omega, by rw [List.length_append, ints_len]; show ns.length + 5 ≤ _; omega, z⟩
  refine unp_go (call1_go rfl hW) ?_
  generalize wordF (xsF ns) = a at *
  generalize bentF (xsF ns) = b at *
  generalize hx : xsF ns = xs at *
  have hx5 : xs.length = 5 := by rw [← hx]; exact xs_len ns
  refine asg_go (call1_go rfl (T_sums ha)) (asg_go (call1_go rfl (T_sums hb)) (ifF_go (t_whole ha hb rfl rfl rfl rfl) (asg_go (call2_go rfl rfl (T_price ha hb)) ?_)))
  obtain ⟨e1, e2, e3⟩ := told_is a b
  refine asg_go (d := .list [.int (D a b : Nat), .int (D a b : Nat), .int (D a b : Nat)]) (fun P z => ?_) ?_
  · have l1 := T_lev a b (D a b : Nat) ha hb
    have l2 := T_lev b a (D a b : Nat) hb ha
    have l3 := T_lev b a ((D a b : Nat) - 1) hb ha
    rw [e1] at l1
    rw [e2] at l2
    rw [e3] at l3
    show wpM T11 false _ _ _
    rw [wm_lstF, wl_c]
    refine call3_go rfl rfl rfl l1 _ ?_
    rw [wl_c]
    refine call3_go rfl rfl rfl l2 _ ?_
    rw [wl_c, wm_callF]
    simp only [wl_c, wl_n, wm_varF, wm_binF, wm_litF, stillV, getS, setS, Slot.still, fi_f, bn_Sub]
    exact ⟨_, l3, Nat.le_of_ble_eq_true rfl, z⟩
  refine asg_go (d := .int (xs.sum.fmod 6 - 2)) (fun P z => ?_) ?_
  · show wpM T11 false _ _ _
    simp only [wm_binF, wm_biF, wl_c, wl_n, wm_varF, wm_litF, stillV, getS, setS, Slot.still, fi_f, bi_sum, onL]
    refine ⟨xs, rfl, ?_⟩
    simp only [bn_Mod, bn_Sub]
    exact ⟨by decide, z⟩
  refine asg_go (call3_go rfl rfl rfl (T_lev a b (xs.sum.fmod 6 - 2) ha hb)) ?_
  generalize xs.sum.fmod 6 - 2 = M
  have hL := levF_ok a b M
  generalize levF a b M = L at *
  refine asg_go (d := .bool (decide (min a.length b.length ≤ lcpF a b + lcsF a b))) (fun P z => ?_) ?_
  · show wpM T11 false _ _ _
    have l5 := ha.five
    have l6 := hb.five
    simp only [wm_cmpF, wm_binF, wm_biF, wm_callF, wl_c, wl_n, wm_varF, wm_litF, stillV, getS, setS, Slot.still, fi_f]
    refine ⟨_, T_shared ha hb, _, T_back ha hb, ?_⟩
    simp only [bn_Add, bi_lenL, SD_len, bi_min2, bn_Sub, cm_iGtE, min_cast, fi_f]
    refine ⟨by omega, by omega, ?_⟩
    rw [show decide (((min (a.length + 1) (b.length + 1) : Nat) : Int) - 1 ≤ ((lcpF a b : Nat) : Int) + ((lcsF a b : Nat) : Int)) = decide (min a.length b.length ≤ lcpF a b + lcsF a b) by rw [Bool.eq_iff_iff, decide_eq_true_eq, decide_eq_true_eq]; omega]
    exact z
  refine ifF_go (t_ints rfl rfl) ?_
  rw [wb_ret]
  refine t_last rfl rfl rfl rfl rfl ?_ _ rfl
  rcases hL with h | ⟨h1, h2, h3⟩
  · exact .inl h
  · exact .inr ⟨h1, h2, decide_eq_false fun q => h3 (piece_of q)⟩
noncomputable def Plaw (args : List PyData) (d : PyData) : Prop := ∃ ns : List Int, ns.length ≤ 63 ∧ args = [.list (intsOf ns)] ∧ d = .bool true
theorem done1 : Done vw PySem.Challenge.rw_pm0010_01.prog PySem.Challenge.rw_pm0010_01.name := fun {w hb mg mb mean} T => by
  have B := (lvl1 (w := w) T).step T "law" "law" _ _ tr12 (by decide +kernel) Plaw (by
    rintro args d ⟨ns, hn, rfl, rfl⟩
    exact ⟨rfl, by rw [in12]; exact hlaw1 ns hn⟩)
  obtain ⟨a, c, dd, fd, sl, h1, -, h2⟩ := B.gf "law" "law" (by decide +kernel)
  exact ⟨a, h1, fun ns hn => h2 _ _ (.inr ⟨rfl, ns, hn, rfl, rfl⟩)⟩
theorem final : PySem.Challenge.rw_pm0010_01.Holds := law_end said left defLaw ok1 ok2 bare prom done1
end Mine
end V17

theorem PySem.Challenge.cw_pm0010_01_holds : PySem.Challenge.rw_pm0010_01.Holds := by
  exact Mine.final
