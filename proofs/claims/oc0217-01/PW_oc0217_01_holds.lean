import PyProof.Rows.All
import OpenK.AllK
import KE.KPairComp
import KE.KEqDat
import KE.KBoundM
import KE.KStar
import KE.KSliceW
import KE.KSortTup
import PyProof.IsiH_list
import KE.KTryMore
import PyProof.FString5
import KE.KxDecode
import PyProof.FactsAll.str_8
import PySem.Challenge.RW_oc0217_01
set_option maxRecDepth 100000
set_option linter.unusedVariables false
namespace Mine
open PySem
inductive At where
  | none | bool (b : Bool) | int (i : Int) | str (s : Str) | bytes (b : Array UInt8) | ref (i : Nat)
  deriving Inhabited
inductive V where
  | at (a : At) | tup (xs : List At)
  deriving Inhabited
inductive O where
  | list (xs : List V)
  | dict (es : List (Int × At)) (ep : Nat)
  | set (xs : List Int)
  | inst (fs : List (Str × At))
  | node (su np nd : Option At)
  | iter (l : Nat) (i : Option Nat)
  | nxt (it : Nat)
  deriving Inhabited
noncomputable instance decO : DecidableEq O := fun _ _ => Classical.propDecidable _
noncomputable def lim : Nat := 4096
abbrev Fm := List (Option V)
abbrev Hp := List O
abbrev M (α : Type) := Fm → Hp → Option (α × Fm × Hp)
noncomputable def ret {α : Type} (a : α) : M α := fun f h => some (a,f,h)
noncomputable def fail {α : Type} : M α := fun _ _ => none
noncomputable def bnd {α β : Type} (m : M α) (k : α → M β) : M β := fun f h => match m f h with
  | some (a,f',h') => k a f' h'
  | none => none
noncomputable def orF {α β : Type} (o : Option α) (k : α → M β) : M β := match o with
  | some a => k a
  | none => fail
inductive AF where
  | next | brk | cont | ret (v : V)
  deriving Inhabited
noncomputable def rd (a : Nat) : M O := fun f h => match h[a]? with | some o => some (o,f,h) | none => none
noncomputable def wr (a : Nat) (o : O) : M Unit := fun f h => if a < h.length then some ((),f,h.set a o) else none
noncomputable def new (o : O) : M V := fun f h => some (.at (.ref h.length),f,h ++ [o])
noncomputable def loc (i : Nat) : M V := fun f h => match f[i]? with | some (some v) => some (v,f,h) | _ => none
noncomputable def setl (i : Nat) (v : V) : M Unit := fun f h => if i < f.length then some ((),f.set i (some v),h) else none
noncomputable def cst (a : At) : M V := ret (.at a)
noncomputable def ints? : List V → Option (List Int)
  | [] => some []
  | .at (.int i) :: r => (ints? r).map (i :: ·)
  | _ => none
noncomputable def kei (h : Hp) (a : Nat) : Option (List V) := match h[a]? with | some (.list xs) => some xs | _ => none
noncomputable def kcq (h : Hp) (a : Nat) : Option (List Int) := (kei h a).bind ints?
noncomputable def kdy : List Int → List Int → Bool
  | [],[] => false
  | [],_ :: _ => true
  | _ :: _,[] => false
  | a :: x,b :: y => if a = b then kdy x y else decide (a < b)
noncomputable def kbf : List Nat → List Nat → Bool
  | [],[] => false
  | [],_ :: _ => true
  | _ :: _,[] => false
  | a :: x,b :: y => if a = b then kbf x y else decide (a < b)
noncomputable def ltStr (a b : Str) : Bool := kbf a.cps.toList b.cps.toList
inductive D0 where
  | str (s : Str) | ints (l : List Int)
  deriving Inhabited
inductive Dt where
  | int (i : Int) | d0 (x : D0) | lists (l : List (List Int)) | pr (x : D0) (i : Int) | prs (l : List (D0 × Int))
  deriving Inhabited
noncomputable instance decD0 : DecidableEq D0 := fun _ _ => Classical.propDecidable _
noncomputable instance decDt : DecidableEq Dt := fun _ _ => Classical.propDecidable _
noncomputable def fine (s : Str) : Bool := s.cps.all (· < 1000)
noncomputable def mapO {α β : Type} (g : α → Option β) : List α → Option (List β)
  | [] => some []
  | x :: r => match g x,mapO g r with
    | some y,some l => some (y :: l)
    | _,_ => none
noncomputable def intsOf (h : Hp) : V → Option (List Int)
  | .at (.ref a) => kcq h a
  | _ => none
noncomputable def kjn (h : Hp) (a : Nat) : Option (List (List Int)) := (kei h a).bind (mapO (intsOf h))
noncomputable def rd0 (h : Hp) : At → Option D0
  | .str s => if fine s then some (.str s) else none
  | .ref a => (kcq h a).map .ints
  | _ => none
noncomputable def rdPr (h : Hp) : V → Option (D0 × Int)
  | .tup [x,.int i] => (rd0 h x).map (·,i)
  | _ => none
noncomputable def prsAt (h : Hp) (a : Nat) : Option (List (D0 × Int)) := (kei h a).bind (mapO (rdPr h))
noncomputable def rdV (h : Hp) : V → Option Dt
  | .at (.int i) => some (.int i)
  | .at (.str s) => if fine s then some (.d0 (.str s)) else none
  | .at (.ref a) => match kcq h a with
    | some l => some (.d0 (.ints l))
    | none => match kjn h a with
      | some l => some (.lists l)
      | none => (prsAt h a).map .prs
  | .at _ => none
  | .tup l => (rdPr h (.tup l)).map fun p => .pr p.1 p.2
noncomputable def eqV (h : Hp) (x y : V) : Option Bool := match rdV h x,rdV h y with
  | some a,some b => some (decide (a = b))
  | _,_ => none
noncomputable def lt0 : D0 → D0 → Option Bool
  | .str x,.str y => some (ltStr x y)
  | .ints x,.ints y => some (kdy x y)
  | _,_ => none
noncomputable def ltD : Dt → Dt → Option Bool
  | .int i,.int j => some (decide (i < j))
  | .d0 x,.d0 y => lt0 x y
  | .pr x i,.pr y j => match lt0 x y with
    | some b => some (if x = y then decide (i < j) else b)
    | none => none
  | _,_ => none
noncomputable def ltV (h : Hp) (x y : V) : Option Bool := match rdV h x,rdV h y with
  | some a,some b => ltD a b
  | _,_ => none
noncomputable def kii (h : Hp) (v : At) (xs : List V) : Option Bool := match rdV h (.at v),mapO (rdV h) xs with
  | some a,some l => some (l.any fun b => decide (b = a))
  | _,_ => none
noncomputable def kfp {α : Type} (g : Hp → Option α) : M α := fun f h => match g h with | some a => some (a,f,h) | none => none
noncomputable def kf6 {β : Type} (v : V) (k : Nat → M β) : M β := match v with
  | .at (.ref a) => k a
  | _ => fail
noncomputable def int1 {β : Type} (v : V) (k : Int → M β) : M β := match v with
  | .at (.int i) => k i
  | _ => fail
noncomputable def at1 {β : Type} (v : V) (k : At → M β) : M β := match v with
  | .at a => k a
  | _ => fail
noncomputable def isLst {β : Type} (o : O) (k : List V → M β) : M β := match o with
  | .list xs => k xs
  | _ => fail
noncomputable def isDct {β : Type} (o : O) (k : List (Int × At) → Nat → M β) : M β := match o with
  | .dict es ep => k es ep
  | _ => fail
noncomputable def isStt {β : Type} (o : O) (k : List Int → M β) : M β := match o with
  | .set xs => k xs
  | _ => fail
noncomputable def isNxt {β : Type} (o : O) (k : Nat → M β) : M β := match o with
  | .nxt it => k it
  | _ => fail
noncomputable def isItr {β : Type} (o : O) (k : Nat → Nat → M β) : M β := match o with
  | .iter l (some i) => k l i
  | _ => fail
noncomputable def lst {β : Type} (v : V) (k : Nat → List V → M β) : M β := kf6 v fun a => bnd (rd a) fun o => isLst o (k a)
noncomputable def dct {β : Type} (v : V) (k : Nat → List (Int × At) → Nat → M β) : M β := kf6 v fun a => bnd (rd a) fun o => isDct o (k a)
noncomputable def stt {β : Type} (v : V) (k : Nat → List Int → M β) : M β := kf6 v fun a => bnd (rd a) fun o => isStt o (k a)
noncomputable def int2 {α : Type} (G : Int → Int → M α) (x y : V) : M α := int1 x fun i => int1 y fun j => G i j
noncomputable def isN : V → V → M Bool
  | .at .none,.at .none => ret true
  | .at (.ref _),.at .none => ret false
  | _,_ => fail
noncomputable def inO (x : At) : O → M Bool
  | .list xs => kfp fun h => kii h x xs
  | .dict es _ => int1 (.at x) fun i => ret (es.any fun e => e.1 == i)
  | .set xs => int1 (.at x) fun i => ret (xs.contains i)
  | _ => fail
noncomputable def isIn (x y : V) : M Bool := at1 x fun x => kf6 y fun a => bnd (rd a) (inO x)
noncomputable def notIn (x y : V) : M Bool := at1 x fun x => lst y fun _ xs => kfp fun h => (kii h x xs).map (!·)
noncomputable def cmp (op : CmpOp) (x y : V) : M Bool := match op with
  | .Lt => kfp fun h => ltV h x y
  | .Eq => kfp fun h => eqV h x y
  | .NotEq => kfp fun h => (eqV h x y).map (!·)
  | .LtE => int2 (fun i j => ret (decide (i ≤ j))) x y
  | .Gt => int2 (fun i j => ret (decide (j < i))) x y
  | .GtE => int2 (fun i j => ret (decide (j ≤ i))) x y
  | .Is => isN x y
  | .IsNot => bnd (isN x y) fun b => ret (!b)
  | .In => isIn x y
  | .NotIn => notIn x y
noncomputable def truthy : V → M Bool
  | .at .none => ret false
  | .at (.bool b) => ret b
  | .at (.bytes b) => if b.size < 1000 then ret (b.size != 0) else fail
  | .at (.ref a) => bnd (rd a) fun o => isLst o fun xs => ret (!xs.isEmpty)
  | _ => fail
noncomputable def small (i : Int) : Bool := decide (i.natAbs < 4611686018427387904)
noncomputable def addI (i j : Int) : M V := if small i && small j then cst (.int (i + j)) else fail
noncomputable def subI (i j : Int) : M V := if small i && small j then cst (.int (i - j)) else fail
noncomputable def add (x y : V) : M V := match x with
  | .at (.int i) => int1 y fun j => addI i j
  | x => lst x fun _ xs => lst y fun _ ys => if xs.length + ys.length ≤ lim then new (.list (xs ++ ys)) else fail
noncomputable def bin (op : Operator) (a b : V) : M V := match op with
  | .Add => add a b
  | .Sub => int2 subI a b
  | .Mult => int2 (fun i j => if decide (i.natAbs < 1073741824) && decide (j.natAbs < 1073741824) then cst (.int (i * j)) else fail) a b
  | .Mod => int2 (fun i j => if 0 < j ∧ j < 1073741824 then cst (.int (i.fmod j)) else fail) a b
  | .FloorDiv => int2 (fun i j => if small i ∧ 0 < j ∧ j < 1073741824 then cst (.int (i.fdiv j)) else fail) a b
  | .RShift => int2 (fun i j => if 0 ≤ i ∧ j = 1 then cst (.int (i / 2)) else fail) a b
  | _ => fail
noncomputable def binI (op : Operator) (a b : V) : M V := match op with
  | .Add => int2 addI a b
  | .Sub => int2 subI a b
  | _ => fail
noncomputable def khm {α : Type} (xs : List α) (i : Int) : Option α := if 0 ≤ i then xs[i.toNat]? else if 0 ≤ i + xs.length then xs[(i + xs.length).toNat]? else none
noncomputable def getO (i : Int) : O → M V
  | .list xs => orF (khm xs i) ret
  | .dict es _ => orF (es.lookup i) cst
  | _ => fail
noncomputable def get (o i : V) : M V := match o with
  | .tup xs => int1 i fun i => orF (if 0 ≤ i ∧ i < 1000 then xs[i.toNat]? else none) cst
  | o => kf6 o fun a => int1 i fun i => bnd (rd a) (getO i)
noncomputable def kd5 (es : List (Int × At)) (i : Int) (v : At) : List (Int × At) := if es.any (fun e => e.1 == i) then es.map (fun e => if e.1 == i then (e.1,v) else e) else es ++ [(i,v)]
noncomputable def putO (a : Nat) (i : Int) (v : V) : O → M Unit
  | .list xs => if 0 ≤ i ∧ i.toNat < xs.length then wr a (.list (xs.set i.toNat v)) else fail
  | .dict es ep => at1 v fun w => if es.length < lim then wr a (.dict (kd5 es i w) (if es.any (fun e => e.1 == i) then ep else ep + 1)) else fail
  | _ => fail
noncomputable def put (o i v : V) : M Unit := kf6 o fun a => int1 i fun i => bnd (rd a) (putO a i v)
noncomputable def del (o i : V) : M Unit := dct o fun a es ep => int1 i fun i => if es.any (fun e => e.1 == i) then wr a (.dict (es.filter fun e => e.1 != i) (ep + 1)) else fail
noncomputable def cutTo (o k : V) : M V := lst o fun _ xs => int1 k fun k => if 0 ≤ k then new (.list (xs.take k.toNat)) else fail
noncomputable def cutFrom (o k : V) : M V := lst o fun _ xs => int1 k fun k => if 0 ≤ k then new (.list (xs.drop k.toNat)) else fail
noncomputable def kl0 : Str := "node"
noncomputable def nNp : Str := "npredecessors"
noncomputable def nSu : Str := "successors"
noncomputable def instNames : List Str := ["_node2info","_ready_nodes","_npassedout","_nfinished"]
noncomputable def attrO (x : Str) : O → M V
  | .inst fs => orF (if x ∈ instNames then fs.lookup x else none) cst
  | .node su np nd => orF (if x = nSu then su else if x = nNp then np else if x = kl0 then nd else none) cst
  | _ => fail
noncomputable def attr (o : V) (x : Str) : M V := kf6 o fun a => bnd (rd a) (attrO x)
noncomputable def ke6 : List (Str × At) → Str → At → List (Str × At)
  | [],x,v => [(x,v)]
  | (y,u) :: r,x,v => if y = x then (y,v) :: r else (y,u) :: ke6 r x v
noncomputable def setO (a : Nat) (x : Str) (v : At) : O → M Unit
  | .inst fs => if x ∈ instNames ∧ fs.length < 100 then wr a (.inst (ke6 fs x v)) else fail
  | .node su np nd => if x = nSu then wr a (.node (some v) np nd) else if x = nNp then wr a (.node su (some v) nd) else if x = kl0 then wr a (.node su np (some v)) else fail
  | _ => fail
noncomputable def setAttr (o : V) (x : Str) (v : V) : M Unit := kf6 o fun a => at1 v fun v => bnd (rd a) (setO a x v)
noncomputable def khs : List V → Option (List At)
  | [] => some []
  | .at a :: r => (khs r).map (a :: ·)
  | _ => none
noncomputable def kd2 (v : V) : M V := match v with
  | .tup xs => if xs.length ≤ lim then cst (.int xs.length) else fail
  | v => lst v fun _ xs => cst (.int xs.length)
noncomputable def append (o v : V) : M V := lst o fun a xs => if xs.length < lim then bnd (wr a (.list (xs ++ [v]))) fun _ => cst .none else fail
noncomputable def kez (o : V) : M V := lst o fun a xs => orF xs.getLast? fun v => bnd (wr a (.list xs.dropLast)) fun _ => ret v
noncomputable def clear (o : V) : M V := lst o fun a _ => bnd (wr a (.list [])) fun _ => cst .none
noncomputable def dictGet (o i : V) : M V := dct o fun _ es _ => int1 i fun i => cst ((es.lookup i).getD .none)
noncomputable def setAdd (o i : V) : M V := stt o fun a xs => int1 i fun i => if xs.length < 4000 then bnd (wr a (.set (if xs.contains i then xs else xs ++ [i]))) fun _ => cst .none else fail
noncomputable def isL : O → Bool | .list _ => true | _ => false
noncomputable def isD : O → Bool | .dict _ _ => true | _ => false
noncomputable def isS : O → Bool | .set _ => true | _ => false
noncomputable def chk (k : O → Bool) (x : V) : M Unit := kf6 x fun a => bnd (rd a) fun o => if k o = true then ret () else fail
noncomputable def mth (k : O → Bool) (g : V → V → M V) (a b : M V) : M V := bnd a fun x => bnd (chk k x) fun _ => bnd b fun y => g x y
noncomputable def appM : M V → M V → M V := mth isL append
noncomputable def getM : M V → M V → M V := mth isD dictGet
noncomputable def addM : M V → M V → M V := mth isS setAdd
noncomputable def tupleOf (o : V) : M V := lst o fun _ xs => orF (khs xs) fun l => ret (.tup l)
noncomputable def boolOf (o : V) : M V := lst o fun _ xs => cst (.bool (!xs.isEmpty))
noncomputable def iterOf (o : V) : M V := lst o fun a _ => new (.iter a (some 0))
noncomputable def nextOf (o : V) : M V := kf6 o fun a => bnd (rd a) fun o => isItr o fun _ i => if i = 0 then new (.nxt a) else fail
noncomputable def nextAt (it l i : Nat) (x : Option V) : M (Option V) := match x with
  | some v => bnd (wr it (.iter l (some (i + 1)))) fun _ => ret (some v)
  | none => bnd (wr it (.iter l none)) fun _ => ret none
noncomputable def callNext (o : V) : M (Option V) := kf6 o fun a => bnd (rd a) fun o => isNxt o fun it => bnd (rd it) fun o => isItr o fun l i => bnd (rd l) fun o => isLst o fun xs => nextAt it l i xs[i]?
noncomputable def kc2 (lt : V → V → Bool) (x : V) : List V → List V
  | [] => [x]
  | y :: r => if lt x y then x :: y :: r else y :: kc2 lt x r
noncomputable def kfn (lt : V → V → Bool) : List V → List V
  | [] => []
  | x :: r => kc2 lt x (kfn lt r)
noncomputable def okPrs (h : Hp) (xs : List V) : Bool := match mapO (rdPr h) xs with
  | some l => decide (2 ≤ l.length) && l.all (fun p => l.all fun q => (lt0 p.1 q.1).isSome) && decide l.Nodup
  | none => false
noncomputable def khc (h : Hp) (xs : List V) : Bool := (ints? xs).isSome || okPrs h xs
noncomputable def kfi (h : Hp) : V → Option (List V)
  | .tup xs => some (xs.map V.at)
  | .at (.ref a) => kei h a
  | _ => none
noncomputable def kga (o : V) : M V := fun f h => match kfi h o with
  | some xs => if xs.length < 64 && khc h xs then new (.list (kfn (fun x y => (ltV h x y).getD false) xs)) f h else none
  | none => none
noncomputable def kj8 (o : V) : M V := kf6 o fun a => bnd (kfp fun h => kcq h a) fun l =>
  if (l.all (fun i => decide (0 ≤ i ∧ i < 256)) && decide (l.length < 1000)) = true then cst (.bytes (l.map fun i => UInt8.ofNat i.toNat).toArray) else fail
noncomputable def hexDigit (n : Nat) : Nat := if n < 10 then 48 + n else 55 + n
noncomputable def sign (c : Nat) : List Nat :=
  if c = 32 then [95]
  else if c = 33 ∨ c = 42 ∨ c = 43 ∨ c = 45 ∨ c = 47 ∨ (48 ≤ c ∧ c ≤ 57) ∨ (65 ≤ c ∧ c ≤ 90) ∨ (97 ≤ c ∧ c ≤ 122) then [c]
  else [61,hexDigit (c / 16),hexDigit (c % 16)]
noncomputable def kiy (o : V) : M V := match o with
  | .at (.bytes ⟨[x]⟩) => cst (.str ⟨#[x.toNat]⟩)
  | .at (.bytes ⟨[x,y]⟩) => cst (.str ⟨#[x.toNat,y.toNat]⟩)
  | _ => fail
noncomputable def translate (o : V) : M V := match o with
  | .at (.str s) => if s.cps.all (· < 256) && decide (s.cps.size ≠ 0 ∧ s.cps.size < 1000) then cst (.str ⟨(s.cps.toList.flatMap sign).toArray⟩) else fail
  | _ => fail
noncomputable def klu (o : V) : M V := match o with
  | .tup [.str a,.str b] => if a.cps.size < 10000 ∧ b.cps.size < 10000 then cst (.str ⟨([61,63] ++ a.cps.toList ++ [63,113,63] ++ b.cps.toList ++ [63,61]).toArray⟩) else fail
  | _ => fail
noncomputable def seqK (b : M AF) : AF → M AF
  | .next => b
  | r => ret r
noncomputable def seq (a b : M AF) : M AF := bnd a (seqK b)
noncomputable def ifte {α : Type} (t : M Bool) (a b : M α) : M α := bnd t fun c => if c then a else b
noncomputable def loopK (k : M AF) : AF → M AF
  | .next => k
  | .cont => k
  | .brk => ret .next
  | .ret v => ret (.ret v)
noncomputable def whileN : Nat → M Bool → M AF → M AF → M AF
  | 0,_,_,_ => fail
  | n + 1,t,b,e => bnd t fun c => if c then bnd b (loopK (whileN n t b e)) else e
noncomputable def fuel : Nat := 1000
noncomputable def kgx (t : M Bool) (b e : M AF) : M AF := whileN fuel t b e
structure Src where
  items : List V
  guard : Option (Nat × O)
noncomputable def kf9 (g : Option (Nat × O)) : M Unit := fun f h => match g with
  | none => some ((),f,h)
  | some (a,o) => if h[a]? = some o then some ((),f,h) else none
noncomputable def forL (g : Option (Nat × O)) (bindT : V → M Unit) (b : M AF) : List V → M AF
  | [] => bnd (kf9 g) fun _ => ret .next
  | v :: r => bnd (kf9 g) fun _ => bnd (bindT v) fun _ => bnd b (loopK (forL g bindT b r))
noncomputable def for_ (src : M Src) (bindT : V → M Unit) (b : M AF) : M AF := bnd src fun s => forL s.guard bindT b s.items
noncomputable def srcO (a : Nat) : O → M Src
  | .list xs => ret ⟨xs,some (a,.list xs)⟩
  | .dict es ep => ret ⟨es.map fun e => .at (.int e.1),some (a,.dict es ep)⟩
  | _ => fail
noncomputable def ket (v : V) : M Src := match v with
  | .tup xs => ret ⟨xs.map V.at,none⟩
  | v => kf6 v fun a => bnd (rd a) (srcO a)
noncomputable def seqOf (v : V) : M Src := match v with
  | .tup xs => ret ⟨xs.map V.at,none⟩
  | v => lst v fun a xs => ret ⟨xs,some (a,.list xs)⟩
noncomputable def kct (v : V) : M Src := int1 v fun n => if 0 ≤ n ∧ n < 100000 then ret ⟨(List.range n.toNat).map fun i => .at (.int (Int.ofNat i)),none⟩ else fail
noncomputable def srcItems (v : V) : M Src := dct v fun a es ep => ret ⟨es.map fun e => .tup [.int e.1,e.2],some (a,.dict es ep)⟩
noncomputable def srcValues (v : V) : M Src := dct v fun a es ep => ret ⟨es.map fun e => .at e.2,some (a,.dict es ep)⟩
noncomputable def kdn (i : Nat) (v : V) : M Unit := setl i v
noncomputable def bind2 (i j : Nat) (v : V) : M Unit := match v with
  | .tup [a,b] => bnd (setl i (.at a)) fun _ => setl j (.at b)
  | _ => fail
noncomputable def bin_ (op : Operator) (a b : M V) : M V := bnd a fun x => bnd b fun y => bin op x y
noncomputable def cmp_ (op : CmpOp) (a b : M V) : M Bool := bnd a fun x => bnd b fun y => cmp op x y
noncomputable def cmp2_ (op1 op2 : CmpOp) (a b c : M V) : M Bool := bnd a fun x => bnd b fun y => bnd (cmp op1 x y) fun t => if t then bnd c fun z => cmp op2 y z else ret false
noncomputable def asV (m : M Bool) : M V := bnd m fun b => cst (.bool b)
noncomputable def test (m : M V) : M Bool := bnd m truthy
noncomputable def not_ (m : M Bool) : M Bool := bnd m fun b => ret (!b)
noncomputable def and_ (a b : M Bool) : M Bool := bnd a fun x => if x then b else ret false
noncomputable def or_ (a b : M Bool) : M Bool := bnd a fun x => if x then ret true else b
noncomputable def orV (a b : M V) : M V := bnd a fun x => bnd (truthy x) fun t => if t then ret x else b
noncomputable def andV (a b : M V) : M V := bnd a fun x => bnd (truthy x) fun t => if t then b else ret x
noncomputable def app1 {α : Type} (g : V → M α) (a : M V) : M α := bnd a g
noncomputable def app2 {α : Type} (g : V → V → M α) (a b : M V) : M α := bnd a fun x => bnd b fun y => g x y
noncomputable def all : List (M V) → M (List V)
  | [] => ret []
  | m :: r => bnd m fun v => bnd (all r) fun vs => ret (v :: vs)
noncomputable def kd1 (es : List (M V)) : M V := bnd (all es) fun vs => new (.list vs)
noncomputable def kid (es : List (M V)) : M V := bnd (all es) fun vs => orF (khs vs) fun l => ret (.tup l)
noncomputable def dict0 : M V := new (.dict [] 0)
noncomputable def set0 : M V := new (.set [])
noncomputable def walrus (i : Nat) (a : M V) : M V := bnd a fun v => bnd (setl i v) fun _ => ret v
noncomputable def assign (i : Nat) (a : M V) : M AF := bnd a fun v => bnd (setl i v) fun _ => ret .next
noncomputable def expr (a : M V) : M AF := bnd a fun _ => ret .next
noncomputable def exprU (a : M Unit) : M AF := bnd a fun _ => ret .next
noncomputable def kbz (a : M V) : M AF := bnd a fun v => ret (.ret v)
noncomputable def putS (o i v : M V) : M AF := bnd v fun x => bnd o fun a => bnd i fun k => bnd (put a k x) fun _ => ret .next
noncomputable def kcu (o : M V) (x : Str) (v : M V) : M AF := bnd v fun y => bnd o fun a => bnd (setAttr a x y) fun _ => ret .next
noncomputable def kgw (o : M V) (x : Str) (op : Operator) (v : M V) : M AF := bnd o fun a => bnd (attr a x) fun old => bnd v fun y => bnd (binI op old y) fun r => bnd (setAttr a x r) fun _ => ret .next
noncomputable def delS (o i : M V) : M AF := bnd o fun a => bnd i fun k => bnd (del a k) fun _ => ret .next
noncomputable def kaq : List (M AF) → M AF
  | [] => ret .next
  | [a] => a
  | a :: r => seq a (kaq r)
noncomputable def tryK (i : Nat) (handler : M AF) : Option V → M AF
  | some v => bnd (setl i v) fun _ => ret .brk
  | none => handler
noncomputable def ki7 (i : Nat) (it : M V) (handler : M AF) : M AF := bnd it fun g => bnd (callNext g) (tryK i handler)
noncomputable def retV : AF → Option V
  | .ret v => some v
  | .next => some (.at .none)
  | _ => none
noncomputable def call (n : Nat) (body : M AF) (args : List V) : M V := fun f h => match body (args.map some ++ List.replicate (n - args.length) none) h with
  | some (r,_,h') => (retV r).map fun v => (v,f,h')
  | none => none
noncomputable def kfk (n : Nat) (body : M AF) (args : List (M V)) : M V := bnd (all args) (call n body)
noncomputable def kjv (fr : List (Option Nat)) (f : Fm) : Fm := fr.map fun x => x.bind fun i => (f[i]?).join
noncomputable def within {α : Type} (fr : List (Option Nat)) (m : M α) : M α := fun f h => match m (kjv fr f) h with
  | some (a,_,h') => some (a,f,h')
  | none => none
noncomputable def kmd (t : M Bool) (e : M V) (acc : Nat) : M Unit := bnd t fun c => if c then bnd e fun x => bnd (append (.at (.ref acc)) x) fun _ => ret () else ret ()
noncomputable def kme (g : Option (Nat × O)) (bindT : V → M Unit) (t : M Bool) (e : M V) (acc : Nat) : List V → M Unit
  | [] => kf9 g
  | v :: r => bnd (kf9 g) fun _ => bnd (bindT v) fun _ => bnd (kmd t e acc) fun _ => kme g bindT t e acc r
noncomputable def kcc (src : M Src) (fr : List (Option Nat)) (bindT : V → M Unit) (t : M Bool) (e : M V) : M V :=
  bnd src fun s => bnd (new (.list [])) fun acc => kf6 acc fun a => bnd (within fr (kme s.guard bindT t e a s.items)) fun _ => ret acc
noncomputable def putD (o key x : V) : M Unit := dct o fun a es ep => int1 key fun i => at1 x fun w => if es.length < lim then wr a (.dict (kd5 es i w) (if es.any (fun e => e.1 == i) then ep else ep + 1)) else fail
noncomputable def compD (g : Option (Nat × O)) (bindT : V → M Unit) (k e : M V) (acc : Nat) : List V → M Unit
  | [] => kf9 g
  | v :: r => bnd (kf9 g) fun _ => bnd (bindT v) fun _ => bnd k fun key => bnd e fun x => bnd (putD (.at (.ref acc)) key x) fun _ => compD g bindT k e acc r
noncomputable def kgu (src : M Src) (fr : List (Option Nat)) (bindT : V → M Unit) (k e : M V) : M V :=
  bnd src fun s => bnd dict0 fun acc => kf6 acc fun a => bnd (within fr (compD s.guard bindT k e a s.items)) fun _ => ret acc
noncomputable def noneF {β : Type} (r : V) (k : M β) : M β := match r with
  | .at .none => k
  | _ => fail
noncomputable def make (o : O) (n : Nat) (init : M AF) (args : List (M V)) : M V := bnd (all args) fun vs => bnd (new o) fun x => bnd (call n init (x :: vs)) fun r => noneF r (ret x)
noncomputable def kk9 : O → Bool
  | .inst fs => fs.all fun e => instNames.contains e.1
  | _ => false
noncomputable def kip (n : Nat) (body : M AF) (o : M V) (args : List (M V)) : M V := bnd o fun x => bnd (chk kk9 x) fun _ => bnd (all args) fun vs => call n body (x :: vs)
noncomputable def callStar (n : Nat) (body : M AF) (o a l : M V) : M V := bnd o fun x => bnd (chk kk9 x) fun _ => bnd a fun y => bnd l fun z => bnd (seqOf z) fun s => orF (khs s.items) fun vs => if vs.length < 1000 then call n body [x,y,.tup vs] else fail
noncomputable def ki0 (n : Nat) (body : M AF) (o a : M V) : M V := bnd o fun x => bnd (chk kk9 x) fun _ => bnd a fun y => at1 y fun y => call n body [x,.tup [y]]
noncomputable def put2S (o i : M V) (j : Nat) (v : M V) : M AF := bnd v fun x => bnd o fun a => bnd i fun k => bnd (put a k x) fun _ => bnd (setl j x) fun _ => ret .next
end Mine
namespace Mine
open PySem
noncomputable def kc0 : M AF :=
  (kaq [(ifte (not_ (test (loc 0))) (kaq [(kbz (cst (.str "")))]) (kaq [])),
    (assign 2 (app1 translate (app1 kiy (loc 0)))),
    (kbz (app1 klu (kid [(loc 1),(loc 2)])))])
noncomputable def kdp : M AF :=
  (kaq [(kcu (loc 0) "node" (loc 1)),
    (kcu (loc 0) "npredecessors" (cst (.int 0))),
    (kcu (loc 0) "successors" (kd1 []))])
noncomputable def ka8 : M AF :=
  (kaq [(ifte (cmp_ .Is (walrus 2 (getM (app1 (attr · "_node2info") (loc 0)) (loc 1))) (cst .none)) (kaq [(put2S (app1 (attr · "_node2info") (loc 0)) (loc 1) 2 (make (.node none none none) 2 kdp [(loc 1)]))]) (kaq [])),
    (kbz (loc 2))])
noncomputable def kb6 : M AF :=
  (kaq [(ifte (cmp_ .IsNot (app1 (attr · "_ready_nodes") (loc 0)) (cst .none)) (kaq [fail]) (kaq [])),
    (assign 3 (kip 4 ka8 (loc 0) [(loc 1)])),
    (kgw (loc 3) "npredecessors" .Add (app1 kd2 (loc 2))),
    (for_ (app1 ket (loc 2)) (kdn 4) (kaq [(assign 5 (kip 4 ka8 (loc 0) [(loc 4)])),
    (expr (appM (app1 (attr · "successors") (loc 5)) (loc 1)))]))])
noncomputable def kbb : M AF :=
  (kaq [(kcu (loc 0) "_node2info" dict0),
    (kcu (loc 0) "_ready_nodes" (cst .none)),
    (kcu (loc 0) "_npassedout" (cst (.int 0))),
    (kcu (loc 0) "_nfinished" (cst (.int 0))),
    (ifte (cmp_ .IsNot (loc 1) (cst .none)) (kaq [(for_ (app1 srcItems (loc 1)) (bind2 2 3) (kaq [(expr (callStar 8 kb6 (loc 0) (loc 2) (loc 3)))]))]) (kaq []))])
noncomputable def kbn : M AF :=
  (kaq [(assign 1 (app1 (attr · "_node2info") (loc 0))),
    (assign 2 (kd1 [])),
    (assign 3 (kd1 [])),
    (assign 4 set0),
    (assign 5 dict0),
    (for_ (app1 ket (loc 1)) (kdn 6) (kaq [(ifte (cmp_ .In (loc 6) (loc 4)) (kaq [(ret .cont)]) (kaq [])),
    (kgx (ret true) (kaq [(ifte (cmp_ .In (loc 6) (loc 4)) (kaq [(ifte (cmp_ .In (loc 6) (loc 5)) (kaq [fail]) (kaq []))]) (kaq [(expr (addM (loc 4) (loc 6))),
    (expr (appM (loc 3) (app1 nextOf (app1 iterOf (app1 (attr · "successors") (app2 get (loc 1) (loc 6))))))),
    (putS (loc 5) (loc 6) (app1 kd2 (loc 2))),
    (expr (appM (loc 2) (loc 6)))])),
    (kgx (test (loc 2)) (kaq [(ki7 6 (app2 get (loc 3) (cst (.int (-1)))) (kaq [(delS (loc 5) (app1 kez (loc 2))),
    (expr (app1 kez (loc 3)))]))]) (kaq [(ret .brk)]))]) (kaq []))])),
    (kbz (cst .none))])
noncomputable def kba : M AF :=
  (kaq [(ifte (cmp_ .IsNot (app1 (attr · "_ready_nodes") (loc 0)) (cst .none)) (kaq [fail]) (kaq [])),
    (kcu (loc 0) "_ready_nodes" (kcc (app1 srcValues (app1 (attr · "_node2info") (loc 0))) [none,none] (kdn 1) (cmp_ .Eq (app1 (attr · "npredecessors") (loc 1)) (cst (.int 0))) (app1 (attr · "node") (loc 1)))),
    (assign 1 (kip 11 kbn (loc 0) [])),
    (ifte (test (loc 1)) (kaq [fail]) (kaq []))])
noncomputable def ka3 : M AF :=
  (kaq [(ifte (cmp_ .Is (app1 (attr · "_ready_nodes") (loc 0)) (cst .none)) (kaq [fail]) (kaq [])),
    (assign 1 (app1 tupleOf (app1 (attr · "_ready_nodes") (loc 0)))),
    (assign 2 (app1 (attr · "_node2info") (loc 0))),
    (for_ (app1 ket (loc 1)) (kdn 3) (kaq [(kcu (app2 get (loc 2) (loc 3)) "npredecessors" (cst (.int (-1))))])),
    (expr (app1 clear (app1 (attr · "_ready_nodes") (loc 0)))),
    (kgw (loc 0) "_npassedout" .Add (app1 kd2 (loc 1))),
    (kbz (loc 1))])
noncomputable def ka2 : M AF :=
  (kaq [(ifte (cmp_ .Is (app1 (attr · "_ready_nodes") (loc 0)) (cst .none)) (kaq [fail]) (kaq [])),
    (kbz (orV (asV (cmp_ .Lt (app1 (attr · "_nfinished") (loc 0)) (app1 (attr · "_npassedout") (loc 0)))) (app1 boolOf (app1 (attr · "_ready_nodes") (loc 0)))))])
noncomputable def kbc : M AF :=
  (kaq [(ifte (cmp_ .Is (app1 (attr · "_ready_nodes") (loc 0)) (cst .none)) (kaq [fail]) (kaq [])),
    (assign 2 (app1 (attr · "_node2info") (loc 0))),
    (for_ (app1 ket (loc 1)) (kdn 3) (kaq [(ifte (cmp_ .Is (walrus 4 (getM (loc 2) (loc 3))) (cst .none)) (kaq [fail]) (kaq [])),
    (assign 5 (app1 (attr · "npredecessors") (loc 4))),
    (ifte (cmp_ .NotEq (loc 5) (cst (.int (-1)))) (kaq [(ifte (cmp_ .GtE (loc 5) (cst (.int 0))) (kaq [fail]) (kaq [(ifte (cmp_ .Eq (loc 5) (cst (.int (-2)))) (kaq [fail]) (kaq [fail]))]))]) (kaq [])),
    (kcu (loc 4) "npredecessors" (cst (.int (-2)))),
    (for_ (app1 ket (app1 (attr · "successors") (loc 4))) (kdn 6) (kaq [(assign 7 (app2 get (loc 2) (loc 6))),
    (kgw (loc 7) "npredecessors" .Sub (cst (.int 1))),
    (ifte (cmp_ .Eq (app1 (attr · "npredecessors") (loc 7)) (cst (.int 0))) (kaq [(expr (appM (app1 (attr · "_ready_nodes") (loc 0)) (loc 6)))]) (kaq []))])),
    (kgw (loc 0) "_nfinished" .Add (cst (.int 1)))]))])
noncomputable def keo : M AF :=
  (kaq [(assign 3 (app2 get (loc 0) (loc 2))),
    (kgx (cmp_ .Gt (loc 2) (loc 1)) (kaq [(assign 4 (bin_ .RShift (bin_ .Sub (loc 2) (cst (.int 1))) (cst (.int 1)))),
    (assign 5 (app2 get (loc 0) (loc 4))),
    (ifte (cmp_ .Lt (loc 3) (loc 5)) (kaq [(putS (loc 0) (loc 2) (loc 5)),
    (assign 2 (loc 4)),
    (ret .cont)]) (kaq [])),
    (ret .brk)]) (kaq [])),
    (putS (loc 0) (loc 2) (loc 3))])
noncomputable def kgv : M AF :=
  (kaq [(expr (appM (loc 0) (loc 1))),
    (expr (kfk 6 keo [(loc 0),(cst (.int 0)),(bin_ .Sub (app1 kd2 (loc 0)) (cst (.int 1)))]))])
noncomputable def ki1 : M AF :=
  (kaq [(assign 2 (app1 kd2 (loc 0))),
    (assign 3 (loc 1)),
    (assign 4 (app2 get (loc 0) (loc 1))),
    (assign 5 (bin_ .Add (bin_ .Mult (cst (.int 2)) (loc 1)) (cst (.int 1)))),
    (kgx (cmp_ .Lt (loc 5) (loc 2)) (kaq [(assign 6 (bin_ .Add (loc 5) (cst (.int 1)))),
    (ifte (and_ (cmp_ .Lt (loc 6) (loc 2)) (not_ (cmp_ .Lt (app2 get (loc 0) (loc 5)) (app2 get (loc 0) (loc 6))))) (kaq [(assign 5 (loc 6))]) (kaq [])),
    (putS (loc 0) (loc 1) (app2 get (loc 0) (loc 5))),
    (assign 1 (loc 5)),
    (assign 5 (bin_ .Add (bin_ .Mult (cst (.int 2)) (loc 1)) (cst (.int 1))))]) (kaq [])),
    (putS (loc 0) (loc 1) (loc 4)),
    (expr (kfk 6 keo [(loc 0),(loc 3),(loc 1)]))])
noncomputable def khr : M AF :=
  (kaq [(assign 1 (app1 kez (loc 0))),
    (ifte (test (loc 0)) (kaq [(assign 2 (app2 get (loc 0) (cst (.int 0)))),
    (putS (loc 0) (cst (.int 0)) (loc 1)),
    (expr (kfk 9 ki1 [(loc 0),(cst (.int 0))])),
    (kbz (loc 2))]) (kaq [])),
    (kbz (loc 1))])
noncomputable def kfr : M AF :=
  (kaq [(assign 1 (kd1 [(cst (.int 10)),(cst (.int 32)),(cst (.int 33)),(cst (.int 47)),(cst (.int 57)),(cst (.int 61)),(cst (.int 65)),(cst (.int 90)),(cst (.int 95)),(cst (.int 97)),(cst (.int 122)),(cst (.int 126)),(cst (.int 200)),(cst (.int 255))])),
    (assign 2 (kd1 [(kd1 [(cst (.int 97))]),(kd1 [(cst (.int 97)),(cst (.int 33))])])),
    (for_ (app1 ket (loc 0)) (kdn 3) (kaq [(assign 4 (bin_ .Mod (loc 3) (cst (.int 588)))),
    (assign 5 (ifte (cmp_ .Eq (bin_ .Mod (bin_ .FloorDiv (loc 4) (cst (.int 14))) (cst (.int 3))) (cst (.int 0))) (kd1 [(app2 get (loc 1) (bin_ .Mod (loc 4) (cst (.int 14))))]) (kd1 [(app2 get (loc 1) (bin_ .Mod (loc 4) (cst (.int 14)))),(app2 get (loc 1) (bin_ .FloorDiv (loc 4) (cst (.int 42))))]))),
    (ifte (cmp_ .NotIn (loc 5) (loc 2)) (kaq [(expr (appM (loc 2) (loc 5)))]) (kaq []))])),
    (kbz (loc 2))])
noncomputable def kf1 : M AF :=
  (kaq [(assign 1 (kd1 [])),
    (for_ (app1 ket (loc 0)) (kdn 2) (kaq [(ifte (cmp_ .Eq (loc 2) (cst (.int 32))) (kaq [(expr (appM (loc 1) (bin_ .Mult (cst (.int 95)) (cst (.int 256)))))]) (kaq [(ifte (or_ (cmp_ .In (loc 2) (kd1 [(cst (.int 33)),(cst (.int 42)),(cst (.int 43)),(cst (.int 45)),(cst (.int 47))])) (or_ (cmp2_ .LtE .LtE (cst (.int 48)) (loc 2) (cst (.int 57))) (or_ (cmp2_ .LtE .LtE (cst (.int 65)) (loc 2) (cst (.int 90))) (cmp2_ .LtE .LtE (cst (.int 97)) (loc 2) (cst (.int 122)))))) (kaq [(expr (appM (loc 1) (bin_ .Mult (loc 2) (cst (.int 256)))))]) (kaq [(expr (appM (loc 1) (bin_ .Add (bin_ .Mult (cst (.int 61)) (cst (.int 256))) (loc 2))))]))]))])),
    (kbz (bin_ .Add (loc 1) (kd1 [(bin_ .Mult (cst (.int 63)) (cst (.int 256)))])))])
noncomputable def kc8 : M AF :=
  (kaq [(kbz (kcc (app1 ket (app1 kga (kcc (app1 kct (app1 kd2 (loc 0))) [none,none,some 0] (kdn 1) (ret true) (kid [(app2 get (loc 2) (loc 1)),(loc 1)])))) [none,none,none] (bind2 1 2) (ret true) (loc 2)))])
noncomputable def kff : M AF :=
  (kaq [(assign 1 (make (.inst []) 4 kbb [(kgu (app1 kct (app1 kd2 (loc 0))) [none,none,some 0] (kdn 1) (loc 1) (app2 get (loc 2) (loc 1)))])),
    (expr (kip 4 kba (loc 1) [])),
    (assign 2 (kd1 [])),
    (kgx (test (kip 3 ka2 (loc 1) [])) (kaq [(assign 3 (kip 8 ka3 (loc 1) [])),
    (expr (appM (loc 2) (app1 kga (loc 3)))),
    (for_ (app1 ket (loc 3)) (kdn 4) (kaq [(expr (ki0 11 kbc (loc 1) (loc 4)))]))]) (kaq [])),
    (kbz (loc 2))])
noncomputable def kf2 : M AF :=
  (kaq [(assign 2 (kd1 [])),
    (for_ (app1 ket (loc 0)) (kdn 3) (kaq [(assign 4 (kcc (app1 ket (loc 2)) [none,none,some 3,some 1] (kdn 1) (cmp_ .Lt (app2 get (loc 3) (app2 get (loc 1) (cst (.int (-1))))) (app2 get (loc 3) (loc 2))) (loc 1))),
    (ifte (cmp_ .Eq (app1 kd2 (loc 4)) (app1 kd2 (loc 2))) (kaq [(expr (appM (loc 2) (kd1 [(loc 3)])))]) (kaq [(expr (appM (app2 get (loc 2) (app1 kd2 (loc 4))) (loc 3)))]))])),
    (kbz (kcc (app1 ket (loc 2)) [none,none,none] (kdn 1) (ret true) (app1 kga (loc 1))))])
noncomputable def kda : M AF :=
  (kaq [(assign 2 (kd1 [])),
    (for_ (app1 ket (loc 0)) (kdn 3) (kaq [(ifte (or_ (cmp_ .Eq (loc 2) (kd1 [])) (cmp_ .Lt (app2 get (loc 1) (loc 3)) (app2 get (loc 1) (app2 get (loc 2) (cst (.int (-1))))))) (kaq [(expr (appM (loc 2) (loc 3)))]) (kaq []))])),
    (kbz (loc 2))])
noncomputable def kc9 : M AF :=
  (kaq [(assign 4 (make (.inst []) 4 kbb [(kgu (app1 kct (app1 kd2 (loc 0))) [none,none,some 0] (kdn 1) (loc 1) (app2 get (loc 2) (loc 1)))])),
    (expr (kip 4 kba (loc 4) [])),
    (assign 5 (kd1 [])),
    (for_ (app1 kct (app1 kd2 (loc 2))) (kdn 6) (kaq [(for_ (app1 ket (kip 8 ka3 (loc 4) [])) (kdn 7) (kaq [(expr (kfk 4 kgv [(loc 5),(kid [(app2 get (loc 1) (loc 7)),(loc 7)])]))])),
    (ifte (cmp_ .NotEq (app1 kga (kcc (app1 ket (loc 5)) [none,none,none] (bind2 1 2) (ret true) (loc 2))) (app1 kga (kfk 4 kda [(app2 cutFrom (loc 2) (loc 6)),(loc 3)]))) (kaq [(kbz (cst (.bool false)))]) (kaq [])),
    (assign 8 (kfk 4 khr [(loc 5)])),
    (ifte (cmp_ .NotEq (loc 8) (kid [(app2 get (loc 1) (app2 get (loc 2) (loc 6))),(app2 get (loc 2) (loc 6))])) (kaq [(kbz (cst (.bool false)))]) (kaq [])),
    (expr (ki0 11 kbc (loc 4) (app2 get (loc 8) (cst (.int 1)))))])),
    (kbz (andV (asV (cmp_ .Eq (loc 5) (kd1 []))) (asV (not_ (test (kip 3 ka2 (loc 4) []))))))])
noncomputable def b_lawT : M AF :=
  (kaq [(assign 2 (kcc (app1 ket (loc 1)) [none,none,none,none] (kdn 1) (ret true) (kfk 4 kc0 [(app1 kj8 (loc 1)),(cst (.str "iso-8859-1"))]))),
    (assign 3 (kcc (app1 ket (loc 1)) [none,none,none] (kdn 1) (ret true) (kfk 3 kf1 [(loc 1)]))),
    (assign 4 (kcc (app1 kct (app1 kd2 (loc 1))) [none,none,none,none,some 1,some 2] (kdn 1) (ret true) (kcc (app1 kct (app1 kd2 (loc 4))) [none,none,some 1,some 4,some 5] (kdn 1) (and_ (cmp_ .Lt (app2 get (loc 3) (loc 1)) (app2 get (loc 3) (loc 2))) (cmp_ .Lt (app2 get (loc 4) (loc 1)) (app2 get (loc 4) (loc 2)))) (loc 1)))),
    (assign 5 (kfk 4 kc8 [(loc 1)])),
    (assign 6 (kfk 4 kc8 [(loc 3)])),
    (ifte (cmp_ .NotEq (kfk 9 kff [(loc 4)]) (kfk 6 kf2 [(loc 5),(loc 3)])) (kaq [(kbz (cst (.bool false)))]) (kaq [])),
    (kbz (andV (kfk 16 kc9 [(loc 4),(loc 1),(loc 5),(loc 3)]) (kfk 16 kc9 [(loc 4),(loc 2),(loc 6),(loc 1)])))])
end Mine
namespace Mine
open PySem PySem.W PySem.Calls PyProof.Rows
abbrev RM := List (Addr × Addr)
noncomputable def owns (ρ : RM) (b : Addr) : Prop := ∃ p ∈ ρ,b = p.1 ∨ b = p.2
noncomputable def kdd : Addr := 166
noncomputable def kha : Addr := 69
noncomputable def AtR (ρ : RM) : At → Value → Prop
  | .none,v => v = .none
  | .bool b,v => v = .bool b
  | .int i,v => ∃ t,v = .int i t
  | .str x,v => ∃ t,v = .str x t
  | .bytes b,v => ∃ t,v = .bytes b t
  | .ref i,v => ∃ p,ρ[i]? = some p ∧ v = .ref p.1
abbrev ki6 (vs : List Value) : Obj := { cls := .type "tuple",data := .seq vs.toArray }
noncomputable def VR (ρ : RM) (h : Heap) : V → Value → Prop
  | .at a,v => AtR ρ a v
  | .tup xs,v => ∃ a vs,v = .ref a ∧ h.get? a = some (ki6 vs) ∧ Paired (AtR ρ) xs vs
noncomputable def kdv (o : Obj) : Prop := ∃ vs,o = ki6 vs
section
variable (prog : Program) (w : World)
noncomputable def FieldR (P : Params) (ρ : RM) (f : Str × At) (e : DictEntry) : Prop := e.hash = PyData.keyHash P f.1 ∧ (∃ t,e.key = .str f.1 t) ∧ AtR ρ f.2 e.val
noncomputable def SlotR (ρ : RM) (x : Option At) (v : Option (Option Value)) : Prop := match x with
  | none => v.join = none
  | some a => ∃ val,v = some (some val) ∧ AtR ρ a val
noncomputable def OAt (ρ : RM) (h : Heap) (p : Addr × Addr) : O → Prop
  | .list xs => p.2 = p.1 ∧ ∃ vs : List Value,h.PlainList p.1 vs.toArray ∧ Paired (VR ρ h) xs vs ∧ xs.length ≤ lim
  | .dict es ep => p.2 = p.1 ∧ ∃ kvs,h.DictAt (intKind prog w) p.1 kvs ep ∧ Paired (fun (e : Int × At) (kv : Int × Value) => e.1 = kv.1 ∧ AtR ρ e.2 kv.2) es kvs ∧ es.length ≤ lim
  | .set xs => p.2 = p.1 ∧ ∃ S,h.SetOf (intKind prog w) p.1 S xs.length ∧ ∀ k,S k = xs.contains k
  | .inst fs => ∃ es n,h.get? p.1 = some (instObj kdd p.2) ∧ h.get? p.2 = some (dictOf es n) ∧ Paired (FieldR w.params ρ) fs es
  | .node su np nd => ∃ sl : Array (Option Value),h.get? p.1 = some { cls := .ref kha,dict := some p.2,data := .plain,slots := sl } ∧ h.get? p.2 = some emptyDict ∧ SlotR ρ su sl[2]? ∧ SlotR ρ np sl[1]? ∧ SlotR ρ nd sl[0]?
  | .iter l i => p.2 = p.1 ∧ (match i with
      | some i => ∃ q,ρ[l]? = some q ∧ h.IsListIter p.1 q.1 i ∧ (i = 0 → ∃ o,h.get? p.1 = some o ∧ o.dict = none)
      | none => ∃ o,h.get? p.1 = some o ∧ o.cls = .type "list_iterator")
  | .nxt it => p.2 = p.1 ∧ ∃ q,ρ[it]? = some q ∧ h.get? p.1 = some { cls := .type "method-wrapper",data := .fields #[.builtin "list_iterator.__next__",.ref q.1] }
end
section
variable {α β : Type} {F : α → β → Prop}
theorem pget {l₁ : List α} {l₂ : List β} (p : Paired F l₁ l₂) : ∀ {i : Nat} {a : α},l₁[i]? = some a → ∃ b,l₂[i]? = some b ∧ F a b := by
  induction p with
  | nil => intro i a e; rw [List.getElem?_nil] at e; cases e
  | cons h _ ih => intro i a e; cases i with
    | zero => exact ⟨_,rfl,Option.some.inj e ▸ h⟩
    | succ i => exact ih e
theorem pget' {l₁ : List α} {l₂ : List β} (p : Paired F l₁ l₂) : ∀ {i : Nat} {b : β},l₂[i]? = some b → ∃ a,l₁[i]? = some a ∧ F a b := by
  induction p with
  | nil => intro i a e; rw [List.getElem?_nil] at e; cases e
  | cons h _ ih => intro i a e; cases i with
    | zero => exact ⟨_,rfl,Option.some.inj e ▸ h⟩
    | succ i => exact ih e
theorem papp {l₁ : List α} {l₂ : List β} {m₁ : List α} {m₂ : List β} (p : Paired F l₁ l₂) (k : Paired F m₁ m₂) : Paired F (l₁ ++ m₁) (l₂ ++ m₂) := by
  induction p with
  | nil => exact k
  | cons h _ ih => exact .cons h ih
theorem pset {l₁ : List α} {l₂ : List β} {a : α} {b : β} (p : Paired F l₁ l₂) (k : F a b) : ∀ i : Nat,Paired F (l₁.set i a) (l₂.set i b) := by
  induction p with
  | nil => exact fun _ => .nil
  | cons h t ih => intro i; cases i with
    | zero => exact .cons k t
    | succ i => exact .cons h (ih i)
theorem ptake {l₁ : List α} {l₂ : List β} (p : Paired F l₁ l₂) : ∀ i : Nat,Paired F (l₁.take i) (l₂.take i) := by
  induction p with
  | nil => intro i; rw [List.take_nil,List.take_nil]; exact .nil
  | cons h _ ih => intro i; cases i with
    | zero => exact .nil
    | succ i => exact .cons h (ih i)
theorem pdrop {l₁ : List α} {l₂ : List β} (p : Paired F l₁ l₂) : ∀ i : Nat,Paired F (l₁.drop i) (l₂.drop i) := by
  induction p with
  | nil => intro i; rw [List.drop_nil,List.drop_nil]; exact .nil
  | cons h t ih => intro i; cases i with
    | zero => exact .cons h t
    | succ i => exact ih i
end
theorem AtR.mono {ρ ρ' : RM} (hp : ρ <+: ρ') {a : At} {v : Value} (h : AtR ρ a v) : AtR ρ' a v := by
  cases a with
  | ref i =>
    obtain ⟨p,e,rfl⟩ := h
    obtain ⟨t,rfl⟩ := hp
    exact ⟨p,by rw [List.getElem?_append_left (List.getElem?_eq_some_iff.mp e).1]; exact e,rfl⟩
  | _ => exact h
theorem VR.mono {ρ ρ' : RM} {h h' : Heap} (hp : ρ <+: ρ') (hk : ∀ b o,kdv o → h.get? b = some o → h'.get? b = some o) {x : V} {v : Value} (r : VR ρ h x v) : VR ρ' h' x v := by
  cases x with
  | «at» a => exact AtR.mono hp r
  | tup xs =>
    obtain ⟨a,vs,rfl,e,q⟩ := r
    exact ⟨a,vs,rfl,hk a _ ⟨vs,rfl⟩ e,q.mono fun _ _ => AtR.mono hp⟩
theorem kl6 {ρ ρ' : RM} (hp : ρ <+: ρ') {i : Nat} {p : Addr × Addr} (e : ρ[i]? = some p) : ρ'[i]? = some p := by
  obtain ⟨t,rfl⟩ := hp
  rw [List.getElem?_append_left (List.getElem?_eq_some_iff.mp e).1]; exact e
section
variable {prog : Program} {w : World}
theorem OAt.mono {ρ ρ' : RM} {h h' : Heap} {p : Addr × Addr} {o : O} (r : OAt prog w ρ h p o) (hp : ρ <+: ρ') (hk : ∀ b o,kdv o → h.get? b = some o → h'.get? b = some o)
    (h1 : ∀ ob,h.get? p.1 = some ob → h'.get? p.1 = some ob) (h2 : ∀ ob,h.get? p.2 = some ob → h'.get? p.2 = some ob) : OAt prog w ρ' h' p o := by
  cases o with
  | list xs =>
    obtain ⟨e,vs,a,b,c⟩ := r
    exact ⟨e,vs,a.at h1,b.mono fun _ _ => VR.mono hp hk,c⟩
  | dict es ep =>
    obtain ⟨e,kvs,a,b,c⟩ := r
    exact ⟨e,kvs,a.at' h1,b.mono fun _ _ q => ⟨q.1,q.2.mono hp⟩,c⟩
  | set xs =>
    obtain ⟨e,S,⟨o,es,ep,t,a,b⟩,c⟩ := r
    exact ⟨e,S,⟨o,es,ep,t,h1 _ a,b⟩,c⟩
  | inst fs =>
    obtain ⟨es,n,a,b,c⟩ := r
    exact ⟨es,n,h1 _ a,h2 _ b,c.mono fun _ _ q => ⟨q.1,q.2.1,q.2.2.mono hp⟩⟩
  | node su np nd =>
    obtain ⟨sl,a,a2,b,c,d⟩ := r
    have k : ∀ x v,SlotR ρ x v → SlotR ρ' x v := fun x v q => by
      cases x with
      | none => exact q
      | some y => obtain ⟨val,e,q⟩ := q; exact ⟨val,e,q.mono hp⟩
    exact ⟨sl,h1 _ a,h2 _ a2,k _ _ b,k _ _ c,k _ _ d⟩
  | iter l i =>
    obtain ⟨e,r⟩ := r
    refine ⟨e,?_⟩
    cases i with
    | some i => obtain ⟨q,a,b,c⟩ := r; exact ⟨q,kl6 hp a,b.at h1,fun z => let ⟨o,e,d⟩ := c z; ⟨o,h1 _ e,d⟩⟩
    | none => obtain ⟨o,a,b⟩ := r; exact ⟨o,h1 _ a,b⟩
  | nxt it =>
    obtain ⟨e,q,a,b⟩ := r
    exact ⟨e,q,kl6 hp a,h1 _ b⟩
theorem notTup {ob : Obj} (h : ob.cls ≠ .type "tuple") : ¬ kdv ob := by rintro ⟨vs,rfl⟩; exact h rfl
theorem kg4 {a b : String} (h : a ≠ b) : Value.type a ≠ Value.type b := fun e => h (Value.type.inj e)
theorem OAt.there {ρ : RM} {h : Heap} {p : Addr × Addr} {o : O} (r : OAt prog w ρ h p o) : (∃ ob,h.get? p.1 = some ob ∧ ¬ kdv ob) ∧ ∃ ob,h.get? p.2 = some ob ∧ ¬ kdv ob := by
  have two : p.2 = p.1 → (∃ ob,h.get? p.1 = some ob ∧ ¬ kdv ob) → (∃ ob,h.get? p.1 = some ob ∧ ¬ kdv ob) ∧ ∃ ob,h.get? p.2 = some ob ∧ ¬ kdv ob := fun e q => ⟨q,by rw [e]; exact q⟩
  cases o with
  | list xs =>
    obtain ⟨e,vs,⟨n,a⟩,b⟩ := r
    exact two e ⟨_,a,notTup (kg4 (by decide))⟩
  | dict es ep =>
    obtain ⟨e,kvs,⟨o,es',a,b,c,_⟩,_⟩ := r
    exact two e ⟨_,a,by rintro ⟨vs,rfl⟩; cases c⟩
  | set xs =>
    obtain ⟨e,S,⟨o,es,ep,t,a,b,_⟩,c⟩ := r
    exact two e ⟨_,a,notTup (by rw [b.1]; exact kg4 (by decide))⟩
  | inst fs =>
    obtain ⟨es,n,a,b,c⟩ := r
    exact ⟨⟨_,a,notTup (by intro h; cases h)⟩,_,b,notTup (kg4 (by decide))⟩
  | node su np nd =>
    obtain ⟨sl,a,a2,_⟩ := r
    exact ⟨⟨_,a,notTup (by intro h; cases h)⟩,_,a2,notTup (kg4 (by decide))⟩
  | iter l i =>
    obtain ⟨e,r⟩ := r
    refine two e ?_
    cases i with
    | some i => obtain ⟨q,a,⟨o,b,c,d⟩,_⟩ := r; exact ⟨o,b,by rintro ⟨vs,rfl⟩; cases d⟩
    | none =>
      obtain ⟨o,a,b⟩ := r
      exact ⟨o,a,notTup (by rw [b]; exact kg4 (by decide))⟩
  | nxt it =>
    obtain ⟨e,q,a,b⟩ := r
    exact two e ⟨_,b,notTup (kg4 (by decide))⟩
end
end Mine
namespace Mine
open PySem PySem.W PySem.Calls PyProof.Rows
section
variable (prog : Program) (w : World) (h₀ : Heap)
structure HR (ρ : RM) (H : Hp) (h : Heap) : Prop where
  len : H.length = ρ.length
  sep : ∀ (i j : Nat) p q,ρ[i]? = some p → ρ[j]? = some q → i ≠ j → p.1 ≠ q.1 ∧ p.1 ≠ q.2 ∧ p.2 ≠ q.1 ∧ p.2 ≠ q.2
  at_ : ∀ (i : Nat) o p,H[i]? = some o → ρ[i]? = some p → OAt prog w ρ h p o
noncomputable def Kp (ρ : RM) (X : List Addr) (h h' : Heap) : Prop := ∀ b o,h.get? b = some o → ¬ owns ρ b → b ∉ X →
  ∃ sl,h'.get? b = some { o with slots := sl } ∧ ((b < h₀.objs.size ∨ ∀ es ep,o.data ≠ .dict es ep) → sl = o.slots)
structure Ext (X : List Addr) (ρ : RM) (h : Heap) (ρ' : RM) (h' : Heap) : Prop where
  pre : ρ <+: ρ'
  new : ∀ b,owns ρ' b → ¬ owns ρ b → h.get? b = none
  keep : Kp h₀ ρ X h h'
  x : ∀ b ∈ X,¬ owns ρ' b
structure FR (env : Env) (ρ : RM) (f : Fm) (h : Heap) : Prop where
  len : f.length = env.scope.names.length
  ns : ∃ m,h.Ns env.locals m ∧ ∀ (i : Nat) x v,env.scope.names[i]? = some (x,.local) → f[i]? = some (some v) → ∃ val,m x = some val ∧ VR ρ h v val
  cell : ∀ (i : Nat) x,env.scope.names[i]? = some (x,.cell) → ∃ c o,env.cells.lookup x = some c ∧ h.IsCell c o ∧ ¬ owns ρ c ∧ h₀.objs.size ≤ c ∧ ∀ v,f[i]? = some (some v) → ∃ val,o = some val ∧ VR ρ h v val
  apart : ∀ x y c,env.cells.lookup x = some c → env.cells.lookup y = some c → x = y
  loc : ¬ owns ρ env.locals ∧ h₀.objs.size ≤ env.locals
noncomputable def Frs (A : Around) (ρ : RM) (h : Heap) : Prop := ∃ l,A.frames = some l ∧ ∀ e ∈ l,e.scope.kind ≠ .module ∧ ∃ L o es ep,e.frame = some L ∧ h₀.objs.size ≤ L ∧ ¬ owns ρ L ∧ h.get? L = some o ∧ o.data = .dict es ep
structure Inv (A : Around) (env : Env) (X : List Addr) (ρ : RM) (f : Fm) (H : Hp) (h : Heap) : Prop where
  base : ∀ b o,h₀.get? b = some o → h.get? b = some o
  old : ∀ b,owns ρ b → h₀.objs.size ≤ b
  hr : HR prog w ρ H h
  fr : FR h₀ env ρ f h
  x : ∀ a ∈ X,h₀.objs.size ≤ a ∧ ¬ owns ρ a ∧ ∃ o,h.get? a = some o ∧ ¬ kdv o
  frs : Frs h₀ A ρ h
end
section
variable {prog : Program} {w : World} {h₀ : Heap}
theorem Kp.refl {ρ : RM} {X : List Addr} {h : Heap} : Kp h₀ ρ X h h := fun b o e _ _ => ⟨o.slots,e,fun _ => rfl⟩
theorem Ext.refl {X : List Addr} {ρ : RM} {h : Heap} (hX : ∀ b ∈ X,¬ owns ρ b) : Ext h₀ X ρ h ρ h := ⟨List.prefix_rfl,fun _ a b => absurd a b,.refl,hX⟩
theorem klx {ρ ρ' : RM} (hp : ρ <+: ρ') {b : Addr} (x : owns ρ b) : owns ρ' b := let ⟨p,hm,e⟩ := x; ⟨p,hp.subset hm,e⟩
theorem kfw {h : Heap} {b : Addr} (hb : h.objs.size ≤ b) : h.get? b = none := by
  cases e : h.get? b with
  | none => rfl
  | some o => exact absurd (Heap.lt_size e) (Nat.not_lt.mpr hb)
theorem Ext.trans {X : List Addr} {ρ ρ₁ ρ₂ : RM} {h h₁ h₂ : Heap} (a : Ext h₀ X ρ h ρ₁ h₁) (b : Ext h₀ X ρ₁ h₁ ρ₂ h₂) : Ext h₀ X ρ h ρ₂ h₂ := by
  refine ⟨a.pre.trans b.pre,fun x hx hn => ?_,fun x o e hn hX => ?_,b.x⟩
  · by_cases q : owns ρ₁ x
    · exact a.new x q hn
    · cases e : h.get? x with
      | none => rfl
      | some o =>
        obtain ⟨sl,e₁,_⟩ := a.keep x o e hn fun hX => b.x x hX hx
        rw [b.new x hx q] at e₁; cases e₁
  · obtain ⟨sl,e₁,k₁⟩ := a.keep x o e hn hX
    have q : ¬ owns ρ₁ x := fun q => by have := a.new x q hn; rw [e] at this; cases this
    obtain ⟨sl₂,e₂,k₂⟩ := b.keep x _ e₁ q hX
    refine ⟨sl₂,e₂,fun hc => ?_⟩
    rw [k₂ hc,k₁ hc]
theorem Ext.drop {X Y : List Addr} {ρ ρ' : RM} {h h₁ h' : Heap} (e : Ext h₀ Y ρ h₁ ρ' h') (hk : ∀ b o,h.get? b = some o → h₁.get? b = some o)
    (hY : ∀ b ∈ Y,b ∈ X ∨ h.get? b = none) (hX : ∀ b ∈ X,¬ owns ρ' b) : Ext h₀ X ρ h ρ' h' := by
  refine ⟨e.pre,fun b a c => ?_,fun b o q hn hX => ?_,hX⟩
  · have := e.new b a c
    cases q : h.get? b with
    | none => rfl
    | some o => rw [hk b o q] at this; cases this
  · exact e.keep b o (hk b o q) hn fun hm => by
      rcases hY b hm with h1 | h1
      · exact hX h1
      · rw [q] at h1; cases h1
theorem Ext.mono {X Y : List Addr} {ρ ρ' : RM} {h h' : Heap} (e : Ext h₀ X ρ h ρ' h') (hX : ∀ b ∈ X,b ∈ Y) (hY : ∀ b ∈ Y,¬ owns ρ' b) : Ext h₀ Y ρ h ρ' h' :=
  ⟨e.pre,e.new,fun b o q hn hY => e.keep b o q hn fun hm => hY (hX b hm),hY⟩
theorem Ext.tup {X : List Addr} {ρ ρ' : RM} {h h' : Heap} (e : Ext h₀ X ρ h ρ' h') {b : Addr} {o : Obj} (ho : h.get? b = some o) (ht : kdv o) (hn : ¬ owns ρ b) (hX : b ∉ X) : h'.get? b = some o := by
  obtain ⟨sl,e1,k⟩ := e.keep b o ho hn hX
  have := k (.inr (by obtain ⟨vs,rfl⟩ := ht; intro es ep h; cases h))
  subst this; exact e1
theorem ki2 {h h' : Heap} {L : Addr} {m : Str → Option Value} (n : h.Ns L m) (k : ∀ o,h.get? L = some o → ∃ sl,h'.get? L = some { o with slots := sl }) : h'.Ns L m := by
  obtain ⟨o,es,ep,a,b,c,d⟩ := n
  obtain ⟨sl,e⟩ := k o a
  exact ⟨_,es,ep,e,b,c,d⟩
section
variable {A : Around} {env : Env} {X : List Addr} {ρ : RM} {f : Fm} {H : Hp} {h h' : Heap}
theorem HR.notTup (R : HR prog w ρ H h) {b : Addr} (hb : owns ρ b) : ∃ ob,h.get? b = some ob ∧ ¬ kdv ob := by
  obtain ⟨p,hm,e⟩ := hb
  obtain ⟨i,hi⟩ := List.getElem?_of_mem hm
  have hl : i < H.length := by rw [R.len]; exact (List.getElem?_eq_some_iff.mp hi).1
  have t := (R.at_ i H[i] p (by simp [hl]) hi).there
  rcases e with rfl | rfl
  · exact t.1
  · exact t.2
theorem Inv.tupFree (I : Inv prog w h₀ A env X ρ f H h) {b : Addr} {o : Obj} (ho : h.get? b = some o) (ht : kdv o) : ¬ owns ρ b ∧ b ∉ X := by
  constructor
  · intro hb
    obtain ⟨ob,e,q⟩ := I.hr.notTup hb
    rw [ho] at e; cases e; exact q ht
  · intro hb
    obtain ⟨_,_,ob,e,q⟩ := I.x b hb
    rw [ho] at e; cases e; exact q ht
theorem Inv.vr (I : Inv prog w h₀ A env X ρ f H h) {ρ' : RM} (e : Ext h₀ X ρ h ρ' h') {v : V} {val : Value} (r : VR ρ h v val) : VR ρ' h' v val :=
  VR.mono e.pre (fun _ _ ht ho => let ⟨a,c⟩ := I.tupFree ho ht; e.tup ho ht a c) r
theorem Inv.move (I : Inv prog w h₀ A env X ρ f H h) {ρ' : RM} {H' : Hp} (D : Addr → Prop) (hk : ∀ b o,¬ D b → h.get? b = some o → h'.get? b = some o)
    (hD : ∀ b,D b → owns ρ b ∨ h.get? b = none) (hr' : HR prog w ρ' H' h') (hpre : ρ <+: ρ') (hnew : ∀ b,owns ρ' b → ¬ owns ρ b → h.objs.size ≤ b) :
    Inv prog w h₀ A env X ρ' f H' h' ∧ Ext h₀ X ρ h ρ' h' := by
  have kk : ∀ b o,¬ owns ρ b → h.get? b = some o → h'.get? b = some o := fun b o hn e => hk b o (fun d => by
    rcases hD b d with q | q
    · exact hn q
    · rw [e] at q; cases q) e
  have no : ∀ b o,¬ owns ρ b → h.get? b = some o → ¬ owns ρ' b := fun b o hn e q => absurd (Heap.lt_size e) (Nat.not_lt.mpr (hnew b q hn))
  have tk : ∀ b o,kdv o → h.get? b = some o → h'.get? b = some o := fun b o ht e => kk b o (I.tupFree e ht).1 e
  refine ⟨⟨fun b o e => kk b o (fun q => absurd (Heap.lt_size e) (Nat.not_lt.mpr (I.old b q))) (I.base b o e),fun b q => ?_,hr',⟨I.fr.len,?_,fun i x hx => ?_,I.fr.apart,?_,I.fr.loc.2⟩,fun a ha => ?_,?_⟩,
    hpre,fun b a c => kfw (hnew b a c),fun b o e hn _ => ⟨o.slots,kk b o hn e,fun _ => rfl⟩,fun a ha => let ⟨_,q2,o,e,_⟩ := I.x a ha; no a o q2 e⟩
  · by_cases z : owns ρ b
    · exact I.old b z
    · refine Nat.le_trans ?_ (hnew b q z)
      obtain ⟨m,⟨o,_,_,e,_⟩,_⟩ := I.fr.ns
      exact Nat.le_of_lt (Nat.lt_of_le_of_lt I.fr.loc.2 (Heap.lt_size e))
  · obtain ⟨m,n,k⟩ := I.fr.ns
    exact ⟨m,n.at' fun o e => kk _ o I.fr.loc.1 e,fun i x v a b => let ⟨val,c,d⟩ := k i x v a b; ⟨val,c,VR.mono hpre tk d⟩⟩
  · obtain ⟨c,o,a,⟨ob,b,b'⟩,d,e,k⟩ := I.fr.cell i x hx
    exact ⟨c,o,a,⟨ob,kk _ _ d b,b'⟩,no _ _ d b,e,fun v q => let ⟨val,c,d⟩ := k v q; ⟨val,c,VR.mono hpre tk d⟩⟩
  · obtain ⟨m,⟨o,_,_,e,_⟩,_⟩ := I.fr.ns
    exact no _ _ I.fr.loc.1 e
  · obtain ⟨q1,q2,o,e,t⟩ := I.x a ha
    exact ⟨q1,no _ _ q2 e,o,kk _ _ q2 e,t⟩
  · obtain ⟨l,e,k⟩ := I.frs
    exact ⟨l,e,fun v hv => let ⟨m,L,o,es,ep,a,b,c,d,g⟩ := k v hv; ⟨m,L,o,es,ep,a,b,no _ _ c d,kk _ _ c d,g⟩⟩
theorem HR.keeps (R : HR prog w ρ H h) (hk : ∀ b o,h.get? b = some o → h'.get? b = some o) : HR prog w ρ H h' :=
  ⟨R.len,R.sep,fun i o p a b => (R.at_ i o p a b).mono List.prefix_rfl (fun b o _ e => hk b o e) (fun ob e => hk _ _ e) fun ob e => hk _ _ e⟩
theorem Inv.keeps (I : Inv prog w h₀ A env X ρ f H h) (hk : ∀ b o,h.get? b = some o → h'.get? b = some o) : Inv prog w h₀ A env X ρ f H h' ∧ Ext h₀ X ρ h ρ h' :=
  I.move (fun _ => False) (fun b o _ e => hk b o e) (fun _ q => q.elim) (I.hr.keeps hk) List.prefix_rfl fun _ a b => absurd a b
theorem Inv.push (I : Inv prog w h₀ A env X ρ f H h) (o : Obj) : Inv prog w h₀ A env X ρ f H (h.push o) ∧ Ext h₀ X ρ h ρ (h.push o) :=
  I.keeps fun _ _ e => Heap.get?_push_of_some _ e
theorem owns_snoc {p : Addr × Addr} {b : Addr} : owns (ρ ++ [p]) b ↔ owns ρ b ∨ b = p.1 ∨ b = p.2 := by
  constructor
  · rintro ⟨q,hm,e⟩
    rcases List.mem_append.mp hm with hm | hm
    · exact .inl ⟨q,hm,e⟩
    · rw [List.mem_singleton.mp hm] at e; exact .inr e
  · rintro (⟨q,hm,e⟩ | e)
    · exact ⟨q,List.mem_append.mpr (.inl hm),e⟩
    · exact ⟨p,List.mem_append.mpr (.inr (List.mem_singleton.mpr rfl)),e⟩
theorem Inv.new (I : Inv prog w h₀ A env X ρ f H h) (hk : ∀ b o,h.get? b = some o → h'.get? b = some o) {p : Addr × Addr} {o : O}
    (h1 : h.objs.size ≤ p.1) (h2 : h.objs.size ≤ p.2) (ho : OAt prog w (ρ ++ [p]) h' p o) : Inv prog w h₀ A env X (ρ ++ [p]) f (H ++ [o]) h' ∧ Ext h₀ X ρ h (ρ ++ [p]) h' := by
  have hp : ρ <+: ρ ++ [p] := ⟨_,rfl⟩
  have lt : ∀ (i : Nat) q,ρ[i]? = some q → q.1 < h.objs.size ∧ q.2 < h.objs.size := fun i q e => by
    have hl : i < H.length := by rw [I.hr.len]; exact (List.getElem?_eq_some_iff.mp e).1
    obtain ⟨⟨o1,e1,_⟩,o2,e2,_⟩ := (I.hr.at_ i H[i] q (by simp [hl]) e).there
    exact ⟨Heap.lt_size e1,Heap.lt_size e2⟩
  have cut : ∀ {i : Nat} {q},(ρ ++ [p])[i]? = some q → ρ[i]? = some q ∨ (i = ρ.length ∧ q = p) := fun {i q} e => by
    rcases Nat.lt_trichotomy i ρ.length with hi | hi | hi
    · rw [List.getElem?_append_left hi] at e; exact .inl e
    · subst hi; simp at e; exact .inr ⟨rfl,e.symm⟩
    · rw [List.getElem?_eq_none (by simp; omega)] at e; cases e
  refine I.move (fun _ => False) (fun b o _ e => hk b o e) (fun _ q => q.elim) ⟨by simp [I.hr.len],fun i j a b ea eb ij => ?_,fun i ob a ea eb => ?_⟩ hp fun b a c => ?_
  · rcases cut ea with fa | ⟨ia,ea'⟩ <;> rcases cut eb with fb | ⟨ib,eb'⟩
    · exact I.hr.sep i j a b fa fb ij
    · obtain ⟨x1,x2⟩ := lt i a fa
      rw [eb']
      exact ⟨Nat.ne_of_lt (Nat.lt_of_lt_of_le x1 h1),Nat.ne_of_lt (Nat.lt_of_lt_of_le x1 h2),Nat.ne_of_lt (Nat.lt_of_lt_of_le x2 h1),Nat.ne_of_lt (Nat.lt_of_lt_of_le x2 h2)⟩
    · obtain ⟨x1,x2⟩ := lt j b fb
      rw [ea']
      exact ⟨Nat.ne_of_gt (Nat.lt_of_lt_of_le x1 h1),Nat.ne_of_gt (Nat.lt_of_lt_of_le x2 h1),Nat.ne_of_gt (Nat.lt_of_lt_of_le x1 h2),Nat.ne_of_gt (Nat.lt_of_lt_of_le x2 h2)⟩
    · exact absurd (ia.trans ib.symm) ij
  · rcases cut eb with fb | ⟨ib,eb'⟩
    · have hl : i < H.length := by rw [I.hr.len]; exact (List.getElem?_eq_some_iff.mp fb).1
      rw [List.getElem?_append_left hl] at ea
      exact (I.hr.at_ i ob a ea fb).mono hp (fun b o _ e => hk b o e) (fun ob e => hk _ _ e) fun ob e => hk _ _ e
    · rw [ib,← I.hr.len] at ea
      simp at ea
      subst ea
      rw [eb']; exact ho
  · rcases owns_snoc.mp a with q | rfl | rfl
    · exact absurd q c
    · exact h1
    · exact h2
theorem Inv.turn (I : Inv prog w h₀ A env X ρ f H h) {i : Nat} {p : Addr × Addr} {o : O} (hi : ρ[i]? = some p) (hk : ∀ b ob,b ≠ p.1 → b ≠ p.2 → h.get? b = some ob → h'.get? b = some ob)
    (ho : OAt prog w ρ h' p o) : Inv prog w h₀ A env X ρ f (H.set i o) h' ∧ Ext h₀ X ρ h ρ h' := by
  have hm : p ∈ ρ := List.mem_of_getElem? hi
  have own1 : owns ρ p.1 := ⟨p,hm,.inl rfl⟩
  have own2 : owns ρ p.2 := ⟨p,hm,.inr rfl⟩
  have tk : ∀ b ob,kdv ob → h.get? b = some ob → h'.get? b = some ob := fun b ob ht e => by
    have := (I.tupFree e ht).1
    exact hk b ob (fun q => this (q ▸ own1)) (fun q => this (q ▸ own2)) e
  refine I.move (fun b => b = p.1 ∨ b = p.2) (fun b ob d e => hk b ob (fun q => d (.inl q)) (fun q => d (.inr q)) e) (fun b d => .inl (by rcases d with rfl | rfl; exact own1; exact own2))
    ⟨by simp [I.hr.len],I.hr.sep,fun j ob q ea eb => ?_⟩ List.prefix_rfl fun _ a b => absurd a b
  by_cases hij : i = j
  · subst hij
    have hl : i < H.length := by rw [I.hr.len]; exact (List.getElem?_eq_some_iff.mp eb).1
    rw [hi] at eb; cases eb
    simp [hl] at ea
    subst ea; exact ho
  · rw [List.getElem?_set_ne hij] at ea
    obtain ⟨a,b,c,d⟩ := I.hr.sep i j p q hi eb hij
    exact (I.hr.at_ j ob q ea eb).mono List.prefix_rfl tk (fun _ e => hk _ _ (Ne.symm a) (Ne.symm c) e) fun _ e => hk _ _ (Ne.symm b) (Ne.symm d) e
theorem Inv.rfl' (I : Inv prog w h₀ A env X ρ f H h) : Ext h₀ X ρ h ρ h := .refl fun b hb => (I.x b hb).2.1
theorem Inv.get (I : Inv prog w h₀ A env X ρ f H h) {i : Nat} {o : O} (ho : H[i]? = some o) : ∃ p,ρ[i]? = some p ∧ OAt prog w ρ h p o := by
  have hl : i < ρ.length := by rw [← I.hr.len]; exact (List.getElem?_eq_some_iff.mp ho).1
  exact ⟨ρ[i],by simp [hl],I.hr.at_ i o _ ho (by simp [hl])⟩
end
end
end Mine
namespace Mine
open PySem PySem.W PySem.Calls PyProof.Rows
def ok {β : Type} (m : M β) (f : Fm) (H : Hp) (Φ : β → Fm → Hp → Prop) : Prop := ∃ b f' H',m f H = some (b,f',H') ∧ Φ b f' H'
inductive Got {α : Type} (P : α → Prop) (Φ : α → Prop) : Prop
  | mk (a : α) (h : P a) (e : Φ a) : Got P Φ
section
variable {α β : Type} {f : Fm} {H : Hp} {Φ : β → Fm → Hp → Prop}
theorem kae {m : M α} {k : α → M β} (e : ok (bnd m k) f H Φ) : ok m f H (fun a f' H' => ok (k a) f' H' Φ) := by
  obtain ⟨b,f',H',e,h⟩ := e
  unfold bnd at e
  split at e
  · rename_i a f₁ H₁ q; exact ⟨a,f₁,H₁,q,b,f',H',e,h⟩
  · cases e
theorem kao {a : β} (e : ok (ret a) f H Φ) : Φ a f H := by
  obtain ⟨b,f',H',e,h⟩ := e; cases e; exact h
theorem ka4 {C : Prop} (e : ok (fail : M β) f H Φ) : C := by
  obtain ⟨b,f',H',e,h⟩ := e; cases e
end
theorem ok_loc {i : Nat} {f : Fm} {H : Hp} {Φ : V → Fm → Hp → Prop} (e : ok (loc i) f H Φ) : Got (fun v => f[i]? = some (some v)) fun v => Φ v f H := by
  obtain ⟨b,f',H',e,h⟩ := e
  unfold loc at e
  split at e
  · rename_i v q; cases e; exact ⟨_,q,h⟩
  · cases e
theorem ke0 {i : Nat} {v : V} {f : Fm} {H : Hp} {Φ : Unit → Fm → Hp → Prop} (e : ok (setl i v) f H Φ) : Φ () (f.set i (some v)) H := by
  obtain ⟨b,f',H',e,h⟩ := e
  unfold setl at e
  split at e
  · cases e; exact h
  · cases e
theorem ok_rd {a : Nat} {f : Fm} {H : Hp} {Φ : O → Fm → Hp → Prop} (e : ok (rd a) f H Φ) : Got (fun o => H[a]? = some o) fun o => Φ o f H := by
  obtain ⟨b,f',H',e,h⟩ := e
  unfold rd at e
  split at e
  · rename_i o q; cases e; exact ⟨_,q,h⟩
  · cases e
theorem ke1 {α : Type} {a : Nat} {k : O → M α} {f : Fm} {H : Hp} {Φ : α → Fm → Hp → Prop} (e : ok (bnd (rd a) k) f H Φ) : Got (fun o => H[a]? = some o) fun o => ok (k o) f H Φ := ok_rd (kae e)
theorem khi {a : Nat} {o : O} {f : Fm} {H : Hp} {Φ : Unit → Fm → Hp → Prop} (e : ok (wr a o) f H Φ) : Φ () f (H.set a o) := by
  obtain ⟨b,f',H',e,h⟩ := e
  unfold wr at e
  split at e
  · cases e; exact h
  · cases e
theorem kgy {o : O} {f : Fm} {H : Hp} {Φ : V → Fm → Hp → Prop} (e : ok (new o) f H Φ) : Φ (.at (.ref H.length)) f (H ++ [o]) := by
  obtain ⟨b,f',H',e,h⟩ := e; cases e; exact h
theorem khz {α : Type} {G : Hp → Option α} {f : Fm} {H : Hp} {Φ : α → Fm → Hp → Prop} (e : ok (kfp G) f H Φ) : Got (fun a => G H = some a) fun a => Φ a f H := by
  obtain ⟨b,f',H',e,h⟩ := e
  unfold kfp at e
  split at e
  · rename_i a q; cases e; exact ⟨_,q,h⟩
  · cases e
theorem kir {gd : Option (Nat × O)} {f : Fm} {H : Hp} {Φ : Unit → Fm → Hp → Prop} (e : ok (kf9 gd) f H Φ) : kf9 gd f H = some ((),f,H) ∧ Φ () f H := by
  obtain ⟨b,f',H',e,h⟩ := e
  have : f' = f ∧ H' = H := by
    unfold kf9 at e
    split at e
    · cases e; exact ⟨rfl,rfl⟩
    · split at e
      · cases e; exact ⟨rfl,rfl⟩
      · cases e
  obtain ⟨rfl,rfl⟩ := this
  exact ⟨e,h⟩
theorem kcs {β : Type} {m : M β} {f : Fm} {H : Hp} {Φ Ψ : β → Fm → Hp → Prop} (e : ok m f H Φ) (h : ∀ b f' H',Φ b f' H' → Ψ b f' H') : ok m f H Ψ := by
  obtain ⟨b,f',H',e,q⟩ := e; exact ⟨b,f',H',e,h _ _ _ q⟩
structure Sc where
  names : List (Str × NameKind)
  cells : List Str
  fn : Bool := false
structure Cx (sc : Sc) (q : Bool) (d : Nat) (A : Around) (env : Env) (X : List Addr) : Prop where
  names : env.scope.names = sc.names
  kind : env.scope.kind = .function
  globals : env.globals = mainGlobals
  builtins : env.builtins = builtinsNs
  locX : env.locals ∈ X
  celX : ∀ x ∈ sc.cells,∀ c,env.cells.lookup x = some c → c ∈ X
  handled : q = true → A.handled = none
  depth : A.depth + d < 900
  units : A.units + 10 * d < 8900
  top : sc.fn = true → ∃ outer,A.frames = some (env :: outer) ∧ env.frame = some env.locals
structure Bs (h₀ : Heap) (K : Frag) (mg mb : Str → Option Value) : Prop where
  kin : K.In h₀
  g : h₀.Ns mainGlobals mg
  b : h₀.Ns builtinsNs mb
  bb : ∀ x : Str,x ≠ "__name__" → mb x = bootBuiltins x
  nolimit : h₀.NoLimit
  sys : sysModules < h₀.objs.size
structure Cls (K : Frag) : Prop where
  sGet : plainGet K kdd "" = true
  sDict : hasDictIn K kdd = true
  sOver : plainOver K kdd = true
  sSet : findIn K (.ref kdd) "__setattr__" = some (some (.builtin "object.__setattr__"))
  sFind : ∀ x ∈ instNames,findIn K (.ref kdd) x = some none
  nGet : plainGet K kha "" = true
  nCls : isClsIn K kha = true
  nOver : plainOver K kha = true
  nSet : findIn K (.ref kha) "__setattr__" = some (some (.builtin "object.__setattr__"))
  slot : ∀ x i,(x,i) ∈ [(nSu,2),(nNp,1),(kl0,0)] → ∃ p,findIn K (.ref kha) x = some (some (.ref p)) ∧ specialIn K (.ref p) "__get__" = some (some (.builtin "member_descriptor.__get__")) ∧
    takesIn K (.ref p) = some true ∧ slotIn K p kha = some i ∧ typeIn K (.ref p) = some (.type "member_descriptor")
structure Gl where
  prog : Program
  w : World
  h₀ : Heap
  K : Frag
  mg : Str → Option Value
  mb : Str → Option Value
  bs : Bs h₀ K mg mb
  cls : Cls K
structure Fc (sc : Sc) (q : Bool) (d : Nat) where
  A : Around
  env : Env
  X : List Addr
  cx : Cx sc q d A env X
structure St (g : Gl) {sc : Sc} {q : Bool} {d : Nat} (z : Fc sc q d) where
  ρ : RM
  f : Fm
  H : Hp
  s : Shared
  inv : Inv g.prog g.w g.h₀ z.A z.env z.X ρ f H s.heap
section
variable {g : Gl} {sc : Sc} {q : Bool} {d : Nat} {z : Fc sc q d}
structure To (σ τ : St g z) : Prop where
  ext : Ext g.h₀ z.X σ.ρ σ.s.heap τ.ρ τ.s.heap
  same : τ.s = { σ.s with heap := τ.s.heap,toks := τ.s.toks }
noncomputable def St.to (σ : St g z) (ρ' : RM) (f' : Fm) (H' : Hp) (h' : Heap) (tk : Nat) (I' : Inv g.prog g.w g.h₀ z.A z.env z.X ρ' f' H' h') : St g z := ⟨ρ',f',H',{ σ.s with heap := h',toks := tk },I'⟩
theorem To.rfl {σ : St g z} : To σ σ := ⟨σ.inv.rfl',by rfl⟩
theorem To.trans {σ τ υ : St g z} (a : To σ τ) (b : To τ υ) : To σ υ := ⟨a.ext.trans b.ext,by rw [b.same,a.same]⟩
theorem To.vr {σ τ : St g z} (a : To σ τ) {v : V} {val : Value} (r : VR σ.ρ σ.s.heap v val) : VR τ.ρ τ.s.heap v val := σ.inv.vr a.ext r
noncomputable def St.toks (σ : St g z) (tk : Nat) : St g z := ⟨σ.ρ,σ.f,σ.H,{ σ.s with toks := tk },σ.inv⟩
theorem St.toks_to (σ : St g z) (tk : Nat) : To σ (σ.toks tk) := ⟨σ.inv.rfl',by rfl⟩
noncomputable def St.keep (σ : St g z) (h' : Heap) (tk : Nat) (hk : ∀ b o,σ.s.heap.get? b = some o → h'.get? b = some o) : St g z := σ.to σ.ρ σ.f σ.H h' tk (σ.inv.keeps hk).1
theorem St.keep_to (σ : St g z) {h' : Heap} {tk : Nat} (hk : ∀ b o,σ.s.heap.get? b = some o → h'.get? b = some o) : To σ (σ.keep h' tk hk) := ⟨(σ.inv.keeps hk).2,by rfl⟩
theorem kb8 {h : Heap} {o : Obj} : ∀ b ob,h.get? b = some ob → (h.push o).get? b = some ob := fun _ _ e => Heap.get?_push_of_some _ e
noncomputable abbrev St.push (σ : St g z) (o : Obj) (tk : Nat) : St g z := σ.keep (σ.s.heap.push o) tk kb8
noncomputable def St.new (σ : St g z) (h' : Heap) (tk : Nat) (p : Addr × Addr) (o : O) (hk : ∀ b o,σ.s.heap.get? b = some o → h'.get? b = some o) (h1 : σ.s.heap.objs.size ≤ p.1) (h2 : σ.s.heap.objs.size ≤ p.2) (ho : OAt g.prog g.w (σ.ρ ++ [p]) h' p o) : St g z :=
  σ.to (σ.ρ ++ [p]) σ.f (σ.H ++ [o]) h' tk (σ.inv.new hk h1 h2 ho).1
theorem St.new_to (σ : St g z) {h' : Heap} {tk : Nat} {p : Addr × Addr} {o : O} (hk : ∀ b o,σ.s.heap.get? b = some o → h'.get? b = some o) (h1 : σ.s.heap.objs.size ≤ p.1) (h2 : σ.s.heap.objs.size ≤ p.2) (ho : OAt g.prog g.w (σ.ρ ++ [p]) h' p o) : To σ (σ.new h' tk p o hk h1 h2 ho) :=
  ⟨(σ.inv.new hk h1 h2 ho).2,by rfl⟩
theorem St.new_ref (σ : St g z) {h' : Heap} {tk : Nat} {p : Addr × Addr} {o : O} {hk : ∀ b o,σ.s.heap.get? b = some o → h'.get? b = some o} {h1 : σ.s.heap.objs.size ≤ p.1} {h2 : σ.s.heap.objs.size ≤ p.2} {ho : OAt g.prog g.w (σ.ρ ++ [p]) h' p o} :
    VR (σ.new h' tk p o hk h1 h2 ho).ρ (σ.new h' tk p o hk h1 h2 ho).s.heap (.at (.ref σ.H.length)) (.ref p.1) := ⟨p,by show (σ.ρ ++ [p])[σ.H.length]? = _; rw [σ.inv.hr.len]; simp,by rfl⟩
noncomputable def St.turn (σ : St g z) (h' : Heap) (tk : Nat) {i : Nat} {p : Addr × Addr} (o : O) (hi : σ.ρ[i]? = some p) (hk : ∀ b ob,b ≠ p.1 → b ≠ p.2 → σ.s.heap.get? b = some ob → h'.get? b = some ob) (ho : OAt g.prog g.w σ.ρ h' p o) : St g z :=
  σ.to σ.ρ σ.f (σ.H.set i o) h' tk (σ.inv.turn hi hk ho).1
theorem St.turn_to (σ : St g z) {h' : Heap} {tk : Nat} {i : Nat} {p : Addr × Addr} {o : O} (hi : σ.ρ[i]? = some p) (hk : ∀ b ob,b ≠ p.1 → b ≠ p.2 → σ.s.heap.get? b = some ob → h'.get? b = some ob) (ho : OAt g.prog g.w σ.ρ h' p o) : To σ (σ.turn h' tk o hi hk ho) :=
  ⟨(σ.inv.turn hi hk ho).2,by rfl⟩
theorem St.kin (σ : St g z) : g.K.In σ.s.heap := g.bs.kin.keeps σ.inv.base
end
section
variable (g : Gl)
def RX {α β : Type} (rel : RM → Heap → β → α → Prop) (sc : Sc) (q : Bool) (d : Nat) (t : Env → Sem α) (m : M β) : Prop :=
  ∀ (z : Fc sc q d) (σ : St g z) (Φ : β → Fm → Hp → Prop) (E : Value → Shared → Prop) (Q : α → Shared → Prop),ok m σ.f σ.H Φ →
    (∀ (τ : St g z) a b,To σ τ → Φ b τ.f τ.H → rel τ.ρ τ.s.heap b a → Q a τ.s) → wpAny (model g.prog g.w) z.A (t z.env) Q E σ.s
def FlR (ρ : RM) (h : Heap) : AF → Flow → Prop
  | .next,g => g = .next
  | .brk,g => g = .brk
  | .cont,g => g = .cont
  | .ret v,g => ∃ val,g = .ret val ∧ VR ρ h v val
def VsR (ρ : RM) (h : Heap) (vs : List V) (vals : List Value) : Prop := Paired (VR ρ h) vs vals
def EqR {α : Type} (_ : RM) (_ : Heap) (a b : α) : Prop := a = b
abbrev RE (sc : Sc) (q : Bool) (d : Nat) (e : Expr) (m : M V) : Prop := RX g VR sc q d (eval e) m
abbrev RT (sc : Sc) (q : Bool) (d : Nat) (e : Expr) (m : M Bool) : Prop := RX g EqR sc q d (fun env => isTrue e env (eval e env)) m
abbrev RS (sc : Sc) (q : Bool) (d : Nat) (st : Stmt) (m : M AF) : Prop := RX g FlR sc q d (exec st) m
abbrev RB (sc : Sc) (q : Bool) (d : Nat) (sts : List Stmt) (m : M AF) : Prop := RX g FlR sc q d (execs sts) m
abbrev RA (sc : Sc) (q : Bool) (d : Nat) (pos : Pos) (es : List Expr) (m : M (List V)) : Prop := RX g VsR sc q d (fun env => spliced (backTo pos (starEach es env))) m
end
section
variable {g : Gl} {sc : Sc} {q : Bool} {d : Nat}
theorem kcl : ∀ {l : List (Str × NameKind)} {i : Nat} {x : Str} {k : NameKind},(l.map (·.1)).Nodup → l[i]? = some (x,k) → l.lookup x = some k
  | (y,j) :: r,0,x,k,_,e => by
    simp only [List.getElem?_cons_zero,Option.some.injEq,Prod.mk.injEq] at e
    obtain ⟨rfl,rfl⟩ := e
    rw [List.lookup_cons]; simp
  | (y,j) :: r,i + 1,x,k,hn,e => by
    simp only [List.getElem?_cons_succ] at e
    rw [List.map_cons,List.nodup_cons] at hn
    have hne : (x == y) = false := by
      cases hb : x == y with
      | false => rfl
      | true =>
        have := List.mem_of_getElem? e
        exact absurd (List.mem_map.mpr ⟨(x,k),this,beq_iff_eq.mp hb⟩) hn.1
    rw [List.lookup_cons,hne]
    exact kcl hn.2 e
theorem kh0 {l : List (Str × NameKind)} (hn : (l.map (·.1)).Nodup) {i j : Nat} {x : Str} {k k' : NameKind} (a : l[i]? = some (x,k)) (b : l[j]? = some (x,k')) : i = j := by
  have h1 : (l.map (·.1))[i]? = some x := by rw [List.getElem?_map,a]; rfl
  have h2 : (l.map (·.1))[j]? = some x := by rw [List.getElem?_map,b]; rfl
  exact (List.getElem?_inj (List.getElem?_eq_some_iff.mp h1).1 hn).mp (h1.trans h2.symm)
theorem Fc.kindOf (z : Fc sc q d) (hn : (sc.names.map (·.1)).Nodup) {i : Nat} {x : Str} {k : NameKind} (hi : sc.names[i]? = some (x,k)) : z.env.kindOf x = some k := by
  unfold Env.kindOf; rw [z.cx.names]; exact kcl hn hi
theorem kac {i : Nat} {x : Str} {p : Pos} (hn : (sc.names.map (·.1)).Nodup) (hi : sc.names[i]? = some (x,.local)) (hd : (x == ("__debug__" : Str)) = false := by decide) : RE g sc q d (.Name x p) (loc i) := by
  intro z σ Φ E Q e k
  obtain ⟨v,hv,e⟩ := ok_loc e
  obtain ⟨m,n,r⟩ := σ.inv.fr.ns
  obtain ⟨val,hm,rv⟩ := r i x v (by rw [z.cx.names]; exact hi) hv
  exact wpAny_Name (wpAny_loadName_local z.cx.kind (z.kindOf hn hi) n hm (k σ val v .rfl e rv)) hd
theorem kb0 {i : Nat} {x : Str} {p : Pos} (hn : (sc.names.map (·.1)).Nodup) (hi : sc.names[i]? = some (x,.cell)) (hd : (x == ("__debug__" : Str)) = false := by decide) : RE g sc q d (.Name x p) (loc i) := by
  intro z σ Φ E Q e k
  obtain ⟨v,hv,e⟩ := ok_loc e
  obtain ⟨ce,o,a,b,_,_,r⟩ := σ.inv.fr.cell i x (by rw [z.cx.names]; exact hi)
  obtain ⟨val,rfl,rv⟩ := r v hv
  exact wpAny_Name (wpAny_loadName_cell z.cx.kind (z.kindOf hn hi) a b (k σ val v .rfl e rv)) hd
theorem kbg {i : Int} {j : Nat} {p : Pos} : RE g sc q d (.Constant (.int i) j p) (cst (.int i)) :=
  fun z σ Φ E Q e k => wpAny_Constant_int (k (σ.toks _) _ _ (σ.toks_to _) (kao e) ⟨_,rfl⟩)
theorem kfg {j : Nat} {p : Pos} : RE g sc q d (.Constant .none j p) (cst .none) :=
  fun z σ Φ E Q e k => wpAny_Constant_none (k σ _ _ .rfl (kao e) rfl)
theorem re_bool {b : Bool} {j : Nat} {p : Pos} : RE g sc q d (.Constant (.bool b) j p) (cst (.bool b)) :=
  fun z σ Φ E Q e k => wpAny_Constant_bool (k σ _ _ .rfl (kao e) rfl)
theorem re_str {x : Str} {j : Nat} {p : Pos} : RE g sc q d (.Constant (.str x) j p) (cst (.str x)) :=
  fun z σ Φ E Q e k => wpAny_Constant_str (k (σ.toks _) _ _ (σ.toks_to _) (kao e) ⟨_,rfl⟩)
end
theorem kd6 {o : Obj} (h : ∀ xs n,o.data ≠ .seq xs n) : ¬ kdv o := by rintro ⟨vs,rfl⟩; exact h _ _ rfl
theorem kd4 {o : Obj} {es : Array DictEntry} {ep : Nat} (h : o.data = .dict es ep) : ¬ kdv o := kd6 (by rw [h]; intro _ _ h; cases h)
section
variable {prog : Program} {w : World} {h₀ : Heap} {A : Around} {env : Env} {X : List Addr} {ρ : RM} {f : Fm} {H : Hp} {h : Heap}
theorem Inv.atX (I : Inv prog w h₀ A env X ρ f H h) {h' : Heap} {L : Addr} {f' : Fm} (hX : L ∈ X) (hs : Heap.SameBut L h h') (hL : ∃ o,h'.get? L = some o ∧ ¬ kdv o)
    (fr : (∀ {v : V} {val : Value},VR ρ h v val → VR ρ h' v val) → FR h₀ env ρ f' h') (fs : ∀ o es ep,h.get? L = some o → o.data = .dict es ep → ∃ o' es' ep',h'.get? L = some o' ∧ o'.data = .dict es' ep') :
    Inv prog w h₀ A env X ρ f' H h' ∧ Ext h₀ X ρ h ρ h' := by
  obtain ⟨z1,z2,oL,eL,tL⟩ := I.x L hX
  have kk : ∀ b o,b ≠ L → h.get? b = some o → h'.get? b = some o := fun b o hb e => (hs.2 b hb).trans e
  have tk : ∀ b o,kdv o → h.get? b = some o → h'.get? b = some o := fun b o ht e => kk b o (fun q => by subst q; rw [eL] at e; cases e; exact tL ht) e
  refine ⟨⟨fun b o e => kk b o (Nat.ne_of_lt (Nat.lt_of_lt_of_le (Heap.lt_size e) z1)) (I.base b o e),I.old,⟨I.hr.len,I.hr.sep,fun i o p a b => ?_⟩,fr (VR.mono List.prefix_rfl tk),fun a ha => ?_,?_⟩,
    List.prefix_rfl,fun _ a b => absurd a b,fun b o e _ hn => ⟨o.slots,kk b o (fun q => hn (q ▸ hX)) e,fun _ => rfl⟩,fun a ha => (I.x a ha).2.1⟩
  · have hm := List.mem_of_getElem? b
    exact (I.hr.at_ i o p a b).mono List.prefix_rfl tk (fun ob e => kk _ _ (fun q => z2 (q ▸ ⟨p,hm,.inl rfl⟩)) e) fun ob e => kk _ _ (fun q => z2 (q ▸ ⟨p,hm,.inr rfl⟩)) e
  · obtain ⟨q1,q2,o,e,t⟩ := I.x a ha
    by_cases hq : a = L
    · subst hq; exact ⟨q1,q2,hL⟩
    · exact ⟨q1,q2,o,kk a o hq e,t⟩
  · obtain ⟨l,e,k⟩ := I.frs
    refine ⟨l,e,fun v hv => ?_⟩
    obtain ⟨m,L',o,es,ep,a,b,c,d,g⟩ := k v hv
    by_cases hq : L' = L
    · subst hq
      obtain ⟨o',es',ep',x1,x2⟩ := fs o es ep d g
      exact ⟨m,L',o',es',ep',a,b,c,x1,x2⟩
    · exact ⟨m,L',o,es,ep,a,b,c,kk L' o hq d,g⟩
end
section
variable {g : Gl} {sc : Sc} {q : Bool} {d : Nat} {z : Fc sc q d}
theorem kcw (σ : St g z) {i : Nat} {x : Str} {v : V} {val : Value} (hn : (sc.names.map (·.1)).Nodup) (hi : sc.names[i]? = some (x,.local)) (hv : VR σ.ρ σ.s.heap v val)
    {E : Value → Shared → Prop} {Q : Unit → Shared → Prop} (k : ∀ h' tk I',To σ (σ.to σ.ρ (σ.f.set i (some v)) σ.H h' tk I') → Q () { σ.s with heap := h',toks := tk }) : wpAny (model g.prog g.w) z.A (storeName z.env x val) Q E σ.s := by
  obtain ⟨m,n,r⟩ := σ.inv.fr.ns
  refine wpAny_storeName_local (z.kindOf hn hi) n (fun h' n' hs => ?_) (by rw [z.cx.kind]; rfl)
  obtain ⟨o',es',ep',e',d',_⟩ := id n'
  have key := σ.inv.atX (h' := h') (f' := σ.f.set i (some v)) z.cx.locX hs ⟨o',e',kd4 d'⟩ (fun tr => ⟨by rw [List.length_set]; exact σ.inv.fr.len,⟨_,n',fun j y u hj hu => ?_⟩,fun j y hj => ?_,σ.inv.fr.apart,σ.inv.fr.loc⟩)
    (fun _ _ _ _ _ => ⟨o',es',ep',e',d'⟩)
  · exact k h' _ key.1 ⟨key.2,by rfl⟩
  · rw [z.cx.names] at hj
    by_cases hij : i = j
    · subst hij
      rw [hi] at hj; cases hj
      have hl : i < σ.f.length := by have := (List.getElem?_eq_some_iff.mp hu).1; rwa [List.length_set] at this
      rw [List.getElem?_set_self hl] at hu; cases hu
      exact ⟨val,by simp,tr hv⟩
    · rw [List.getElem?_set_ne hij] at hu
      obtain ⟨val',hm,hv'⟩ := r j y u (by rw [z.cx.names]; exact hj) hu
      refine ⟨val',?_,tr hv'⟩
      rw [if_neg (fun hxy => hij (kh0 hn hi (hxy ▸ hj)))]; exact hm
  · obtain ⟨ce,o,a,⟨ob,b,b'⟩,z1,z2,r'⟩ := σ.inv.fr.cell j y hj
    have hne : ce ≠ z.env.locals := fun q => by
      obtain ⟨oL,_,_,eL,dL,_⟩ := id n
      rw [q,eL] at b; cases b; rw [dL] at b'; cases b'
    refine ⟨ce,o,a,⟨ob,(hs.2 ce hne).trans b,b'⟩,z1,z2,fun u hu => ?_⟩
    have hij : i ≠ j := fun q => by subst q; rw [z.cx.names,hi] at hj; cases hj
    rw [List.getElem?_set_ne hij] at hu
    obtain ⟨val',h1,h2⟩ := r' u hu
    exact ⟨val',h1,tr h2⟩
theorem khu (σ : St g z) {i : Nat} {x : Str} {v : V} {val : Value} (hn : (sc.names.map (·.1)).Nodup) (hi : sc.names[i]? = some (x,.cell)) (hw : x ∈ sc.cells) (hv : VR σ.ρ σ.s.heap v val)
    {E : Value → Shared → Prop} {Q : Unit → Shared → Prop} (k : ∀ h' tk I',To σ (σ.to σ.ρ (σ.f.set i (some v)) σ.H h' tk I') → Q () { σ.s with heap := h',toks := tk }) : wpAny (model g.prog g.w) z.A (storeName z.env x val) Q E σ.s := by
  obtain ⟨m,n,r⟩ := σ.inv.fr.ns
  obtain ⟨ce,o,a,b,z1,z2,r'⟩ := σ.inv.fr.cell i x (by rw [z.cx.names]; exact hi)
  refine wpAny_storeName_cell z.cx.kind (z.kindOf hn hi) a b fun h' n' hs => ?_
  obtain ⟨o',e',d'⟩ := id n'
  obtain ⟨ob,eb,db⟩ := id b
  have hne : ce ≠ z.env.locals := fun q => by
    obtain ⟨oL,_,_,eL,dL,_⟩ := id n
    rw [q,eL] at eb; cases eb; rw [dL] at db; cases db
  have key := σ.inv.atX (h' := h') (f' := σ.f.set i (some v)) (z.cx.celX x hw ce a) hs ⟨o',e',kd6 (by rw [d']; intro _ _ h; cases h)⟩ (fun tr => ⟨by rw [List.length_set]; exact σ.inv.fr.len,⟨m,n.sameBut hs (Ne.symm hne),fun j y u hj hu => ?_⟩,fun j y hj => ?_,σ.inv.fr.apart,σ.inv.fr.loc⟩)
    (fun o1 es1 ep1 q1 q2 => by rw [eb] at q1; cases q1; rw [db] at q2; cases q2)
  · exact k h' _ key.1 ⟨key.2,by rfl⟩
  · have hij : i ≠ j := fun q => by subst q; rw [z.cx.names,hi] at hj; cases hj
    rw [List.getElem?_set_ne hij] at hu
    obtain ⟨val',hm,hv'⟩ := r j y u hj hu
    exact ⟨val',hm,tr hv'⟩
  · by_cases hij : i = j
    · subst hij
      rw [z.cx.names,hi] at hj; cases hj
      refine ⟨ce,some val,a,n',z1,z2,fun u hu => ?_⟩
      have hl : i < σ.f.length := by have := (List.getElem?_eq_some_iff.mp hu).1; rwa [List.length_set] at this
      rw [List.getElem?_set_self hl] at hu; cases hu
      exact ⟨val,rfl,tr hv⟩
    · obtain ⟨ce',o',a',b',y1,y2,r''⟩ := σ.inv.fr.cell j y hj
      have hcc : ce' ≠ ce := fun q => by
        have := σ.inv.fr.apart y x ce (q ▸ a') a
        subst this
        exact hij (kh0 hn hi (by rw [← z.cx.names]; exact hj))
      refine ⟨ce',o',a',b'.sameBut hs hcc,y1,y2,fun u hu => ?_⟩
      rw [List.getElem?_set_ne hij] at hu
      obtain ⟨val',h1,h2⟩ := r'' u hu
      exact ⟨val',h1,tr h2⟩
end
end Mine
namespace Mine
open PySem PySem.W PySem.Calls PyProof.Rows
theorem kfh {β : Type} {c : Prop} [Decidable c] {m : M β} {f : Fm} {H : Hp} {Φ : β → Fm → Hp → Prop} (e : ok (if c then m else fail) f H Φ) : c ∧ ok m f H Φ := by
  by_cases h : c
  · rw [if_pos h] at e; exact ⟨h,e⟩
  · rw [if_neg h] at e; exact ka4 e
inductive Ref1 (P : Nat → Prop) : V → Prop
  | mk (a : Nat) (e : P a) : Ref1 P (.at (.ref a))
inductive Int1 (P : Int → Prop) : V → Prop
  | mk (i : Int) (e : P i) : Int1 P (.at (.int i))
inductive At1 (P : At → Prop) : V → Prop
  | mk (a : At) (e : P a) : At1 P (.at a)
inductive I2 (P : Int → Int → Prop) : V → V → Prop
  | mk (i j : Int) (e : P i j) : I2 P (.at (.int i)) (.at (.int j))
inductive Lst1 (H : Hp) (P : Nat → List V → Prop) : V → Prop
  | mk (a : Nat) (xs : List V) (ho : H[a]? = some (.list xs)) (e : P a xs) : Lst1 H P (.at (.ref a))
inductive Dct1 (H : Hp) (P : Nat → List (Int × At) → Nat → Prop) : V → Prop
  | mk (a : Nat) (es : List (Int × At)) (ep : Nat) (ho : H[a]? = some (.dict es ep)) (e : P a es ep) : Dct1 H P (.at (.ref a))
inductive Stt1 (H : Hp) (P : Nat → List Int → Prop) : V → Prop
  | mk (a : Nat) (xs : List Int) (ho : H[a]? = some (.set xs)) (e : P a xs) : Stt1 H P (.at (.ref a))
section
variable {β : Type} {f : Fm} {H : Hp} {Φ : β → Fm → Hp → Prop}
theorem kc1 {v : V} {k : Nat → M β} (e : ok (kf6 v k) f H Φ) : Ref1 (fun a => ok (k a) f H Φ) v := by
  unfold kf6 at e
  split at e
  · exact ⟨_,e⟩
  · exact ka4 e
theorem kdl {v : V} {k : Int → M β} (e : ok (int1 v k) f H Φ) : Int1 (fun a => ok (k a) f H Φ) v := by
  unfold int1 at e
  split at e
  · exact ⟨_,e⟩
  · exact ka4 e
theorem kk6 {v : V} {k : At → M β} (e : ok (at1 v k) f H Φ) : At1 (fun a => ok (k a) f H Φ) v := by
  unfold at1 at e
  split at e
  · exact ⟨_,e⟩
  · exact ka4 e
theorem kjf {G : Int → Int → M β} {x y : V} (e : ok (int2 G x y) f H Φ) : I2 (fun i j => ok (G i j) f H Φ) x y := by
  obtain ⟨i,e1⟩ := kdl e
  obtain ⟨j,e2⟩ := kdl e1
  exact ⟨i,j,e2⟩
theorem kly {o : O} {k : List V → M β} (e : ok (isLst o k) f H Φ) : ∃ xs,o = .list xs ∧ ok (k xs) f H Φ := by
  unfold isLst at e
  split at e
  · exact ⟨_,rfl,e⟩
  · exact ka4 e
theorem kf3 {v : V} {k : Nat → List V → M β} (e : ok (lst v k) f H Φ) : Lst1 H (fun a xs => ok (k a xs) f H Φ) v := by
  obtain ⟨a,e1⟩ := kc1 e
  obtain ⟨o,ho,e2⟩ := ke1 e1
  obtain ⟨xs,rfl,e3⟩ := kly e2
  exact ⟨a,xs,ho,e3⟩
theorem ok_dct {v : V} {k : Nat → List (Int × At) → Nat → M β} (e : ok (dct v k) f H Φ) : Dct1 H (fun a es ep => ok (k a es ep) f H Φ) v := by
  obtain ⟨a,e1⟩ := kc1 e
  obtain ⟨o,ho,e2⟩ := ke1 e1
  unfold isDct at e2
  split at e2
  · exact ⟨a,_,_,ho,e2⟩
  · exact ka4 e2
theorem ok_stt {v : V} {k : Nat → List Int → M β} (e : ok (stt v k) f H Φ) : Stt1 H (fun a xs => ok (k a xs) f H Φ) v := by
  obtain ⟨a,e1⟩ := kc1 e
  obtain ⟨o,ho,e2⟩ := ke1 e1
  unfold isStt at e2
  split at e2
  · exact ⟨a,_,ho,e2⟩
  · exact ka4 e2
theorem kge {α : Type} {o : Option α} {k : α → M β} (e : ok (orF o k) f H Φ) : Got (fun a => o = some a) fun a => ok (k a) f H Φ := by
  cases o with
  | none => exact ka4 e
  | some a => exact ⟨a,rfl,e⟩
end
section
variable {g : Gl} {sc : Sc} {q : Bool} {d : Nat}
def Fc.weaken {d' : Nat} {q' : Bool} (z : Fc sc q d) (hq : q' = true → q = true) (hd : d' ≤ d) : Fc sc q' d' :=
  ⟨z.A,z.env,z.X,z.cx.names,z.cx.kind,z.cx.globals,z.cx.builtins,z.cx.locX,z.cx.celX,fun h => z.cx.handled (hq h),Nat.lt_of_le_of_lt (Nat.add_le_add_left hd _) z.cx.depth,Nat.lt_of_le_of_lt (Nat.add_le_add_left (Nat.mul_le_mul_left _ hd) _) z.cx.units,z.cx.top⟩
theorem RX.weaken {α β : Type} {rel : RM → Heap → β → α → Prop} {t : Env → Sem α} {m : M β} {d' : Nat} (h : RX g rel sc q d t m) (hd : d ≤ d') : RX g rel sc q d' t m :=
  fun z σ Φ E Q e k => h (z.weaken id hd) ⟨σ.ρ,σ.f,σ.H,σ.s,σ.inv⟩ Φ E Q e fun τ a b t => k ⟨τ.ρ,τ.f,τ.H,τ.s,τ.inv⟩ a b ⟨t.ext,t.same⟩
def Op1 (g : Gl) {α β : Type} (rel : RM → Heap → β → α → Prop) (t : Value → Sem α) (m : V → M β) : Prop :=
  ∀ ⦃sc : Sc⦄ ⦃q : Bool⦄ ⦃d : Nat⦄ ⦃z : Fc sc q d⦄ (σ : St g z) (x : V) (vx : Value) (Φ : β → Fm → Hp → Prop) (E : Value → Shared → Prop) (Q : α → Shared → Prop),VR σ.ρ σ.s.heap x vx → ok (m x) σ.f σ.H Φ →
    (∀ (τ : St g z) a b,To σ τ → Φ b τ.f τ.H → rel τ.ρ τ.s.heap b a → Q a τ.s) → wpAny (model g.prog g.w) z.A (t vx) Q E σ.s
def Op2 (g : Gl) {α β : Type} (rel : RM → Heap → β → α → Prop) (t : Value → Value → Sem α) (m : V → V → M β) : Prop :=
  ∀ ⦃sc : Sc⦄ ⦃q : Bool⦄ ⦃d : Nat⦄ ⦃z : Fc sc q d⦄ (σ : St g z) (x y : V) (vx vy : Value) (Φ : β → Fm → Hp → Prop) (E : Value → Shared → Prop) (Q : α → Shared → Prop),VR σ.ρ σ.s.heap x vx → VR σ.ρ σ.s.heap y vy → ok (m x y) σ.f σ.H Φ →
    (∀ (τ : St g z) a b,To σ τ → Φ b τ.f τ.H → rel τ.ρ τ.s.heap b a → Q a τ.s) → wpAny (model g.prog g.w) z.A (t vx vy) Q E σ.s
theorem rx1 {α β : Type} {rel : RM → Heap → β → α → Prop} {t : Env → Sem α} {ta : Env → Sem Value} {op : Value → Sem α} {a : M V} {m : V → M β} (ha : RX g VR sc q d ta a) (ho : Op1 g rel op m)
    (hw : ∀ {z : Fc sc q d} {E : Value → Shared → Prop} {s : Shared} {Q : α → Shared → Prop},wpAny (model g.prog g.w) z.A (ta z.env) (fun x s₁ => wpAny (model g.prog g.w) z.A (op x) Q E s₁) E s → wpAny (model g.prog g.w) z.A (t z.env) Q E s) : RX g rel sc q d t (bnd a m) :=
  fun z σ Φ E Q e k => hw (ha z σ _ E _ (kae e) fun σ₁ vx x t₁ e₁ rx => ho σ₁ x vx Φ E Q rx e₁ fun τ a b t => k τ a b (t₁.trans t))
theorem rx2 {α β : Type} {rel : RM → Heap → β → α → Prop} {t : Env → Sem α} {ta tb : Env → Sem Value} {op : Value → Value → Sem α} {a b : M V} {m : V → V → M β} (ha : RX g VR sc q d ta a) (hb : RX g VR sc q d tb b) (ho : Op2 g rel op m)
    (hw : ∀ {z : Fc sc q d} {E : Value → Shared → Prop} {s : Shared} {Q : α → Shared → Prop},wpAny (model g.prog g.w) z.A (ta z.env) (fun x s₁ => wpAny (model g.prog g.w) z.A (tb z.env) (fun y s₂ => wpAny (model g.prog g.w) z.A (op x y) Q E s₂) E s₁) E s → wpAny (model g.prog g.w) z.A (t z.env) Q E s) :
    RX g rel sc q d t (bnd a fun x => bnd b fun y => m x y) :=
  fun z σ Φ E Q e k => hw (ha z σ _ E _ (kae e) fun σ₁ vx x t₁ e₁ rx => hb z σ₁ _ E _ (kae e₁) fun σ₂ vy y t₂ e₂ ry => ho σ₂ x y vx vy Φ E Q (t₂.vr rx) ry e₂ fun τ a b t => k τ a b ((t₁.trans t₂).trans t))
inductive ListAt (g : Gl) {z : Fc sc q d} (σ : St g z) (a : Nat) (xs : List V) : Value → Prop
  | mk (l : Addr) (vs : List Value) (n : Nat) (hρ : σ.ρ[a]? = some (l,l)) (ho : σ.s.heap.get? l = some { cls := .type "list",data := .seq vs.toArray n }) (pr : Paired (VR σ.ρ σ.s.heap) xs vs) (lim : xs.length ≤ lim) : ListAt g σ a xs (.ref l)
theorem St.list {z : Fc sc q d} (σ : St g z) {a : Nat} {xs : List V} {v : Value} (ho : σ.H[a]? = some (.list xs)) (r : VR σ.ρ σ.s.heap (.at (.ref a)) v) : ListAt g σ a xs v := by
  obtain ⟨⟨p1,p2⟩,hp,hh,vs,⟨n,pl⟩,pr,hl⟩ := σ.inv.get ho
  obtain ⟨p',hp',rfl⟩ := r
  rw [hp] at hp'; cases hp'
  cases hh
  exact ⟨p1,vs,n,hp,pl,pr,hl⟩
theorem list_oat {ρ : RM} {h : Heap} {xs : List V} {vs : List Value} (pr : Paired (VR ρ h) xs vs) (hl : xs.length ≤ lim) : OAt g.prog g.w (ρ ++ [(h.objs.size,h.objs.size)]) (h.push { cls := .type "list",data := .seq vs.toArray }) (h.objs.size,h.objs.size) (.list xs) :=
  ⟨rfl,vs,⟨0,Heap.get?_push_size _ rfl⟩,pr.mono fun _ _ => VR.mono ⟨_,rfl⟩ fun _ _ _ e => Heap.get?_push_of_some _ e,hl⟩
noncomputable abbrev St.newList {z : Fc sc q d} (σ : St g z) (tk : Nat) {xs : List V} {vs : List Value} (pr : Paired (VR σ.ρ σ.s.heap) xs vs) (hl : xs.length ≤ lim) : St g z :=
  σ.new (σ.s.heap.push { cls := .type "list",data := .seq vs.toArray }) tk (σ.s.heap.objs.size,σ.s.heap.objs.size) (.list xs) kb8 (Nat.le_refl _) (Nat.le_refl _) (list_oat pr hl)
theorem kie {z : Fc sc q d} {σ : St g z} {Φ : V → Fm → Hp → Prop} {Q : Value → Shared → Prop} (k : ∀ (τ : St g z) a b,To σ τ → Φ b τ.f τ.H → VR τ.ρ τ.s.heap b a → Q a τ.s) {i : Int} (e : ok (cst (.int i)) σ.f σ.H Φ) : Q (.int i σ.s.toks) { σ.s with toks := σ.s.toks + 1 } :=
  k (σ.toks _) _ _ (σ.toks_to _) (kao e) ⟨_,rfl⟩
theorem op_add : Op2 g VR (binaryOp .Add) add := by
  intro sc q d z σ x y vx vy Φ E Q rx ry e k
  unfold add at e
  split at e
  · obtain ⟨j,e1⟩ := kdl e
    obtain ⟨t,rfl⟩ := rx; obtain ⟨u,rfl⟩ := ry
    exact PyProof.Rows.add_int (kie k (kfh e1).2)
  · obtain ⟨a,xs,ho,e1⟩ := kf3 e
    obtain ⟨b,ys,ho2,e2⟩ := kf3 e1
    obtain ⟨hlim,e3⟩ := kfh e2
    obtain ⟨l,vs,n,_,hl,pr,_⟩ := σ.list ho rx
    obtain ⟨l2,vs2,n2,_,hl2,pr2,_⟩ := σ.list ho2 ry
    have len : vs.length + vs2.length ≤ lim := by rw [← pr.length,← pr2.length]; exact hlim
    refine PySem.P.add_list hl hl2 ?_ (by simp only [List.size_toArray]; unfold lim at len; unfold sizeLine; omega)
    rw [show vs.toArray ++ vs2.toArray = (vs ++ vs2).toArray by simp]
    exact k (σ.newList σ.s.toks (papp pr pr2) (by rw [List.length_append]; exact hlim)) _ _ (σ.new_to _ _ _ _) (kgy e3) σ.new_ref
theorem op_bin (op : Operator) : Op2 g VR (binaryOp op) (bin op) := by
  cases op <;> try (intro sc q d z σ x y vx vy Φ E Q rx ry e k; exact ka4 e)
  case Add => exact op_add
  all_goals
    intro sc q d z σ x y vx vy Φ E Q rx ry e k
    obtain ⟨i,j,e1⟩ := kjf e
    obtain ⟨t,rfl⟩ := rx; obtain ⟨u,rfl⟩ := ry
    obtain ⟨hs,e2⟩ := kfh e1
    clear e e1
  · exact PyProof.Rows.sub_int (kie k e2)
  · refine PyProof.Rows.mul_int (kie k e2) (IntMulOk.of_left ?_)
    simp only [Bool.and_eq_true,decide_eq_true_eq] at hs
    unfold Builtin.Int.intBits
    split
    · omega
    · rename_i h0
      have h00 : i.natAbs ≠ 0 := by intro h; apply h0; simp at h; simp [h]
      have := (Nat.log2_lt h00).mpr (show i.natAbs < 2 ^ 63 by omega)
      omega
  · exact PyProof.Rows.mod_int (by omega) (kie k e2)
  · obtain ⟨h0,rfl⟩ := hs
    exact wpAny_rshift1_int h0 (kie k e2)
  · exact PyProof.Rows.floordiv_int (by omega) (kie k e2) (.inl (PyProof.noPylong_small (by omega)))
theorem kdg {op : Operator} {l r : Expr} {p : Pos} {a b : M V} (ha : RE g sc q d l a) (hb : RE g sc q d r b) : RE g sc q d (.BinOp l op r p) (bin_ op a b) :=
  rx2 ha hb (op_bin op) wpAny_BinOp
theorem kck : RB g sc q d [] (ret .next) := fun z σ Φ E Q e k => wpAny_execs_nil (k σ _ _ .rfl (kao e) rfl)
theorem seq_rb {st : Stmt} {rest : List Stmt} {a b : M AF} (ha : RS g sc q d st a) (hb : RB g sc q d rest b) : RB g sc q d (st :: rest) (seq a b) := by
  intro z σ Φ E Q e k
  refine wpAny_execs_cons (ha z σ _ E _ (kae e) fun σ₁ fl x t₁ e₁ r => ?_)
  cases x with
  | next => cases r; exact hb z σ₁ Φ E Q e₁ fun τ a b t => k τ a b (t₁.trans t)
  | brk => cases r; exact k σ₁ _ _ t₁ (kao e₁) rfl
  | cont => cases r; exact k σ₁ _ _ t₁ (kao e₁) rfl
  | ret v => obtain ⟨val,rfl,rv⟩ := r; exact k σ₁ _ _ t₁ (kao e₁) ⟨val,rfl,rv⟩
theorem kat {st : Stmt} {a : M AF} (ha : RS g sc q d st a) : RB g sc q d [st] a := by
  intro z σ Φ E Q e k
  refine wpAny_execs_cons (ha z σ _ E _ e fun σ₁ fl x t₁ e₁ r => ?_)
  cases x with
  | next => cases r; exact wpAny_execs_nil (k σ₁ _ _ t₁ e₁ rfl)
  | brk => cases r; exact k σ₁ _ _ t₁ e₁ rfl
  | cont => cases r; exact k σ₁ _ _ t₁ e₁ rfl
  | ret v => obtain ⟨val,rfl,rv⟩ := r; exact k σ₁ _ _ t₁ e₁ ⟨val,rfl,rv⟩
theorem kag {st st' : Stmt} {rest : List Stmt} {a b : M AF} {l : List (M AF)} (ha : RS g sc q d st a) (hb : RB g sc q d (st' :: rest) (kaq (b :: l))) : RB g sc q d (st :: st' :: rest) (kaq (a :: b :: l)) :=
  seq_rb ha hb
theorem kew {st : Stmt} : RS g sc q d st fail := fun _ _ _ _ _ e _ => ka4 e
theorem rb_fail {sts : List Stmt} : RB g sc q d sts fail := fun _ _ _ _ _ e _ => ka4 e
theorem kbr {x : Expr} {p : Pos} {a : M V} (ha : RE g sc q d x a) : RS g sc q d (.Return (some x) p) (kbz a) :=
  fun z σ Φ E Q e k => wpAny_Return_some (ha z σ _ E _ (kae e) fun σ₁ val v t₁ e₁ r => k σ₁ _ _ t₁ (kao e₁) ⟨val,rfl,r⟩)
theorem klm {p : Pos} : RS g sc q d (.Break p) (ret .brk) := fun z σ Φ E Q e k => by
  show wpAny (model g.prog g.w) z.A (do standAt p; pure Flow.brk) Q E σ.s
  exact wpAny_bind (wpAny_standAt (wpAny_pure (k σ _ _ .rfl (kao e) rfl)))
theorem kjb {p : Pos} : RS g sc q d (.Continue p) (ret .cont) := fun z σ Φ E Q e k => by
  show wpAny (model g.prog g.w) z.A (do standAt p; pure Flow.cont) Q E σ.s
  exact wpAny_bind (wpAny_standAt (wpAny_pure (k σ _ _ .rfl (kao e) rfl)))
theorem kby {x : Expr} {p : Pos} {a : M V} (ha : RE g sc q d x a) (hs : ∀ env,swapsWith x none p.line env = pure false := by intro _; rfl) : RS g sc q d (.Expr x p) (expr a) :=
  fun z σ Φ E Q e k => wpAny_Expr_any (ha z σ _ E _ (kae e) fun σ₁ val v t₁ e₁ r => k σ₁ _ _ t₁ (kao e₁) rfl) (by unfold interactive; rw [z.cx.kind]; rfl) (hs z.env)
theorem rx_ite {α β : Type} {rel : RM → Heap → β → α → Prop} {t : Env → Sem α} {tt : Env → Sem Bool} {ta tb : Env → Sem α} {mt : M Bool} {ma mb : M β} (ht : RX g EqR sc q d tt mt) (ha : RX g rel sc q d ta ma) (hb : RX g rel sc q d tb mb)
    (hw : ∀ {z : Fc sc q d} {E : Value → Shared → Prop} {s : Shared} {Q : α → Shared → Prop},wpAny (model g.prog g.w) z.A (tt z.env) (fun b s₁ => wpAny (model g.prog g.w) z.A (if b then ta z.env else tb z.env) Q E s₁) E s → wpAny (model g.prog g.w) z.A (t z.env) Q E s) : RX g rel sc q d t (ifte mt ma mb) := by
  intro z σ Φ E Q e k
  refine hw (ht z σ _ E _ (kae e) fun σ₁ bb x t₁ e₁ r => ?_)
  cases (r : x = bb)
  cases bb with
  | true => exact ha z σ₁ Φ E Q e₁ fun τ a b t => k τ a b (t₁.trans t)
  | false => exact hb z σ₁ Φ E Q e₁ fun τ a b t => k τ a b (t₁.trans t)
theorem wp_ite {α : Type} {M : Model} {A : Around} {b : Bool} {ta tb : Sem α} {Q : α → Shared → Prop} {E : Value → Shared → Prop} {s : Shared} (h : wpAny M A (if b then ta else tb) Q E s) : if b then wpAny M A ta Q E s else wpAny M A tb Q E s := by
  cases b <;> exact h
theorem kdt {t : Expr} {b o : List Stmt} {p : Pos} {mt : M Bool} {mb mo : M AF} (ht : RT g sc q d t mt) (hb : RB g sc q d b mb) (ho : RB g sc q d o mo) : RS g sc q d (.If t b o p) (ifte mt mb mo) :=
  rx_ite (ta := execs b) (tb := execs o) ht hb ho fun h => wpAny_If (wpAny_mono h (fun b s h => by cases b <;> exact h) fun _ _ x => x)
theorem re_if {t a b : Expr} {p : Pos} {mt : M Bool} {ma mb : M V} (ht : RT g sc q d t mt) (ha : RE g sc q d a ma) (hb : RE g sc q d b mb) : RE g sc q d (.IfExp t a b p) (ifte mt ma mb) :=
  rx_ite (ta := eval a) (tb := eval b) ht ha hb fun h => wpAny_IfExp (wpAny_mono h (fun b s h => by cases b <;> exact h) fun _ _ x => x)
theorem rt_not {x : Expr} {p : Pos} {a : M Bool} (ha : RT g sc q d x a) : RT g sc q d (.UnaryOp .Not x p) (not_ a) :=
  fun z σ Φ E Q e k => wpAny_isTrue_Not (ha z σ _ E _ (kae e) fun σ₁ b x t₁ e₁ r => k σ₁ _ _ t₁ (kao e₁) (by cases (r : x = b); exact rfl))
abbrev RL (g : Gl) (sc : Sc) (q : Bool) (d : Nat) (op : BoolOp) (xs : List Expr) (m : M Bool) : Prop := RX g EqR sc q d (fun env => allTrue op xs env) m
theorem kll {op : BoolOp} {xs : List Expr} {p : Pos} {m : M Bool} (h : RL g sc q d op xs m) : RT g sc q d (.BoolOp op xs p) m :=
  fun z σ Φ E Q e k => wpAny_isTrue_BoolOp (h z σ Φ E Q e k)
theorem rl_and {x y : Expr} {rest : List Expr} {a b : M Bool} (ha : RT g sc q d x a) (hb : RL g sc q d .And (y :: rest) b) : RL g sc q d .And (x :: y :: rest) (and_ a b) := by
  intro z σ Φ E Q e k
  refine wpAny_allTrue_And_cons (ha z σ _ E _ (kae e) fun σ₁ bb x t₁ e₁ r => ?_)
  cases (r : x = bb)
  cases bb with
  | true => exact hb z σ₁ Φ E Q e₁ fun τ a b t => k τ a b (t₁.trans t)
  | false => exact k σ₁ _ _ t₁ (kao e₁) rfl
theorem rl_or {x y : Expr} {rest : List Expr} {a b : M Bool} (ha : RT g sc q d x a) (hb : RL g sc q d .Or (y :: rest) b) : RL g sc q d .Or (x :: y :: rest) (or_ a b) := by
  intro z σ Φ E Q e k
  refine wpAny_allTrue_Or_cons (ha z σ _ E _ (kae e) fun σ₁ bb x t₁ e₁ r => ?_)
  cases (r : x = bb)
  cases bb with
  | false => exact hb z σ₁ Φ E Q e₁ fun τ a b t => k τ a b (t₁.trans t)
  | true => exact k σ₁ _ _ t₁ (kao e₁) rfl
theorem rl_one {op : BoolOp} {x : Expr} {a : M Bool} (ha : RT g sc q d x a) : RL g sc q d op [x] a := by
  intro z σ Φ E Q e k
  cases op with
  | And =>
    refine wpAny_allTrue_And_cons (ha z σ _ E _ e fun σ₁ bb x t₁ e₁ r => ?_)
    cases (r : x = bb)
    cases bb with
    | true => exact wpAny_allTrue_And_nil (k σ₁ _ _ t₁ e₁ rfl)
    | false => exact k σ₁ _ _ t₁ e₁ rfl
  | Or =>
    refine wpAny_allTrue_Or_cons (ha z σ _ E _ e fun σ₁ bb x t₁ e₁ r => ?_)
    cases (r : x = bb)
    cases bb with
    | false => exact wpAny_allTrue_Or_nil (k σ₁ _ _ t₁ e₁ rfl)
    | true => exact k σ₁ _ _ t₁ e₁ rfl
theorem rt_true {j : Nat} {p : Pos} : RT g sc q d (.Constant (.bool true) j p) (ret true) :=
  fun z σ Φ E Q e k => wpAny_isTrue_value (wpAny_Constant_bool (wpAny_truthy_bool (k σ _ _ .rfl (kao e) rfl)))
theorem kbh {p : Pos} : RA g sc q d p [] (ret []) := fun z σ Φ E Q e k => wpAny_items_nil (k σ _ _ .rfl (kao e) .nil)
theorem To.vs {z : Fc sc q d} {σ τ : St g z} (a : To σ τ) {vs : List V} {vals : List Value} (r : VsR σ.ρ σ.s.heap vs vals) : VsR τ.ρ τ.s.heap vs vals := Paired.mono (fun _ _ => a.vr) r
theorem kau {p : Pos} {x : Expr} {rest : List Expr} {a : M V} {l : List (M V)} (ha : RE g sc q d x a) (hb : RA g sc q d p rest (all l)) (he : ∀ env,starEach (x :: rest) env = (false,eval x env) :: starEach rest env := by intro _; rfl) : RA g sc q d p (x :: rest) (all (a :: l)) :=
  fun z σ Φ E Q e k => wpAny_items_cons (ha z σ _ E _ (kae e) fun σ₁ val v t₁ e₁ r => hb z σ₁ _ E _ (kae e₁) fun σ₂ vals vs t₂ e₂ rs => k σ₂ _ _ (t₁.trans t₂) (kao e₂) (.cons (t₂.vr r) rs)) (he z.env)
theorem kkd {Φ : List V → Fm → Hp → Prop} : ∀ {l : List (M V)} {f : Fm} {H : Hp},ok (all l) f H Φ → ok (all l) f H fun vs f' H' => vs.length = l.length ∧ Φ vs f' H'
  | [],_,_,e => ⟨_,_,_,rfl,rfl,kao e⟩
  | m :: r,f,H,e => by
    obtain ⟨v,f₁,H₁,e₁,h₁⟩ := kae e
    obtain ⟨vs,f₂,H₂,e₂,hl,h₂⟩ := kkd (kae h₁)
    exact ⟨v :: vs,f₂,H₂,by show bnd m _ f H = _; unfold bnd; rw [e₁]; show bnd (all r) _ f₁ H₁ = _; unfold bnd; rw [e₂]; rfl,by simp [hl],kao h₂⟩
theorem kco {p : Pos} {xs : List Expr} {l : List (M V)} (h : RA g sc q d p xs (all l)) (hl : l.length ≤ 100 := by decide) : RE g sc q d (.List xs p) (kd1 l) := by
  intro z σ Φ E Q e k
  refine wpAny_List (h z σ _ E _ (kkd (kae e)) fun σ₁ vs ys t₁ e₁ r => ?_)
  have len : vs.length ≤ 100 := by rw [← Paired.length r,e₁.1]; exact hl
  exact ⟨by unfold sizeLine; omega,k (σ₁.newList σ₁.s.toks r (by rw [e₁.1]; unfold lim; omega)) _ _ (t₁.trans (σ₁.new_to _ _ _ _)) (kgy e₁.2) σ₁.new_ref⟩
theorem kep : ∀ {vs : List V} {l : List At},khs vs = some l → vs = l.map V.at
  | [],_,e => by cases e; rfl
  | .at a :: r,_,e => by
    simp only [khs,Option.map_eq_some_iff] at e
    obtain ⟨l,e,rfl⟩ := e
    rw [kep e]; rfl
theorem kje {ρ : RM} {h : Heap} {l : List At} : ∀ {vs : List Value},Paired (VR ρ h) (l.map V.at) vs → Paired (AtR ρ) l vs := by
  induction l with
  | nil => intro vs p; cases p; exact .nil
  | cons a l ih => intro vs p; cases p with
    | cons r t => exact .cons r (ih t)
theorem klp {p : Pos} {j : Nat} {xs : List Expr} {l : List (M V)} (h : RA g sc q d p xs (all l)) (hl : l.length ≤ 100 := by decide) : RE g sc q d (.Tuple xs j p) (kid l) := by
  intro z σ Φ E Q e k
  refine wpAny_Tuple (h z σ _ E _ (kkd (kae e)) fun σ₁ vs ys t₁ e₁ r => ?_)
  have len : vs.length ≤ 100 := by rw [← Paired.length r,e₁.1]; exact hl
  obtain ⟨as,ha,e₂⟩ := kge e₁.2
  exact ⟨by unfold sizeLine; omega,k (σ₁.push _ σ₁.s.toks) _ _ (t₁.trans (σ₁.keep_to kb8)) (kao e₂) ⟨_,vs,rfl,Heap.get?_push_size _ rfl,kje (kep ha ▸ r)⟩⟩
theorem kar {i : Nat} {x : Str} {v : Expr} {p p' : Pos} {a : M V} (hn : (sc.names.map (·.1)).Nodup) (hi : sc.names[i]? = some (x,.local)) (ha : RE g sc q d v a) (hs : ∀ env,swapsWith v (some (.Name x p)) p'.line env = pure false := by intro _; rfl) :
    RS g sc q d (.Assign [.Name x p] v p') (assign i a) :=
  fun z σ Φ E Q e k => wpAny_Assign_Name (ha z σ _ E _ (kae e) fun σ₁ val v t₁ e₁ r => kcw σ₁ hn hi r fun h' tk I' t' => k (σ₁.to _ _ _ h' tk I') _ _ (t₁.trans t') (kao (ke0 (kae e₁))) rfl) (hs z.env)
theorem rs_assignC {i : Nat} {x : Str} {v : Expr} {p p' : Pos} {a : M V} (hn : (sc.names.map (·.1)).Nodup) (hi : sc.names[i]? = some (x,.cell)) (hw : x ∈ sc.cells) (ha : RE g sc q d v a) (hs : ∀ env : Env,env.kindOf x = some .cell → swapsWith v (some (.Name x p)) p'.line env = pure false) :
    RS g sc q d (.Assign [.Name x p] v p') (assign i a) :=
  fun z σ Φ E Q e k => wpAny_Assign_Name (ha z σ _ E _ (kae e) fun σ₁ val v t₁ e₁ r => khu σ₁ hn hi hw r fun h' tk I' t' => k (σ₁.to _ _ _ h' tk I') _ _ (t₁.trans t') (kao (ke0 (kae e₁))) rfl) (hs z.env (z.kindOf hn hi))
theorem re_walrus {i : Nat} {x : Str} {v : Expr} {p p' : Pos} {a : M V} (hn : (sc.names.map (·.1)).Nodup) (hi : sc.names[i]? = some (x,.local)) (ha : RE g sc q d v a) : RE g sc q d (.NamedExpr (.Name x p) v p') (walrus i a) := by
  intro z σ Φ E Q e k
  show wpAny (model g.prog g.w) z.A (do let v ← eval v z.env; holding [v] (PySem.assign (.Name x p) z.env v); pure v) Q E σ.s
  exact wpAny_bind (ha z σ _ E _ (kae e) fun σ₁ val v t₁ e₁ r => wpAny_bind (wpAny_holding (wpAny_assign_Name (kcw σ₁ hn hi r fun h' tk I' t' => wpAny_pure (k (σ₁.to _ _ _ h' tk I') _ _ (t₁.trans t') (kao (ke0 (kae e₁))) (t'.vr r))))))
end
end Mine
namespace Mine
open PySem PySem.W PySem.Calls PyProof.Rows
section
variable {prog : Program} {w : World} {h₀ : Heap} {A : Around} {env : Env} {X : List Addr} {ρ : RM} {f : Fm} {H : Hp} {h h' : Heap}
theorem Inv.foreign {I : Addr} {o : Obj} {fs : Array Value} (iv : Inv prog w h₀ A env X ρ f H h)
    (hX : I ∉ X) (hn : ¬ owns ρ I) (h0 : h₀.objs.size ≤ I) (ho : h.get? I = some o) (hf : o.data = .fields fs) (hk : ∀ b ob,b ≠ I → h.get? b = some ob → h'.get? b = some ob) :
    Inv prog w h₀ A env X ρ f H h' ∧ Ext h₀ (I :: X) ρ h ρ h' := by
  have nd : ∀ b ob es ep,h.get? b = some ob → ob.data = .dict es ep → b ≠ I := fun b ob es ep e d q => by subst q; rw [ho] at e; cases e; rw [hf] at d; cases d
  have nt : ∀ b ob,kdv ob → h.get? b = some ob → b ≠ I := fun b ob t e q => by subst q; rw [ho] at e; cases e; obtain ⟨vs,rfl⟩ := t; cases hf
  have no : ∀ b,owns ρ b → b ≠ I := fun b ob q => hn (q ▸ ob)
  have tk : ∀ b ob,kdv ob → h.get? b = some ob → h'.get? b = some ob := fun b ob t e => hk b ob (nt b ob t e) e
  refine ⟨⟨fun b ob e => hk b ob (Nat.ne_of_lt (Nat.lt_of_lt_of_le (Heap.lt_size e) h0)) (iv.base b ob e),iv.old,⟨iv.hr.len,iv.hr.sep,fun i ob p a b => ?_⟩,⟨iv.fr.len,?_,fun i x hx => ?_,iv.fr.apart,iv.fr.loc⟩,fun a ha => ?_,?_⟩,
    List.prefix_rfl,fun _ a b => absurd a b,fun b ob e _ hm => ⟨ob.slots,hk b ob (fun q => hm (q ▸ List.mem_cons_self)) e,fun _ => rfl⟩,fun b hb => ?_⟩
  · have hm := List.mem_of_getElem? b
    exact (iv.hr.at_ i ob p a b).mono List.prefix_rfl tk (fun _ e => hk _ _ (no _ ⟨p,hm,.inl rfl⟩) e) fun _ e => hk _ _ (no _ ⟨p,hm,.inr rfl⟩) e
  · obtain ⟨m,n,k⟩ := iv.fr.ns
    obtain ⟨ob,es,ep,e,dd,_⟩ := id n
    exact ⟨m,n.at' fun o1 e1 => hk _ _ (nd _ _ _ _ e dd) e1,fun i x v a b => let ⟨val,c,d⟩ := k i x v a b; ⟨val,c,VR.mono List.prefix_rfl tk d⟩⟩
  · obtain ⟨c,oc,a,⟨ob,b,b'⟩,z1,z2,k⟩ := iv.fr.cell i x hx
    have hne : c ≠ I := fun q => by subst q; rw [ho] at b; cases b; rw [hf] at b'; cases b'
    exact ⟨c,oc,a,⟨ob,hk _ _ hne b,b'⟩,z1,z2,fun v qv => let ⟨val,c,d⟩ := k v qv; ⟨val,c,VR.mono List.prefix_rfl tk d⟩⟩
  · obtain ⟨q1,q2,ob,e,t⟩ := iv.x a ha
    exact ⟨q1,q2,ob,hk _ _ (fun q => hX (q ▸ ha)) e,t⟩
  · obtain ⟨l,e,k⟩ := iv.frs
    exact ⟨l,e,fun v hv => let ⟨m,L,ob,es,ep,a,b,c,d,g⟩ := k v hv; ⟨m,L,ob,es,ep,a,b,c,hk _ _ (nd _ _ _ _ d g) d,g⟩⟩
  · rcases List.mem_cons.mp hb with rfl | hb
    · exact hn
    · exact (iv.x b hb).2.1
theorem Ext.kept {ρ' : RM} (e : Ext h₀ X ρ h ρ' h') {I : Addr} {o : Obj} {fs : Array Value} (ho : h.get? I = some o) (hf : o.data = .fields fs) (hn : ¬ owns ρ I) (hX : I ∉ X) : h'.get? I = some o ∧ ¬ owns ρ' I := by
  obtain ⟨sl,e1,k⟩ := e.keep I o ho hn hX
  have := k (.inr (by intro es ep h; rw [hf] at h; cases h))
  subst this
  exact ⟨e1,fun q => by have := e.new I q hn; rw [ho] at this; cases this⟩
theorem Ext.cons {ρ' : RM} (e : Ext h₀ X ρ h ρ' h') {I : Addr} (hn : ¬ owns ρ' I) : Ext h₀ (I :: X) ρ h ρ' h' :=
  e.mono (fun _ h => List.mem_cons_of_mem _ h) fun b hb => by
    rcases List.mem_cons.mp hb with rfl | hb
    · exact hn
    · exact e.x b hb
theorem Ext.uncons {ρ' : RM} {I : Addr} (e : Ext h₀ (I :: X) ρ h ρ' h') (hn : h.get? I = none) : Ext h₀ X ρ h ρ' h' :=
  e.drop (fun _ _ q => q) (fun b hb => by
    rcases List.mem_cons.mp hb with rfl | hb
    · exact .inr hn
    · exact .inl hb) fun b hb => e.x b (List.mem_cons_of_mem _ hb)
end
theorem getElem?_drop_cons {α : Type} {l : List α} {i : Nat} {x : α} {r : List α} (h : l.drop i = x :: r) : l[i]? = some x ∧ l.drop (i + 1) = r := by
  constructor
  · have := List.getElem?_drop (xs := l) (i := i) (j := 0)
    rw [h] at this; simpa using this.symm
  · rw [← List.drop_drop,h]; rfl
section
variable {g : Gl} {sc : Sc} {q : Bool} {d : Nat} {z : Fc sc q d}
inductive LoopR (z : Fc sc q d) (τ : St g z) (m : M AF) (Φ : AF → Fm → Hp → Prop) : Flow → Prop
  | again (fl : Flow) (h : fl = .next ∨ fl = .cont) (e : ok m τ.f τ.H Φ) : LoopR z τ m Φ fl
  | brk (e : Φ .next τ.f τ.H) : LoopR z τ m Φ .brk
  | ret (v : V) (val : Value) (r : VR τ.ρ τ.s.heap v val) (e : Φ (.ret v) τ.f τ.H) : LoopR z τ m Φ (.ret val)
theorem loop_r {τ : St g z} {m : M AF} {Φ : AF → Fm → Hp → Prop} {x : AF} {fl : Flow} (e : ok (loopK m x) τ.f τ.H Φ) (r : FlR τ.ρ τ.s.heap x fl) : LoopR z τ m Φ fl := by
  cases x with
  | next => exact .again _ (.inl r) e
  | cont => exact .again _ (.inr r) e
  | brk => cases r; exact .brk (kao e)
  | ret v => obtain ⟨val,rfl,rv⟩ := r; exact .ret v val rv (kao e)
inductive WInv (σ : St g z) (mt : M Bool) (mb mo : M AF) (Φ : AF → Fm → Hp → Prop) (n : Nat) : Shared → Prop
  | mk (τ : St g z) (t : To σ τ) (e : ok (whileN n mt mb mo) τ.f τ.H Φ) : WInv σ mt mb mo Φ n τ.s
theorem khe {t : Expr} {b o : List Stmt} {p : Pos} {mt : M Bool} {mb mo : M AF} (ht : RT g sc q d t mt) (hb : RB g sc q d b mb) (ho : RB g sc q d o mo) : RS g sc q d (.While t b o p) (kgx mt mb mo) := by
  intro z σ Φ E Q e k
  refine wpAny_While (codeAny_whileLoop (WInv σ mt mb mo Φ) ?_ fuel ⟨σ,.rfl,e⟩)
  rintro n s' ⟨τ,t₁,e⟩
  cases n with
  | zero => exact ka4 e
  | succ n =>
    refine ht z τ _ _ _ (kae e) fun σ₁ b x t₂ e₁ r => ?_
    cases (r : x = b)
    cases b with
    | true =>
      refine hb z σ₁ _ _ _ (kae e₁) fun σ₂ fl x t₃ e₂ r => ?_
      cases loop_r e₂ r with
      | again fl h e => rcases h with rfl | rfl <;> exact ⟨n,Nat.lt_succ_self n,σ₂,(t₁.trans t₂).trans t₃,e⟩
      | brk e => exact k σ₂ .next .next ((t₁.trans t₂).trans t₃) e rfl
      | ret v val rv e => exact k σ₂ (.ret val) (.ret v) ((t₁.trans t₂).trans t₃) e ⟨val,rfl,rv⟩
    | false => exact ho z σ₁ Φ _ _ e₁ fun τ a b t => k τ a b ((t₁.trans t₂).trans t)
structure ToI (I : Addr) (σ τ : St g z) : Prop where
  ext : Ext g.h₀ (I :: z.X) σ.ρ σ.s.heap τ.ρ τ.s.heap
  same : τ.s = { σ.s with heap := τ.s.heap,toks := τ.s.toks }
theorem To.cons {σ τ : St g z} (t : To σ τ) {I : Addr} (hn : ¬ owns τ.ρ I) : ToI I σ τ := ⟨t.ext.cons hn,t.same⟩
theorem ToI.trans {I : Addr} {σ τ υ : St g z} (a : ToI I σ τ) (b : ToI I τ υ) : ToI I σ υ := ⟨a.ext.trans b.ext,by rw [b.same,a.same]⟩
theorem ToI.uncons {I : Addr} {σ τ : St g z} (t : ToI I σ τ) (hn : σ.s.heap.get? I = none) : To σ τ := ⟨t.ext.uncons hn,t.same⟩
structure Apart (σ : St g z) (I : Addr) (o : Obj) : Prop where
  x : I ∉ z.X
  own : ¬ owns σ.ρ I
  old : g.h₀.objs.size ≤ I
  at_ : σ.s.heap.get? I = some o
  fld : ∃ fs,o.data = .fields fs
theorem Apart.to {σ τ : St g z} {I : Addr} {o : Obj} (a : Apart σ I o) (t : To σ τ) : Apart τ I o :=
  let ⟨fs,hf⟩ := a.fld
  let ⟨h1,h2⟩ := t.ext.kept a.at_ hf a.own a.x
  ⟨a.x,h2,a.old,h1,a.fld⟩
theorem Apart.inv {σ : St g z} {I : Addr} {o : Obj} (a : Apart σ I o) {h' : Heap} (hk : ∀ b ob,b ≠ I → σ.s.heap.get? b = some ob → h'.get? b = some ob) : Inv g.prog g.w g.h₀ z.A z.env z.X σ.ρ σ.f σ.H h' ∧ Ext g.h₀ (I :: z.X) σ.ρ σ.s.heap σ.ρ h' :=
  let ⟨fs,hf⟩ := a.fld
  σ.inv.foreign a.x a.own a.old a.at_ hf hk
noncomputable def St.foreign (σ : St g z) (h' : Heap) (tk : Nat) {I : Addr} {o : Obj} (a : Apart σ I o) (hk : ∀ b ob,b ≠ I → σ.s.heap.get? b = some ob → h'.get? b = some ob) : St g z := σ.to σ.ρ σ.f σ.H h' tk (a.inv hk).1
theorem St.foreign_to (σ : St g z) {h' : Heap} {tk : Nat} {I : Addr} {o : Obj} (a : Apart σ I o) (hk : ∀ b ob,b ≠ I → σ.s.heap.get? b = some ob → h'.get? b = some ob) : ToI I σ (σ.foreign h' tk a hk) := ⟨(a.inv hk).2,by rfl⟩
theorem Apart.vr {σ : St g z} {I : Addr} {o : Obj} (a : Apart σ I o) {h' : Heap} (hk : ∀ b ob,b ≠ I → σ.s.heap.get? b = some ob → h'.get? b = some ob) {v : V} {val : Value} (r : VR σ.ρ σ.s.heap v val) : VR σ.ρ h' v val :=
  let ⟨fs,hf⟩ := a.fld
  VR.mono List.prefix_rfl (fun b ob t e => hk b ob (fun q => by subst q; rw [a.at_] at e; cases e; obtain ⟨vs,rfl⟩ := t; cases hf) e) r
def Goes (tgt : Expr) (v : V) : Prop := (∀ it v,letOwnedTupleGo tgt it v = pure ()) ∨ ((∃ elts x1 p,tgt = .Tuple elts x1 p) ∧ ∃ xs,v = .tup xs)
structure kkx (g : Gl) (tgt : Expr) (items : List V) (gd : Option (Nat × O)) (I : Addr) (sv : V) (vv : Value) (P : Nat → Obj → Prop) : Prop where
  item : ∀ ⦃sc : Sc⦄ ⦃d : Nat⦄ ⦃z : Fc sc true d⦄ (σ : St g z) (i : Nat) (o : Obj) (v : V),Apart σ I o → P i o → VR σ.ρ σ.s.heap sv vv → kf9 gd σ.f σ.H = some ((),σ.f,σ.H) → items[i]? = some v → Goes tgt v →
    ∀ (E : Value → Shared → Prop) (R : Option Value → Shared → Prop) (G : Value → Shared → Prop),(∀ val s₁,wpAny (model g.prog g.w) z.A (letOwnedTupleGo tgt (.ref I) val) (fun _ s₂ => G val s₂) E s₁ → R (some val) s₁) →
      (∀ val h' tk o',(∀ b ob,b ≠ I → σ.s.heap.get? b = some ob → h'.get? b = some ob) → h'.get? I = some o' → P (i + 1) o' → VR σ.ρ h' v val → G val { σ.s with heap := h',toks := tk }) →
      wpAny (model g.prog g.w) z.A (pyNext (.ref I)) R E σ.s
  done : ∀ ⦃sc : Sc⦄ ⦃d : Nat⦄ ⦃z : Fc sc true d⦄ (σ : St g z) (i : Nat) (o : Obj),Apart σ I o → P i o → VR σ.ρ σ.s.heap sv vv → kf9 gd σ.f σ.H = some ((),σ.f,σ.H) → items[i]? = none →
    ∀ (E : Value → Shared → Prop) (R : Option Value → Shared → Prop),(∀ h' tk,(∀ b ob,b ≠ I → σ.s.heap.get? b = some ob → h'.get? b = some ob) → R none { σ.s with heap := h',toks := tk }) →
      wpAny (model g.prog g.w) z.A (pyNext (.ref I)) R E σ.s
  fld : ∀ i o,P i o → ∃ fs,o.data = .fields fs
  self : ∀ (A : Around) (s : Shared) (i : Nat) (o : Obj),s.heap.get? I = some o → P i o → ∀ (E : Value → Shared → Prop) (Q : Value → Shared → Prop),Q (.ref I) s → wpAny (model g.prog g.w) A (pyIter (.ref I)) Q E s
structure Src1 (g : Gl) {z : Fc sc q d} (σ τ : St g z) (tgt : Expr) (src : Src) (I : Addr) (sv : V) (vv : Value) (P : Nat → Obj → Prop) (o : Obj) : Prop where
  st : kkx g tgt src.items src.guard I sv vv P
  to : To σ τ
  new : σ.s.heap.get? I = none
  ap : Apart τ I o
  p0 : P 0 o
  vr : VR τ.ρ τ.s.heap sv vv
def RSrc (g : Gl) (sc : Sc) (q : Bool) (d : Nat) (tgt e : Expr) (m : M Src) : Prop :=
  ∀ (z : Fc sc q d) (σ : St g z) (Φ : Src → Fm → Hp → Prop) (E : Value → Shared → Prop) (Q : Value → Shared → Prop),ok m σ.f σ.H Φ →
    (∀ (τ : St g z) src I sv vv P o,Src1 g σ τ tgt src I sv vv P o → Φ src τ.f τ.H → Q (.ref I) τ.s) →
      wpAny (model g.prog g.w) z.A (eval e z.env) (fun x s₁ => wpAny (model g.prog g.w) z.A (pyIter x) Q E s₁) E σ.s
structure RBnd (g : Gl) (sc : Sc) (q : Bool) (d : Nat) (tgt : Expr) (bindT : V → M Unit) : Prop where
  go : ∀ (z : Fc sc q d) (σ : St g z) (v : V) (val : Value) (Φ : Unit → Fm → Hp → Prop) (E : Value → Shared → Prop) (Q : Unit → Shared → Prop),VR σ.ρ σ.s.heap v val → ok (bindT v) σ.f σ.H Φ →
    (∀ (τ : St g z),To σ τ → Φ () τ.f τ.H → Q () τ.s) → wpAny (model g.prog g.w) z.A (PySem.assign tgt z.env val) Q E σ.s
  goes : ∀ v f H Φ,ok (bindT v) f H Φ → Goes tgt v
inductive FInv (σ : St g z) (it : Addr) (sv : V) (vv : Value) (P : Nat → Obj → Prop) (items : List V) (m : List V → M AF) (Φ : AF → Fm → Hp → Prop) : Nat → Shared → Prop
  | mk (τ : St g z) (i : Nat) (rest : List V) (o : Obj) (t : ToI it σ τ) (hd : items.drop i = rest) (e : ok (m rest) τ.f τ.H Φ) (ap : Apart τ it o) (hP : P i o) (hv : VR τ.ρ τ.s.heap sv vv) : FInv σ it sv vv P items m Φ rest.length τ.s
theorem kfo {tgt it : Expr} {b : List Stmt} {p : Pos} {ms : M Src} {bt : V → M Unit} {mb : M AF} (hs : RSrc g sc true d tgt it ms) (hbt : RBnd g sc true d tgt bt) (hb : RB g sc true d b mb) (hfold : ∀ env x,foldedSetIterable it env x = pure x := by intro _ _; rfl) :
    RS g sc true d (.For tgt it b [] p) (for_ ms bt mb) := by
  intro z σ Φ E Q e k
  refine wpAny_For (hs z σ _ _ _ (kae e) fun σ₁ src It sv vv P o S e₁ => ?_) (hfold z.env)
  refine codeAny_forLoop_any (FInv σ It sv vv P src.items (forL src.guard bt mb) Φ) ?_ src.items.length (.mk σ₁ 0 src.items o (S.to.cons S.ap.own) rfl e₁ S.ap S.p0 S.vr)
  rintro n s' ⟨τ,i,rest,o₂,t₂,hd,e₂,ap₂,hP₂,hv₂⟩
  cases rest with
  | nil =>
    obtain ⟨hg,e₃⟩ := kir (kae e₂)
    refine S.st.done τ i o₂ ap₂ hP₂ hv₂ hg (List.getElem?_eq_none_iff.mpr (List.drop_eq_nil_iff.mp hd)) _ _ fun h' tk hk => ?_
    exact wpAny_execs_nil (k (τ.foreign h' tk ap₂ hk) _ _ ((t₂.trans (τ.foreign_to ap₂ hk)).uncons S.new) (kao e₃) rfl)
  | cons v rest =>
    obtain ⟨hg,e₃⟩ := kir (kae e₂)
    obtain ⟨hi,hd'⟩ := getElem?_drop_cons hd
    have e₄ := kae e₃
    refine S.st.item τ i o₂ v ap₂ hP₂ hv₂ hg hi (hbt.goes _ _ _ _ e₄) _ _ _ (fun val s₁ hw => hw) fun val h₃ t₃ o₃ hk ho₃ hP₃ hval => ?_
    refine hbt.go z (τ.foreign h₃ t₃ ap₂ hk) v val _ _ _ hval e₄ fun σ₄ t₄ e₅ => ?_
    have ap₄ : Apart σ₄ It o₃ := Apart.to (σ := τ.foreign h₃ t₃ ap₂ hk) ⟨ap₂.x,ap₂.own,ap₂.old,ho₃,S.st.fld _ _ hP₃⟩ t₄
    refine hb z σ₄ _ _ _ (kae e₅) fun σ₅ fl x t₅ e₆ r => ?_
    have ap₅ := ap₄.to t₅
    have tt : ToI It σ σ₅ := ((t₂.trans (τ.foreign_to ap₂ hk)).trans (t₄.cons ap₄.own)).trans (t₅.cons ap₅.own)
    cases loop_r e₆ r with
    | again fl h e => rcases h with rfl | rfl <;> exact ⟨rest.length,Nat.lt_succ_self _,.mk σ₅ (i + 1) rest o₃ tt hd' e ap₅ hP₃ (t₅.vr (t₄.vr (ap₂.vr hk hv₂)))⟩
    | brk e => exact k σ₅ .next .next (tt.uncons S.new) e rfl
    | ret v val rv e => exact k σ₅ (.ret val) (.ret v) (tt.uncons S.new) e ⟨val,rfl,rv⟩
end
end Mine
namespace Mine
open PySem PySem.W PySem.Calls PyProof.Rows
theorem kcx {a : Nat} {o : O} {f : Fm} {H : Hp} {r : Unit × Fm × Hp} (h : kf9 (some (a,o)) f H = some r) : H[a]? = some o := by
  unfold kf9 at h
  simp only at h
  split at h
  · assumption
  · cases h
theorem khy {α β : Type} {F : α → β → Prop} {l₁ : List α} {l₂ : List β} (p : Paired F l₁ l₂) {i : Nat} (h : l₁[i]? = none) : l₂.toArray[i]? = none := by
  rw [List.getElem?_eq_none_iff] at h
  simp only [List.getElem?_toArray,List.getElem?_eq_none_iff]
  rw [← Paired.length p]; exact h
theorem kg5 {α β : Type} {F : α → β → Prop} {l₁ : List α} {l₂ : List β} (p : Paired F l₁ l₂) {i : Nat} (h : l₁[i]? = none) : l₂[i]? = none := by
  rw [List.getElem?_eq_none_iff] at h ⊢
  rw [← Paired.length p]; exact h
theorem kis {α β : Type} {g : α → β} {l : List α} {i : Nat} (h : (l.map g)[i]? = none) : l[i]? = none := by
  rw [List.getElem?_eq_none_iff] at h ⊢; simpa using h
theorem kjj {α β : Type} {g : α → β} {l : List α} {i : Nat} {v : β} (h : (l.map g)[i]? = some v) : ∃ x,l[i]? = some x ∧ v = g x := by
  rw [List.getElem?_map] at h
  cases hx : l[i]? with
  | none => rw [hx] at h; cases h
  | some x => rw [hx] at h; cases h; exact ⟨x,rfl,rfl⟩
theorem is_int {prog : Program} {w : World} {k : Int} {v : Value} (h : (intKind prog w).is k v = true) : ∃ t,v = .int k t := Value.isInt_shape h
abbrev DPr (ρ : RM) (es : List (Int × At)) (kvs : List (Int × Value)) : Prop := Paired (fun (e : Int × At) (kv : Int × Value) => e.1 = kv.1 ∧ AtR ρ e.2 kv.2) es kvs
section
variable {g : Gl} {sc : Sc} {q : Bool} {d : Nat}
theorem kbi {i : Nat} {x : Str} {p : Pos} (hn : (sc.names.map (·.1)).Nodup) (hi : sc.names[i]? = some (x,.local)) : RBnd g sc q d (.Name x p) (kdn i) :=
  ⟨fun z σ v val Φ E Q r e k => wpAny_assign_Name (kcw σ hn hi r fun h' tk I' t' => k (σ.to _ _ _ h' tk I') t' (ke0 e)),fun _ _ _ _ _ => .inl fun _ _ => rfl⟩
theorem rbnd_cell {i : Nat} {x : Str} {p : Pos} (hn : (sc.names.map (·.1)).Nodup) (hi : sc.names[i]? = some (x,.cell)) (hw : x ∈ sc.cells) : RBnd g sc q d (.Name x p) (kdn i) :=
  ⟨fun z σ v val Φ E Q r e k => wpAny_assign_Name (khu σ hn hi hw r fun h' tk I' t' => k (σ.to _ _ _ h' tk I') t' (ke0 e)),fun _ _ _ _ _ => .inl fun _ _ => rfl⟩
inductive Pair1 (P : At → At → Prop) : V → Prop
  | mk (a b : At) (e : P a b) : Pair1 P (.tup [a,b])
theorem ok_bind2 {i j : Nat} {v : V} {f : Fm} {H : Hp} {Φ : Unit → Fm → Hp → Prop} (e : ok (bind2 i j v) f H Φ) : Pair1 (fun a b => Φ () ((f.set i (some (.at a))).set j (some (.at b))) H) v := by
  cases v with
  | «at» _ => exact ka4 e
  | tup l => cases l with
    | nil => exact ka4 e
    | cons a l => cases l with
      | nil => exact ka4 e
      | cons b l => cases l with
        | nil => exact ⟨_,_,ke0 (ke0 (kae e))⟩
        | cons _ _ => exact ka4 e
theorem kjd {i j : Nat} {x y : Str} {px py pt : Pos} {kk : Nat} (hn : (sc.names.map (·.1)).Nodup) (hi : sc.names[i]? = some (x,.local)) (hj : sc.names[j]? = some (y,.local)) :
    RBnd g sc true d (.Tuple [.Name x px,.Name y py] kk pt) (bind2 i j) := by
  refine ⟨fun z σ v val Φ E Q r e k => ?_,fun v f H Φ e => ?_⟩
  · obtain ⟨a,b,e1⟩ := ok_bind2 e
    obtain ⟨T,vs,rfl,hT,pr⟩ := r
    cases pr with
    | cons ra pr => cases pr with
      | cons rb pr =>
        cases pr
        rename_i va vb
        refine wpAny_assign_Tuple (z.cx.handled rfl) (items := #[va,vb]) ⟨_,hT,rfl,0,rfl⟩ rfl rfl fun h₁ he₁ => ?_
        have hk : ∀ b o,σ.s.heap.get? b = some o → h₁.get? b = some o := fun b o e => he₁ b o (Nat.ne_of_lt (Heap.lt_size e)) e
        show wpAny _ _ (assignInOrder [PySem.assign (.Name x px) z.env,PySem.assign (.Name y py) z.env] [va,vb]) _ _ (σ.keep h₁ σ.s.toks hk).s
        refine assignInOrder_cons (wpAny_assign_Name (kcw (σ.keep h₁ σ.s.toks hk) hn hi (v := .at a) ra fun h₂ t₂ I₂ x₂ => ?_))
        refine assignInOrder_cons (wpAny_assign_Name (kcw ((σ.keep h₁ σ.s.toks hk).to _ _ _ h₂ t₂ I₂) hn hj (v := .at b) rb fun h₃ t₃ I₃ x₃ => ?_))
        exact assignInOrder_nil (k (((σ.keep h₁ σ.s.toks hk).to _ _ _ h₂ t₂ I₂).to _ _ _ h₃ t₃ I₃) (((σ.keep_to hk).trans x₂).trans x₃) e1)
  · obtain ⟨a,b,_⟩ := ok_bind2 e
    exact .inr ⟨⟨_,_,_,rfl⟩,_,rfl⟩
inductive DictAt1 (g : Gl) {z : Fc sc q d} (σ : St g z) (a : Nat) (es : List (Int × At)) (ep : Nat) : Value → Prop
  | mk (l : Addr) (kvs : List (Int × Value)) (hρ : σ.ρ[a]? = some (l,l)) (da : σ.s.heap.DictAt (intKind g.prog g.w) l kvs ep) (pr : DPr σ.ρ es kvs) (lim : es.length ≤ lim) : DictAt1 g σ a es ep (.ref l)
theorem St.dict {z : Fc sc q d} (σ : St g z) {a : Nat} {es : List (Int × At)} {ep : Nat} {v : Value} (ho : σ.H[a]? = some (.dict es ep)) (r : VR σ.ρ σ.s.heap (.at (.ref a)) v) : DictAt1 g σ a es ep v := by
  obtain ⟨⟨p1,p2⟩,hp,hh,kvs,pl,pr,hl⟩ := σ.inv.get ho
  obtain ⟨p',hp',rfl⟩ := r
  rw [hp] at hp'; cases hp'
  cases hh
  exact ⟨p1,kvs,hp,pl,pr,hl⟩
theorem IsList.of {h : Heap} {l : Addr} {vs : List Value} {n : Nat} (ho : h.get? l = some { cls := .type "list",data := .seq vs.toArray n }) : h.IsList l vs.toArray := ⟨_,ho,rfl,n,rfl⟩
theorem kgp {I : Addr} {h h' : Heap} (hs : Heap.SameBut I h h') : ∀ b ob,b ≠ I → h.get? b = some ob → h'.get? b = some ob := fun b ob hb e => (hs.2 b hb).trans e
theorem steps_list {tgt : Expr} {a : Nat} {xs : List V} {l It : Addr} :
    kkx g tgt xs (some (a,.list xs)) It (.at (.ref a)) (.ref l) (fun i o => o.cls = .type "list_iterator" ∧ o.data = .fields #[.ref l,.int i 0]) := by
  refine ⟨?_,?_,fun i o h => ⟨_,h.2⟩,fun A s i o ho hP E Q h => wpAny_pyIter_listiter ⟨o,ho,hP⟩ h⟩
  · intro sc d z σ i o v ap hP hv hg hi hgo E R G hR hG
    obtain ⟨_,vs,n,_,pl,pr,_⟩ := σ.list (kcx hg) hv
    obtain ⟨val,hval,rv⟩ := pget pr hi
    refine wpAny_pyNext_list_item ⟨o,ap.at_,hP⟩ (IsList.of pl) (x := val) (by simpa using hval) fun h' hit hs => hR _ _ ?_
    obtain ⟨o',ho',hP'⟩ := id hit
    have fin := hG val h' σ.s.toks o' (kgp hs) ho' (by simpa using hP') (ap.vr (kgp hs) rv)
    rcases hgo with hgo | ⟨⟨elts,x1,p,rfl⟩,ys,rfl⟩
    · rw [hgo]; exact wpAny_pure fin
    · obtain ⟨T,ws,rfl,_⟩ := rv
      exact wpAny_letOwnedTupleGo_listiter (s := { σ.s with heap := h' }) hit fin
  · intro sc d z σ i o ap hP hv hg hi E R hR
    obtain ⟨_,vs,n,_,pl,pr,_⟩ := σ.list (kcx hg) hv
    exact wpAny_pyNext_list_end (z.cx.handled rfl) ⟨o,ap.at_,hP⟩ (IsList.of pl) (khy pr hi) fun h' he => hR h' σ.s.toks he
theorem kl5 {tgt : Expr} {a : At} (h : Goes tgt (.at a)) : ∀ it v,letOwnedTupleGo tgt it v = pure () := by
  rcases h with h | ⟨_,ys,hy⟩
  · exact h
  · cases hy
theorem steps_tuple {tgt : Expr} {xs : List At} {t It : Addr} :
    kkx g tgt (xs.map V.at) none It (.tup xs) (.ref t) (fun i o => o.cls = .type "tuple_iterator" ∧ o.data = .fields #[.ref t,.int i 0]) := by
  refine ⟨?_,?_,fun i o h => ⟨_,h.2⟩,fun A s i o ho hP E Q h => wpAny_pyIter_tupleiter ⟨o,ho,hP⟩ h⟩
  · intro sc d z σ i o v ap hP hv hg hi hgo E R G hR hG
    obtain ⟨T,vs,eT,hT,pr⟩ := hv
    cases eT
    obtain ⟨x,hx,rfl⟩ := kjj hi
    obtain ⟨val,hval,rv⟩ := pget pr hx
    refine wpAny_pyNext_tuple_item ⟨o,ap.at_,hP⟩ (items := vs.toArray) ⟨_,hT,rfl,0,rfl⟩ (x := val) (by simpa using hval) fun h' hit hs => hR _ _ ?_
    obtain ⟨o',ho',hP'⟩ := id hit
    rw [kl5 hgo]
    exact wpAny_pure (hG val h' σ.s.toks o' (kgp hs) ho' (by simpa using hP') rv)
  · intro sc d z σ i o ap hP hv hg hi E R hR
    obtain ⟨T,vs,eT,hT,pr⟩ := hv
    cases eT
    exact wpAny_pyNext_tuple_end (z.cx.handled rfl) ⟨o,ap.at_,hP⟩ (items := vs.toArray) ⟨_,hT,rfl,0,rfl⟩ (khy pr (kis hi)) fun h' he => hR h' σ.s.toks he
theorem steps_range {tgt : Expr} {n : Nat} {It : Addr} :
    kkx g tgt ((List.range n).map fun i => V.at (.int (Int.ofNat i))) none It (.at .none) .none (fun i o => o = { cls := .type "range_iterator",dict := none,data := .fields #[rawInt i,rawInt ((n : Int) - i),rawInt 1],slots := #[] }) := by
  refine ⟨?_,?_,(fun i o h => by subst h; exact ⟨_,rfl⟩),fun A s i o ho hP E Q h => wpAny_pyIter_rangeiter (by subst hP; exact ho) h⟩
  · intro sc d z σ i o v ap hP hv hg hi hgo E R G hR hG
    subst hP
    obtain ⟨j,hj,rfl⟩ := kjj hi
    have hlt : i < n := by
      have := (List.getElem?_eq_some_iff.mp hj).1
      simpa using this
    rw [List.getElem?_range hlt] at hj
    cases hj
    refine wpAny_pyNext_range_item ap.at_ (by omega) fun h' hit hs => hR _ _ ?_
    rw [kl5 hgo]
    exact wpAny_pure (hG _ h' (σ.s.toks + 1) _ (kgp hs) hit (by rw [show ((i + 1 : Nat) : Int) = (i : Int) + 1 by omega,show (n : Int) - ((i : Int) + 1) = (n : Int) - i - 1 by omega]) ⟨_,rfl⟩)
  · intro sc d z σ i o ap hP hv hg hi E R hR
    subst hP
    have hge : n ≤ i := by have := List.getElem?_eq_none_iff.mp hi; simpa using this
    exact wpAny_pyNext_range_end (z.cx.handled rfl) ap.at_ (by omega) fun h' he => hR h' σ.s.toks he
theorem steps_keys {tgt : Expr} {a : Nat} {es : List (Int × At)} {ep : Nat} {l It : Addr} :
    kkx g tgt (es.map fun e => .at (.int e.1)) (some (a,.dict es ep)) It (.at (.ref a)) (.ref l) (fun i o => o.cls = .type "dict_keyiterator" ∧ o.data = .fields #[.ref l,.int i 0,.int es.length 0,.int ep 0]) := by
  refine ⟨?_,?_,fun i o h => ⟨_,h.2⟩,fun A s i o ho hP E Q h => wpAny_pyIter_keyiter ⟨o,ho,hP⟩ h⟩
  · intro sc d z σ i o v ap hP hv hg hi hgo E R G hR hG
    obtain ⟨_,kvs,_,dk,pr,_⟩ := σ.dict (kcx hg) hv
    obtain ⟨x,hx,rfl⟩ := kjj hi
    obtain ⟨⟨k,val⟩,hkv,rk,rv⟩ := pget pr hx
    rw [Paired.length pr] at hP
    refine wpAny_pyNext_dict_item ⟨o,ap.at_,hP⟩ dk hkv fun key h' hkey hit hs => hR _ _ ?_
    obtain ⟨o',ho',hP'⟩ := id hit
    obtain ⟨t,rfl⟩ := is_int hkey
    rw [kl5 hgo]
    exact wpAny_pure (hG _ h' σ.s.toks o' (kgp hs) ho' (by rw [Paired.length pr]; exact hP') ⟨t,by rw [rk]⟩)
  · intro sc d z σ i o ap hP hv hg hi E R hR
    obtain ⟨_,kvs,_,dk,pr,_⟩ := σ.dict (kcx hg) hv
    rw [Paired.length pr] at hP
    exact wpAny_pyNext_dict_end (z.cx.handled rfl) ⟨o,ap.at_,hP⟩ dk (kg5 pr (kis hi)) fun h' he => hR h' σ.s.toks he
theorem steps_values {tgt : Expr} {a : Nat} {es : List (Int × At)} {ep : Nat} {l It : Addr} :
    kkx g tgt (es.map fun e => .at e.2) (some (a,.dict es ep)) It (.at (.ref a)) (.ref l) (fun i o => o.cls = .type "dict_valueiterator" ∧ o.data = .fields #[.ref l,.int i 0,.int es.length 0,.int ep 0]) := by
  refine ⟨?_,?_,fun i o h => ⟨_,h.2⟩,fun A s i o ho hP E Q h => wpAny_pyIter_valiter ⟨o,ho,hP⟩ h⟩
  · intro sc d z σ i o v ap hP hv hg hi hgo E R G hR hG
    obtain ⟨_,kvs,_,dk,pr,_⟩ := σ.dict (kcx hg) hv
    obtain ⟨x,hx,rfl⟩ := kjj hi
    obtain ⟨⟨k,val⟩,hkv,rk,rv⟩ := pget pr hx
    rw [Paired.length pr] at hP
    refine wpAny_pyNext_values_item ⟨o,ap.at_,hP⟩ dk hkv fun h' hit hs => hR _ _ ?_
    obtain ⟨o',ho',hP'⟩ := id hit
    rw [kl5 hgo]
    exact wpAny_pure (hG _ h' σ.s.toks o' (kgp hs) ho' (by rw [Paired.length pr]; exact hP') rv)
  · intro sc d z σ i o ap hP hv hg hi E R hR
    obtain ⟨_,kvs,_,dk,pr,_⟩ := σ.dict (kcx hg) hv
    rw [Paired.length pr] at hP
    exact wpAny_pyNext_values_end (z.cx.handled rfl) ⟨o,ap.at_,hP⟩ dk (kg5 pr (kis hi)) fun h' he => hR h' σ.s.toks he
theorem steps_items {elts : List Expr} {x1 : Nat} {pt : Pos} {a : Nat} {es : List (Int × At)} {ep : Nat} {l It : Addr} :
    kkx g (.Tuple elts x1 pt) (es.map fun e => .tup [.int e.1,e.2]) (some (a,.dict es ep)) It (.at (.ref a)) (.ref l)
      (fun i o => ∃ ok ov,o = { cls := .type "dict_itemiterator",dict := none,data := .fields #[.none,.bool false,.ref l,.int i 0,.int es.length 0,.int ep 0,ok,ov],slots := #[] }) := by
  refine ⟨?_,?_,(fun i o h => by obtain ⟨_,_,rfl⟩ := h; exact ⟨_,rfl⟩),fun A s i o ho hP E Q h => by obtain ⟨ok,ov,rfl⟩ := hP; exact kcp_self ho h⟩
  · intro sc d z σ i o v ap hP hv hg hi hgo E R G hR hG
    obtain ⟨_,kvs,_,dk,pr,_⟩ := σ.dict (kcx hg) hv
    obtain ⟨x,hx,rfl⟩ := kjj hi
    obtain ⟨⟨k,val⟩,hkv,rk,rv⟩ := pget pr hx
    obtain ⟨ok,ov,rfl⟩ := hP
    have ho := ap.at_
    rw [Paired.length pr] at ho
    refine wpAny_pyNext_items_item ho dk hkv fun key h' hkey hit ht hsz hs => hR _ _ ?_
    obtain ⟨t,rfl⟩ := is_int hkey
    refine wpAny_letOwnedTupleGo_items (s := { σ.s with heap := h' }) hit fun h₂ hit₂ hs₂ => ?_
    have hlt : It < σ.s.heap.objs.size := Heap.lt_size ho
    exact hG _ h₂ σ.s.toks _ (fun b ob hb e => (hs₂.2 b hb).trans (hs b ob hb e)) hit₂ ⟨_,_,by rw [Paired.length pr]⟩ ⟨_,_,rfl,(hs₂.2 _ (Nat.ne_of_gt hlt)).trans ht,.cons ⟨t,by rw [rk]⟩ (.cons rv .nil)⟩
  · intro sc d z σ i o ap hP hv hg hi E R hR
    obtain ⟨_,kvs,_,dk,pr,_⟩ := σ.dict (kcx hg) hv
    obtain ⟨ok,ov,rfl⟩ := hP
    have ho := ap.at_
    rw [Paired.length pr] at ho
    exact wpAny_pyNext_items_end (z.cx.handled rfl) ho dk (kg5 pr (kis hi)) fun h' he => hR h' σ.s.toks he
theorem St.size {z : Fc sc q d} (σ : St g z) : g.h₀.objs.size ≤ σ.s.heap.objs.size := by
  obtain ⟨m,⟨o,_,_,e,_⟩,_⟩ := σ.inv.fr.ns
  exact Nat.le_of_lt (Nat.lt_of_le_of_lt σ.inv.fr.loc.2 (Heap.lt_size e))
theorem kg3 {ρ : RM} {h : Heap} {v : V} {val : Value} (r : VR ρ h v val) (o : Obj) : VR ρ (h.push o) v val := VR.mono List.prefix_rfl (fun _ _ _ e => Heap.get?_push_of_some _ e) r
theorem St.freeX {z : Fc sc q d} (σ : St g z) : σ.s.heap.objs.size ∉ z.X := fun hm => by
  obtain ⟨_,_,ob,e,_⟩ := σ.inv.x _ hm
  exact absurd (Heap.lt_size e) (Nat.lt_irrefl _)
theorem St.freeO {z : Fc sc q d} (σ : St g z) {b : Addr} (hb : σ.s.heap.objs.size ≤ b) : ¬ owns σ.ρ b := fun hm => by
  obtain ⟨ob,e,_⟩ := σ.inv.hr.notTup hm
  exact absurd (Heap.lt_size e) (Nat.not_lt.mpr hb)
theorem khv {z : Fc sc q d} {σ τ : St g z} (t : To σ τ) {tgt : Expr} {src : Src} {sv : V} {vv : Value} {P : Nat → Obj → Prop} (o : Obj) (tk : Nat) (st : kkx g tgt src.items src.guard τ.s.heap.objs.size sv vv P) (hf : o.isFreed = false) (p0 : P 0 o) (vr : VR τ.ρ τ.s.heap sv vv) :
    Src1 g σ (τ.push o tk) tgt src τ.s.heap.objs.size sv vv P o := by
  have hn := τ.freeO (Nat.le_refl _)
  refine ⟨st,t.trans (τ.keep_to kb8),?_,⟨τ.freeX,hn,τ.size,Heap.get?_push_size _ hf,st.fld _ _ p0⟩,p0,kg3 vr _⟩
  cases e : σ.s.heap.get? τ.s.heap.objs.size with
  | none => rfl
  | some ob =>
    obtain ⟨sl,e',_⟩ := t.ext.keep _ ob e (fun q => hn (klx t.ext.pre q)) τ.freeX
    exact absurd (Heap.lt_size e') (Nat.lt_irrefl _)
theorem St.notSys {z : Fc sc q d} (σ : St g z) {a : Nat} {l l' : Addr} (hρ : σ.ρ[a]? = some (l,l')) : (l == sysModules) = false :=
  beq_false_of_ne (Nat.ne_of_gt (Nat.lt_of_lt_of_le g.bs.sys (σ.inv.old _ ⟨_,List.mem_of_getElem? hρ,.inl rfl⟩)))
theorem kcy {tgt e : Expr} {a : M V} (ha : RE g sc q d e a) : RSrc g sc q d tgt e (app1 ket a) := by
  intro z σ Φ E Q em k
  refine ha z σ _ E _ (kae em) fun σ₁ val v t₁ e₁ r => ?_
  unfold ket at e₁
  split at e₁
  · obtain ⟨T,vs,rfl,hT,pr⟩ := id r
    refine wpAny_pyIter_tuple (items := vs.toArray) ⟨_,hT,rfl,0,rfl⟩ ?_
    exact k (σ₁.push _ σ₁.s.toks) _ _ _ _ _ _ (khv t₁ _ _ (steps_tuple (t := T)) rfl ⟨rfl,rfl⟩ r) (kao e₁)
  · obtain ⟨n,e2⟩ := kc1 e₁
    obtain ⟨o,ho,e3⟩ := ke1 e2
    cases o <;> try exact ka4 e3
    · obtain ⟨l,vs,n,_,pl,pr,_⟩ := σ₁.list ho r
      refine wpAny_pyIter_list (IsList.of pl) ?_
      exact k (σ₁.push _ σ₁.s.toks) _ _ _ _ _ _ (khv t₁ _ _ steps_list rfl ⟨rfl,rfl⟩ r) (kao e3)
    · obtain ⟨l,kvs,hρ,dk,pr,_⟩ := σ₁.dict ho r
      refine wpAny_pyIter_dict (σ₁.notSys hρ) dk ?_
      exact k (σ₁.push _ σ₁.s.toks) _ _ _ _ _ _ (khv t₁ _ _ steps_keys rfl ⟨rfl,by rw [Paired.length pr]; rfl⟩ r) (kao e3)
end
end Mine
namespace Mine
open PySem PySem.W PySem.Calls PyProof.Rows
def gval (K : Frag) (x : Str) : Option Value := match nsIn K mainGlobals x with
  | some (some v) => some v
  | some none => if x = "__name__" then none else bootBuiltins x
  | none => none
def kept (K : Frag) : Value → Bool
  | .builtin _ => true
  | .type _ => true
  | v => keepIn K v
section
variable {g : Gl} {sc : Sc} {q : Bool} {d : Nat} {z : Fc sc q d}
theorem kg2 (σ : St g z) {x : Str} {p : Pos} {v : Value} (hx : sc.names.lookup x = some .globalImplicit) (hv : gval g.K x = some v) {E : Value → Shared → Prop} {Q : Value → Shared → Prop} (h : Q v σ.s) (hd : (x == ("__debug__" : Str)) = false := by decide) :
    wpAny (model g.prog g.w) z.A (eval (.Name x p) z.env) Q E σ.s := by
  have hk : z.env.kindOf x = some .globalImplicit := by unfold Env.kindOf; rw [z.cx.names]; exact hx
  refine Calls.Name_function_global z.cx.kind hk ?_ hd
  have gn := g.bs.g.keeps σ.inv.base
  unfold gval at hv
  split at hv
  · rename_i v' e
    cases hv
    refine Calls.loadGlobal_global (by rw [z.cx.globals]; exact gn) (mg_of σ.kin gn e) h
  · rename_i e
    split at hv
    · cases hv
    · rename_i hne
      exact Calls.loadGlobal_builtin (by rw [z.cx.globals]; exact gn) (mg_none_of σ.kin gn e) (by rw [z.cx.builtins]; exact g.bs.b.keeps σ.inv.base) ((g.bs.bb x hne).trans hv) h
  · cases hv
theorem kept_looks {K : Frag} {M : Model} {fv : Value} (hk : kept K fv = true) (h : Heap) (X : K.In h) : ∃ k,(k = Keeper.frame ∨ k = Keeper.machine ∨ k = Keeper.boundFrame) ∧ Looks M h (keeperOf fv) k := by
  unfold kept at hk
  split at hk
  · exact ⟨.machine,.inr (.inl rfl),Looks.of_pure rfl⟩
  · exact ⟨.machine,.inr (.inl rfl),Looks.of_pure rfl⟩
  · exact keeps_K hk h X
theorem ker {K : Frag} {M : Model} {A : Around} {s : Shared} {fv : Value} {first : List Value} {args : List (Bool × Sem Value)} {pos : Pos} {E : Value → Shared → Prop} {Q : Value → Shared → Prop} (hk : kept K fv = true) (hst : args.any (·.1) = false)
    (h : wpAny M A (spliced args) (fun vs s₁ => K.In s₁.heap ∧ wpAny M A (PySem.call fv (first ++ vs)) Q E s₁) E s) : wpAny M A (callWith pos fv first args []) Q E s := by
  refine callWith_of (P := K.In) (by rw [hst]; rfl) (fun h X => kept_looks hk h X) ?_
  cases args with
  | nil =>
    unfold evalArgs
    show wpAny M A (spliced [] >>= _) _ E s
    refine wpAny_bind (wpAny_mono h (fun vs s₁ h₁ => wpAny_bind (wpAny_pure (wpAny_holding (wpAny_bind (wpAny_pure (wpAny_bind (wpAny_pure (wpAny_pure h₁)))))))) fun _ _ x => x)
  | cons y r =>
    obtain ⟨b,t⟩ := y
    have : b = false := by simpa using (Bool.or_eq_false_iff.mp hst).1
    subst this
    exact evalArgs_plain h
def CallOk (g : Gl) (q : Bool) (d : Nat) (fv : Value) (np : Nat) (m : List V → M V) : Prop :=
  ∀ ⦃sc : Sc⦄ ⦃z : Fc sc q d⦄ (σ : St g z) (vs : List V) (vals : List Value) (Φ : V → Fm → Hp → Prop) (E : Value → Shared → Prop) (Q : Value → Shared → Prop),vs.length = np → VsR σ.ρ σ.s.heap vs vals → ok (m vs) σ.f σ.H Φ →
    (∀ (τ : St g z) a b,To σ τ → Φ b τ.f τ.H → VR τ.ρ τ.s.heap b a → Q a τ.s) → wpAny (model g.prog g.w) z.A (PySem.call fv vals) Q E σ.s
theorem CallOk.weaken {d' np : Nat} {fv : Value} {m : List V → M V} (h : CallOk g q d fv np m) (hd : d ≤ d') : CallOk g q d' fv np m :=
  fun sc z σ vs vals Φ E Q hl r e k => h (z := z.weaken id hd) ⟨σ.ρ,σ.f,σ.H,σ.s,σ.inv⟩ vs vals Φ E Q hl r e fun τ a b t => k ⟨τ.ρ,τ.f,τ.H,τ.s,τ.inv⟩ a b ⟨t.ext,t.same⟩
theorem kc5 {x : Str} {p pos : Pos} {args : List Expr} {l : List (M V)} {m : List V → M V} {fv : Value} (hx : sc.names.lookup x = some .globalImplicit) (hv : gval g.K x = some fv) (hk : kept g.K fv = true)
    (ha : RA g sc q d pos args (all l)) (hm : CallOk g q d fv l.length m) (hst : ∀ env,(backTo pos (starEach args env)).any (·.1) = false := by intro _; rfl) (hd : (x == ("__debug__" : Str)) = false := by decide) :
    RE g sc q d (.Call (.Name x p) args [] pos) (bnd (all l) m) :=
  fun z σ Φ E Q e k => wpAny_Call_NameR (kg2 σ hx hv (ker hk (hst z.env) (ha z σ _ E _ (kkd (kae e)) fun σ₁ vals vs t₁ e₁ r => ⟨σ₁.kin,hm σ₁ vs vals Φ E Q e₁.1 r e₁.2 fun τ a b t => k τ a b (t₁.trans t)⟩)) hd)
def Call1 (g : Gl) (q : Bool) (d : Nat) (fv : Value) (m : V → M V) : Prop :=
  ∀ ⦃sc : Sc⦄ ⦃z : Fc sc q d⦄ (σ : St g z) (v : V) (val : Value) (Φ : V → Fm → Hp → Prop) (E : Value → Shared → Prop) (Q : Value → Shared → Prop),VR σ.ρ σ.s.heap v val → ok (m v) σ.f σ.H Φ →
    (∀ (τ : St g z) a b,To σ τ → Φ b τ.f τ.H → VR τ.ρ τ.s.heap b a → Q a τ.s) → wpAny (model g.prog g.w) z.A (PySem.call fv [val]) Q E σ.s
theorem kbs {x : Str} {p pos : Pos} {arg : Expr} {a : M V} {m : V → M V} {fv : Value} (hx : sc.names.lookup x = some .globalImplicit) (hv : gval g.K x = some fv) (hk : kept g.K fv = true)
    (ha : RE g sc q d arg a) (hm : Call1 g q d fv m) (he : ∀ env,starEach [arg] env = [(false,eval arg env)] := by intro _; rfl) (hd : (x == ("__debug__" : Str)) = false := by decide) :
    RE g sc q d (.Call (.Name x p) [arg] [] pos) (app1 m a) :=
  fun z σ Φ E Q e k => wpAny_Call_NameR (kg2 σ hx hv (ker hk (by rw [he]; rfl) (by
    rw [he]
    exact spliced_cons (ha z σ _ E _ (kae e) fun σ₁ val v t₁ e₁ r => spliced_nil ⟨σ₁.kin,hm σ₁ v val Φ E Q r e₁ fun τ a b t => k τ a b (t₁.trans t)⟩))) hd)
end
section
variable {prog : Program} {w : World} {h₀ : Heap}
theorem Inv.back {A A' : Around} {env env' : Env} {X X' : List Addr} {ρ ρ' : RM} {f f' : Fm} {H H' : Hp} {h h' : Heap} (I : Inv prog w h₀ A env X ρ f H h) (I' : Inv prog w h₀ A' env' X' ρ' f' H' h') (x : Ext h₀ [] ρ h ρ' h') :
    Inv prog w h₀ A env X ρ' f H' h' ∧ Ext h₀ X ρ h ρ' h' := by
  have no : ∀ b o,¬ owns ρ b → h.get? b = some o → ¬ owns ρ' b := fun b o hn e q => by have := x.new b q hn; rw [e] at this; cases this
  have tk : ∀ b o,kdv o → h.get? b = some o → h'.get? b = some o := fun b o t e => x.tup e t (I.tupFree e t).1 (fun h => nomatch h)
  have nX : ∀ b ∈ X,¬ owns ρ' b := fun b hb => let ⟨_,q,o,e,_⟩ := I.x b hb; no b o q e
  refine ⟨⟨I'.base,I'.old,I'.hr,⟨I.fr.len,?_,fun i y hy => ?_,I.fr.apart,?_,I.fr.loc.2⟩,fun a ha => ?_,?_⟩,x.mono (fun _ h => nomatch h) nX⟩
  · obtain ⟨m,n,k⟩ := I.fr.ns
    exact ⟨m,ki2 n fun o e => let ⟨sl,q,_⟩ := x.keep _ o e I.fr.loc.1 (fun h => nomatch h); ⟨sl,q⟩,fun i y v a b => let ⟨val,c,r⟩ := k i y v a b; ⟨val,c,VR.mono x.pre tk r⟩⟩
  · obtain ⟨c,o,a,⟨ob,b,b'⟩,z1,z2,k⟩ := I.fr.cell i y hy
    obtain ⟨sl,e,_⟩ := x.keep _ ob b z1 (fun h => nomatch h)
    exact ⟨c,o,a,⟨_,e,b'⟩,no _ _ z1 b,z2,fun v qv => let ⟨val,c,r⟩ := k v qv; ⟨val,c,VR.mono x.pre tk r⟩⟩
  · obtain ⟨m,⟨o,_,_,e,_⟩,_⟩ := I.fr.ns
    exact no _ _ I.fr.loc.1 e
  · obtain ⟨z1,z2,o,e,t⟩ := I.x a ha
    obtain ⟨sl,e',k⟩ := x.keep _ o e z2 (fun h => nomatch h)
    refine ⟨z1,no _ _ z2 e,_,e',fun ⟨vs,q⟩ => ?_⟩
    have hd : o.data = .seq vs.toArray 0 := congrArg Obj.data q
    have := k (.inr (by intro es ep h; rw [hd] at h; cases h))
    subst this
    exact t ⟨vs,q⟩
  · obtain ⟨l,e,k⟩ := I.frs
    refine ⟨l,e,fun v hv => ?_⟩
    obtain ⟨m,L,o,es,ep,a,b,c,dd,g⟩ := k v hv
    obtain ⟨sl,e',_⟩ := x.keep _ o dd c (fun h => nomatch h)
    exact ⟨m,L,_,es,ep,a,b,no _ _ c dd,e',g⟩
theorem Inv.enter {A A' : Around} {env env' : Env} {X : List Addr} {ρ : RM} {f f' : Fm} {H : Hp} {h h' : Heap} (I : Inv prog w h₀ A env X ρ f H h) (hk : ∀ b o,h.get? b = some o → h'.get? b = some o)
    (hL : h.objs.size ≤ env'.locals) (hC : ∀ n c,(n,c) ∈ env'.cells → env'.locals < c) (ap : env'.cells.Pairwise fun x y => x.2 ≠ y.2) (hce : ∀ n c,env'.cells.lookup n = some c → ∃ v,h'.IsCell c v)
    (hlen : f'.length = env'.scope.names.length) (cl : List Str)
    (hns : ∃ m,h'.Ns env'.locals m ∧ ∀ (i : Nat) x v,env'.scope.names[i]? = some (x,.local) → f'[i]? = some (some v) → ∃ val,m x = some val ∧ VR ρ h' v val)
    (hcell : ∀ (i : Nat) x,env'.scope.names[i]? = some (x,.cell) → ∃ c o,env'.cells.lookup x = some c ∧ h'.IsCell c o ∧ ∀ v,f'[i]? = some (some v) → ∃ val,o = some val ∧ VR ρ h' v val)
    (hA : A'.frames = A.frames ∨ (A'.frames = A.frames.map (env' :: ·) ∧ env'.scope.kind ≠ .module ∧ env'.frame = some env'.locals)) :
    Inv prog w h₀ A' env' (env'.locals :: cl.filterMap (env'.cells.lookup ·)) ρ f' H h' := by
  have sz : h₀.objs.size ≤ h.objs.size := by
    obtain ⟨m,⟨o,_,_,e,_⟩,_⟩ := I.fr.ns
    exact Nat.le_of_lt (Nat.lt_of_le_of_lt I.fr.loc.2 (Heap.lt_size e))
  have no : ∀ b,h.objs.size ≤ b → ¬ owns ρ b := fun b hb q => by
    obtain ⟨ob,e,_⟩ := I.hr.notTup q
    exact absurd (Heap.lt_size e) (Nat.not_lt.mpr hb)
  have hLo := hns
  obtain ⟨m,n,_⟩ := hLo
  obtain ⟨oL,esL,epL,eL,dL,_⟩ := id n
  refine ⟨fun b o e => hk b o (I.base b o e),I.old,I.hr.keeps hk,⟨hlen,hns,fun i x hx => ?_,fun x y c a b => ?_,no _ hL,Nat.le_trans sz hL⟩,fun a ha => ?_,?_⟩
  · obtain ⟨c,o,a,b,k⟩ := hcell i x hx
    have hlt := Nat.le_of_lt (hC x c (PySem.mem_of_lookup a))
    exact ⟨c,o,a,b,no _ (Nat.le_trans hL hlt),Nat.le_trans sz (Nat.le_trans hL hlt),k⟩
  · exact name_of_addr ap (PySem.mem_of_lookup a) (PySem.mem_of_lookup b)
  · rcases List.mem_cons.mp ha with rfl | ha
    · exact ⟨Nat.le_trans sz hL,no _ hL,oL,eL,kd4 dL⟩
    · obtain ⟨x,_,hx⟩ := List.mem_filterMap.mp ha
      have hlt := Nat.le_of_lt (hC x a (PySem.mem_of_lookup hx))
      obtain ⟨v,o,e,dd⟩ := hce x a hx
      exact ⟨Nat.le_trans sz (Nat.le_trans hL hlt),no _ (Nat.le_trans hL hlt),o,e,kd6 (by rw [dd]; intro _ _ h; cases h)⟩
  · obtain ⟨l,e,k⟩ := I.frs
    have old : ∀ v ∈ l,v.scope.kind ≠ .module ∧ ∃ L o es ep,v.frame = some L ∧ h₀.objs.size ≤ L ∧ ¬ owns ρ L ∧ h'.get? L = some o ∧ o.data = .dict es ep := fun v hv =>
      let ⟨m,L,o,es,ep,a,b,c,d,g⟩ := k v hv; ⟨m,L,o,es,ep,a,b,c,hk _ _ d,g⟩
    rcases hA with hA | ⟨hA,hm,hf⟩
    · exact ⟨l,hA.trans e,old⟩
    · refine ⟨env' :: l,by rw [hA,e]; rfl,fun v hv => ?_⟩
      rcases List.mem_cons.mp hv with rfl | hv
      · exact ⟨hm,v.locals,oL,esL,epL,hf,Nat.le_trans sz hL,no _ hL,eL,dL⟩
      · exact old v hv
theorem Inv.leave {A A' : Around} {env env' : Env} {X X' : List Addr} {ρ ρ' : RM} {f f' : Fm} {H H' : Hp} {h h₁ h' : Heap} (I : Inv prog w h₀ A env X ρ f H h) (I' : Inv prog w h₀ A' env' X' ρ' f' H' h') (hk : ∀ b o,h.get? b = some o → h₁.get? b = some o)
    (hX : ∀ b ∈ X',h.get? b = none) (x : Ext h₀ X' ρ h₁ ρ' h') : Inv prog w h₀ A env X ρ' f H' h' ∧ Ext h₀ X ρ h ρ' h' :=
  I.back I' (x.drop hk (fun b hb => .inr (hX b hb)) fun _ h => nomatch h)
end
end Mine
namespace Mine
open PySem PySem.W PySem.Calls PyProof.Rows
theorem kka {k : Str → Option NameKind} {x : Str} : ∀ {r : List (Str × Value)} {m : Str → Option Value},x ∉ r.map (·.1) → bindL k r m x = m x
  | [],_,_ => rfl
  | (n,v) :: r,m,h => by
    unfold bindL
    rw [kka (fun hm => h (List.mem_cons_of_mem _ hm))]
    split
    · exact if_neg (fun e => h (by rw [e]; exact List.mem_cons_self))
    · rfl
theorem kkb {k : Str → Option NameKind} {x : Str} : ∀ {r : List (Str × Value)} {m : Str → Option Value},x ∉ r.map (·.1) → bindC k r m x = m x
  | [],_,_ => rfl
  | (n,v) :: r,m,h => by
    unfold bindC
    rw [kkb (fun hm => h (List.mem_cons_of_mem _ hm))]
    split
    · rfl
    · exact if_neg (fun e => h (by rw [e]; exact List.mem_cons_self))
theorem kmg {k : Str → Option NameKind} {x : Str} {v : Value} : ∀ {r : List (Str × Value)} {m : Str → Option Value},(r.map (·.1)).Nodup → (x,v) ∈ r → k x = some .local → bindL k r m x = some v
  | (n,u) :: r,m,hn,hm,hk => by
    rw [List.map_cons,List.nodup_cons] at hn
    unfold bindL
    rcases List.mem_cons.mp hm with e | hm
    · cases e
      rw [kka hn.1,if_pos hk]; exact if_pos rfl
    · exact kmg hn.2 hm hk
theorem bindC_at {k : Str → Option NameKind} {x : Str} {v : Value} : ∀ {r : List (Str × Value)} {m : Str → Option Value},(r.map (·.1)).Nodup → (x,v) ∈ r → k x ≠ some .local → bindC k r m x = some v
  | (n,u) :: r,m,hn,hm,hk => by
    rw [List.map_cons,List.nodup_cons] at hn
    unfold bindC
    rcases List.mem_cons.mp hm with e | hm
    · cases e
      rw [kkb hn.1,if_neg hk]; exact if_pos rfl
    · exact bindC_at hn.2 hm hk
theorem kcp {x : Str} : ∀ {names : List (Str × NameKind)} {n : Nat} {acc : List (Str × Addr)},((x,NameKind.cell) ∈ names ∨ (acc.lookup x).isSome = true) → ((cellsFrom n names acc).lookup x).isSome = true
  | [],_,_,h => by rcases h with h | h; exact nomatch h; exact h
  | (y,k) :: r,n,acc,h => by
    unfold cellsFrom
    split
    · rename_i hk
      refine kcp ?_
      rcases h with h | h
      · rcases List.mem_cons.mp h with e | h
        · cases e; refine .inr ?_; rw [List.lookup_cons]; simp
        · exact .inl h
      · refine .inr ?_
        rw [List.lookup_cons]; split <;> first | rfl | exact h
    · rename_i hk
      refine kcp ?_
      rcases h with h | h
      · rcases List.mem_cons.mp h with e | h
        · cases e; exact absurd rfl hk
        · exact .inl h
      · exact .inr h
theorem kho {x : Str} {c : Addr} : ∀ {names : List (Str × NameKind)} {n : Nat} {acc : List (Str × Addr)},(x,c) ∈ cellsFrom n names acc → (x,c) ∈ acc ∨ n ≤ c
  | [],_,_,h => .inl h
  | (y,k) :: r,n,acc,h => by
    unfold cellsFrom at h
    split at h
    · rcases kho h with h | h
      · rcases List.mem_cons.mp h with e | h
        · cases e; exact .inr (Nat.le_refl _)
        · exact .inl h
      · exact .inr (Nat.le_of_succ_le h)
    · exact kho h
structure FnAt (K : Frag) (a : Addr) (fd : FuncData) (body : List Stmt) (sc : Sc) : Prop where
  obj : ∃ o,K.lookup a = some o ∧ o.data = .func fd
  code : ∃ c o vs t,fd.code = .ref c ∧ K.lookup c = some o ∧ o.data = .fields vs ∧ vs[1]? = some (.str fd.qualname t)
  body : fd.body = .stmts body
  names : fd.scope.names = sc.names
  kind : fd.scope.kind = .function
  clo : fd.closure = []
  globals : fd.globals = mainGlobals
  builtins : fd.builtins = builtinsNs
  co : fd.scope.isCoroutine = false
  gen : fd.scope.isGenerator = false
section
variable {g : Gl} {sc : Sc} {q : Bool} {d : Nat}
theorem kk2 {x y z : Shared} {h : Heap} {t : Nat} (a : x = { y with heap := x.heap,toks := x.toks }) (b : y = { z with heap := h,toks := t }) : x = { z with heap := x.heap,toks := x.toks } := by subst b; exact a
theorem FnAt.codeRec {K : Frag} {a : Addr} {fd : FuncData} {body : List Stmt} {h : Heap} (F : FnAt K a fd body sc) (X : K.In h) : h.CodeRec fd.code fd.qualname := by
  obtain ⟨c,o,vs,t,e,k,r⟩ := F.code
  exact ⟨c,o,vs,t,e,X _ _ k,r⟩
noncomputable abbrev frame0 (n : Nat) (vs : List V) : Fm := vs.map some ++ List.replicate (n - vs.length) none
theorem ok_call {n : Nat} {m : M AF} {vs : List V} {f : Fm} {H : Hp} {Φ : V → Fm → Hp → Prop} (e : ok (call n m vs) f H Φ) : ok m (frame0 n vs) H fun r _ H' => ∃ v,retV r = some v ∧ Φ v f H' := by
  obtain ⟨b,f',H',e,h⟩ := e
  unfold call at e
  split at e
  · rename_i r f₁ H₁ q
    obtain ⟨v,hv,e⟩ := Option.map_eq_some_iff.mp e
    cases e
    exact ⟨r,f₁,_,q,_,hv,h⟩
  · cases e
theorem zip_get {α β : Type} {l₁ : List α} {l₂ : List β} {i : Nat} {a : α} {b : β} (h1 : l₁[i]? = some a) (h2 : l₂[i]? = some b) : (a,b) ∈ l₁.zip l₂ :=
  List.mem_of_getElem? (i := i) (by rw [List.getElem?_zip_eq_some]; exact ⟨h1,h2⟩)
theorem frame0_get {vs : List V} {n i : Nat} {v : V} (h : (frame0 n vs)[i]? = some (some v)) : vs[i]? = some v := by
  rcases Nat.lt_or_ge i vs.length with hl | hl
  · rw [List.getElem?_append_left (by simpa using hl),List.getElem?_map] at h
    cases hx : vs[i]? with
    | none => rw [hx] at h; cases h
    | some x => rw [hx] at h; cases h; rfl
  · rw [List.getElem?_append_right (by simpa using hl),List.getElem?_replicate] at h
    split at h <;> cases h
theorem vs_keep {ρ : RM} {h h' : Heap} {vs : List V} {vals : List Value} (r : VsR ρ h vs vals) (hk : ∀ b o,h.get? b = some o → h'.get? b = some o) : VsR ρ h' vs vals :=
  Paired.mono (fun _ _ => VR.mono List.prefix_rfl fun b o _ e => hk b o e) r
def Binds (g : Gl) (fd : FuncData) (ps : List Str) (np : Nat → Prop) (G : List V → Option (List V)) : Prop :=
  ∀ (h : Heap) (ρ : RM) (s : Shared) (vs vs' : List V) (vals : List Value),s.heap = h → np vs.length → (∀ b o,g.h₀.get? b = some o → h.get? b = some o) → VsR ρ h vs vals → G vs = some vs' →
    ∀ (A' : Around) (E : Value → Shared → Prop) (Q : List (Str × Value) → Shared → Prop),(∀ h₁ vals',(∀ b o,h.get? b = some o → h₁.get? b = some o) → VsR ρ h₁ vs' vals' → vals'.length = ps.length → Q (ps.zip vals') { s with heap := h₁ }) →
      wpAny (model g.prog g.w) A' (bindArgs fd ⟨vals,[]⟩) Q E s
theorem kj9 {fd : FuncData} {ps : List Str} (hb : ∀ vals : List Value,vals.length = ps.length → bindArgs fd ⟨vals,[]⟩ = pure (ps.zip vals)) : Binds g fd ps (· = ps.length) some := by
  intro h ρ s vs vs' vals hs hn _ r hg A' E Q k
  cases hg
  subst hs
  rw [hb vals (by rw [← Paired.length r]; exact hn)]
  exact wpAny_pure (k s.heap vals (fun _ _ e => e) r (by rw [← Paired.length r]; exact hn))
def CallGen (g : Gl) (q : Bool) (d : Nat) (fv : Value) (np : Nat → Prop) (m : List V → M V) : Prop :=
  ∀ ⦃sc : Sc⦄ ⦃z : Fc sc q d⦄ (σ : St g z) (vs : List V) (vals : List Value) (Φ : V → Fm → Hp → Prop) (R : Result → Shared → Prop),np vs.length → VsR σ.ρ σ.s.heap vs vals → ok (m vs) σ.f σ.H Φ →
    (∀ (τ : St g z) a b,To σ τ → Φ b τ.f τ.H → VR τ.ρ τ.s.heap b a → R (.ok (.ret a)) τ.s) → codeAny (model g.prog g.w) z.A (.call fv ⟨vals,[]⟩) R σ.s
theorem CallGen.weaken {d' : Nat} {fv : Value} {np : Nat → Prop} {m : List V → M V} (h : CallGen g q d fv np m) (hd : d ≤ d') : CallGen g q d' fv np m :=
  fun sc z σ vs vals Φ R hl r e k => h (z := z.weaken id hd) ⟨σ.ρ,σ.f,σ.H,σ.s,σ.inv⟩ vs vals Φ R hl r e fun τ a b t => k ⟨τ.ρ,τ.f,τ.H,τ.s,τ.inv⟩ a b ⟨t.ext,t.same⟩
theorem CallGen.ok {fv : Value} {np : Nat → Prop} {m : List V → M V} (h : CallGen g q d fv np m) {n : Nat} (hn : np n) : CallOk g q d fv n m :=
  fun _ _ σ vs vals Φ E Q hl r e k => wpAny_call (h σ vs vals Φ _ (hl ▸ hn) r e fun τ a b t e r => k τ a b t e r)
noncomputable def kkt (G : List V → Option (List V)) (n : Nat) (m : M AF) (vs : List V) : M V := orF (G vs) (call n m)
structure Fn1 (g : Gl) (sc : Sc) (a : Addr) (fd : FuncData) (body : List Stmt) (n : Nat) (ps : List Str) : Prop where
  at_ : FnAt g.K a fd body sc
  nodup : (sc.names.map (·.1)).Nodup
  len : sc.names.length = n
  hps : (sc.names.take ps.length).map (·.1) = ps
  kd : ∀ x ∈ sc.names.take ps.length,x.2 = NameKind.local ∨ x.2 = NameKind.cell
  pl : ps.length ≤ n
theorem Fn1.name {a : Addr} {fd : FuncData} {body : List Stmt} {n : Nat} {ps : List Str} (F : Fn1 g sc a fd body n ps) {i : Nat} {x : Str} (h : ps[i]? = some x) : ∃ kd,sc.names[i]? = some (x,kd) ∧ (kd = NameKind.local ∨ kd = NameKind.cell) := by
  have hi := (List.getElem?_eq_some_iff.mp h).1
  rw [← F.hps,List.getElem?_map] at h
  cases hx : (sc.names.take ps.length)[i]? with
  | none => rw [hx] at h; cases h
  | some y =>
    rw [hx] at h; cases h
    refine ⟨y.2,?_,F.kd y (List.mem_of_getElem? hx)⟩
    rw [List.getElem?_take_of_lt hi] at hx
    exact hx
theorem kf0 {a : Addr} {fd : FuncData} {body : List Stmt} {ps : List Str} {np : Nat → Prop} {G : List V → Option (List V)} {n : Nat} {m : M AF} (F : Fn1 g sc a fd body n ps) (hb : Binds g fd ps np G) (hbody : RB g sc q d body m) : CallGen g q (d + 1) (.ref a) np (kkt G n m) := by
  intro sc₀ z₀ σ₀ vs₀ vals₀ Φ R hlen₀ r₀ e₀ k
  obtain ⟨vs,hgv,e₁⟩ := kge e₀
  have eb := ok_call e₁
  obtain ⟨o,ho,hdata⟩ := F.at_.obj
  refine codeAny_call_function (body := body) (by have := z₀.cx.depth; unfold recursionLimit; omega) (σ₀.kin _ _ ho) hdata F.at_.co F.at_.gen F.at_.body (F.at_.codeRec σ₀.kin) ?_
  refine hb _ σ₀.ρ σ₀.s vs₀ vs vals₀ rfl hlen₀ σ₀.inv.base r₀ hgv _ _ _ fun h₁ vals hk₁ r hvl => ?_
  have hlen : vs.length = ps.length := by rw [Paired.length r]; exact hvl
  have psd : ps.Nodup := by rw [← F.hps,List.map_take]; exact F.nodup.sublist (List.take_sublist _ _)
  have znd : ((ps.zip vals).map (·.1)).Nodup := by rw [List.map_fst_zip (by omega)]; exact psd
  have hkind : ∀ {i : Nat} {x : Str} {kd : NameKind},sc.names[i]? = some (x,kd) → fd.scope.names.lookup x = some kd := fun h => by rw [F.at_.names]; exact kcl F.nodup h
  rw [F.at_.clo]
  refine wpAny_newFunctionEnv_cells (s := { σ₀.s with heap := h₁ }) F.at_.kind (fun y hy => ?_) fun env' henv' s₁ ic => ⟨(g.bs.nolimit.keeps fun b o e => hk₁ b o (σ₀.inv.base b o e)).keeps ic.toInCall.keep,codeAny_func ?_⟩
  · have hm : y.1 ∈ ps := (List.of_mem_zip hy).1
    obtain ⟨i,hi⟩ := List.getElem?_of_mem hm
    obtain ⟨kd,hkd',hor⟩ := F.name hi
    rcases hor with rfl | rfl
    · exact .inl (hkind hkd')
    · exact .inr ⟨hkind hkd',kcp (.inl (by rw [F.at_.names]; exact List.mem_of_getElem? hkd'))⟩
  · have henv : newEnv fd.scope h₁.objs.size fd.globals (cellsFrom (h₁.objs.size + 1) fd.scope.names []) (fd.qualname ++ ".<locals>.") (some a) fd.code none fd.builtins = env' := henv'.symm
    have en : env'.scope.names = sc.names := by rw [← henv]; exact F.at_.names
    have ek : env'.scope.kind = .function := by rw [← henv]; exact F.at_.kind
    have el : env'.locals = h₁.objs.size := by rw [← henv]; rfl
    have ef : env'.frame = some env'.locals := by rw [← henv]; rfl
    have ec : env'.cells = cellsFrom (h₁.objs.size + 1) sc.names [] := by rw [← henv,← F.at_.names]; rfl
    have ekd : ∀ {i : Nat} {x : Str} {kd : NameKind},sc.names[i]? = some (x,kd) → env'.kindOf x = some kd := fun h => by unfold Env.kindOf; rw [en]; exact kcl F.nodup h
    obtain ⟨h₂,t₁,hs₁⟩ := ic.toInCall.same
    have keep : ∀ b o,h₁.get? b = some o → s₁.heap.get? b = some o := ic.toInCall.keep
    have VS := vs_keep r keep
    have hcl : ∀ x c,(x,c) ∈ env'.cells → env'.locals < c := ic.above
    have val_at : ∀ {i : Nat} {x : Str} {kd : NameKind} {v : V},sc.names[i]? = some (x,kd) → (frame0 n vs)[i]? = some (some v) → ∃ val,(x,val) ∈ ps.zip vals ∧ VR σ₀.ρ s₁.heap v val := fun {i x kd v} hx hv => by
      have hv := frame0_get hv
      obtain ⟨val,hval,rv⟩ := pget VS hv
      have hi : i < ps.length := by rw [← hlen]; exact (List.getElem?_eq_some_iff.mp hv).1
      obtain ⟨kd',hkd',_⟩ := F.name (i := i) (x := ps[i]) (by simp [hi])
      rw [hx] at hkd'; cases hkd'
      exact ⟨val,zip_get (by simp [hi]) hval,rv⟩
    have I' : Inv g.prog g.w g.h₀ (z₀.A.deeper env') env' (env'.locals :: sc.cells.filterMap (env'.cells.lookup ·)) σ₀.ρ (frame0 n vs) σ₀.H s₁.heap := by
      refine (σ₀.inv.keeps hk₁).1.enter keep (by rw [el]; exact Nat.le_refl _) hcl ic.apart (fun n c h => ⟨_,ic.cell n c h⟩) (by rw [en,List.length_append,List.length_map,List.length_replicate]; have := F.pl; have := F.len; omega) sc.cells ⟨_,ic.toInCall.ns,fun i x v hx hv => ?_⟩ (fun i x hx => ?_) (.inr ⟨rfl,by rw [ek]; decide,ef⟩)
      · rw [en] at hx
        obtain ⟨val,hm,rv⟩ := val_at hx hv
        exact ⟨val,kmg znd hm (ekd hx),rv⟩
      · rw [en] at hx
        obtain ⟨c,hc⟩ : ∃ c,env'.cells.lookup x = some c := by rw [ec]; exact Option.isSome_iff_exists.mp (kcp (.inl (List.mem_of_getElem? hx)))
        refine ⟨c,_,hc,ic.cell x c hc,fun v hv => ?_⟩
        obtain ⟨val,hm,rv⟩ := val_at hx hv
        exact ⟨val,bindC_at znd hm (by rw [ekd hx]; decide),rv⟩
    have C' : Cx sc q d (z₀.A.deeper env') env' (env'.locals :: sc.cells.filterMap (env'.cells.lookup ·)) := by
      refine ⟨en,ek,by rw [← henv]; exact F.at_.globals,by rw [← henv]; exact F.at_.builtins,List.mem_cons_self,fun x hx c hc => List.mem_cons_of_mem _ (List.mem_filterMap.mpr ⟨x,hx,hc⟩),z₀.cx.handled,?_,?_,fun _ => ?_⟩
      · have := z₀.cx.depth; show z₀.A.depth + 1 + d < 900; omega
      · have := z₀.cx.units; show z₀.A.units + 3 + 10 * d < 8900; omega
      · obtain ⟨l,el',_⟩ := σ₀.inv.frs
        exact ⟨l,by show z₀.A.frames.map (env' :: ·) = _; rw [el']; rfl,ef⟩
    refine hbody ⟨_,_,_,C'⟩ ⟨σ₀.ρ,_,σ₀.H,s₁,I'⟩ _ _ _ eb fun τ fl x t e rf => ?_
    have hX' : ∀ b ∈ env'.locals :: sc.cells.filterMap (env'.cells.lookup ·),h₁.get? b = none := fun b hb => kfw (by
      rcases List.mem_cons.mp hb with rfl | hb
      · rw [el]; exact Nat.le_refl _
      · obtain ⟨x,_,hx⟩ := List.mem_filterMap.mp hb
        exact Nat.le_of_lt (el ▸ hcl x b (PySem.mem_of_lookup hx)))
    obtain ⟨v,hv,e⟩ := e
    have back := (σ₀.inv.keeps hk₁).1.leave τ.inv keep hX' t.ext
    have ts : τ.s = { σ₀.s with heap := τ.s.heap,toks := τ.s.toks } := kk2 t.same hs₁
    have fin : ∀ val,VR τ.ρ τ.s.heap v val → R (.ok (.ret val)) τ.s := fun val rv => by
      rw [ts]
      exact k (σ₀.to τ.ρ σ₀.f τ.H τ.s.heap τ.s.toks back.1) val v ⟨(σ₀.inv.keeps hk₁).2.trans back.2,by rfl⟩ e rv
    cases x with
    | next => cases rf; cases hv; exact fin .none rfl
    | ret v' => obtain ⟨val,rfl,rv⟩ := rf; cases hv; exact fin val rv
    | brk => cases hv
    | cont => cases hv
theorem call_def {a : Addr} {fd : FuncData} {body : List Stmt} {ps : List Str} {n : Nat} {m : M AF} (F : Fn1 g sc a fd body n ps) (hb : ∀ vals : List Value,vals.length = ps.length → bindArgs fd ⟨vals,[]⟩ = pure (ps.zip vals)) (hbody : RB g sc q d body m) : CallOk g q (d + 1) (.ref a) ps.length (call n m) :=
  (kf0 (np := (· = ps.length)) (G := some) F (kj9 hb) hbody).ok rfl
end
end Mine
namespace Mine
open PySem PySem.W PySem.Calls PyProof.Rows
section
variable {prog : Program} {w : World} {A : Around} {E : Value → Shared → Prop} {s : Shared}
theorem dset_at {d : Addr} {kvs : List (Int × Value)} {ep : Nat} {k : Int} {t : Tok} {v : Value} {Q : Unit → Shared → Prop} (hm : s.heap.DictAt (intKind prog w) d kvs ep) (hsz : kvs.length ≤ sizeLine)
    (hQ : ∀ h',h'.DictAt (intKind prog w) d (stored kvs k v) (if kvs.any (fun kv => kv.1 = k) then ep else ep + 1) → Heap.SameBut d s.heap h' → Q () { s with heap := h',toks := s.toks + 1 }) :
    wpAny (model prog w) A (dictSet d (.int k t) v) Q E s := by
  have hkey : (intKind prog w).is k (.int k t) = true := intKind_is prog w k t
  obtain ⟨o,es,ho,hc,hd,hk,hp,hn⟩ := hm
  have esl : es.toList.length = es.size := by simp
  have hes : es.size ≤ sizeLine := by have := hp.length; omega
  unfold dictSet
  try with_reducible refine wpAny_holding ?_
  refine wpAny_bind ((intKind prog w).pyHash hkey ?_)
  unfold dictSetHashed
  try with_reducible refine wpAny_holding ?_
  refine wpAny_bind (wpAny_dictFind_of (s := { s with toks := s.toks + 1 }) hkey ho hd hk ?_)
  have toL : (es.findIdx? fun e => (intKind prog w).is k e.key) = es.toList.findIdx? fun e => (intKind prog w).is k e.key := by cases es; simp
  cases hi : es.findIdx? fun e => (intKind prog w).is k e.key with
  | some i =>
    have hl := toL.symm.trans hi
    have any : (kvs.any fun kv => decide (kv.1 = k)) = true := any_of_findIdx_some ((hp.findIdx k).symm.trans hl)
    refine wpAny_bind (wpAny_rule (wpAny_bind (wpAny_updateDict (s := { s with toks := s.toks + 1 }) ho hd (wpAny_point (hQ _ ⟨_,_,Heap.get?_update_self _ ho (Obj.isFreed_of_dict (Obj.data_mapDict hd _)),hc.mapDict _,(by rw [if_pos any]; exact Obj.data_mapDict hd _),hk.modify _ _,?_,?_⟩ (Heap.SameBut.update ..))))))
    · rw [stored,if_pos any]
      have := hp.modify hn hl v
      cases es; simpa using this
    · rw [stored,if_pos any,keys_map_store]; exact hn
  | none =>
    have hl := toL.symm.trans hi
    have hnot : k ∉ kvs.map (·.1) := not_mem_of_findIdx_none ((hp.findIdx k).symm.trans hl)
    have any : ¬ (kvs.any fun kv => decide (kv.1 = k)) = true := fun h => by
      obtain ⟨kv,hkv,he⟩ := List.any_eq_true.mp h
      exact hnot (List.mem_map.mpr ⟨kv,hkv,of_decide_eq_true he⟩)
    refine wpAny_bind (wpAny_rule (wpAny_updateDictKeys (hz := hes) (s := { s with toks := s.toks + 1 }) ho hd (hQ _ ⟨_,_,Heap.get?_update_self _ ho (Obj.isFreed_of_dict (Obj.data_mapDictKeys hd _)),hc.mapDictKeys _,(by rw [if_neg any]; exact Obj.data_mapDictKeys hd _),hk.push hkey _,?_,?_⟩ (Heap.SameBut.update ..))))
    · rw [stored,if_neg any]
      have := hp.append hkey ((intKind prog w).hash k) v
      cases es; simpa using this
    · rw [stored,if_neg any,List.map_append,List.nodup_append]
      refine ⟨hn,by simp,fun a ha b hb => ?_⟩
      rw [List.map_cons,List.map_nil,List.mem_singleton] at hb
      subst hb
      exact fun e => hnot (e ▸ ha)
theorem dtake_at {d : Addr} {kvs : List (Int × Value)} {ep : Nat} {k : Int} {t : Tok} {Q : Option DictEntry → Shared → Prop} (hm : s.heap.DictAt (intKind prog w) d kvs ep) (hsz : kvs.length ≤ sizeLine) (hin : k ∈ kvs.map (·.1))
    (hQ : ∀ e h',h'.DictAt (intKind prog w) d (without kvs k) (ep + 1) → Heap.SameBut d s.heap h' → Q (some e) { s with heap := h',toks := s.toks + 1 }) :
    wpAny (model prog w) A (Builtin.Dict.takeOut d (.int k t)) Q E s := by
  have hkey : (intKind prog w).is k (.int k t) = true := intKind_is prog w k t
  obtain ⟨o,es,ho,hc,hd,hk,hp,hn⟩ := hm
  have esl : es.toList.length = es.size := by simp
  have hes : es.size ≤ sizeLine := by have := hp.length; omega
  unfold Builtin.Dict.takeOut
  try with_reducible refine wpAny_holding ?_
  refine wpAny_bind ((intKind prog w).pyHash hkey ?_)
  refine wpAny_bind (wpAny_dictFind_of (s := { s with toks := s.toks + 1 }) hkey ho hd hk ?_)
  have toL : (es.findIdx? fun e => (intKind prog w).is k e.key) = es.toList.findIdx? fun e => (intKind prog w).is k e.key := by cases es; simp
  cases hi : es.findIdx? fun e => (intKind prog w).is k e.key with
  | none => exact absurd hin (not_mem_of_findIdx_none ((hp.findIdx k).symm.trans (toL.symm.trans hi)))
  | some i =>
    have hl := toL.symm.trans hi
    obtain ⟨e,he,hek,hev⟩ := hp.at hl
    refine wpAny_bind (wpAny_dictEntries (s := { s with toks := s.toks + 1 }) ho hd ?_)
    rw [show es[i]? = some e by rw [← he]; cases es; simp]
    refine wpAny_bind (wpAny_updateDictKeys (hz := hes) (s := { s with toks := s.toks + 1 }) ho hd (wpAny_pure (hQ e _ ⟨_,_,Heap.get?_update_self _ ho (Obj.isFreed_of_dict (Obj.data_mapDictKeys hd _)),hc.mapDictKeys _,Obj.data_mapDictKeys hd _,hk.erase _,?_,nodup_without hn k⟩ (Heap.SameBut.update ..))))
    have := hp.erase hn hl
    cases es; simpa using this
theorem dset_item {d : Addr} {kvs : List (Int × Value)} {ep : Nat} {k : Int} {t : Tok} {v : Value} {Q : Unit → Shared → Prop} (hm : s.heap.DictAt (intKind prog w) d kvs ep) (hsz : kvs.length ≤ sizeLine)
    (hQ : ∀ h',h'.DictAt (intKind prog w) d (stored kvs k v) (if kvs.any (fun kv => kv.1 = k) then ep else ep + 1) → Heap.SameBut d s.heap h' → Q () { s with heap := h',toks := s.toks + 1 }) :
    wpAny (model prog w) A (setItem (.ref d) (.int k t) v) Q E s := by
  have hT := hm.dictOf.typeIs
  unfold setItem
  try with_reducible refine wpAny_holding ?_
  refine wpAny_bind (wpAny_sequenceKey hT (by decide) ?_)
  refine wpAny_bind (wpAny_callSpecial?_slot (name := Str.ofString "__setitem__") hT slot_dict_setitem (wpAny_call_entry slot_dict_setitem hT entry_dict_setitem ?_ (args_dict_setitem _ _ _)))
  show wpAny _ _ (Builtin.Dict.notOrdered "__setitem__" ⟨[.ref d,.int k t,v],[]⟩ >>= _) _ _ s
  refine wpAny_bind (wpAny_notOrdered_dict hT ?_)
  show wpAny _ _ (dictSet d (.int k t) v >>= _) _ _ s
  exact wpAny_bind (dset_at hm hsz fun h' a b => wpAny_pure ⟨.none,rfl,wpAny_pure (hQ h' a b)⟩)
theorem ddel_item {d : Addr} {kvs : List (Int × Value)} {ep : Nat} {k : Int} {t : Tok} {Q : Unit → Shared → Prop} (hm : s.heap.DictAt (intKind prog w) d kvs ep) (hsz : kvs.length ≤ sizeLine) (hin : k ∈ kvs.map (·.1))
    (hQ : ∀ h',h'.DictAt (intKind prog w) d (without kvs k) (ep + 1) → Heap.SameBut d s.heap h' → Q () { s with heap := h',toks := s.toks + 1 }) :
    wpAny (model prog w) A (delItem (.ref d) (.int k t)) Q E s := by
  have hT := hm.dictOf.typeIs
  refine wpAny_delItem_slot hT (by decide) F.slot_dict_delitem (wpAny_call_entry F.slot_dict_delitem hT F.entry_dict_delitem ?_ (F.args_dict_delitem_2 _ _))
  unfold Builtin.«dict.__delitem__»
  refine wpAny_bind ?_
  unfold Builtin.Dict.dictSlotArgs
  refine wpAny_bind (wpAny_notOrdered_dict hT ?_)
  show wpAny _ _ (pure (Value.ref d,Value.int k t)) _ _ s
  refine wpAny_pure ?_
  show wpAny _ _ (Builtin.Dict.takeOut d (.int k t) >>= _) _ _ s
  refine wpAny_bind (dtake_at hm hsz hin fun e h' a b => ?_)
  exact wpAny_bind (wpAny_letGo (wpAny_pure ⟨.none,rfl,hQ h' a b⟩))
theorem lset_item {l : Addr} {items : Array Value} {n : Nat} {k : Int} {t : Tok} {v : Value} {Q : Unit → Shared → Prop} (hl : IsL s.heap l items n) (h0 : 0 ≤ k) (hfit : k < 2 ^ 63) (hn : k < items.size)
    (hQ : Q () { s with heap := s.heap.update l (Obj.mapSeq (·.setIfInBounds k.toNat v)) }) : wpAny (model prog w) A (setItem (.ref l) (.int k t) v) Q E s := by
  have hT : s.TypeIs (.ref l) "list" := ⟨_,hl,rfl⟩
  unfold setItem
  try with_reducible refine wpAny_holding ?_
  first | refine wpAny_bind (wpAny_pure ?_) | skip
  refine wpAny_bind (wpAny_sequenceKey hT (by decide) ?_)
  refine wpAny_bind (wpAny_callSpecial?_slot (name := Str.ofString "__setitem__") hT slot_list_setitem (wpAny_call_entry slot_list_setitem hT entry_list_setitem ?_ (args_list_setitem _ _ _)))
  show wpAny _ _ (Builtin.List.listSubscript? (.int k t) >>= _) _ _ s
  refine wpAny_bind (wpAny_listSubscript_int (fitsIndex_of h0 hfit) ?_)
  clear hfit
  obtain ⟨j,rfl⟩ := Int.eq_ofNat_of_zero_le h0
  have hj : j < items.size := by omega
  show wpAny _ _ ((seqItemAt l j >>= fun r => pure (r.map (j,·))) >>= _) _ _ s
  refine wpAny_bind (wpAny_bind (wpAny_seqItemAt hl rfl (wpAny_pure ?_)))
  rw [Array.getElem?_eq_getElem hj]
  show wpAny _ _ (setSeqItemAt l j v >>= _) _ _ s
  refine wpAny_bind (wpAny_setSeqItemAt hl rfl ?_)
  first
    | exact wpAny_bind (wpAny_pure (wpAny_pure ⟨.none,rfl,wpAny_pure hQ⟩))
    | exact wpAny_pure ⟨.none,rfl,wpAny_pure hQ⟩
end
end Mine
namespace Mine
open PySem PySem.W PySem.Calls PyProof.Rows
theorem getIdx_some {α : Type} {xs : List α} {i : Int} {x : α} (h : khm xs i = some x) : (0 ≤ i ∧ i < xs.length ∧ xs[i.toNat]? = some x) ∨ (i < 0 ∧ -(xs.length : Int) ≤ i ∧ xs[(i + xs.length).toNat]? = some x) := by
  unfold khm at h
  split at h
  · rename_i h0
    have := (List.getElem?_eq_some_iff.mp h).1
    exact .inl ⟨h0,by omega,h⟩
  · split at h
    · rename_i h0 h1
      exact .inr ⟨by omega,by omega,h⟩
    · cases h
theorem kfe {es : List (Int × At)} {kvs : List (Int × Value)} {F : Int × At → Int × Value → Prop} (hF : ∀ e kv,F e kv → e.1 = kv.1) (p : Paired F es kvs) (i : Int) : (∀ x,es.lookup i = some x → ∃ v,valueAt kvs i = some v ∧ F (i,x) (i,v)) ∧ (es.lookup i = none → valueAt kvs i = none) := by
  induction p with
  | nil => exact ⟨(fun x h => by simp at h),fun _ => rfl⟩
  | @cons a b r r' hh t ih =>
    obtain ⟨k,x⟩ := a
    obtain ⟨k',v⟩ := b
    have hk : k = k' := hF _ _ hh
    subst hk
    by_cases hik : i = k
    · subst hik
      refine ⟨fun y h => ?_,fun h => ?_⟩
      · rw [List.lookup_cons_self] at h; cases h
        exact ⟨v,by simp [valueAt],hh⟩
      · rw [List.lookup_cons_self] at h; cases h
    · have e1 : List.lookup i ((k,x) :: r) = List.lookup i r := by rw [List.lookup_cons,beq_false_of_ne hik]
      have e2 : valueAt ((k,v) :: r') i = valueAt r' i := by
        have : ¬ k = i := fun e => hik e.symm
        simp [valueAt,this]
      rw [e1,e2]; exact ih
section
variable {g : Gl} {sc : Sc} {q : Bool} {d : Nat} {z : Fc sc q d}
theorem St.noTup (σ : St g z) {l l' : Addr} {a : Nat} (hρ : σ.ρ[a]? = some (l,l')) : ∀ b o,kdv o → σ.s.heap.get? b = some o → b ≠ l := fun b o t e q => by
  subst q
  exact (σ.inv.tupFree e t).1 ⟨_,List.mem_of_getElem? hρ,.inl rfl⟩
theorem St.setL_at (σ : St g z) {a n : Nat} {l : Addr} {vs vs' : List Value} {xs' : List V} {G : Array Value → Array Value} (hρ : σ.ρ[a]? = some (l,l)) (hl : σ.s.heap.get? l = some { cls := .type "list",data := .seq vs.toArray n })
    (hg : G vs.toArray = vs'.toArray) (pr : Paired (VR σ.ρ σ.s.heap) xs' vs') (hlim : xs'.length ≤ lim) : OAt g.prog g.w σ.ρ (σ.s.heap.update l (Obj.mapSeq G)) (l,l) (.list xs') :=
  ⟨rfl,vs',⟨_,by have := IsL.update (h := σ.s.heap) (items := vs.toArray) (n := n) hl G; rw [hg] at this; exact this⟩,
    pr.mono fun x v => VR.mono List.prefix_rfl fun b ob t e => (Heap.get?_update_other σ.s.heap _ (Ne.symm (σ.noTup hρ b ob t e))).trans e,hlim⟩
theorem St.other (σ : St g z) {l : Addr} {F : Obj → Obj} : ∀ b ob,b ≠ l → b ≠ l → σ.s.heap.get? b = some ob → (σ.s.heap.update l F).get? b = some ob := fun b ob hb _ e => (Heap.get?_update_other σ.s.heap _ (Ne.symm hb)).trans e
noncomputable abbrev St.setL (σ : St g z) (tk : Nat) {a n : Nat} {l : Addr} {vs vs' : List Value} {xs' : List V} {G : Array Value → Array Value} (hρ : σ.ρ[a]? = some (l,l)) (hl : σ.s.heap.get? l = some { cls := .type "list",data := .seq vs.toArray n })
    (hg : G vs.toArray = vs'.toArray) (pr : Paired (VR σ.ρ σ.s.heap) xs' vs') (hlim : xs'.length ≤ lim) : St g z :=
  σ.turn (σ.s.heap.update l (Obj.mapSeq G)) tk (.list xs') hρ σ.other (σ.setL_at hρ hl hg pr hlim)
noncomputable abbrev St.setD (σ : St g z) (tk : Nat) {a : Nat} {l : Addr} {kvs' : List (Int × Value)} {es' : List (Int × At)} {ep' : Nat} {h' : Heap} (hρ : σ.ρ[a]? = some (l,l)) (hs : Heap.SameBut l σ.s.heap h')
    (hd : h'.DictAt (intKind g.prog g.w) l kvs' ep') (pr : DPr σ.ρ es' kvs') (hlim : es'.length ≤ lim) : St g z :=
  σ.turn h' tk (.dict es' ep') hρ (fun b ob h1 _ e => (hs.2 b h1).trans e) ⟨rfl,kvs',hd,pr,hlim⟩
theorem op_get (σ : St g z) {x y : V} {vx vy : Value} {Φ : V → Fm → Hp → Prop} {E : Value → Shared → Prop} {Q : Value → Shared → Prop} (rx : VR σ.ρ σ.s.heap x vx) (ry : VR σ.ρ σ.s.heap y vy) (e : ok (get x y) σ.f σ.H Φ)
    (k : ∀ tk a b,Φ b σ.f σ.H → VR σ.ρ σ.s.heap b a → Q a { σ.s with toks := tk }) : SubscriptOn (model g.prog g.w) z.A vx vy Q E σ.s := by
  unfold get at e
  split at e
  · obtain ⟨i,e1⟩ := kdl e
    obtain ⟨a,ha,e2⟩ := kge e1
    obtain ⟨T,vs,rfl,hT,pr⟩ := rx
    obtain ⟨t,rfl⟩ := ry
    split at ha
    · rename_i hi
      obtain ⟨val,hval,rv⟩ := pget pr ha
      have hlt := (List.getElem?_eq_some_iff.mp hval).1
      exact ⟨"tuple",_,F.slot_tuple_getitem.lookup,⟨_,hT,rfl⟩,P.getItem_tuple (n := 0) hT (by omega) (by omega) (seqIndex_of hi.1 (by simp; omega)) (by simpa using hval) (k σ.s.toks _ _ (kao e2) rv)⟩
    · cases ha
  · obtain ⟨a,e1⟩ := kc1 e
    obtain ⟨i,e2⟩ := kdl e1
    obtain ⟨o,ho,e3⟩ := ke1 e2
    obtain ⟨t,rfl⟩ := ry
    cases o <;> try exact ka4 e3
    · obtain ⟨v,hv,e4⟩ := kge e3
      obtain ⟨l,vs,n,_,pl,pr,hlim⟩ := σ.list ho rx
      have hlen := Paired.length pr
      unfold lim at hlim
      refine ⟨"list",_,slot_list_getitem.lookup,⟨_,pl,rfl⟩,?_⟩
      rcases getIdx_some hv with ⟨h0,h1,h2⟩ | ⟨h0,h1,h2⟩
      · obtain ⟨val,hval,rv⟩ := pget pr h2
        exact wpAny_getItem_list (IsList.of pl) h0 (by omega) (by simpa using hval) (k σ.s.toks _ _ (kao e4) rv)
      · obtain ⟨val,hval,rv⟩ := pget pr h2
        exact wpAny_getItem_list_neg (IsList.of pl) h0 (by simp only [List.size_toArray]; omega) (by omega) (by simp only [List.size_toArray,← hlen]; simpa using hval) (k σ.s.toks _ _ (kao e4) rv)
    · obtain ⟨v,hv,e4⟩ := kge e3
      obtain ⟨l,kvs,_,dk,pr,_⟩ := σ.dict ho rx
      obtain ⟨val,hval,_,rv⟩ := (kfe (fun _ _ h => h.1) pr i).1 _ hv
      exact ⟨"dict",_,slot_dict_getitem.lookup,dk.dictOf.typeIs,wpAny_getItem_of (intKind_is g.prog g.w i t) dk.dictOf.mapOf hval (k (σ.s.toks + 1) _ _ (kao e4) rv)⟩
theorem sub_on {prog : Program} {w : World} {A : Around} {E : Value → Shared → Prop} {s : Shared} {Q : Value → Shared → Prop} {l i : Expr} {vx vy : Value} (h : SubscriptOn (model prog w) A vx vy Q E s) (hsl : subscripted i false vx vy = operate [vx,vy] (getItem vx vy)) :
    wpAny (model prog w) A (getitemInPython vx) (fun b s₁ => wpAny (model prog w) A (subscripted i b vx vy) (fun r s₂ => wpAny (model prog w) A (letTemporaryGo l vx r >>= fun _ => pure r) Q E s₂) E s₁) E s := by
  obtain ⟨T,id,hl,hT,hg⟩ := h
  rw [getitemInPython_of_ne hT.not_modules]
  refine wpAny_bind (wpAny_specialOf hT hl ?_)
  have fin : wpAny (model prog w) A (subscripted i false vx vy) (fun r s₃ => wpAny (model prog w) A (letTemporaryGo l vx r >>= fun _ => pure r) Q E s₃) E s := by
    rw [hsl]
    exact wpAny_operating (wpAny_mono hg (fun r s₃ h₃ => wpAny_bind (wpAny_letTemporaryGo (wpAny_pure h₃))) fun _ _ x => x)
  first
    | exact wpAny_pure fin
    | exact wpAny_bind (wpAny_pure fin)
    | exact fin
theorem kb4 {l i : Expr} {p : Pos} {a b : M V} (ha : RE g sc q d l a) (hb : RE g sc q d i b) (hsl : ∀ o k,subscripted i false o k = operate [o,k] (getItem o k) := by intro _ _; rfl) : RE g sc q d (.Subscript l i p) (app2 get a b) := by
  intro z σ Φ E Q e k
  rw [eval_Subscript]
  refine wpAny_bind (ha z σ _ E _ (kae e) fun σ₁ vx x t₁ e₁ rx => wpAny_bind (wpAny_holding (hb z σ₁ _ E _ (kae e₁) fun σ₂ vy y t₂ e₂ ry => wpAny_bind (wpAny_standAt ?_))))
  refine wpAny_bind (wpAny_mono (sub_on (op_get σ₂ (t₂.vr rx) ry e₂ fun tk a b e r => k (σ₂.toks tk) a b ((t₁.trans t₂).trans (σ₂.toks_to tk)) e r) (hsl _ _)) (fun _ _ h => wpAny_bind h) fun _ _ x => x)
end
end Mine
namespace Mine
open PySem PySem.W PySem.Calls PyProof.Rows
theorem handed {ρ : RM} {a : At} {v : Value} (h : AtR ρ a v) : handedIn v = true := by
  cases a with
  | none => have : v = .none := h; subst this; rfl
  | bool b => have : v = .bool b := h; subst this; rfl
  | int i => obtain ⟨t,rfl⟩ := h; rfl
  | str x => obtain ⟨t,rfl⟩ := h; rfl
  | bytes b => obtain ⟨t,rfl⟩ := h; rfl
  | ref i => obtain ⟨p,_,rfl⟩ := h; rfl
theorem key_isStr {e : DictEntry} {y x : Str} (h : ∃ t,e.key = .str y t) : e.key.isStr x = decide (y = x) := by
  obtain ⟨t,h⟩ := h
  rw [h]; rfl
section
variable {P : Params} {ρ : RM}
theorem kgs {x : Str} {fs : List (Str × At)} {es : List DictEntry} (p : Paired (FieldR P ρ) fs es) : (∀ a,fs.lookup x = some a → ∃ v,getL x es = some (some v) ∧ AtR ρ a v) ∧ (fs.lookup x = none → getL x es = some none) := by
  induction p with
  | nil => exact ⟨(fun a h => by simp at h),fun _ => rfl⟩
  | @cons a e r r' hh t ih =>
    obtain ⟨y,u⟩ := a
    have hk := key_isStr (x := x) hh.2.1
    have hr : e.refKey = false := by obtain ⟨t,q⟩ := hh.2.1; unfold DictEntry.refKey; rw [q]
    by_cases hyx : y = x
    · subst hyx
      refine ⟨fun a h => ?_,fun h => ?_⟩
      · rw [List.lookup_cons_self] at h; cases h
        exact ⟨e.val,by unfold getL; rw [List.find?_cons,hk,decide_eq_true rfl],hh.2.2⟩
      · rw [List.lookup_cons_self] at h; cases h
    · have e1 : List.lookup x ((y,u) :: r) = List.lookup x r := by rw [List.lookup_cons,beq_false_of_ne (Ne.symm hyx)]
      have e2 : getL x (e :: r') = getL x r' := by
        unfold getL
        rw [List.find?_cons,hk,decide_eq_false hyx,List.any_cons,hr,Bool.false_or]
      rw [e1,e2]; exact ih
theorem fields_put {x : Str} {a : At} {v : Value} {t : Tok} (hv : AtR ρ a v) {fs : List (Str × At)} {es : List DictEntry} (p : Paired (FieldR P ρ) fs es) : Paired (FieldR P ρ) (ke6 fs x a) (putL x (PyData.keyHash P x) (.str x t) v es) := by
  induction p with
  | nil => exact .cons ⟨rfl,⟨t,rfl⟩,hv⟩ .nil
  | @cons a' e r r' hh tl ih =>
    obtain ⟨y,u⟩ := a'
    have hk := key_isStr (x := x) hh.2.1
    unfold ke6 putL
    rw [hk]
    by_cases hyx : y = x
    · rw [if_pos hyx,if_pos (decide_eq_true hyx)]
      exact .cons ⟨hh.1,hh.2.1,hv⟩ tl
    · rw [if_neg hyx,if_neg (by rw [decide_eq_false hyx]; decide)]
      exact .cons hh ih
theorem putL_len {x : Str} {hs : Int} {k v : Value} : ∀ {es : List DictEntry},(putL x hs k v es).length ≤ es.length + 1
  | [] => Nat.le_refl _
  | e :: r => by
    unfold putL
    split
    · simp
    · have := putL_len (x := x) (hs := hs) (k := k) (v := v) (es := r); simp only [List.length_cons]; omega
theorem klj {a : At} {v : Value} (hv : AtR ρ a v) (sl : Array (Option Value)) (i : Nat) (b : Option At) (j : Nat) (h : SlotR ρ b sl[j]?) :
    SlotR ρ (if j = i then some a else b) ((sl ++ Array.replicate (i + 1 - sl.size) none).setIfInBounds i (some v))[j]? := by
  have hsz : i < (sl ++ Array.replicate (i + 1 - sl.size) none).size := by simp; omega
  rw [Array.getElem?_setIfInBounds]
  by_cases hij : i = j
  · subst hij
    rw [if_pos rfl,if_pos rfl,if_pos hsz]
    exact ⟨v,rfl,hv⟩
  · rw [if_neg (Ne.symm hij),if_neg hij]
    rcases Nat.lt_or_ge j sl.size with hj | hj
    · rw [Array.getElem?_append_left hj]; exact h
    · rw [Array.getElem?_eq_none (xs := sl) hj] at h
      have hb : b = none := by
        cases b with
        | none => rfl
        | some y => obtain ⟨_,q,_⟩ := h; cases q
      subst hb
      rw [Array.getElem?_append_right hj,Array.getElem?_replicate]
      split <;> rfl
end
section
variable {prog : Program} {w : World} {h₀ : Heap}
variable {A : Around} {env : Env} {X : List Addr} {ρ : RM} {f : Fm} {H : Hp} {s : Shared}
theorem Inv.turnL {h h' : Heap} (I : Inv prog w h₀ A env X ρ f H h) {i : Nat} {p : Addr × Addr} {o : O} (hi : ρ[i]? = some p) (hX : env.locals ∈ X)
    (hk : ∀ b ob,b ≠ env.locals → b ≠ p.1 → b ≠ p.2 → h.get? b = some ob → h'.get? b = some ob) (hns : ∀ m,h.Ns env.locals m → h'.Ns env.locals m) (ho : OAt prog w ρ h' p o) :
    Inv prog w h₀ A env X ρ f (H.set i o) h' ∧ Ext h₀ X ρ h ρ h' := by
  have hm : p ∈ ρ := List.mem_of_getElem? hi
  have own1 : owns ρ p.1 := ⟨p,hm,.inl rfl⟩
  have own2 : owns ρ p.2 := ⟨p,hm,.inr rfl⟩
  obtain ⟨m,n,kn⟩ := I.fr.ns
  obtain ⟨oL,es,ep,eL,dL,_⟩ := id n
  have nL : ∀ b,owns ρ b → b ≠ env.locals := fun b hb q => I.fr.loc.1 (q ▸ hb)
  have kk : ∀ b ob,¬ owns ρ b → b ≠ env.locals → h.get? b = some ob → h'.get? b = some ob := fun b ob hn hL e => hk b ob hL (fun q => hn (q ▸ own1)) (fun q => hn (q ▸ own2)) e
  have tk : ∀ b ob,kdv ob → h.get? b = some ob → h'.get? b = some ob := fun b ob t e =>
    kk b ob (I.tupFree e t).1 (fun q => by subst q; rw [eL] at e; cases e; obtain ⟨vs,rfl⟩ := t; cases dL) e
  refine ⟨⟨fun b ob e => kk b ob (fun q => absurd (Heap.lt_size e) (Nat.not_lt.mpr (I.old b q))) (Nat.ne_of_lt (Nat.lt_of_lt_of_le (Heap.lt_size e) I.fr.loc.2)) (I.base b ob e),I.old,⟨by simp [I.hr.len],I.hr.sep,fun j ob q ea eb => ?_⟩,
    ⟨I.fr.len,⟨m,hns m n,fun i x v a b => let ⟨val,c,r⟩ := kn i x v a b; ⟨val,c,VR.mono List.prefix_rfl tk r⟩⟩,fun i x hx => ?_,I.fr.apart,I.fr.loc⟩,fun a ha => ?_,?_⟩,
    List.prefix_rfl,fun _ a b => absurd a b,fun b ob e hn hXb => ⟨ob.slots,kk b ob hn (fun q => hXb (q ▸ hX)) e,fun _ => rfl⟩,fun a ha => (I.x a ha).2.1⟩
  · by_cases hij : i = j
    · subst hij
      have hl : i < H.length := by rw [I.hr.len]; exact (List.getElem?_eq_some_iff.mp eb).1
      rw [hi] at eb; cases eb
      simp [hl] at ea
      subst ea; exact ho
    · rw [List.getElem?_set_ne hij] at ea
      obtain ⟨a,b,c,dd⟩ := I.hr.sep i j p q hi eb hij
      have hm' := List.mem_of_getElem? eb
      exact (I.hr.at_ j ob q ea eb).mono List.prefix_rfl tk (fun _ e => hk _ _ (nL _ ⟨q,hm',.inl rfl⟩) (Ne.symm a) (Ne.symm c) e) fun _ e => hk _ _ (nL _ ⟨q,hm',.inr rfl⟩) (Ne.symm b) (Ne.symm dd) e
  · obtain ⟨c,oc,a,⟨ob,b,b'⟩,z1,z2,k⟩ := I.fr.cell i x hx
    have hne : c ≠ env.locals := fun q => by subst q; rw [eL] at b; cases b; rw [dL] at b'; cases b'
    exact ⟨c,oc,a,⟨ob,kk _ _ z1 hne b,b'⟩,z1,z2,fun v qv => let ⟨val,c,r⟩ := k v qv; ⟨val,c,VR.mono List.prefix_rfl tk r⟩⟩
  · obtain ⟨q1,q2,ob,e,t⟩ := I.x a ha
    by_cases hq : a = env.locals
    · obtain ⟨o',_,_,e',d',_⟩ := hns m n
      subst hq
      exact ⟨q1,q2,o',e',kd4 d'⟩
    · exact ⟨q1,q2,ob,kk _ _ q2 hq e,t⟩
  · obtain ⟨l,e,k⟩ := I.frs
    refine ⟨l,e,fun v hv => ?_⟩
    obtain ⟨z,L,ob,es,ep,a,b,c,dd,g⟩ := k v hv
    by_cases hq : L = env.locals
    · obtain ⟨o',es',ep',e',d',_⟩ := hns m n
      subst hq
      exact ⟨z,_,o',es',ep',a,b,c,e',d'⟩
    · exact ⟨z,L,ob,es,ep,a,b,c,kk _ _ c hq dd,g⟩
theorem ns_inj {h : Heap} {L : Addr} {m m' : Str → Option Value} (a : h.Ns L m) (b : h.Ns L m') : m = m' := by
  obtain ⟨o,es,ep,e,dd,_,k⟩ := a
  obtain ⟨o',es',ep',e',dd',_,k'⟩ := b
  rw [e] at e'; cases e'
  rw [dd] at dd'; cases dd'
  funext x; rw [← k x,← k' x]
theorem news_all {h : Heap} {L D : Addr} {o : Obj} (hd : h.get? D = some o) (hne : D ≠ L) : ∃ post,News ⟨#[],{}⟩ L h ((D,o) :: post) ∧ (∀ p ∈ post,p.1 ≠ D) ∧ ∀ b ob,b ≠ L → b ≠ D → h.get? b = some ob → (b,ob) ∈ post := by
  have none0 : ∀ b : Addr,(Heap.mk #[] {}).get? b = none := fun b => kfw (Nat.zero_le _)
  refine ⟨(List.range h.objs.size).filterMap fun b => if b = L ∨ b = D then none else (h.get? b).map (b,·),fun p hp => ?_,fun p hp => ?_,fun b ob h1 h2 e => ?_⟩
  · rcases List.mem_cons.mp hp with rfl | hp
    · exact ⟨hd,hne,none0 _⟩
    · obtain ⟨b,_,e⟩ := List.mem_filterMap.mp hp
      split at e
      · cases e
      · rename_i hb
        obtain ⟨ob,e1,rfl⟩ := Option.map_eq_some_iff.mp e
        exact ⟨e1,fun q => hb (.inl q),none0 _⟩
  · obtain ⟨b,_,e⟩ := List.mem_filterMap.mp hp
    split at e
    · cases e
    · rename_i hb
      obtain ⟨ob,e1,rfl⟩ := Option.map_eq_some_iff.mp e
      exact fun q => hb (.inr q)
  · refine List.mem_filterMap.mpr ⟨b,List.mem_range.mpr (Heap.lt_size e),?_⟩
    rw [if_neg (by rintro (q | q); exact h1 q; exact h2 q),e]; rfl
end
theorem klg {ρ : RM} {i : Int} {es : List (Int × At)} {kvs : List (Int × Value)} (p : DPr ρ es kvs) : es.any (fun e => e.1 == i) = kvs.any (fun kv => kv.1 = i) := by
  induction p with
  | nil => rfl
  | cons h _ ih => rw [List.any_cons,List.any_cons,ih,h.1]; rfl
theorem map_paired {ρ : RM} {i : Int} {a : At} {v : Value} (r : AtR ρ a v) {es : List (Int × At)} {kvs : List (Int × Value)} (p : DPr ρ es kvs) :
    DPr ρ (es.map fun e => if e.1 == i then (e.1,a) else e) (kvs.map fun kv => if kv.1 = i then (kv.1,v) else kv) := by
  induction p with
  | nil => exact .nil
  | @cons e kv _ _ h t ih =>
    rw [List.map_cons,List.map_cons]
    refine .cons ?_ ih
    by_cases he : e.1 = i
    · rw [if_pos (by simpa using he),if_pos (by rw [← h.1]; exact he)]; exact ⟨h.1,r⟩
    · rw [if_neg (by simpa using he),if_neg (by rw [← h.1]; exact he)]; exact h
theorem khb {ρ : RM} {es : List (Int × At)} {kvs : List (Int × Value)} {i : Int} {a : At} {v : Value} (pr : DPr ρ es kvs) (r : AtR ρ a v) :
    DPr ρ (kd5 es i a) (stored kvs i v) ∧ es.any (fun e => e.1 == i) = kvs.any (fun kv => kv.1 = i) := by
  have hany := klg (i := i) pr
  refine ⟨?_,hany⟩
  unfold kd5 stored
  rw [hany]
  split
  · exact map_paired r pr
  · exact papp pr (.cons ⟨rfl,r⟩ .nil)
theorem kj1 {es : List (Int × At)} {i : Int} {a : At} : (kd5 es i a).length ≤ es.length + 1 := by
  unfold kd5; split <;> simp
theorem kkk {ρ : RM} {i : Int} {es : List (Int × At)} {kvs : List (Int × Value)} (pr : DPr ρ es kvs) :
    DPr ρ (es.filter fun e => e.1 != i) (without kvs i) := by
  unfold without
  induction pr with
  | nil => exact .nil
  | @cons e kv _ _ h _ ih =>
    rw [List.filter_cons,List.filter_cons]
    by_cases he : e.1 = i
    · rw [if_neg (by simpa using he),if_neg (by rw [← h.1]; simpa using he)]; exact ih
    · rw [if_pos (by simpa using he),if_pos (by rw [← h.1]; simpa using he)]; exact .cons h ih
theorem slotName {x : Str} {i : Nat} (h : (x,i) ∈ [(nSu,2),(nNp,1),(kl0,0)]) : (x = nSu ∧ i = 2) ∨ (x = nNp ∧ i = 1) ∨ (x = kl0 ∧ i = 0) := by
  simp only [List.mem_cons,Prod.mk.injEq,List.not_mem_nil,or_false] at h
  exact h
section
variable {g : Gl} {sc : Sc} {q : Bool} {d : Nat} {z : Fc sc q d}
theorem St.frm (σ : St g z) : ∃ m,Fr g.h₀ z.env.locals σ.s.heap m := by
  obtain ⟨m,n,_⟩ := σ.inv.fr.ns
  exact ⟨m,n,σ.inv.base,σ.inv.fr.loc.2⟩
inductive RefAt (g : Gl) {z : Fc sc q d} (σ : St g z) (a : Nat) (o : O) : Value → Prop
  | mk (p1 p2 : Addr) (hp : σ.ρ[a]? = some (p1,p2)) (oa : OAt g.prog g.w σ.ρ σ.s.heap (p1,p2) o) : RefAt g σ a o (.ref p1)
theorem St.ref (σ : St g z) {a : Nat} {o : O} {v : Value} (ho : σ.H[a]? = some o) (hv : VR σ.ρ σ.s.heap (.at (.ref a)) v) : RefAt g σ a o v := by
  obtain ⟨p,hp,oa⟩ := σ.inv.get ho
  obtain ⟨p',hp',rfl⟩ := hv
  rw [hp] at hp'; cases hp'
  exact ⟨p.1,p.2,hp,oa⟩
theorem op_attr {n : Str} {ex : Bool} (σ : St g z) {x : V} {vx : Value} {Φ : V → Fm → Hp → Prop} {E : Value → Shared → Prop} {Q : Value → Shared → Prop} (rx : VR σ.ρ σ.s.heap x vx) (e : ok (attr x n) σ.f σ.H Φ)
    (k : ∀ (τ : St g z) a b,To σ τ → Φ b τ.f τ.H → VR τ.ρ τ.s.heap b a → Q a τ.s) : wpAny (model g.prog g.w) z.A (getAttr vx n ex) Q E σ.s := by
  obtain ⟨a,e1⟩ := kc1 e
  obtain ⟨o,ho,e2⟩ := ke1 e1
  obtain ⟨m,Fm⟩ := σ.frm
  have fin : ∀ {v : At} {val : Value},Φ (.at v) σ.f σ.H → AtR σ.ρ v val → Q val { σ.s with toks := σ.s.toks + 1 } := fun h rv => k (σ.toks _) _ _ (σ.toks_to _) h rv
  obtain ⟨p1,p2,hp,oa⟩ := σ.ref ho rx
  cases o <;> try exact ka4 e2
  · rename_i fs
    obtain ⟨v,hl,e3⟩ := kge e2
    split at hl
    · rename_i hin
      obtain ⟨es,ne,o1,o2,pr⟩ := oa
      obtain ⟨val,hg,rv⟩ := (kgs pr).1 _ hl
      exact get_own (ox := instObj kdd p2) (es := es) (n := ne) Fm g.bs.kin ⟨o1,rfl,rfl,o2⟩ g.cls.sGet g.cls.sDict (g.cls.sFind _ hin) rfl hg (handed rv) (fin (kao e3) rv)
    · cases hl
  · rename_i su np nd
    obtain ⟨v,hl,e3⟩ := kge e2
    obtain ⟨sl,o1,o2,r0,r1,r2⟩ := oa
    have key : ∀ (i : Nat) (y : Option At),(n,i) ∈ [(nSu,2),(nNp,1),(kl0,0)] → SlotR σ.ρ y sl[i]? → y = some v → wpAny (model g.prog g.w) z.A (getAttr (.ref p1) n ex) Q E σ.s := fun i y hm hs hy => by
      subst hy
      obtain ⟨val,hval,rv⟩ := hs
      obtain ⟨pd,c1,c2,c3,c4,c5⟩ := g.cls.slot n i hm
      exact get_slot (ox := ⟨.ref kha,some p2,.plain,sl⟩) (od := emptyDict) Fm g.bs.kin ⟨o1,rfl,rfl,o2⟩ g.cls.nGet g.cls.nCls c1 c2 c3 c4 (by rw [hval]; rfl) (handed rv) (fin (kao e3) rv)
    split at hl
    · rename_i hn; exact key 2 _ (by rw [hn]; simp) r0 hl
    · split at hl
      · rename_i hn; exact key 1 _ (by rw [hn]; simp) r1 hl
      · split at hl
        · rename_i hn; exact key 0 _ (by rw [hn]; simp) r2 hl
        · cases hl
noncomputable def St.turnL (σ : St g z) (h' : Heap) (tk : Nat) {i : Nat} {p : Addr × Addr} (o : O) (hi : σ.ρ[i]? = some p) (hk : ∀ b ob,b ≠ z.env.locals → b ≠ p.1 → b ≠ p.2 → σ.s.heap.get? b = some ob → h'.get? b = some ob)
    (hns : ∀ m,σ.s.heap.Ns z.env.locals m → h'.Ns z.env.locals m) (ho : OAt g.prog g.w σ.ρ h' p o) : St g z := σ.to σ.ρ σ.f (σ.H.set i o) h' tk (σ.inv.turnL hi z.cx.locX hk hns ho).1
theorem St.turnL_to (σ : St g z) {h' : Heap} {tk : Nat} {i : Nat} {p : Addr × Addr} {o : O} (hi : σ.ρ[i]? = some p) (hk : ∀ b ob,b ≠ z.env.locals → b ≠ p.1 → b ≠ p.2 → σ.s.heap.get? b = some ob → h'.get? b = some ob)
    (hns : ∀ m,σ.s.heap.Ns z.env.locals m → h'.Ns z.env.locals m) (ho : OAt g.prog g.w σ.ρ h' p o) : To σ (σ.turnL h' tk o hi hk hns ho) := ⟨(σ.inv.turnL hi z.cx.locX hk hns ho).2,by rfl⟩
theorem set_inst (σ : St g z) {a : Nat} {n : Str} {v : At} {vx vy : Value} {fs : List (Str × At)} (ho : σ.H[a]? = some (.inst fs)) (rx : VR σ.ρ σ.s.heap (.at (.ref a)) vx) (ry : AtR σ.ρ v vy) (hin : n ∈ instNames ∧ fs.length < 100) {E : Value → Shared → Prop} {Q : Unit → Shared → Prop}
    (k : ∀ (τ : St g z),To σ τ → τ.f = σ.f → τ.H = σ.H.set a (.inst (ke6 fs n v)) → Q () τ.s) : wpAny (model g.prog g.w) z.A (PySem.setAttr vx n vy) Q E σ.s := by
  obtain ⟨m,ns,_⟩ := σ.inv.fr.ns
  have F0 : ∀ t,Fr ⟨#[],{}⟩ z.env.locals ({ σ.s with toks := t } : Shared).heap m := fun _ => ⟨ns,(fun b o e => by rw [kfw (Nat.zero_le _)] at e; cases e),Nat.zero_le _⟩
  have nL : ∀ b,owns σ.ρ b → b ≠ z.env.locals := fun b hb q => σ.inv.fr.loc.1 (q ▸ hb)
  obtain ⟨p1,p2,hp,oa⟩ := σ.ref ho rx
  have hm := List.mem_of_getElem? hp
  obtain ⟨es,ne,o1,o2,pr⟩ := oa
  obtain ⟨post,N,N1,N2⟩ := news_all (L := z.env.locals) o2 (nL _ ⟨_,hm,.inr rfl⟩)
  have hlook : (getL n es).isSome = true := by
    cases hl : fs.lookup n with
    | some v => obtain ⟨val,hg,_⟩ := (kgs pr).1 _ hl; rw [hg]; rfl
    | none => rw [(kgs pr).2 hl]; rfl
  have tak : takerIn g.K kdd n = some none := by unfold takerIn; rw [g.cls.sFind _ hin.1]; rfl
  have hlen : (putL n (PyData.keyHash g.w.params n) (.str n (σ.s.toks + 1)) vy es).length ≤ 1000 := by
    have := putL_len (x := n) (hs := PyData.keyHash g.w.params n) (k := .str n (σ.s.toks + 1)) (v := vy) (es := es)
    have := Paired.length pr
    omega
  refine set_plain σ.kin (ox := instObj kdd p2) (od := some (dictOf es ne)) ⟨o1,rfl,rfl,o2⟩ g.cls.sSet (osa_dict (s := { σ.s with toks := σ.s.toks + 1 }) (pre := []) (F0 _) N σ.kin ⟨o1,rfl,rfl,o2⟩ rfl g.cls.sOver tak g.cls.sDict hlook (fun p hp => nomatch hp) N1
    (putName_dict n _ _ _ es ne) rfl hlen fun h' F' N' => ?_)
  have G : ∀ b ob,b ≠ z.env.locals → b ≠ p2 → σ.s.heap.get? b = some ob → h'.get? b = some ob := fun b ob h1 h2 e => (N' (b,ob) (List.mem_cons_of_mem _ (N2 b ob h1 h2 e))).1
  have hD := (N' (p2,_) List.mem_cons_self).1
  have hne : p1 ≠ p2 := fun q => by rw [q,o2] at o1; cases o1
  exact k (σ.turnL h' _ (.inst (ke6 fs n v)) hp (fun b ob h1 _ h3 e => G b ob h1 h3 e) (fun m' n' => by
    have := ns_inj n' ns
    subst this; exact F'.ns) ⟨_,_,G _ _ (nL _ ⟨_,hm,.inl rfl⟩) hne o1,hD,fields_put ry pr⟩) (σ.turnL_to _ _ _ _) rfl rfl
theorem set_node (σ : St g z) {a : Nat} {n : Str} {v : At} {vx vy : Value} {su np nd : Option At} (ho : σ.H[a]? = some (.node su np nd)) (rx : VR σ.ρ σ.s.heap (.at (.ref a)) vx) (ry : AtR σ.ρ v vy) (i : Nat) (hi : (n,i) ∈ [(nSu,2),(nNp,1),(kl0,0)]) {E : Value → Shared → Prop} {Q : Unit → Shared → Prop}
    (k : ∀ (τ : St g z),To σ τ → τ.f = σ.f → τ.H = σ.H.set a (.node (if 2 = i then some v else su) (if 1 = i then some v else np) (if 0 = i then some v else nd)) → Q () τ.s) : wpAny (model g.prog g.w) z.A (PySem.setAttr vx n vy) Q E σ.s := by
  obtain ⟨m,ns,_⟩ := σ.inv.fr.ns
  have F0 : ∀ t,Fr ⟨#[],{}⟩ z.env.locals ({ σ.s with toks := t } : Shared).heap m := fun _ => ⟨ns,(fun b o e => by rw [kfw (Nat.zero_le _)] at e; cases e),Nat.zero_le _⟩
  have nL : ∀ b,owns σ.ρ b → b ≠ z.env.locals := fun b hb q => σ.inv.fr.loc.1 (q ▸ hb)
  obtain ⟨p1,p2,hp,oa⟩ := σ.ref ho rx
  have hm := List.mem_of_getElem? hp
  obtain ⟨sl,o1,o2,r0,r1,r2⟩ := oa
  have hne : p2 ≠ p1 := fun q => by rw [q,o1] at o2; cases o2
  obtain ⟨pd,c1,c2,c3,c4,c5⟩ := g.cls.slot n i hi
  obtain ⟨post,N,N1,N2⟩ := news_all (L := z.env.locals) o1 (nL _ ⟨_,hm,.inl rfl⟩)
  have tak : takerIn g.K kha n = some (some (.ref pd)) := by unfold takerIn; rw [c1]; show Option.map _ (takesIn g.K (.ref pd)) = _; rw [c3]; rfl
  have hi3 : i < 1000 := by rcases slotName hi with ⟨_,h⟩ | ⟨_,h⟩ | ⟨_,h⟩ <;> omega
  refine set_plain σ.kin (ox := ⟨.ref kha,some p2,.plain,sl⟩) (od := some emptyDict) ⟨o1,rfl,rfl,o2⟩ g.cls.nSet (osa_descr (s := { σ.s with toks := σ.s.toks + 1 }) (od := some emptyDict) KF.slot_mset σ.kin ⟨o1,rfl,rfl,o2⟩ g.cls.nOver tak c5
    (slot_set (s := { σ.s with toks := σ.s.toks + 1 }) (pre := []) (od := some emptyDict) (F0 _) N σ.kin ⟨o1,rfl,rfl,o2⟩ c4 hi3 (fun p hp => nomatch hp) N1 rfl rfl fun h' F' N' => ?_))
  have G : ∀ b ob,b ≠ z.env.locals → b ≠ p1 → σ.s.heap.get? b = some ob → h'.get? b = some ob := fun b ob h1 h2 e => (N' (b,ob) (List.mem_cons_of_mem _ (N2 b ob h1 h2 e))).1
  have hD := (N' (p1,_) List.mem_cons_self).1
  exact k (σ.turnL h' _ (.node (if 2 = i then some v else su) (if 1 = i then some v else np) (if 0 = i then some v else nd)) hp (fun b ob h1 h2 _ e => G b ob h1 h2 e) (fun m' n' => by
    have := ns_inj n' ns
    subst this; exact F'.ns) ⟨_,hD,G _ _ (nL _ ⟨_,hm,.inr rfl⟩) hne o2,klj ry sl i su 2 r0,klj ry sl i np 1 r1,klj ry sl i nd 0 r2⟩) (σ.turnL_to _ _ _ _) rfl rfl
theorem kk5 {n : Str} (σ : St g z) {x y : V} {vx vy : Value} {Φ : Unit → Fm → Hp → Prop} {E : Value → Shared → Prop} {Q : Unit → Shared → Prop} (rx : VR σ.ρ σ.s.heap x vx) (ry : VR σ.ρ σ.s.heap y vy) (e : ok (setAttr x n y) σ.f σ.H Φ)
    (k : ∀ (τ : St g z),To σ τ → Φ () τ.f τ.H → Q () τ.s) : wpAny (model g.prog g.w) z.A (PySem.setAttr vx n vy) Q E σ.s := by
  obtain ⟨a,e1⟩ := kc1 e
  obtain ⟨v,e2⟩ := kk6 e1
  obtain ⟨o,ho,e3⟩ := ke1 e2
  clear e e1 e2
  cases o <;> try exact ka4 e3
  · obtain ⟨hin,e4⟩ := kfh e3
    exact set_inst σ ho rx ry hin fun τ t h1 h2 => k τ t (by rw [h1,h2]; exact khi e4)
  · rename_i su np nd
    have fin : ∀ i o',(n,i) ∈ [(nSu,2),(nNp,1),(kl0,0)] → Φ () σ.f (σ.H.set a o') → o' = .node (if 2 = i then some v else su) (if 1 = i then some v else np) (if 0 = i then some v else nd) → wpAny (model g.prog g.w) z.A (PySem.setAttr vx n vy) Q E σ.s := fun i o' hi h ho' =>
      set_node σ ho rx ry i hi fun τ t h1 h2 => k τ t (by rw [h1,h2,← ho']; exact h)
    unfold setO at e3
    simp only at e3
    split at e3
    · rename_i hn; exact fin 2 _ (by rw [hn]; simp) (khi e3) rfl
    · split at e3
      · rename_i hn; exact fin 1 _ (by rw [hn]; simp) (khi e3) rfl
      · split at e3
        · rename_i hn; exact fin 0 _ (by rw [hn]; simp) (khi e3) rfl
        · exact ka4 e3
end
section
variable {g : Gl} {sc : Sc} {q : Bool} {d : Nat}
theorem kb5 {o : Expr} {n : Str} {p : Pos} {a : M V} (ha : RE g sc q d o a) (hb : ∀ env,attributeBase o n env (eval o env) = eval o env := by intro _; rfl) : RE g sc q d (.Attribute o n p) (app1 (attr · n) a) := by
  intro z σ Φ E Q e k
  rw [arm_eval_Attribute,hb]
  exact wpAny_bind (ha z σ _ E _ (kae e) fun σ₁ vx x t₁ e₁ rx => wpAny_bind (wpAny_standAt (wpAny_bind (wpAny_holding (op_attr σ₁ rx e₁ fun τ a b t e r => wpAny_bind (wpAny_letTemporaryGo (wpAny_pure (k τ a b (t₁.trans t) e r))))))))
theorem kcr {o v : Expr} {n : Str} {p p' : Pos} {a b : M V} (ha : RE g sc q d o a) (hb : RE g sc q d v b) (hs : ∀ env,swapsWithSole [.Attribute o n p] v p'.line env = pure false := by intro _; rfl)
    (hw : ∀ env,swappedStores [.Attribute o n p] v env = pure none := by intro _; rfl) : RS g sc q d (.Assign [.Attribute o n p] v p') (kcu a n b) := by
  intro z σ Φ E Q e k
  refine wpAny_Assign_stores (hb z σ _ E _ (kae e) fun σ₁ vy y t₁ e₁ ry => ?_) (hs z.env) (hw z.env)
  show wpAny (model g.prog g.w) z.A (do
    let ov ← holding [vy] (eval o z.env)
    standAt p.atName
    holding [vy,ov] (PySem.setAttr ov n vy)
    release [vy,ov] []) _ E _
  exact wpAny_bind (wpAny_holding (ha z σ₁ _ E _ (kae e₁) fun σ₂ vx x t₂ e₂ rx => wpAny_bind (wpAny_standAt (wpAny_bind (wpAny_holding (kk5 σ₂ rx (t₂.vr ry) (kae e₂) fun τ t e => wpAny_release (k τ _ _ ((t₁.trans t₂).trans t) (kao e) rfl)))))))
theorem op_binI {z : Fc sc q d} {op : Operator} (σ : St g z) {x y : V} {vx vy : Value} {Φ : V → Fm → Hp → Prop} {E : Value → Shared → Prop} {Q : Value → Shared → Prop} (rx : VR σ.ρ σ.s.heap x vx) (ry : VR σ.ρ σ.s.heap y vy) (e : ok (binI op x y) σ.f σ.H Φ)
    (k : ∀ (τ : St g z) a b,To σ τ → Φ b τ.f τ.H → VR τ.ρ τ.s.heap b a → Q a τ.s) : wpAny (model g.prog g.w) z.A (inplaceOp op vx vy) Q E σ.s := by
  cases op <;> try exact ka4 e
  all_goals
    obtain ⟨i,j,e1⟩ := kjf e
    obtain ⟨t,rfl⟩ := rx; obtain ⟨u,rfl⟩ := ry
    have e2 := (kfh e1).2
    clear e e1
  · exact PyProof.Rows.iadd_int (kie k e2)
  · exact PyProof.Rows.isub_int (kie k e2)
theorem kgq {o v : Expr} {n : Str} {op : Operator} {p p' : Pos} {a b : M V} (ha : RE g sc q d o a) (hb : RE g sc q d v b) : RS g sc q d (.AugAssign (.Attribute o n p) op v p') (kgw a n op b) :=
  fun z σ Φ E Q e k => wpAny_AugAssign_AttributeAny (ha z σ _ E _ (kae e) fun σ₁ vx x t₁ e₁ rx => op_attr σ₁ rx (kae e₁) fun σ₂ vo old t₂ e₂ ro => hb z σ₂ _ E _ (kae e₂) fun σ₃ vy y t₃ e₃ ry => op_binI σ₃ (t₃.vr ro) ry (kae e₃) fun σ₄ vr r t₄ e₄ rr =>
    kk5 σ₄ (t₄.vr (t₃.vr (t₂.vr rx))) rr (kae e₄) fun τ t e => k τ _ _ ((((t₁.trans t₂).trans t₃).trans t₄).trans t) (kao e) rfl)
theorem op_put {z : Fc sc q d} (σ : St g z) {x y u : V} {vx vy vz : Value} {Φ : Unit → Fm → Hp → Prop} {E : Value → Shared → Prop} {Q : Unit → Shared → Prop} (rx : VR σ.ρ σ.s.heap x vx) (ry : VR σ.ρ σ.s.heap y vy) (rz : VR σ.ρ σ.s.heap u vz) (e : ok (put x y u) σ.f σ.H Φ)
    (k : ∀ (τ : St g z),To σ τ → Φ () τ.f τ.H → Q () τ.s) : wpAny (model g.prog g.w) z.A (setItem vx vy vz) Q E σ.s := by
  obtain ⟨a,e1⟩ := kc1 e
  obtain ⟨i,e2⟩ := kdl e1
  obtain ⟨o,ho,e3⟩ := ke1 e2
  clear e e1 e2
  obtain ⟨t,rfl⟩ := ry
  cases o <;> try exact ka4 e3
  · obtain ⟨hi,e4⟩ := kfh e3
    obtain ⟨l,vs,n,hρ,pl,pr,hlim⟩ := σ.list ho rx
    have hlen := Paired.length pr
    refine lset_item pl hi.1 (by unfold lim at hlim; omega) (by simp only [List.size_toArray]; omega) ?_
    exact k (σ.setL σ.s.toks hρ pl (G := (·.setIfInBounds i.toNat vz)) (vs' := vs.set i.toNat vz) (by simp) (pset pr rz i.toNat) (by rw [List.length_set]; exact hlim)) (σ.turn_to _ _ _) (khi e4)
  · obtain ⟨v,e4⟩ := kk6 e3
    obtain ⟨hl,e5⟩ := kfh e4
    obtain ⟨l,kvs,hρ,dk,pr,hlim⟩ := σ.dict ho rx
    have hlen := Paired.length pr
    obtain ⟨pr',hany⟩ := khb (i := i) pr rz
    refine dset_item dk (by unfold lim at hl; unfold sizeLine; omega) fun h' dk' hs => ?_
    rw [← hany] at dk'
    exact k (σ.setD _ hρ hs dk' pr' (by have := kj1 (es := ‹List (Int × At)›) (i := i) (a := v); omega)) (σ.turn_to _ _ _) (khi e5)
theorem kk3 {o i v : Expr} {p p' : Pos} {a b m : M V} (ha : RE g sc q d o a) (hb : RE g sc q d i b) (hv : RE g sc q d v m) (hs : ∀ env,swapsWith v (some (.Subscript o i p)) p'.line env = pure false := by intro _; rfl) :
    RS g sc q d (.Assign [.Subscript o i p] v p') (putS a b m) :=
  fun z σ Φ E Q e k => wpAny_Assign_Subscript (hv z σ _ E _ (kae e) fun σ₁ vz w t₁ e₁ rz => ha z σ₁ _ E _ (kae e₁) fun σ₂ vx x t₂ e₂ rx => hb z σ₂ _ E _ (kae e₂) fun σ₃ vy y t₃ e₃ ry =>
    op_put σ₃ (t₃.vr rx) ry (t₃.vr (t₂.vr rz)) (kae e₃) fun τ t e => k τ _ _ (((t₁.trans t₂).trans t₃).trans t) (kao e) rfl) (hs z.env)
theorem rs_put2 {o i v : Expr} {j : Nat} {n : Str} {p pn p' : Pos} {a b m : M V} (hn : (sc.names.map (·.1)).Nodup) (hj : sc.names[j]? = some (n,.local)) (ha : RE g sc q d o a) (hb : RE g sc q d i b) (hv : RE g sc q d v m)
    (hw : ∀ env,swappedStores [.Subscript o i p,.Name n pn] v env = pure none := by intro _; rfl) : RS g sc q d (.Assign [.Subscript o i p,.Name n pn] v p') (put2S a b j m) := by
  intro z σ Φ E Q e k
  refine wpAny_Assign_two (hv z σ _ E _ (kae e) fun σ₁ vz w t₁ e₁ rz => ?_) rfl (hw z.env)
  rw [assign_Subscript]
  exact wpAny_bind (wpAny_holding (ha z σ₁ _ E _ (kae e₁) fun σ₂ vx x t₂ e₂ rx => wpAny_bind (wpAny_holding (hb z σ₂ _ E _ (kae e₂) fun σ₃ vy y t₃ e₃ ry => wpAny_bind (wpAny_standAt (wpAny_bind (wpAny_holding
    (op_put σ₃ (t₃.vr rx) ry (t₃.vr (t₂.vr rz)) (kae e₃) fun τ t e => wpAny_release (wpAny_assign_Name (kcw τ hn hj (t.vr (t₃.vr (t₂.vr rz))) fun h' tk I' t' => k (τ.to _ _ _ h' tk I') _ _ ((((t₁.trans t₂).trans t₃).trans t).trans t') (kao (ke0 (kae e))) rfl))))))))))
theorem op_del {z : Fc sc q d} (σ : St g z) {x y : V} {vx vy : Value} {Φ : Unit → Fm → Hp → Prop} {E : Value → Shared → Prop} {Q : Unit → Shared → Prop} (rx : VR σ.ρ σ.s.heap x vx) (ry : VR σ.ρ σ.s.heap y vy) (e : ok (del x y) σ.f σ.H Φ)
    (k : ∀ (τ : St g z),To σ τ → Φ () τ.f τ.H → Q () τ.s) : wpAny (model g.prog g.w) z.A (delItem vx vy) Q E σ.s := by
  obtain ⟨a,es,ep,ho,e1⟩ := ok_dct e
  obtain ⟨i,e2⟩ := kdl e1
  obtain ⟨hany,e3⟩ := kfh e2
  obtain ⟨t,rfl⟩ := ry
  obtain ⟨l,kvs,hρ,dk,pr,hlim⟩ := σ.dict ho rx
  have hlen := Paired.length pr
  obtain ⟨e',he',hq⟩ := List.any_eq_true.mp hany
  obtain ⟨j,hj⟩ := List.getElem?_of_mem he'
  obtain ⟨kv,hkv,hk1,_⟩ := pget pr hj
  have hin : i ∈ kvs.map (·.1) := List.mem_map.mpr ⟨kv,List.mem_of_getElem? hkv,by rw [← hk1]; simpa using hq⟩
  exact ddel_item dk (by unfold lim at hlim; unfold sizeLine; omega) hin fun h' dk' hs => k (σ.setD _ hρ hs dk' (kkk pr) (Nat.le_trans (List.length_filter_le _ _) hlim)) (σ.turn_to _ _ _) (khi e3)
theorem rs_del {o i : Expr} {p p' : Pos} {a b : M V} (ha : RE g sc q d o a) (hb : RE g sc q d i b) : RS g sc q d (.Delete [.Subscript o i p] p') (delS a b) := by
  intro z σ Φ E Q e k
  refine wpAny_Delete (wpAny_deleteEach_cons ?_)
  show wpAny (model g.prog g.w) z.A (do
    let ov ← eval o z.env
    let iv ← holding [ov] (eval i z.env)
    standAt p
    holding [ov,iv] (delItem ov iv)
    release [ov,iv] []) _ E _
  exact wpAny_bind (ha z σ _ E _ (kae e) fun σ₁ vx x t₁ e₁ rx => wpAny_bind (wpAny_holding (hb z σ₁ _ E _ (kae e₁) fun σ₂ vy y t₂ e₂ ry => wpAny_bind (wpAny_standAt (wpAny_bind (wpAny_holding
    (op_del σ₂ (t₂.vr rx) ry (kae e₂) fun τ t e => wpAny_release (wpAny_deleteEach_nil (k τ _ _ ((t₁.trans t₂).trans t) (kao e) rfl)))))))))
theorem dict_oat {ρ : RM} {h : Heap} : OAt g.prog g.w ρ (h.push { cls := .type "dict",data := .dict #[] }) (h.objs.size,h.objs.size) (.dict [] 0) :=
  ⟨rfl,[],⟨_,#[],Heap.get?_push_size _ rfl,⟨rfl,rfl,rfl⟩,rfl,(fun _ he => by simp at he),.nil,List.nodup_nil⟩,.nil,Nat.zero_le _⟩
theorem re_dict0 {p : Pos} : RE g sc q d (.Dict [] [] p) dict0 :=
  fun z σ Φ E Q e k => wpAny_Dict_empty (k (σ.new _ σ.s.toks (σ.s.heap.objs.size,σ.s.heap.objs.size) (.dict [] 0) kb8 (Nat.le_refl _) (Nat.le_refl _) dict_oat) _ _ (σ.new_to _ _ _ _) (kgy e) σ.new_ref)
end
end Mine
namespace Mine
open PySem PySem.W PySem.Calls PyProof.Rows
theorem kjh (l : Addr) (items : Array Value) (n : Nat) (hfit : (items.size : Int) < 2 ^ 63) :
    Meets (Builtin.«bool.__new__» ⟨[.type "bool",.ref l],[]⟩) (fun _ R s => IsL s.heap l items n ∧ R (.ok (.ret (.bool (!items.isEmpty)))) { s with toks := s.toks + 1 + 1 }) :=
  Meets.of_wp fun prog w A R s hs => by
    obtain ⟨hp,g,d,tk,os⟩ := s
    obtain ⟨hl,hs⟩ := hs
    have f1 := F.conv_sub_bool
    repeat (any_goals (first | assumption | (with_reducible refine wpAny_truthy_list (IsL.isList hl) hfit ?_) | wp_step))
    all_goals first | exact ⟨_,rfl,hs⟩ | exact hs | skip
theorem kkr {vs : List Value} : vs.toArray.eraseIdxIfInBounds (vs.toArray.size - 1) = vs.dropLast.toArray := by
  rcases List.eq_nil_or_concat vs with rfl | ⟨l,a,rfl⟩
  · rfl
  · simp [List.eraseIdx_append_of_length_le]
theorem pdropLast {α β : Type} {F : α → β → Prop} {l₁ : List α} {l₂ : List β} (p : Paired F l₁ l₂) : Paired F l₁.dropLast l₂.dropLast := by
  rw [List.dropLast_eq_take,List.dropLast_eq_take,← Paired.length p]; exact ptake p _
theorem kla {α : Type} {F : α → Value → Prop} {xs : List α} {ws : List Value} (pr : Paired F xs ws) : (!ws.toArray.isEmpty) = !xs.isEmpty := by
  cases pr with
  | nil => rfl
  | cons _ _ => simp
theorem kl3 {ρ : RM} {h : Heap} {xs : List V} {ws : List Value} {l : List Int} (e : ints? xs = some l) (p : Paired (VR ρ h) xs ws) : IntsAre ws l := by
  induction p generalizing l with
  | nil => cases e; exact .nil
  | @cons a b l₁ l₂ r _ ih =>
    cases a with
    | tup => cases e
    | «at» a =>
      cases a with
      | int i =>
        obtain ⟨m,e,q⟩ := Option.map_eq_some_iff.mp (show (ints? l₁).map (i :: ·) = some l from e)
        obtain ⟨t,hb⟩ := r
        rw [← q,hb]; exact .cons _ t (ih e)
      | _ => cases e
theorem kjr {H : Hp} {a : Nat} {l : List Int} (h : kcq H a = some l) : ∃ xs,H[a]? = some (.list xs) ∧ ints? xs = some l := by
  unfold kcq at h
  obtain ⟨xs,h1,h2⟩ := Option.bind_eq_some_iff.mp h
  unfold kei at h1
  split at h1
  · rename_i ys hy; cases h1; exact ⟨_,hy,h2⟩
  · cases h1
inductive Chk1 (H : Hp) (k : O → Bool) (P : Prop) : V → Prop
  | mk (a : Nat) (o : O) (ho : H[a]? = some o) (hk : k o = true) (e : P) : Chk1 H k P (.at (.ref a))
theorem ok_chk {k : O → Bool} {x : V} {f : Fm} {H : Hp} {Φ : Unit → Fm → Hp → Prop} (e : ok (chk k x) f H Φ) : Chk1 H k (Φ () f H) x := by
  obtain ⟨a,e1⟩ := kc1 e
  obtain ⟨o,ho,e2⟩ := ke1 e1
  obtain ⟨hk,e3⟩ := kfh e2
  exact ⟨a,o,ho,hk,kao e3⟩
theorem isL_some {o : O} (h : isL o = true) : ∃ xs,o = .list xs := by
  cases o <;> first | exact ⟨_,rfl⟩ | cases h
theorem isD_some {o : O} (h : isD o = true) : ∃ es ep,o = .dict es ep := by
  cases o <;> first | exact ⟨_,_,rfl⟩ | cases h
theorem isS_some {o : O} (h : isS o = true) : ∃ xs,o = .set xs := by
  cases o <;> first | exact ⟨_,rfl⟩ | cases h
section
variable {g : Gl} {sc : Sc} {q : Bool} {d : Nat}
theorem St.append {z : Fc sc q d} (σ : St g z) {x v : V} {lv val : Value} {Φ : V → Fm → Hp → Prop} (rl : VR σ.ρ σ.s.heap v lv) (rx : VR σ.ρ σ.s.heap x val) (e : ok (append v x) σ.f σ.H Φ) {C : Prop}
    (k : ∀ l (vs : List Value) n,lv = .ref l → vs.length < lim → σ.s.heap.get? l = some { cls := .type "list",data := .seq vs.toArray n } → (∀ tk,∃ τ : St g z,To σ τ ∧ Φ (.at .none) τ.f τ.H ∧ τ.ρ = σ.ρ ∧ τ.s = { σ.s with heap := σ.s.heap.update l (Obj.mapSeq (·.push val)),toks := tk }) → C) : C := by
  obtain ⟨a,xs,ho,e1⟩ := kf3 e
  obtain ⟨hlt,e2⟩ := kfh e1
  obtain ⟨l,vs,n,hρ,pl,pr,_⟩ := σ.list ho rl
  refine k l vs n rfl (by rw [← Paired.length pr]; exact hlt) pl fun tk => ?_
  exact ⟨σ.setL tk hρ pl (G := (·.push val)) (vs' := vs ++ [val]) (by simp) (papp pr (.cons rx .nil)) (by rw [List.length_append]; simp only [List.length_cons,List.length_nil]; omega),σ.turn_to _ _ _,kao (khi (kae e2)),rfl,rfl⟩
theorem kcg {o x : Expr} {ap pos : Pos} {a b : M V} (ha : RE g sc q d o a) (hb : RE g sc q d x b) (hbase : ∀ env,attributeBase o "append" env (eval o env) = eval o env := by intro _; rfl) (hline : (ap.endLine == pos.line) = true := by rfl)
    (htr : ∀ env,backTo pos (starEach [x] env) = [(false,eval x env)] := by intro _; rfl) : RE g sc q d (.Call (.Attribute o "append" ap) [x] [] pos) (appM a b) := by
  intro z σ Φ E Q e k
  refine wpAny_Call_method1_late (hbase z.env) hline (htr z.env) (ha z σ _ E _ (kae e) fun σ₁ lv v t₁ e₁ rl => ?_)
  obtain ⟨n,ob,ho,hk,e₂⟩ := ok_chk (kae e₁)
  obtain ⟨xs,rfl⟩ := isL_some hk
  obtain ⟨l,vs,n1,_,pl,_,_⟩ := σ₁.list ho rl
  refine ⟨"list",_,F.plainAttrs_list,F.slot_list_append,F.type_list_append,⟨_,pl,rfl⟩,(fun b eb => by cases eb; exact ⟨_,pl,rfl⟩),?_⟩
  refine P.append_list (hb z σ₁ _ E _ (kae e₂) fun σ₂ yv y t₂ e₃ ry => ?_)
  refine σ₂.append (t₂.vr rl) ry e₃ fun l' vs n hl hlt pl h => ?_
  cases hl
  refine ⟨vs.toArray,n,by unfold lim at hlt; unfold sizeLine; simp only [List.size_toArray]; omega,pl,?_⟩
  obtain ⟨τ,t,e,_,hs⟩ := h σ₂.s.toks
  have := k τ .none _ ((t₁.trans t₂).trans t) e rfl
  rw [hs] at this
  exact this
theorem re_pop {o : Expr} {ap pos : Pos} {a : M V} (ha : RE g sc q d o a) (hbase : ∀ env,attributeBase o "pop" env (eval o env) = eval o env := by intro _; rfl) (hline : (ap.endLine == pos.line) = true := by rfl) :
    RE g sc q d (.Call (.Attribute o "pop" ap) [] [] pos) (app1 kez a) := by
  intro z σ Φ E Q e k
  refine wpAny_Call_method0_late (hbase z.env) hline (ha z σ _ E _ (kae e) fun σ₁ lv v t₁ e₁ rl => ?_)
  obtain ⟨a,xs,ho,e₂⟩ := kf3 e₁
  obtain ⟨y,hg,e₃⟩ := kge e₂
  obtain ⟨l,vs,n1,hρ,pl,pr,hlim⟩ := σ₁.list ho rl
  have hlen := Paired.length pr
  refine ⟨"list",_,F.plainAttrs_list,F.slot_list_pop,F.type_list_pop,⟨_,pl,rfl⟩,(fun b eb => by cases eb; exact ⟨_,pl,rfl⟩),?_⟩
  rw [List.getLast?_eq_getElem?] at hg
  obtain ⟨val,hval,rv⟩ := pget pr hg
  refine P.pop_list (y := val) pl (by simp only [List.size_toArray,List.getElem?_toArray,← hlen]; exact hval) ?_ (by unfold lim at hlim; unfold sizeLine; simp only [List.size_toArray]; omega)
  have t₂ := σ₁.turn_to (tk := σ₁.s.toks) hρ σ₁.other (σ₁.setL_at hρ pl (G := fun ys => ys.eraseIdxIfInBounds (vs.toArray.size - 1)) kkr (pdropLast pr) (by rw [List.length_dropLast]; omega))
  exact k _ _ _ (t₁.trans t₂) (kao (khi (kae e₃))) (t₂.vr rv)
theorem re_clear {o : Expr} {ap pos : Pos} {a : M V} (ha : RE g sc q d o a) (hbase : ∀ env,attributeBase o "clear" env (eval o env) = eval o env := by intro _; rfl) (hline : (ap.endLine == pos.line) = true := by rfl) :
    RE g sc q d (.Call (.Attribute o "clear" ap) [] [] pos) (app1 clear a) := by
  intro z σ Φ E Q e k
  refine wpAny_Call_method0_late (hbase z.env) hline (ha z σ _ E _ (kae e) fun σ₁ lv v t₁ e₁ rl => ?_)
  obtain ⟨a,xs,ho,e₂⟩ := kf3 e₁
  obtain ⟨l,vs,n1,hρ,pl,pr,hlim⟩ := σ₁.list ho rl
  have hlen := Paired.length pr
  refine ⟨"list",_,F.plainAttrs_list,F.slot_list_clear,F.type_list_clear,⟨_,pl,rfl⟩,(fun b eb => by cases eb; exact ⟨_,pl,rfl⟩),?_⟩
  refine P.clear_list pl ?_ (by unfold lim at hlim; unfold sizeLine; simp only [List.size_toArray]; omega)
  exact k (σ₁.setL σ₁.s.toks hρ pl (G := fun _ => #[]) (vs' := []) rfl .nil (Nat.zero_le _)) _ _ (t₁.trans (σ₁.turn_to _ _ _)) (kao (khi (kae e₂))) rfl
theorem re_dget {o x : Expr} {ap pos : Pos} {a b : M V} (ha : RE g sc q d o a) (hb : RE g sc q d x b) (hbase : ∀ env,attributeBase o "get" env (eval o env) = eval o env := by intro _; rfl) (hline : (ap.endLine == pos.line) = true := by rfl)
    (htr : ∀ env,backTo pos (starEach [x] env) = [(false,eval x env)] := by intro _; rfl) : RE g sc q d (.Call (.Attribute o "get" ap) [x] [] pos) (getM a b) := by
  intro z σ Φ E Q e k
  refine wpAny_Call_method1_late (hbase z.env) hline (htr z.env) (ha z σ _ E _ (kae e) fun σ₁ lv v t₁ e₁ rl => ?_)
  obtain ⟨n,ob,ho,hk,e₂⟩ := ok_chk (kae e₁)
  obtain ⟨es,ep,rfl⟩ := isD_some hk
  obtain ⟨l,kvs,hρ,dk,_,_⟩ := σ₁.dict ho rl
  obtain ⟨od,_,hod,hex,_⟩ := id dk
  refine ⟨"dict",_,F.plainAttrs_dict,F.slot_dict_get,F.type_dict_get,dk.dictOf.typeIs,(fun b eb => by cases eb; exact ⟨_,hod,hex.2.1⟩),?_⟩
  refine wpAny_dict_get1 (knd := intKind g.prog g.w) (σ₁.notSys hρ) (hb z σ₁ _ E _ (kae e₂) fun σ₂ yv y t₂ e₃ ry => ?_)
  obtain ⟨_,es2,ep2,ho2,e₄⟩ := ok_dct e₃
  obtain ⟨i,e₅⟩ := kdl e₄
  obtain ⟨t,rfl⟩ := ry
  obtain ⟨l2,kvs2,_,dk2,pr2,_⟩ := σ₂.dict ho2 (t₂.vr rl)
  have look := kfe (fun _ _ h => h.1) pr2 i
  refine ⟨i,_,intKind_is g.prog g.w i t,dk2.dictOf.mapOf,?_⟩
  have e₆ := kao e₅
  cases hl : es2.lookup i with
  | some y =>
    obtain ⟨val,hval,_,rv⟩ := look.1 _ hl
    rw [hval]
    rw [hl] at e₆
    exact k (σ₂.toks _) _ _ ((t₁.trans t₂).trans (σ₂.toks_to _)) e₆ rv
  | none =>
    rw [look.2 hl]
    rw [hl] at e₆
    exact k (σ₂.toks _) _ _ ((t₁.trans t₂).trans (σ₂.toks_to _)) e₆ rfl
inductive SetAt1 (g : Gl) {z : Fc sc q d} (σ : St g z) (a : Nat) (xs : List Int) : Value → Prop
  | mk (l : Addr) (S : Int → Bool) (hρ : σ.ρ[a]? = some (l,l)) (st : σ.s.heap.SetOf (intKind g.prog g.w) l S xs.length) (hS : ∀ k,S k = xs.contains k) : SetAt1 g σ a xs (.ref l)
theorem St.set {z : Fc sc q d} (σ : St g z) {a : Nat} {xs : List Int} {v : Value} (ho : σ.H[a]? = some (.set xs)) (r : VR σ.ρ σ.s.heap (.at (.ref a)) v) : SetAt1 g σ a xs v := by
  obtain ⟨⟨p1,p2⟩,hp,hh,S,st,hS⟩ := σ.inv.get ho
  obtain ⟨p',hp',rfl⟩ := r
  rw [hp] at hp'; cases hp'
  cases hh
  exact ⟨p1,S,hp,st,hS⟩
theorem set_put {ys : List Int} {S : Int → Bool} (hS : ∀ k,S k = ys.contains k) (i : Int) : (if S i = true then ys.length else ys.length + 1) = (if ys.contains i then ys else ys ++ [i]).length ∧ ∀ k,(S k || decide (k = i)) = (if ys.contains i then ys else ys ++ [i]).contains k := by
  refine ⟨by rw [hS]; split <;> simp,fun k => ?_⟩
  rw [hS]
  by_cases hc : ys.contains i = true
  · rw [if_pos hc]
    by_cases hki : k = i
    · subst hki; rw [hc]; rfl
    · rw [decide_eq_false hki,Bool.or_false]
  · rw [if_neg hc]
    by_cases hki : k = i
    · subst hki; simp
    · rw [decide_eq_false hki,Bool.or_false]; simp [hki]
theorem re_sadd {o x : Expr} {ap pos : Pos} {a b : M V} (ha : RE g sc q d o a) (hb : RE g sc q d x b) (hbase : ∀ env,attributeBase o "add" env (eval o env) = eval o env := by intro _; rfl) (hline : (ap.endLine == pos.line) = true := by rfl)
    (htr : ∀ env,backTo pos (starEach [x] env) = [(false,eval x env)] := by intro _; rfl) : RE g sc q d (.Call (.Attribute o "add" ap) [x] [] pos) (addM a b) := by
  intro z σ Φ E Q e k
  refine wpAny_Call_method1_late (hbase z.env) hline (htr z.env) (ha z σ _ E _ (kae e) fun σ₁ lv v t₁ e₁ rl => ?_)
  obtain ⟨n,ob,ho,hk,e₂⟩ := ok_chk (kae e₁)
  obtain ⟨xs,rfl⟩ := isS_some hk
  obtain ⟨l,S,_,st,_⟩ := σ₁.set ho rl
  refine ⟨"set",_,F.plainAttrs_set,F.slot_set_add,F.type_set_add,st.typeIs,st.noDict,?_⟩
  refine callWith_builtin rfl (evalArgs_plain (spliced_cons (hb z σ₁ _ E _ (kae e₂) fun σ₂ yv y t₂ e₃ ry => spliced_nil ?_)))
  obtain ⟨_,ys,ho2,e₄⟩ := ok_stt e₃
  obtain ⟨i,e₅⟩ := kdl e₄
  obtain ⟨hlt,e₆⟩ := kfh e₅
  obtain ⟨t,rfl⟩ := ry
  obtain ⟨l2,S2,hρ,st2,hS2⟩ := σ₂.set ho2 (t₂.vr rl)
  refine call_set_add (knd := intKind g.prog g.w) (intKind_is g.prog g.w i t) rfl st2 (by unfold scanBound; omega) fun h' hs st' => ?_
  obtain ⟨hn,hc⟩ := set_put hS2 i
  rw [hn] at st'
  exact k (σ₂.turn h' _ (.set (if ys.contains i then ys else ys ++ [i])) hρ (fun b ob h1 _ e => (hs.2 b h1).trans e) ⟨rfl,_,st',hc⟩) _ _ ((t₁.trans t₂).trans (σ₂.turn_to _ _ _)) (kao (khi (kae e₆))) rfl
theorem khh : Op1 g EqR PySem.truthy truthy := by
  intro sc q d z σ x vx Φ E Q rx e k
  cases x with
  | tup _ => exact ka4 e
  | «at» x => cases x with
  | none => cases (rx : vx = .none); exact truthy_none (k σ _ _ .rfl (kao e) rfl)
  | bool b => cases rx; exact wpAny_truthy_bool (k σ _ _ .rfl (kao e) rfl)
  | bytes bs =>
    obtain ⟨t,rfl⟩ := rx
    obtain ⟨hsz,e⟩ := kfh e
    refine truthy_bytes (by omega) ?_
    rw [show ((bs.size : Int) != 0) = (bs.size != 0) by cases bs.size <;> rfl]
    exact k (σ.toks _) _ _ (σ.toks_to _) (kao e) rfl
  | ref a =>
    obtain ⟨o,ho,e⟩ := ke1 e
    obtain ⟨xs,rfl,e⟩ := kly e
    obtain ⟨l,vs,n,_,pl,pr,hl⟩ := σ.list ho rx
    have hlen := Paired.length pr
    refine wpAny_truthy_list (IsList.of pl) (by unfold lim at hl; simp only [List.size_toArray]; omega) ?_
    rw [kla pr]; exact k (σ.toks _) _ _ (σ.toks_to _) (kao e) rfl
  | _ => exact ka4 e
theorem khd {x : Expr} {a : M V} (ha : RE g sc q d x a) (he : ∀ env whole,isTrue x env whole = (do let v ← whole; standAt x.pos; holding [v] (PySem.truthy v)) := by intro _ _; rfl) : RT g sc q d x (test a) :=
  fun z σ Φ E Q e k => wpAny_isTrue_value (ha z σ _ E _ (kae e) fun σ₁ vx x t₁ e₁ rx => khh σ₁ x vx Φ E Q rx e₁ fun τ a b t => k τ a b (t₁.trans t)) (he z.env _)
theorem kfb : Call1 g q d (.builtin "len") kd2 := by
  intro sc z σ v val Φ E Q r e k
  have fin : ∀ {n m t tk : Nat},n = m → Φ (.at (.int n)) σ.f σ.H → Q (.int m t) { σ.s with toks := tk } := fun h h' => by subst h; exact k (σ.toks _) _ _ (σ.toks_to _) h' ⟨_,rfl⟩
  unfold kd2 at e
  split at e
  · obtain ⟨hl,e⟩ := kfh e
    obtain ⟨T,ws,rfl,hT,pr⟩ := r
    have hlen := Paired.length pr
    exact P.len_tuple (n := 0) hT (by unfold lim at hl; simp only [List.size_toArray]; omega) (fin (by simpa using hlen) (kao e))
  · obtain ⟨a,xs,ho,e1⟩ := kf3 e
    obtain ⟨l,vs,n,_,pl,pr,hl⟩ := σ.list ho r
    have hlen := Paired.length pr
    exact call_len_list (IsList.of pl) (by unfold lim at hl; simp only [List.size_toArray]; omega) (fin (by simpa using hlen) (kao e1))
theorem ok_tuple : Call1 g q d (.type "tuple") tupleOf := by
  intro sc z σ v val Φ E Q r e k
  obtain ⟨a,xs,ho,e1⟩ := kf3 e
  obtain ⟨as,ha,e2⟩ := kge e1
  obtain ⟨l,vs,n,_,pl,pr,hl⟩ := σ.list ho r
  have hlen := Paired.length pr
  refine call_tuple_list (IsList.of pl) (fun h' hk => ?_) (by unfold lim at hl; unfold sizeLine; simp only [List.size_toArray]; omega)
  exact k ((σ.keep h' σ.s.toks hk).push _ σ.s.toks) _ _ ((σ.keep_to hk).trans (St.keep_to _ kb8)) (kao e2) ⟨_,vs,rfl,Heap.get?_push_size _ rfl,kje (kep ha ▸ pr)⟩
theorem ok_bool : Call1 g q d (.type "bool") boolOf := by
  intro sc z σ v val Φ E Q r e k
  obtain ⟨a,xs,ho,e1⟩ := kf3 e
  obtain ⟨l,vs,n,_,pl,pr,hl⟩ := σ.list ho r
  have hlen := Paired.length pr
  refine call_bool_1 (kjh l vs.toArray n (by unfold lim at hl; simp only [List.size_toArray]; omega)) ⟨pl,?_⟩
  rw [kla pr]; exact ⟨rfl,k (σ.toks _) _ _ (σ.toks_to _) (kao e1) rfl⟩
theorem ok_set : CallOk g q d (.type "set") 0 (fun _ => set0) := by
  intro sc z σ vs vals Φ E Q hl r e k
  obtain rfl : vs = [] := List.length_eq_zero_iff.mp hl
  cases r
  refine call_set_0 fun led => ?_
  exact k (σ.new (σ.s.heap.push { cls := .type "set",dict := none,data := .set #[] 0 (.fresh 0 0 led) }) σ.s.toks (σ.s.heap.objs.size,σ.s.heap.objs.size) (.set []) kb8 (Nat.le_refl _) (Nat.le_refl _)
    ⟨rfl,fun _ => false,⟨_,#[],0,_,Heap.get?_push_size _ rfl,⟨rfl,rfl,rfl⟩,rfl,(fun e he => by simp at he),(fun k => by simp),by decide,by rfl,rfl⟩,fun k => rfl⟩) _ _ (σ.new_to _ _ _ _) (kgy e) σ.new_ref
theorem ok_bytes : Call1 g true d (.type "bytes") kj8 := by
  intro sc z σ v val Φ E Q r e k
  obtain ⟨a,e1⟩ := kc1 e
  obtain ⟨l,hi,e2⟩ := khz (kae e1)
  obtain ⟨hc,e3⟩ := kfh e2
  rw [Bool.and_eq_true] at hc
  obtain ⟨xs,ho,hx⟩ := kjr hi
  obtain ⟨l',vs,n,_,pl,pr,hl⟩ := σ.list ho r
  have hlen := Paired.length pr
  exact call_bytes_ints (IsList.of pl) (kl3 hx pr) (fun n hn => by have := List.all_eq_true.mp hc.1 n hn; simpa using this) (by unfold lim at hl; unfold sizeLine; omega) (z.cx.handled rfl) fun h' t kk hk =>
    k (σ.keep h' kk hk) _ _ (σ.keep_to hk) (kao e3) ⟨t,rfl⟩
theorem ok_iter : Call1 g q d (.builtin "iter") iterOf := by
  intro sc z σ v val Φ E Q r e k
  obtain ⟨a,xs,ho,e1⟩ := kf3 e
  obtain ⟨l,vs,n,hρ,pl,pr,hl⟩ := σ.list ho r
  refine call_function_entry (by decide +kernel) (by decide +kernel) kdk_entry_iter (kdk_args_iter _) ?_
  unfold Builtin.«iter»
  refine wpAny_bind (m := someArgs "iter" 1 2 _) (wpAny_of_eq (a := [Value.ref l]) (by first | rfl | kernel_rfl!) ?_)
  show wpAny _ _ (pyIter (.ref l) >>= _) _ _ _
  refine wpAny_bind (wpAny_pyIter_list (IsList.of pl) (wpAny_pure ⟨_,rfl,?_⟩))
  exact k (σ.new (σ.s.heap.push { cls := .type "list_iterator",data := .fields #[.ref l,.int 0 0] }) σ.s.toks (σ.s.heap.objs.size,σ.s.heap.objs.size) (.iter a (some 0)) kb8 (Nat.le_refl _) (Nat.le_refl _)
    ⟨rfl,(l,l),kl6 ⟨_,rfl⟩ hρ,⟨_,Heap.get?_push_size _ rfl,rfl,rfl⟩,fun _ => ⟨_,Heap.get?_push_size _ rfl,rfl⟩⟩) _ _ (σ.new_to _ _ _ _) (kgy e1) σ.new_ref
end
end Mine
namespace Mine
open PySem PySem.W PySem.Calls PyProof.Rows PySem.SeqAt PySem.MeetsSeq PySem.MeetsSeq2 PySem.MeetsSeq3 PySem.SeqRoads2
open PySem.AutoSeq1 (wpAny_loadPart')
noncomputable def LtAt (A : Around) (s : Shared) (x y : Value) (b : Bool) : Prop :=
  ∀ (prog : Program) (w : World) (E : Value → Shared → Prop) (Q : Value → Shared → Prop),Q (.bool b) s → wpAny (model prog w) A (richCompare .Lt x y) Q E s
noncomputable def lexB (e c : Nat → Bool) (m n : Nat) : Nat → Nat → Bool
  | 0,_ => decide (m < n)
  | k + 1,i => if e i then lexB e c m n k (i + 1) else c i
theorem lt_loop (l b : Addr) (items items2 : Array Value) (n n2 : Nat) (e c : Nat → Bool) (k : Nat) :
    ∀ i : Nat,min items.size items2.size - i = k → Meets (Builtin.«list.__eq__.loop» ⟨[.ref l,.ref b,rawInt i,rawInt 0],[]⟩)
      (fun A R s => s.heap.get? l = some { cls := .type "list",dict := none,data := .seq items n,slots := #[] } ∧ s.heap.get? b = some { cls := .type "list",dict := none,data := .seq items2 n2,slots := #[] } ∧
        (∀ j (h1 : j < items.size) (h2 : j < items2.size),EqAt A.in1 s items[j] items2[j] (e j)) ∧ (∀ j (h1 : j < items.size) (h2 : j < items2.size),LtAt A.in1 s items[j] items2[j] (c j)) ∧
        R (.ok (.ret (.bool (lexB e c items.size items2.size k i)))) s) := by
  induction k with
  | zero =>
    intro i hk prog w A R s h
    obtain ⟨hp,g,d,tk,os⟩ := s; obtain ⟨hl,hb,he,hc,h⟩ := h
    wp_walk using wpAny_loadPart' hl,wpAny_loadPart' hb
    have hor : items[((i : Nat) : Int).toNat]? = none ∨ items2[((i : Nat) : Int).toNat]? = none := by
      rcases Nat.lt_or_ge i items.size with h1 | h1
      · exact .inr (by simp; omega)
      · exact .inl (by simp; omega)
    have fin : R (.ok (.ret (.bool (decide (items.size < items2.size))))) ⟨hp,g,d,tk,os⟩ := h
    rcases hor with h1 | h1
    · rw [h1]
      wp_walk using wpAny_loadPart' hl,wpAny_loadPart' hb
      exact fin
    · cases h2 : items[((i : Nat) : Int).toNat]? with
      | none =>
        wp_walk using wpAny_loadPart' hl,wpAny_loadPart' hb
        exact fin
      | some y =>
        rw [h1]
        wp_walk using wpAny_loadPart' hl,wpAny_loadPart' hb
        exact fin
  | succ k ih =>
    intro i hk prog w A R s h
    obtain ⟨hp,g,d,tk,os⟩ := s; obtain ⟨hl,hb,he,hc,h⟩ := h
    wp_walk using wpAny_loadPart' hl,wpAny_loadPart' hb
    have hlt : i < items.size := by omega
    have hlt2 : i < items2.size := by omega
    have hi1 : items[((i : Nat) : Int).toNat]? = some items[i] := by simp [hlt]
    have hi2 : items2[((i : Nat) : Int).toNat]? = some items2[i] := by simp [hlt2]
    have hc1 : ((i : Int) + 1) = ((i + 1 : Nat) : Int) := by push_cast; rfl
    unfold lexB at h
    rw [hi1,hi2]
    refine wpAny_bind (he i hlt hlt2 prog w _ _ ?_)
    cases hb' : e i with
    | true =>
      rw [hb',if_pos rfl] at h
      wp_walk
      rw [hc1]
      exact ⟨plainId_quiet plain_eq_loop _,codeAny_builtin entry_eq_loop (by
        rw [Around.under_plainId plain_eq_loop _]
        exact ih (i + 1) (by omega) prog w A R _ ⟨hl,hb,he,hc,h⟩)⟩
    | false =>
      rw [hb',if_neg (by decide)] at h
      wp_walk using wpAny_loadPart' hl,wpAny_loadPart' hb
      rw [hi1,hi2]
      refine wpAny_bind (hc i hlt hlt2 prog w _ _ ?_)
      wp_walk
      exact h
theorem list_lt (l b : Addr) (items items2 : Array Value) (n n2 : Nat) (e c : Nat → Bool) :
    Meets (Builtin.«list.__lt__» ⟨[.ref l,.ref b],[]⟩)
      (fun A R s => s.heap.get? l = some { cls := .type "list",dict := none,data := .seq items n,slots := #[] } ∧ s.heap.get? b = some { cls := .type "list",dict := none,data := .seq items2 n2,slots := #[] } ∧
        (∀ j (h1 : j < items.size) (h2 : j < items2.size),EqAt A.in1 s items[j] items2[j] (e j)) ∧ (∀ j (h1 : j < items.size) (h2 : j < items2.size),LtAt A.in1 s items[j] items2[j] (c j)) ∧
        R (.ok (.ret (.bool (lexB e c items.size items2.size (min items.size items2.size) 0)))) s) := by
  intro prog w A R s h
  obtain ⟨hp,g,d,tk,os⟩ := s; obtain ⟨hl,hb,he,hc,h⟩ := h
  have f3 := AutoSeq1.sub_list_list
  wp_walk using wpAny_loadPart' hl,wpAny_loadPart' hb
  exact ⟨plainId_quiet plain_eq_loop _,codeAny_builtin entry_eq_loop (by
    rw [Around.under_plainId plain_eq_loop _]
    exact lt_loop l b items items2 n n2 e c _ 0 rfl prog w A R _ ⟨hl,hb,he,hc,by simpa using h⟩)⟩
theorem tuple_lt (l b : Addr) (items items2 : Array Value) (n n2 : Nat) (e c : Nat → Bool) :
    Meets (Builtin.«tuple.__lt__» ⟨[.ref l,.ref b],[]⟩)
      (fun A R s => s.heap.get? l = some { cls := .type "tuple",dict := none,data := .seq items n,slots := #[] } ∧ s.heap.get? b = some { cls := .type "tuple",dict := none,data := .seq items2 n2,slots := #[] } ∧
        (∀ j (h1 : j < items.size) (h2 : j < items2.size),EqAt A.in1 s items[j] items2[j] (e j)) ∧ (∀ j (h1 : j < items.size) (h2 : j < items2.size),LtAt A.in1 s items[j] items2[j] (c j)) ∧
        R (.ok (.ret (.bool (lexB e c items.size items2.size (min items.size items2.size) 0)))) s) :=
  .of_wp fun prog w A R s h => by
    obtain ⟨hp,g,d,tk,os⟩ := s; obtain ⟨hl,hb,he,hc,h⟩ := h
    have f2 := AutoSeq1.sub_tuple_tuple
    have hZ : (items.toList.zip items2.toList).length = min items.size items2.size := by simp
    wp_walk using wpAny_loadPart' hl,wpAny_loadPart' hb,wpAny_forIn_list _ (fun rest b s' => b.1 = none ∧ s' = ⟨hp,g,d,tk,os⟩ ∧ ∃ i,rest = (items.toList.zip items2.toList).drop i ∧
      R (.ok (.ret (.bool (lexB e c items.size items2.size (min items.size items2.size - i) i)))) ⟨hp,g,d,tk,os⟩) _
    case turn =>
      rintro ⟨y,x⟩ rest b s' ⟨hb',rfl,i,hz,hR⟩
      have hlt : i < (items.toList.zip items2.toList).length := by
        rcases Nat.lt_or_ge i (items.toList.zip items2.toList).length with h' | h'
        · exact h'
        · rw [List.drop_of_length_le h'] at hz; cases hz
      have hm : i < min items.size items2.size := hZ ▸ hlt
      have h1 : i < items.size := Nat.lt_of_lt_of_le hm (Nat.min_le_left _ _)
      have h2 : i < items2.size := Nat.lt_of_lt_of_le hm (Nat.min_le_right _ _)
      rw [List.drop_eq_getElem_cons hlt] at hz
      injection hz with hyx hrest
      have hy : y = items[i] := by have := congrArg Prod.fst hyx; simpa using this
      have hx : x = items2[i] := by have := congrArg Prod.snd hyx; simpa using this
      subst hy hx
      obtain ⟨k,hk⟩ : ∃ k,min items.size items2.size - i = k + 1 := ⟨min items.size items2.size - i - 1,by omega⟩
      rw [hk] at hR
      unfold lexB at hR
      refine wpAny_bind (he i h1 h2 prog w _ _ ?_)
      cases hy : e i with
      | true =>
        rw [hy,if_pos rfl] at hR
        wp_walk
        exact ⟨rfl,rfl,i + 1,hrest,by rw [show min items.size items2.size - (i + 1) = k by omega]; exact hR⟩
      | false =>
        rw [hy,if_neg (by decide)] at hR
        refine wpAny_bind (wpAny_rule (wpAny_bind (hc i h1 h2 prog w _ _ ?_)))
        wp_walk
        exact ⟨_,rfl,hR⟩
    case fin =>
      rintro ⟨b1,b2⟩ s' ⟨hb',rfl,i,hz,hR⟩
      simp only at hb'
      subst hb'
      have hge : min items.size items2.size - i = 0 := by
        rcases Nat.lt_or_ge i (items.toList.zip items2.toList).length with h' | h'
        · rw [List.drop_eq_getElem_cons h'] at hz; cases hz
        · have := hZ ▸ h'; omega
      rw [hge] at hR
      wp_walk
      exact ⟨_,rfl,hR⟩
    case h =>
      exact ⟨rfl,rfl,0,rfl,by simpa using h⟩
section
variable {A : Around} {s : Shared}
theorem LtAt.lists {l b : Addr} {items items2 : Array Value} {n n2 : Nat} {e c : Nat → Bool} (hl : IsL s.heap l items n) (hb : IsL s.heap b items2 n2) (hu : A.units < cLine)
    (he : ∀ j (h1 : j < items.size) (h2 : j < items2.size),EqAt A.in1 s items[j] items2[j] (e j)) (hc : ∀ j (h1 : j < items.size) (h2 : j < items2.size),LtAt A.in1 s items[j] items2[j] (c j)) :
    LtAt A s (.ref l) (.ref b) (lexB e c items.size items2.size (min items.size items2.size) 0) := fun prog w E Q h =>
  richCompare_meets_room (op := .Lt) ⟨_,hl,rfl⟩ ⟨_,hb,rfl⟩ F.slot_list_lt F.entry_list_lt (F.args_list_lt_2 _ _) (list_lt l b items items2 n n2 e c) ⟨hl,hb,he,hc,by exact ⟨(fun x => nomatch x),h⟩⟩ hu
theorem LtAt.tuples {l b : Addr} {items items2 : Array Value} {n n2 : Nat} {e c : Nat → Bool} (hl : IsT s.heap l items n) (hb : IsT s.heap b items2 n2) (hu : A.units < cLine)
    (he : ∀ j (h1 : j < items.size) (h2 : j < items2.size),EqAt A.in1 s items[j] items2[j] (e j)) (hc : ∀ j (h1 : j < items.size) (h2 : j < items2.size),LtAt A.in1 s items[j] items2[j] (c j)) :
    LtAt A s (.ref l) (.ref b) (lexB e c items.size items2.size (min items.size items2.size) 0) := fun prog w E Q h =>
  richCompare_meets_room (op := .Lt) ⟨_,hl,rfl⟩ ⟨_,hb,rfl⟩ F.slot_tuple_lt F.entry_tuple_lt (F.args_tuple_lt_2 _ _) (tuple_lt l b items items2 n n2 e c) ⟨hl,hb,he,hc,by exact ⟨(fun x => nomatch x),h⟩⟩ hu
theorem LtAt.int {i j : Int} {t u : Tok} : LtAt A s (.int i t) (.int j u) (decide (i < j)) := fun prog w E Q h => PyProof.Rows.lt_int h
theorem LtAt.str {x y : Str} {t u : Tok} : LtAt A s (.str x t) (.str y u) (decide (x.cps.toList < y.cps.toList)) := fun prog w E Q h => PyProof.Rows.lt_str h
end
end Mine
namespace Mine
open PySem PySem.W PySem.Calls PyProof.Rows PySem.SeqAt PySem.Spec
def d0D : D0 → Dat
  | .str s => .str s
  | .ints l => .list (l.map .int)
def prD (p : D0 × Int) : Dat := .tuple [d0D p.1,.int p.2]
def dtD : Dt → Dat
  | .int i => .int i
  | .d0 x => d0D x
  | .lists l => .list (l.map fun x => .list (x.map .int))
  | .pr x i => prD (x,i)
  | .prs l => .list (l.map prD)
def wfD : Dt → Prop
  | .lists l => l ≠ []
  | .prs l => l ≠ []
  | _ => True
theorem kji {α β : Type} {g : α → β} (hg : ∀ a b,g a = g b → a = b) : ∀ {l m : List α},l.map g = m.map g → l = m
  | [],[],_ => rfl
  | a :: l,b :: m,h => by
    rw [List.map_cons,List.map_cons] at h
    injection h with h1 h2
    rw [hg a b h1,kji hg h2]
theorem int_inj : ∀ a b,Dat.int a = Dat.int b → a = b := fun a b h => by injection h
theorem d0_inj {x y : D0} (h : d0D x = d0D y) : x = y := by
  cases x <;> cases y <;> unfold d0D at h
  · injection h with h; rw [h]
  · cases h
  · cases h
  · injection h with h; rw [kji int_inj h]
theorem pr_inj {x y : D0 × Int} (h : prD x = prD y) : x = y := by
  unfold prD at h
  injection h with h
  injection h with h1 h2
  injection h2 with h2 _
  injection h2 with h2
  exact Prod.ext (d0_inj h1) h2
theorem khl {l : List Int} {m : List (List Int)} (hm : m ≠ []) (h : Dat.list (l.map .int) = Dat.list (m.map fun x => .list (x.map .int))) : False := by
  injection h with h
  cases m with
  | nil => exact hm rfl
  | cons x r => cases l with
    | nil => cases h
    | cons i t => rw [List.map_cons,List.map_cons] at h; injection h with h _; cases h
theorem kjq {l : List Int} {m : List (D0 × Int)} (hm : m ≠ []) (h : Dat.list (l.map .int) = Dat.list (m.map prD)) : False := by
  injection h with h
  cases m with
  | nil => exact hm rfl
  | cons x r => cases l with
    | nil => cases h
    | cons i t => rw [List.map_cons,List.map_cons] at h; injection h with h _; cases h
theorem kig {l : List (List Int)} {m : List (D0 × Int)} (hm : m ≠ []) (h : Dat.list (l.map fun x => .list (x.map .int)) = Dat.list (m.map prD)) : False := by
  injection h with h
  cases m with
  | nil => exact hm rfl
  | cons x r => cases l with
    | nil => cases h
    | cons i t => rw [List.map_cons,List.map_cons] at h; injection h with h _; cases h
theorem dt_inj {a b : Dt} (wa : wfD a) (wb : wfD b) (h : dtD a = dtD b) : a = b := by
  cases a with
  | int i => cases b <;> simp only [dtD] at h <;> first
    | (injection h with h; rw [h]) | (rename_i x; cases x <;> cases h) | cases h
  | d0 x => cases b with
    | int i => cases x <;> cases h
    | d0 y => rw [d0_inj h]
    | lists l => cases x with
      | str s => cases h
      | «ints» m => exact (khl wb h).elim
    | pr y i => cases x <;> cases h
    | prs l => cases x with
      | str s => cases h
      | «ints» m => exact (kjq wb h).elim
  | lists l => cases b with
    | int i => cases h
    | d0 y => cases y with
      | str s => cases h
      | «ints» m => exact (khl wa h.symm).elim
    | lists m => injection h with h; rw [kji (fun a b e => by injection e with e; exact kji int_inj e) h]
    | pr y i => cases h
    | prs m => exact (kig wb h).elim
  | pr x i => cases b with
    | int i => cases h
    | d0 y => cases y <;> cases h
    | lists m => cases h
    | pr y j => have := pr_inj h; injection this with h1 h2; rw [h1,h2]
    | prs m => cases h
  | prs l => cases b with
    | int i => cases h
    | d0 y => cases y with
      | str s => cases h
      | «ints» m => exact (kjq wa h.symm).elim
    | lists m => exact (kig wa h.symm).elim
    | pr y j => cases h
    | prs m => injection h with h; rw [kji (fun a b e => pr_inj e) h]
theorem kit {α β : Type} {g : α → Option β} : ∀ {l : List α} {m : List β},mapO g l = some m → l.length = m.length
  | [],_,e => by cases e; rfl
  | x :: r,_,e => by
    unfold mapO at e
    split at e
    · rename_i y l hy hl; cases e; simp [kit hl]
    · cases e
theorem mapO_cons {α β : Type} {g : α → Option β} {x : α} {r : List α} {m : List β} (e : mapO g (x :: r) = some m) : ∃ y l,g x = some y ∧ mapO g r = some l ∧ m = y :: l := by
  unfold mapO at e
  split at e
  · rename_i y l hy hl; cases e; exact ⟨y,l,hy,hl,rfl⟩
  · cases e
theorem kg6 {H : Hp} {a : Nat} {xs : List V} (h : kei H a = some xs) : H[a]? = some (.list xs) := by
  unfold kei at h
  split at h
  · rename_i ys hy; cases h; exact hy
  · cases h
theorem rdV_wf {H : Hp} {x : V} {a : Dt} (h : rdV H x = some a) : wfD a := by
  unfold rdV at h
  split at h
  · cases h; trivial
  · split at h <;> cases h; trivial
  · rename_i n
    split at h
    · cases h; trivial
    · rename_i hn
      have key : ∀ {xs : List V},kei H n = some xs → xs ≠ [] := fun {xs} hx hnil => by
        subst hnil
        unfold kcq at hn
        rw [hx] at hn; cases hn
      split at h
      · rename_i l hl
        cases h
        obtain ⟨xs,h1,h2⟩ := Option.bind_eq_some_iff.mp hl
        intro hnil
        rw [hnil] at h2
        have := kit h2
        exact key h1 (List.length_eq_zero_iff.mp this)
      · obtain ⟨l,hl,rfl⟩ := Option.map_eq_some_iff.mp h
        obtain ⟨xs,h1,h2⟩ := Option.bind_eq_some_iff.mp hl
        intro hnil
        rw [hnil] at h2
        have := kit h2
        exact key h1 (List.length_eq_zero_iff.mp this)
  · cases h
  · obtain ⟨p,_,rfl⟩ := Option.map_eq_some_iff.mp h; trivial
theorem kqdPs_map {α : Type} (g : α → Dat) : ∀ l : List α,kqdPs (l.map g) = l.map fun x => kqdP (g x)
  | [] => rfl
  | x :: r => by rw [List.map_cons,kqdPs,kqdPs_map g r]; rfl
theorem ok_ints {n : Nat} (l : List Int) : kqdOk (n + 1) (.list (l.map .int)) = true := by
  unfold kqdOk
  rw [List.all_map,List.all_eq_true]
  intro x _
  show kqdOk n (.int x) = true
  cases n <;> rfl
theorem fine_ok {s : Str} (h : fine s = true) : PyData.strOk s = true := by
  unfold fine at h
  unfold PyData.strOk
  rw [Array.all_eq_true] at h ⊢
  intro i hi
  have := h i hi
  simp only [decide_eq_true_eq] at this ⊢
  omega
theorem kjk : ∀ x y : List Nat,kbf x y = decide (x < y)
  | [],[] => by simp [kbf]
  | [],_ :: _ => by simp [kbf]
  | _ :: _,[] => by simp [kbf]
  | a :: x,b :: y => by
    unfold kbf
    by_cases h : a = b
    · subst h
      rw [if_pos rfl,kjk x y]
      simp [List.cons_lt_cons_iff]
    · rw [if_neg h]
      simp [List.cons_lt_cons_iff,h]
theorem kjo {ns ms : List Int} {e c : Nat → Bool} (he : ∀ j (h1 : j < ns.length) (h2 : j < ms.length),e j = decide (ns[j] = ms[j])) (hc : ∀ j (h1 : j < ns.length) (h2 : j < ms.length),c j = decide (ns[j] < ms[j])) :
    ∀ k i,min ns.length ms.length - i = k → i ≤ min ns.length ms.length → lexB e c ns.length ms.length k i = kdy (ns.drop i) (ms.drop i)
  | 0,i,hk,hi => by
    unfold lexB
    rcases Nat.lt_or_ge ns.length ms.length with h | h
    · have e1 : ns.drop i = [] := by rw [List.drop_eq_nil_iff]; omega
      have hlt : i < ms.length := by omega
      rw [e1,List.drop_eq_getElem_cons hlt,decide_eq_true h]; rfl
    · have e1 : ms.drop i = [] := by rw [List.drop_eq_nil_iff]; omega
      rw [e1,decide_eq_false (by omega)]
      cases ns.drop i <;> rfl
  | k + 1,i,hk,hi => by
    have h1 : i < ns.length := by omega
    have h2 : i < ms.length := by omega
    have hL : kdy (ns.drop i) (ms.drop i) = if ns[i] = ms[i] then kdy (ns.drop (i + 1)) (ms.drop (i + 1)) else decide (ns[i] < ms[i]) := by
      rw [List.drop_eq_getElem_cons h1,List.drop_eq_getElem_cons h2]; rfl
    unfold lexB
    rw [hL,he i h1 h2,hc i h1 h2,kjo he hc k (i + 1) (by omega) (by omega)]
    by_cases h : ns[i] = ms[i]
    · rw [if_pos (decide_eq_true h),if_pos h]
    · rw [if_neg (by rw [decide_eq_false h]; decide),if_neg h]
theorem kcz {ws : List Value} {ns : List Int} (p : IntsAre ws ns) : ∀ j (h1 : j < ws.length) (h2 : j < ns.length),∃ t,ws[j] = .int ns[j] t := by
  induction p with
  | nil => exact fun j h1 => absurd h1 (Nat.not_lt_zero j)
  | cons n t _ ih => intro j h1 h2; cases j with
    | zero => exact ⟨t,rfl⟩
    | succ j => exact ih j (Nat.lt_of_succ_lt_succ h1) (Nat.lt_of_succ_lt_succ h2)
theorem eq_int {A : Around} {s : Shared} {i j : Int} {t u : Tok} (hu : A.units < cLine) : EqAt A s (.int i t) (.int j u) (decide (i = j)) := by
  have := eqAt_reads (.int i) (.int j) A s (.int i t) (.int j u) [] [] (.int _ _) (.int _ _) rfl rfl (by simpa [PyData.depth] using hu)
  have e : PyData.eqv (.int i) (.int j) = decide (i = j) := by
    by_cases h : i = j <;> simp [PyData.eqv,h]
  rw [e] at this; exact this
theorem lt_ints {A : Around} {s : Shared} {p r : Addr} {ws us : List Value} {n m : Nat} {ns ms : List Int} (hl : IsL s.heap p ws.toArray n) (hr : IsL s.heap r us.toArray m) (ia : IntsAre ws ns) (ib : IntsAre us ms) (hu : A.units + 2 < cLine) :
    LtAt A s (.ref p) (.ref r) (kdy ns ms) := by
  have l1 := ia.length
  have l2 := ib.length
  have key := LtAt.lists (A := A) (e := fun j => decide (ns[j]? = ms[j]?)) (c := fun j => match ns[j]?,ms[j]? with | some a,some b => decide (a < b) | _,_ => false) hl hr (by omega) (fun j h1 h2 => by
      simp only [List.size_toArray] at h1 h2
      obtain ⟨t,e1⟩ := kcz ia j h1 (by omega)
      obtain ⟨u,e2⟩ := kcz ib j h2 (by omega)
      simp only [List.getElem_toArray,e1,e2]
      have h1' : j < ns.length := by omega
      have h2' : j < ms.length := by omega
      simp only [List.getElem?_eq_getElem h1',List.getElem?_eq_getElem h2',Option.some.injEq]
      exact eq_int (by show A.units + 1 < cLine; omega)) (fun j h1 h2 => by
      simp only [List.size_toArray] at h1 h2
      obtain ⟨t,e1⟩ := kcz ia j h1 (by omega)
      obtain ⟨u,e2⟩ := kcz ib j h2 (by omega)
      simp only [List.getElem_toArray,e1,e2]
      have h1' : j < ns.length := by omega
      have h2' : j < ms.length := by omega
      simp only [List.getElem?_eq_getElem h1',List.getElem?_eq_getElem h2']
      exact LtAt.int)
  simp only [List.size_toArray,l1,l2] at key
  rw [kjo (ns := ns) (ms := ms) (fun j h1 h2 => by simp [h1,h2]) (fun j h1 h2 => by simp [h1,h2]) (min ns.length ms.length) 0 (Nat.sub_zero _) (Nat.zero_le _)] at key
  exact key
theorem rdV_d0 {H : Hp} {z : V} {d0 : D0} (hz : rdV H z = some (.d0 d0)) : ∃ z0,z = .at z0 ∧ rd0 H z0 = some d0 := by
  unfold rdV at hz
  split at hz
  · cases hz
  · split at hz
    · rename_i hf; cases hz; exact ⟨_,rfl,by unfold rd0; simp [hf]⟩
    · cases hz
  · split at hz
    · rename_i l hl; cases hz; exact ⟨_,rfl,by unfold rd0; simp [hl]⟩
    · split at hz
      · cases hz
      · obtain ⟨l,_,h⟩ := Option.map_eq_some_iff.mp hz; cases h
  · cases hz
  · obtain ⟨l,_,h⟩ := Option.map_eq_some_iff.mp hz; cases h
theorem rdV_int {H : Hp} {z : V} {i : Int} (hz : rdV H z = some (.int i)) : z = .at (.int i) := by
  unfold rdV at hz
  split at hz
  · cases hz; rfl
  · split at hz <;> cases hz
  · split at hz
    · cases hz
    · split at hz
      · cases hz
      · obtain ⟨l,_,h⟩ := Option.map_eq_some_iff.mp hz; cases h
  · cases hz
  · obtain ⟨l,_,h⟩ := Option.map_eq_some_iff.mp hz; cases h
theorem rdV_pr {H : Hp} {z : V} {x0 : D0} {i : Int} (hz : rdV H z = some (.pr x0 i)) : rdPr H z = some (x0,i) := by
  unfold rdV at hz
  split at hz
  · cases hz
  · split at hz <;> cases hz
  · split at hz
    · cases hz
    · split at hz
      · cases hz
      · obtain ⟨l,_,h⟩ := Option.map_eq_some_iff.mp hz; cases h
  · cases hz
  · obtain ⟨l,hl,h⟩ := Option.map_eq_some_iff.mp hz
    cases h; exact hl
section
variable {g : Gl} {sc : Sc} {q : Bool} {d : Nat} {z : Fc sc q d}
theorem khx {h : Heap} {ws : List Value} {ns : List Int} (p : IntsAre ws ns) : ReadsAll h ws (kqdPs (ns.map .int)) [] := by
  induction p with
  | nil => exact .nil
  | cons n t _ ih => exact .cons (.int _ t) ih
theorem kgh (σ : St g z) {a : Nat} {l : List Int} {v : Value} (hi : kcq σ.H a = some l) (hv : AtR σ.ρ (.ref a) v) :
    ∃ p ws n,v = .ref p ∧ IsL σ.s.heap p ws.toArray n ∧ IntsAre ws l := by
  obtain ⟨xs,ho,hx⟩ := kjr hi
  obtain ⟨p,ws,n,_,pl,pr,_⟩ := σ.list ho hv
  exact ⟨p,ws,n,rfl,pl,kl3 hx pr⟩
theorem rd0_reads (σ : St g z) {x : At} {a : D0} {v : Value} (hr : rd0 σ.H x = some a) (hv : AtR σ.ρ x v) : (∃ as,Reads σ.s.heap v (kqdP (d0D a)) as) ∧ ∀ n,kqdOk (n + 1) (d0D a) = true := by
  unfold rd0 at hr
  split at hr
  · rename_i x0
    split at hr
    · rename_i hf
      cases hr
      obtain ⟨t,rfl⟩ := hv
      exact ⟨⟨_,Reads.str _ _⟩,fun n => fine_ok hf⟩
    · cases hr
  · rename_i n
    obtain ⟨l,hl,rfl⟩ := Option.map_eq_some_iff.mp hr
    obtain ⟨p,ws,m,rfl,il,ia⟩ := kgh σ hl hv
    refine ⟨⟨[p],?_⟩,fun n => ok_ints l⟩
    unfold d0D; rw [kqdP]
    exact reads_list_at il rfl rfl (khx ia)
  · cases hr
theorem kem (σ : St g z) {x : V} {a : D0 × Int} {v : Value} (hr : rdPr σ.H x = some a) (hv : VR σ.ρ σ.s.heap x v) :
    ∃ y i T v0 t,x = .tup [y,.int i] ∧ rd0 σ.H y = some a.1 ∧ a.2 = i ∧ v = .ref T ∧ σ.s.heap.get? T = some (ki6 [v0,.int i t]) ∧ AtR σ.ρ y v0 := by
  cases x with
  | «at» _ => cases hr
  | tup l => cases l with
    | nil => cases hr
    | cons y l => cases l with
      | nil => cases hr
      | cons u l => cases u with
        | int i => cases l with
          | cons _ _ => cases hr
          | nil =>
            obtain ⟨b,hb,rfl⟩ := Option.map_eq_some_iff.mp hr
            obtain ⟨T,vs,rfl,hT,pr⟩ := hv
            cases pr with
            | cons r1 pr => cases pr with
              | cons r2 pr =>
                cases pr
                obtain ⟨t,rfl⟩ := r2
                exact ⟨y,i,T,_,t,rfl,hb,rfl,rfl,hT,r1⟩
        | _ => cases hr
theorem prD_reads (σ : St g z) {x : V} {a : D0 × Int} {v : Value} (hr : rdPr σ.H x = some a) (hv : VR σ.ρ σ.s.heap x v) : (∃ as,Reads σ.s.heap v (kqdP (prD a)) as) ∧ ∀ n,kqdOk (n + 2) (prD a) = true := by
  obtain ⟨y,i,T,v0,t,rfl,h0,hi,rfl,hT,rv⟩ := kem σ hr hv
  obtain ⟨⟨as,r⟩,ok⟩ := rd0_reads σ h0 rv
  refine ⟨⟨as ++ ([] ++ []),?_⟩,fun n => ?_⟩
  · unfold prD; rw [kqdP,kqdPs,kqdPs,kqdPs,kqdP]
    exact reads_tuple_at hT rfl rfl (ReadsAll.cons r (ReadsAll.cons (by rw [hi]; exact Reads.int _ _) ReadsAll.nil))
  · unfold prD kqdOk
    simp only [List.all_cons,List.all_nil,Bool.and_true,ok n,Bool.true_and]
    rfl
theorem all_reads {h : Heap} {α : Type} {rel : V → Value → Prop} {g : V → Option α} {D : α → Dat} {N : Nat} (hg : ∀ x a v,g x = some a → rel x v → (∃ as,Reads h v (kqdP (D a)) as) ∧ kqdOk N (D a) = true) :
    ∀ {xs : List V} {ws : List Value} {l : List α},mapO g xs = some l → Paired rel xs ws → (∃ as,ReadsAll h ws (kqdPs (l.map D)) as) ∧ (l.map D).all (kqdOk N) = true := by
  intro xs ws l e p
  induction p generalizing l with
  | nil => cases e; exact ⟨⟨_,.nil⟩,rfl⟩
  | cons hv _ ih =>
    obtain ⟨y,l,h1,h2,q⟩ := mapO_cons e
    obtain ⟨⟨as,r1⟩,o1⟩ := hg _ _ _ h1 hv
    obtain ⟨⟨bs,r2⟩,o2⟩ := ih h2
    rw [q,List.map_cons,List.all_cons,o1,o2,kqdPs]
    exact ⟨⟨as ++ bs,.cons r1 r2⟩,rfl⟩
theorem khg (σ : St g z) {x : V} {a : Dt} {v : Value} (hr : rdV σ.H x = some a) (hv : VR σ.ρ σ.s.heap x v) : (∃ as,Reads σ.s.heap v (kqdP (dtD a)) as) ∧ kqdOk 8 (dtD a) = true := by
  unfold rdV at hr
  split at hr
  · cases hr
    obtain ⟨t,rfl⟩ := hv
    exact ⟨⟨_,Reads.int _ _⟩,rfl⟩
  · split at hr
    · rename_i hf
      cases hr
      obtain ⟨t,rfl⟩ := hv
      exact ⟨⟨_,Reads.str _ _⟩,fine_ok hf⟩
    · cases hr
  · rename_i n
    split at hr
    · rename_i l hl
      cases hr
      obtain ⟨p,ws,m,rfl,il,ia⟩ := kgh σ hl hv
      refine ⟨⟨[p],?_⟩,ok_ints l⟩
      show Reads σ.s.heap (.ref p) (kqdP (.list (l.map .int))) _
      rw [kqdP]
      exact reads_list_at il rfl rfl (khx ia)
    · split at hr
      · rename_i l hl
        cases hr
        obtain ⟨xs,h1,h2⟩ := Option.bind_eq_some_iff.mp hl
        have ho := kg6 h1
        obtain ⟨p,ws,m,_,pl,pr,_⟩ := σ.list ho hv
        obtain ⟨⟨as,ra⟩,ok⟩ := all_reads (N := 7) (D := fun x => .list (x.map .int)) (fun x a v hg hv => by
          unfold intsOf at hg
          split at hg
          · obtain ⟨p,ws,m,rfl,il,ia⟩ := kgh σ hg hv
            refine ⟨⟨[p],?_⟩,ok_ints a⟩
            rw [kqdP]
            exact reads_list_at il rfl rfl (khx ia)
          · cases hg) h2 pr
        refine ⟨⟨p :: as,?_⟩,ok⟩
        show Reads σ.s.heap (.ref p) (kqdP (.list (l.map fun x => .list (x.map .int)))) _
        rw [kqdP]
        exact reads_list_at pl rfl rfl ra
      · obtain ⟨l,hl,rfl⟩ := Option.map_eq_some_iff.mp hr
        obtain ⟨xs,h1,h2⟩ := Option.bind_eq_some_iff.mp hl
        have ho := kg6 h1
        obtain ⟨p,ws,m,_,pl,pr,_⟩ := σ.list ho hv
        obtain ⟨⟨as,ra⟩,ok⟩ := all_reads (N := 7) (D := prD) (fun x a v hg hv => let ⟨r,o⟩ := prD_reads σ hg hv; ⟨r,o 5⟩) h2 pr
        refine ⟨⟨p :: as,?_⟩,ok⟩
        show Reads σ.s.heap (.ref p) (kqdP (.list (l.map prD))) _
        rw [kqdP]
        exact reads_list_at pl rfl rfl ra
  · cases hr
  · obtain ⟨pp,hp,rfl⟩ := Option.map_eq_some_iff.mp hr
    obtain ⟨r,o⟩ := prD_reads σ hp hv
    exact ⟨r,o 6⟩
theorem eqv_dt {a b : Dt} (wa : wfD a) (wb : wfD b) (oa : kqdOk 8 (dtD a) = true) (ob : kqdOk 8 (dtD b) = true) : PyData.eqv (kqdP (dtD a)) (kqdP (dtD b)) = decide (a = b) := by
  have q := kqd_eqv 8 (dtD a) (dtD b) 8 oa ob
  by_cases h : a = b
  · rw [decide_eq_true h]; exact q.mpr (by rw [h])
  · rw [decide_eq_false h]; exact Bool.eq_false_iff.mpr fun x => h (dt_inj wa wb (q.mp x))
theorem shaped_dt {a : Dt} (oa : kqdOk 8 (dtD a) = true) : SeqAt.shaped (kqdP (dtD a)) = true := by
  have la := kqd_lay 8 _ oa
  unfold SeqAt.shaped; rw [la.1,Bool.true_and]; exact decide_eq_true (Nat.le_trans la.2 (by decide))
theorem eq_at (σ : St g z) {B : Around} {x y : V} {a b : Dt} {vx vy : Value} (ha : rdV σ.H x = some a) (hb : rdV σ.H y = some b) (rx : VR σ.ρ σ.s.heap x vx) (ry : VR σ.ρ σ.s.heap y vy) (hu : B.units + 64 < cLine) : EqAt B σ.s vx vy (decide (a = b)) := by
  obtain ⟨⟨as,ra⟩,oa⟩ := khg σ ha rx
  obtain ⟨⟨bs,rb⟩,ob⟩ := khg σ hb ry
  rw [← eqv_dt (rdV_wf ha) (rdV_wf hb) oa ob]
  have la := kqd_lay 8 _ oa
  have lb := kqd_lay 8 _ ob
  exact eqAt_reads _ _ B σ.s vx vy as bs ra rb la.1 lb.1 (by have := la.2; omega)
theorem lt_d0 (σ : St g z) {B : Around} {x y : At} {a b : D0} {vx vy : Value} {r : Bool} (ha : rd0 σ.H x = some a) (hb : rd0 σ.H y = some b) (rx : AtR σ.ρ x vx) (ry : AtR σ.ρ y vy) (hl : lt0 a b = some r) (hu : B.units + 2 < cLine) : LtAt B σ.s vx vy r := by
  unfold rd0 at ha hb
  split at ha
  · rename_i x0
    split at ha
    · cases ha
      obtain ⟨t,rfl⟩ := rx
      split at hb
      · rename_i y0
        split at hb
        · cases hb
          obtain ⟨u,rfl⟩ := ry
          cases hl
          unfold ltStr
          rw [kjk]; exact LtAt.str
        · cases hb
      · obtain ⟨l,_,rfl⟩ := Option.map_eq_some_iff.mp hb
        cases hl
      · cases hb
    · cases ha
  · rename_i n
    obtain ⟨l,hl1,rfl⟩ := Option.map_eq_some_iff.mp ha
    obtain ⟨p,ws,m,rfl,il,ia⟩ := kgh σ hl1 rx
    split at hb
    · split at hb
      · cases hb; cases hl
      · cases hb
    · obtain ⟨l2,hl2,rfl⟩ := Option.map_eq_some_iff.mp hb
      obtain ⟨p2,ws2,m2,rfl,il2,ia2⟩ := kgh σ hl2 ry
      cases hl
      exact lt_ints il il2 ia ia2 hu
    · cases hb
  · cases ha
theorem klr {H : Hp} {x : At} {a : D0} (h : rd0 H x = some a) : rdV H (.at x) = some (.d0 a) := by
  unfold rd0 at h
  unfold rdV
  split at h
  · split at h
    · rename_i hf; cases h; simp [hf]
    · cases h
  · obtain ⟨l,hl,rfl⟩ := Option.map_eq_some_iff.mp h
    simp [hl]
  · cases h
theorem lt_pr (σ : St g z) {B : Around} {x y : V} {a b : D0 × Int} {vx vy : Value} {r : Bool} (ha : rdPr σ.H x = some a) (hb : rdPr σ.H y = some b) (rx : VR σ.ρ σ.s.heap x vx) (ry : VR σ.ρ σ.s.heap y vy) (hl : lt0 a.1 b.1 = some r) (hu : B.units + 66 < cLine) :
    LtAt B σ.s vx vy (if a.1 = b.1 then decide (a.2 < b.2) else r) := by
  obtain ⟨y1,i1,T1,v1,t1,rfl,h1,e1,rfl,g1,r1⟩ := kem σ ha rx
  obtain ⟨y2,i2,T2,v2,t2,rfl,h2,e2,rfl,g2,r2⟩ := kem σ hb ry
  have key := LtAt.tuples (A := B) (n := 0) (n2 := 0) (e := fun j => if j = 0 then decide (a.1 = b.1) else decide (i1 = i2)) (c := fun j => if j = 0 then r else decide (i1 < i2)) g1 g2 (by omega) (fun j k1 k2 => by
      have : j = 0 ∨ j = 1 := by simp only [List.size_toArray,List.length_cons,List.length_nil] at k1; omega
      rcases this with rfl | rfl
      · have := eq_at σ (B := B.in1) (klr h1) (klr h2) r1 r2 (by show B.units + 1 + 64 < cLine; omega)
        simpa using this
      · exact eq_int (by show B.units + 1 < cLine; omega)) (fun j k1 k2 => by
      have : j = 0 ∨ j = 1 := by simp only [List.size_toArray,List.length_cons,List.length_nil] at k1; omega
      rcases this with rfl | rfl
      · exact lt_d0 σ (B := B.in1) h1 h2 r1 r2 hl (by show B.units + 1 + 2 < cLine; omega)
      · exact LtAt.int)
  have e : lexB (fun j => if j = 0 then decide (a.1 = b.1) else decide (i1 = i2)) (fun j => if j = 0 then r else decide (i1 < i2)) 2 2 2 0 = if a.1 = b.1 then decide (a.2 < b.2) else r := by
    simp only [lexB,if_pos,Nat.zero_add,e1,e2]
    by_cases hh : a.1 = b.1
    · simp only [hh,decide_true,if_pos]
      by_cases hi : i1 = i2
      · subst hi; simp
      · simp [hi]
    · simp [hh]
  simp only [List.size_toArray,List.length_cons,List.length_nil,Nat.zero_add,Nat.reduceAdd,Nat.min_self] at key
  rw [e] at key
  exact key
theorem lt_at (σ : St g z) {B : Around} {x y : V} {vx vy : Value} {r : Bool} (hl : ltV σ.H x y = some r) (rx : VR σ.ρ σ.s.heap x vx) (ry : VR σ.ρ σ.s.heap y vy) (hu : B.units + 66 < cLine) : LtAt B σ.s vx vy r := by
  unfold ltV at hl
  cases ha : rdV σ.H x with
  | none => rw [ha] at hl; cases hl
  | some a => cases hb : rdV σ.H y with
    | none => rw [ha,hb] at hl; cases hl
    | some b =>
      replace hl : ltD a b = some r := by rw [ha,hb] at hl; exact hl
      cases a with
      | int i => cases b with
        | int j =>
          cases hl
          rw [rdV_int ha] at rx; rw [rdV_int hb] at ry
          obtain ⟨t,rfl⟩ := rx; obtain ⟨u,rfl⟩ := ry
          exact LtAt.int
        | _ => cases hl
      | d0 x0 => cases b with
        | d0 y0 =>
          obtain ⟨z1,rfl,g1⟩ := rdV_d0 ha
          obtain ⟨z2,rfl,g2⟩ := rdV_d0 hb
          exact lt_d0 σ g1 g2 rx ry hl (by omega)
        | _ => cases hl
      | pr x0 i => cases b with
        | pr y0 j =>
          replace hl : (match lt0 x0 y0 with | some b => some (if x0 = y0 then decide (i < j) else b) | none => none) = some r := hl
          cases hr : lt0 x0 y0 with
          | none => rw [hr] at hl; cases hl
          | some b =>
            rw [hr] at hl
            cases hl
            exact lt_pr σ (rdV_pr ha) (rdV_pr hb) rx ry hr hu
        | _ => cases hl
      | _ => cases hl
end
end Mine
namespace Mine
open PySem PySem.W PySem.Calls PyProof.Rows PySem.SeqAt PySem.Spec
section
variable {g : Gl} {sc : Sc} {q : Bool} {d : Nat} {z : Fc sc q d}
theorem mapO_get {α β : Type} {g : α → Option β} : ∀ {l : List α} {m : List β},mapO g l = some m → ∀ {i : Nat} {y : β},m[i]? = some y → ∃ x,l[i]? = some x ∧ g x = some y
  | [],_,e,i,y,h => by cases e; simp at h
  | x :: r,_,e,i,y,h => by
    obtain ⟨z,l,h1,h2,rfl⟩ := mapO_cons e
    cases i with
    | zero => simp at h; subst h; exact ⟨x,rfl,h1⟩
    | succ i => simp at h ⊢; exact mapO_get h2 h
open Classical in
theorem in_core (σ : St g z) {x : At} {xs : List V} {vx : Value} {ws : List Value} {r : Bool} (hr : kii σ.H x xs = some r) (rx : AtR σ.ρ x vx) (pr : Paired (VR σ.ρ σ.s.heap) xs ws) (hu : z.A.units + 65 < cLine) :
    ∃ e : Value → Bool,(∀ y,y ∈ ws.toArray → EqAt z.A.in1 σ.s y vx (e y)) ∧ ws.toArray.any e = r := by
  unfold kii at hr
  split at hr
  · rename_i a l ha hl
    cases hr
    have hlen := kit hl
    have hlen2 := Paired.length pr
    have at_ : ∀ (i : Nat) (y : Value) (b : Dt),ws[i]? = some y → l[i]? = some b → EqAt z.A.in1 σ.s y vx (decide (b = a)) := fun i y b h1 h2 => by
      obtain ⟨v,hz,gz⟩ := mapO_get hl h2
      obtain ⟨y',hy',rz⟩ := pget pr hz
      rw [h1] at hy'; cases hy'
      exact eq_at σ gz ha rz rx (by show z.A.units + 1 + 64 < cLine; omega)
    refine ⟨fun y => decide (∃ i : Nat,ws[i]? = some y ∧ l[i]? = some a),fun y hy => ?_,?_⟩
    · dsimp only
      by_cases h : ∃ i : Nat,ws[i]? = some y ∧ l[i]? = some a
      · rw [decide_eq_true h]
        obtain ⟨i,h1,h2⟩ := h
        have := at_ i y a h1 h2
        rwa [decide_eq_true rfl] at this
      · rw [decide_eq_false h]
        obtain ⟨i,hi⟩ := List.getElem?_of_mem (List.mem_toArray.mp hy)
        have hil : i < l.length := by have := (List.getElem?_eq_some_iff.mp hi).1; omega
        have := at_ i y l[i] hi (by simp [hil])
        rwa [decide_eq_false (fun e => h ⟨i,hi,by rw [← e]; simp [hil]⟩)] at this
    · rw [Bool.eq_iff_iff,Array.any_eq_true,List.any_eq_true]
      constructor
      · rintro ⟨j,hj,hh⟩
        obtain ⟨i,h1,h2⟩ := of_decide_eq_true hh
        exact ⟨a,List.mem_of_getElem? h2,decide_eq_true rfl⟩
      · rintro ⟨b,hb,hh⟩
        have hba := of_decide_eq_true hh
        subst hba
        obtain ⟨i,hi⟩ := List.getElem?_of_mem hb
        have hiw : i < ws.length := by have := (List.getElem?_eq_some_iff.mp hi).1; omega
        exact ⟨i,by simpa using hiw,decide_eq_true ⟨i,by simp [hiw],hi⟩⟩
  · cases hr
theorem kkn (kvs : List (Int × Value)) (i : Int) : (valueAt kvs i).isSome = kvs.any fun e => e.1 = i := by
  unfold valueAt
  rw [Option.isSome_map,Bool.eq_iff_iff,List.find?_isSome,List.any_eq_true]
def BlR (_ : RM) (_ : Heap) (b : Bool) (v : Value) : Prop := v = .bool b
theorem Fc.line (z : Fc sc q d) : z.A.units + 66 < cLine := by have := z.cx.units; unfold cLine; omega
theorem eq_core (σ : St g z) {x y : V} {vx vy : Value} {r : Bool} (rx : VR σ.ρ σ.s.heap x vx) (ry : VR σ.ρ σ.s.heap y vy) (hr : eqV σ.H x y = some r) : ∃ da db as bs,Reads σ.s.heap vx da as ∧ Reads σ.s.heap vy db bs ∧ shaped da = true ∧ shaped db = true ∧ PyData.eqv da db = r := by
  unfold eqV at hr
  split at hr
  · rename_i a c ha hc
    cases hr
    obtain ⟨⟨as,ra⟩,oa⟩ := khg σ ha rx
    obtain ⟨⟨bs,rb⟩,ob⟩ := khg σ hc ry
    exact ⟨_,_,as,bs,ra,rb,shaped_dt oa,shaped_dt ob,eqv_dt (rdV_wf ha) (rdV_wf hc) oa ob⟩
  · cases hr
theorem op_lt : Op2 g BlR (compareOp .Lt) (cmp .Lt) := by
  intro sc q d z σ x y vx vy Φ E Q rx ry e k
  obtain ⟨b,hl,e1⟩ := khz e
  exact lt_at σ hl rx ry z.line g.prog g.w E Q (k σ _ _ .rfl e1 rfl)
theorem op_eq : Op2 g BlR (compareOp .Eq) (cmp .Eq) := by
  intro sc q d z σ x y vx vy Φ E Q rx ry e k
  obtain ⟨b,hl,e1⟩ := khz e
  obtain ⟨da,db,as,bs,ra,rb,sa,sb,hq⟩ := eq_core σ rx ry hl
  exact eq_dataH ra rb sa sb (by have := z.line; omega) (by rw [hq]; exact k σ _ _ .rfl e1 rfl)
theorem op_ne : Op2 g BlR (compareOp .NotEq) (cmp .NotEq) := by
  intro sc q d z σ x y vx vy Φ E Q rx ry e k
  obtain ⟨b,hl,e1⟩ := khz e
  obtain ⟨r,hr,rfl⟩ := Option.map_eq_some_iff.mp hl
  obtain ⟨da,db,as,bs,ra,rb,sa,sb,hq⟩ := eq_core σ rx ry hr
  exact ne_dataH ra rb sa sb (by have := z.line; omega) (by rw [hq]; exact k σ _ _ .rfl e1 rfl)
theorem op_le : Op2 g BlR (compareOp .LtE) (cmp .LtE) := by
  intro sc q d z σ x y vx vy Φ E Q rx ry e k
  obtain ⟨i,j,e1⟩ := kjf e
  obtain ⟨t,rfl⟩ := rx; obtain ⟨u,rfl⟩ := ry
  exact PyProof.Rows.le_int (k σ _ _ .rfl (kao e1) rfl)
theorem op_gt : Op2 g BlR (compareOp .Gt) (cmp .Gt) := by
  intro sc q d z σ x y vx vy Φ E Q rx ry e k
  obtain ⟨i,j,e1⟩ := kjf e
  obtain ⟨t,rfl⟩ := rx; obtain ⟨u,rfl⟩ := ry
  exact PyProof.Rows.gt_int (k σ _ _ .rfl (kao e1) rfl)
theorem op_ge : Op2 g BlR (compareOp .GtE) (cmp .GtE) := by
  intro sc q d z σ x y vx vy Φ E Q rx ry e k
  obtain ⟨i,j,e1⟩ := kjf e
  obtain ⟨t,rfl⟩ := rx; obtain ⟨u,rfl⟩ := ry
  exact PyProof.Rows.ge_int (k σ _ _ .rfl (kao e1) rfl)
inductive IsN (ρ : RM) (Ψ : Bool → Prop) : Value → Value → Prop
  | n (e : Ψ true) : IsN ρ Ψ .none .none
  | r (p : Addr) (e : Ψ false) : IsN ρ Ψ (.ref p) .none
theorem isN_core (σ : St g z) {x y : V} {vx vy : Value} {Φ : Bool → Fm → Hp → Prop} (rx : VR σ.ρ σ.s.heap x vx) (ry : VR σ.ρ σ.s.heap y vy) (e : ok (isN x y) σ.f σ.H Φ) : IsN σ.ρ (fun b => Φ b σ.f σ.H) vx vy := by
  cases x with
  | tup _ => exact ka4 e
  | «at» x => cases y with
    | tup _ => cases x <;> exact ka4 e
    | «at» y => cases x with
      | none => cases y with
        | none => cases (rx : vx = .none); cases (ry : vy = .none); exact .n (kao e)
        | _ => exact ka4 e
      | ref _ => cases y with
        | none => obtain ⟨p,_,rfl⟩ := rx; cases (ry : vy = .none); exact .r _ (kao e)
        | _ => exact ka4 e
      | _ => exact ka4 e
theorem op_is : Op2 g BlR (compareOp .Is) (cmp .Is) := by
  intro sc q d z σ x y vx vy Φ E Q rx ry e k
  cases isN_core σ rx ry e with
  | n e => exact PySem.is_none (k σ _ _ .rfl e rfl)
  | r p e => exact PySem.is_none (k σ _ _ .rfl e rfl)
theorem op_isnot : Op2 g BlR (compareOp .IsNot) (cmp .IsNot) := by
  intro sc q d z σ x y vx vy Φ E Q rx ry e k
  cases isN_core σ rx ry (kae e) with
  | n e => exact PySem.isNot_none (k σ _ _ .rfl (kao e) rfl)
  | r p e => exact PySem.isNot_none (k σ _ _ .rfl (kao e) rfl)
theorem op_in : Op2 g BlR (compareOp .In) (cmp .In) := by
  intro sc q d z σ x y vx vy Φ E Q rx ry e k
  obtain ⟨x0,e1⟩ := kk6 e
  obtain ⟨a,e2⟩ := kc1 e1
  obtain ⟨o,ho,e3⟩ := ke1 e2
  cases o with
  | list xs =>
    obtain ⟨b,hl,e4⟩ := khz e3
    obtain ⟨l,ws,n,hρ,pl,pr,_⟩ := σ.list ho ry
    obtain ⟨G,hg,ha⟩ := in_core σ hl rx pr (by have := z.line; omega)
    exact in_listAt G (IsList.of pl) hg (by rw [ha]; exact k σ _ _ .rfl e4 rfl)
  | dict es ep =>
    obtain ⟨i,e4⟩ := kdl e3
    obtain ⟨t,rfl⟩ := rx
    obtain ⟨l,kvs,hρ,dk,pr,_⟩ := σ.dict ho ry
    have h1 : (valueAt kvs i).isSome = _ := (kkn kvs i).trans (klg pr).symm
    exact wpAny_in_of (intKind_is g.prog g.w i t) (σ.notSys hρ) dk.dictOf.mapOf (by rw [h1]; exact k (σ.toks _) _ _ (σ.toks_to _) (kao e4) rfl)
  | set xs =>
    obtain ⟨i,e4⟩ := kdl e3
    obtain ⟨t,rfl⟩ := rx
    obtain ⟨l,S,hρ,st,hS⟩ := σ.set ho ry
    exact wpAny_inSet_of (intKind_is g.prog g.w i t) rfl st (by rw [hS]; exact k (σ.toks _) _ _ (σ.toks_to _) (kao e4) rfl)
  | _ => exact ka4 e3
theorem op_notin : Op2 g BlR (compareOp .NotIn) (cmp .NotIn) := by
  intro sc q d z σ x y vx vy Φ E Q rx ry e k
  obtain ⟨x0,e1⟩ := kk6 e
  obtain ⟨a,xs,ho,e2⟩ := kf3 e1
  obtain ⟨b,hl,e3⟩ := khz e2
  obtain ⟨r,hr,rfl⟩ := Option.map_eq_some_iff.mp hl
  obtain ⟨l,ws,n,hρ,pl,pr,_⟩ := σ.list ho ry
  obtain ⟨G,hg,ha⟩ := in_core σ hr rx pr (by have := z.line; omega)
  exact notIn_listAt G (IsList.of pl) hg (by rw [ha]; exact k σ _ _ .rfl e3 rfl)
theorem op_cmp : ∀ op : CmpOp,Op2 g BlR (compareOp op) (cmp op)
  | .Lt => op_lt | .Eq => op_eq | .NotEq => op_ne | .LtE => op_le | .Gt => op_gt | .GtE => op_ge | .Is => op_is | .IsNot => op_isnot | .In => op_in | .NotIn => op_notin
theorem kbx {op : CmpOp} {l r : Expr} {p : Pos} {a b : M V} (ha : RE g sc q d l a) (hb : RE g sc q d r b) (hm : behindInMarks op r = false := by rfl) : RT g sc q d (.Compare l [op] [r] p) (cmp_ op a b) :=
  fun z σ Φ E Q e k => wpAny_isTrue_Compare1 (ha z σ _ E _ (kae e) fun σ₁ vx x t₁ e₁ rx => hb z σ₁ _ E _ (kae e₁) fun σ₂ vy y t₂ e₂ ry => op_cmp op σ₂ x y vx vy Φ E _ (t₂.vr rx) ry e₂ fun τ v b t e r => by cases (r : v = _); exact wpAny_truthy_bool (k τ _ _ ((t₁.trans t₂).trans t) e rfl)) hm
theorem re_cmp {op : CmpOp} {l r : Expr} {p : Pos} {a b : M V} (ha : RE g sc q d l a) (hb : RE g sc q d r b) (hm : behindInMarks op r = false := by rfl) : RE g sc q d (.Compare l [op] [r] p) (asV (cmp_ op a b)) :=
  fun z σ Φ E Q e k => wpAny_Compare1 (ha z σ _ E _ (kae (kae e)) fun σ₁ vx x t₁ e₁ rx => hb z σ₁ _ E _ (kae e₁) fun σ₂ vy y t₂ e₂ ry => op_cmp op σ₂ x y vx vy _ E _ (t₂.vr rx) ry e₂ fun τ v b t e r => k τ _ _ ((t₁.trans t₂).trans t) (kao e) r) hm
theorem rt_cmp2 {op1 op2 : CmpOp} {l m r : Expr} {p : Pos} {a b c : M V} (ha : RE g sc q d l a) (hb : RE g sc q d m b) (hc : RE g sc q d r c) (hm : lastMarks [op1,op2] [m,r] = false := by rfl) :
    RT g sc q d (.Compare l [op1,op2] [m,r] p) (cmp2_ op1 op2 a b c) := by
  intro z σ Φ E Q e k
  refine isTrue_chain (ha z σ _ E _ (kae e) fun σ₁ vx x t₁ e₁ rx => test_link (hb z σ₁ _ E _ (kae e₁) fun σ₂ vy y t₂ e₂ ry => op_cmp op1 σ₂ x y vx vy _ E _ (t₂.vr rx) ry (kae e₂) fun σ₃ v bb t₃ e₃ r => ?_)) hm
  cases (r : v = _)
  refine wpAny_truthy_bool ?_
  cases bb with
  | false => exact k σ₃ _ _ ((t₁.trans t₂).trans t₃) (kao e₃) rfl
  | true => exact test_last (hc z σ₃ _ E _ (kae e₃) fun σ₄ vw w' t₄ e₄ rw' => op_cmp op2 σ₄ y w' vy vw Φ E _ (t₄.vr (t₃.vr ry)) rw' e₄ fun τ v b t e r => by cases (r : v = _); exact wpAny_truthy_bool (k τ _ _ ((((t₁.trans t₂).trans t₃).trans t₄).trans t) e rfl))
end
end Mine
namespace Mine
open PySem PySem.W PySem.Calls PyProof.Rows
section
variable {g : Gl} {sc : Sc} {q : Bool} {d : Nat}
theorem re_and {x y : Expr} {p : Pos} {a b : M V} (ha : RE g sc q d x a) (hb : RE g sc q d y b) : RE g sc q d (.BoolOp .And [x,y] p) (andV a b) := by
  intro z σ Φ E Q e k
  refine wpAny_And2 (ha z σ _ E _ (kae e) fun σ₁ vx x t₁ e₁ rx => khh σ₁ x vx _ E _ rx (kae e₁) fun σ₂ bb b' t₂ e₂ r => ?_)
  cases (r : b' = bb)
  cases bb with
  | true => exact hb z σ₂ Φ E Q e₂ fun τ a b t => k τ a b ((t₁.trans t₂).trans t)
  | false => exact k σ₂ _ _ (t₁.trans t₂) (kao e₂) (t₂.vr rx)
theorem re_or {x y : Expr} {p : Pos} {a b : M V} (ha : RE g sc q d x a) (hb : RE g sc q d y b) : RE g sc q d (.BoolOp .Or [x,y] p) (orV a b) := by
  intro z σ Φ E Q e k
  refine wpAny_Or2 (ha z σ _ E _ (kae e) fun σ₁ vx x t₁ e₁ rx => khh σ₁ x vx _ E _ rx (kae e₁) fun σ₂ bb b' t₂ e₂ r => ?_)
  cases (r : b' = bb)
  cases bb with
  | false => exact hb z σ₂ Φ E Q e₂ fun τ a b t => k τ a b ((t₁.trans t₂).trans t)
  | true => exact k σ₂ _ _ (t₁.trans t₂) (kao e₂) (t₂.vr rx)
theorem re_not {x : Expr} {p : Pos} {a : M V} (ha : RE g sc q d x a) : RE g sc q d (.UnaryOp .Not x p) (asV (not_ (test a))) :=
  fun z σ Φ E Q e k => wpAny_UnaryOp (ha z σ _ E _ (kae (kae (kae e))) fun σ₁ vx x t₁ e₁ rx => PySem.not_value (khh σ₁ x vx _ E _ rx e₁ fun σ₂ bb b' t₂ e₂ r => by
    cases (r : b' = bb)
    exact k σ₂ _ _ (t₁.trans t₂) (kao (kao e₂)) rfl))
theorem re_neg {i : Int} {j : Nat} {p p' : Pos} : RE g sc q d (.UnaryOp .USub (.Constant (.int i) j p) p') (cst (.int (-i))) :=
  fun z σ Φ E Q e k => wpAny_UnaryOp (wpAny_Constant_int (PyProof.Rows.neg_int (k (σ.toks _) _ _ (σ.toks_to _) (kao e) ⟨_,rfl⟩)))
theorem klq {x : Str} {p : Pos} {i : Int} {t : Tok} (hx : sc.names.lookup x = some .globalImplicit) (hv : gval g.K x = some (.int i t)) (hd : (x == ("__debug__" : Str)) = false := by decide) : RE g sc q d (.Name x p) (cst (.int i)) :=
  fun z σ Φ E Q e k => kg2 σ hx hv (k σ _ _ .rfl (kao e) ⟨t,rfl⟩) hd
theorem kel {tgt arg : Expr} {x : Str} {p pos : Pos} {a : M V} (hx : sc.names.lookup x = some .globalImplicit) (hv : gval g.K x = some (.type "range")) (ha : RE g sc q d arg a)
    (he : ∀ env,backTo pos (starEach [arg] env) = [(false,eval arg env)] := by intro _; rfl) (hd : (x == ("__debug__" : Str)) = false := by decide) : RSrc g sc q d tgt (.Call (.Name x p) [arg] [] pos) (app1 kct a) := by
  intro z σ Φ E Q em k
  refine wpAny_Call_NameR (kg2 σ hx hv ?_ hd)
  rw [he]
  refine PySem.callWith_type rfl (evalArgs_plain (spliced_cons (ha z σ _ E _ (kae em) fun σ₁ val v t₁ e₁ r => spliced_nil ?_)))
  obtain ⟨n,e2⟩ := kdl e₁
  obtain ⟨hn,e3⟩ := kfh e2
  obtain ⟨t,rfl⟩ := r
  refine call_range_1 ?_
  refine wpAny_pyIter_range (IsRange.new ..) (small_one (by decide) (by decide) (by omega) (by omega)) ?_
  have hsz : Builtin.Range.rangeSize 0 n 1 = (n.toNat : Int) := by rw [rangeSize_one]; split <;> omega
  rw [hsz]
  exact k ((σ₁.push { cls := .type "range",data := .fields #[.int 0 σ₁.s.toks,.int n t,.int 1 (σ₁.s.toks + 1)] } (σ₁.s.toks + 1 + 1)).push _ (σ₁.s.toks + 1 + 1)) _ _ _ _ _ _
    (khv (sv := .at .none) (vv := .none) (t₁.trans (σ₁.keep_to kb8)) _ _ (steps_range (n := n.toNat)) rfl (by simp) rfl) (kao e3)
theorem rsrc_items {elts : List Expr} {kk : Nat} {pt : Pos} {o : Expr} {ap pos : Pos} {a : M V} (ha : RE g sc q d o a) (hbase : ∀ env,attributeBase o "items" env (eval o env) = eval o env := by intro _; rfl) (hline : (ap.endLine == pos.line) = true := by rfl) :
    RSrc g sc q d (.Tuple elts kk pt) (.Call (.Attribute o "items" ap) [] [] pos) (app1 srcItems a) := by
  intro z σ Φ E Q em k
  refine wpAny_Call_method0_late (hbase z.env) hline (ha z σ _ E _ (kae em) fun σ₁ val v t₁ e₁ r => ?_)
  obtain ⟨n,es,ep,ho,e2⟩ := ok_dct e₁
  obtain ⟨l,kvs,hρ,dk,pr,_⟩ := σ₁.dict ho r
  obtain ⟨od,_,hod,hex,_⟩ := id dk
  have hT := dk.dictOf.typeIs (s := σ₁.s)
  refine ⟨"dict",_,F.plainAttrs_dict,F.slot_dict_items,F.type_dict_items,hT,(fun b eb => by cases eb; exact ⟨_,hod,hex.2.1⟩),?_⟩
  refine method_meetsIn F.slot_dict_items F.entry_dict_items rfl (PySem.evalArgs_none ⟨rfl,hT,F.args_dict_items_1 _,_,meets_dict_items (intKind g.prog g.w) l (σ₁.notSys hρ),⟨kvs,dk.dictOf⟩,?_⟩)
  refine wpAny_pyIter_items (knd := intKind g.prog g.w) (d := l) (kvs := kvs) (ep := ep) ⟨_,Heap.get?_push_size _ rfl,rfl,rfl⟩ (dk.push _) ?_
  exact k ((σ₁.push { cls := .type "dict_items",data := .fields #[.ref l] } σ₁.s.toks).push _ σ₁.s.toks) _ _ _ _ _ _
    (khv (t₁.trans (σ₁.keep_to kb8)) _ _ steps_items rfl ⟨.none,.none,by rw [Paired.length pr]; rfl⟩ (kg3 r _)) (kao e2)
theorem rsrc_values {tgt : Expr} {o : Expr} {ap pos : Pos} {a : M V} (ha : RE g sc q d o a) (hbase : ∀ env,attributeBase o "values" env (eval o env) = eval o env := by intro _; rfl) (hline : (ap.endLine == pos.line) = true := by rfl) :
    RSrc g sc q d tgt (.Call (.Attribute o "values" ap) [] [] pos) (app1 srcValues a) := by
  intro z σ Φ E Q em k
  refine wpAny_Call_method0_late (hbase z.env) hline (ha z σ _ E _ (kae em) fun σ₁ val v t₁ e₁ r => ?_)
  obtain ⟨n,es,ep,ho,e2⟩ := ok_dct e₁
  obtain ⟨l,kvs,hρ,dk,pr,_⟩ := σ₁.dict ho r
  obtain ⟨od,_,hod,hex,_⟩ := id dk
  have hT := dk.dictOf.typeIs (s := σ₁.s)
  refine ⟨"dict",_,F.plainAttrs_dict,F.slot_dict_values,F.type_dict_values,hT,(fun b eb => by cases eb; exact ⟨_,hod,hex.2.1⟩),?_⟩
  refine method_meetsIn F.slot_dict_values F.entry_dict_values rfl (PySem.evalArgs_none ⟨rfl,hT,F.args_dict_values_1 _,_,meets_dict_values (intKind g.prog g.w) l (σ₁.notSys hρ),⟨kvs,dk.dictOf⟩,?_⟩)
  refine wpAny_pyIter_values (knd := intKind g.prog g.w) (d := l) (kvs := kvs) (ep := ep) ⟨_,Heap.get?_push_size _ rfl,rfl,rfl⟩ (dk.push _) ?_
  exact k ((σ₁.push { cls := .type "dict_values",data := .fields #[.ref l] } σ₁.s.toks).push _ σ₁.s.toks) _ _ _ _ _ _
    (khv (t₁.trans (σ₁.keep_to kb8)) _ _ steps_values rfl ⟨rfl,by rw [Paired.length pr]; rfl⟩ (kg3 r _)) (kao e2)
end
end Mine
namespace Mine
open PySem PySem.W PySem.Calls PyProof.Rows
structure Meth (K : Frag) (name : Str) (fa : Addr) : Prop where
  find : findIn K (.ref kdd) name = some (some (.ref fa))
  fn : isFn K (.ref fa) = true
  keep : keepIn K (.ref fa) = true
  inK : fnIn K fa = true
  own : name ∉ instNames
  special : specialIn K (.ref fa) "__get__" = some (some (.builtin "function.__get__"))
  takes : takesIn K (.ref fa) = some false
  copied : copiedNames.contains name = false
section
variable {g : Gl} {sc : Sc} {q : Bool} {d : Nat} {z : Fc sc q d}
inductive InstOf (σ : St g z) (name : Str) : Value → Prop
  | mk (x dx : Addr) (es : List DictEntry) (ne : Nat) (ia : InstAt σ.s.heap x (instObj kdd dx) kdd (some (dictOf es ne))) (hg : getL name es = some none) : InstOf σ name (.ref x)
theorem inst_of (σ : St g z) {n : Nat} {ob : O} {lv : Value} (ho : σ.H[n]? = some ob) (hk : kk9 ob = true) (rl : VR σ.ρ σ.s.heap (.at (.ref n)) lv) {name : Str} (hn : name ∉ instNames) : InstOf σ name lv := by
  cases ob <;> first | cases hk | skip
  rename_i fs
  obtain ⟨p1,p2,hp,oa⟩ := σ.ref ho rl
  obtain ⟨es,ne,o1,o2,pr⟩ := oa
  refine ⟨p1,p2,es,ne,⟨o1,rfl,rfl,o2⟩,(kgs pr).2 ?_⟩
  cases hl : fs.lookup name with
  | none => rfl
  | some a =>
    have hm := PySem.mem_of_lookup hl
    have := List.all_eq_true.mp hk _ hm
    exact absurd (by simpa using this) hn
theorem meth_core {o : Expr} {name : Str} {ap pos : Pos} {args : List Expr} {a : M V} {fa : Addr} {pl : Env → Sem Bool} {k : V → M V} (Mt : Meth g.K name fa) (ha : RE g sc q d o a)
    (he : ∀ env,eval (.Call (.Attribute o name ap) args [] pos) env = (do
      let ov ← eval o env
      standAt ap.atName
      let (f,first) ← holding [ov] (getMethod ov name (pl env))
      callWith pos f first (backTo pos (starEach args env)) (backToKw pos (keywordEach [] env))))
    (hk : ∀ (z : Fc sc q d) (σ : St g z) (i : Nat) (x : Addr) (Φ : V → Fm → Hp → Prop) (E : Value → Shared → Prop) (Q : Value → Shared → Prop),VR σ.ρ σ.s.heap (.at (.ref i)) (.ref x) → ok (k (.at (.ref i))) σ.f σ.H Φ →
      (∀ (τ : St g z) a b,To σ τ → Φ b τ.f τ.H → VR τ.ρ τ.s.heap b a → Q a τ.s) → wpAny (model g.prog g.w) z.A (callWith pos (.ref fa) [.ref x] (backTo pos (starEach args z.env)) []) Q E σ.s) :
    RE g sc q d (.Call (.Attribute o name ap) args [] pos) (bnd a fun x => bnd (chk kk9 x) fun _ => k x) := by
  intro z σ Φ E Q e kk
  refine methodCall_KW (pl := pl z.env) (ha z σ _ E _ (kae e) fun σ₁ lv v t₁ e₁ rl => ?_) (he z.env)
  obtain ⟨i,ob,ho,hkk,e2⟩ := ok_chk (kae e₁)
  obtain ⟨x,dx,es,ne,ia,hg⟩ := inst_of σ₁ ho hkk rl Mt.own
  obtain ⟨mm,Fm⟩ := σ₁.frm
  exact method_inst Fm g.bs.kin ia g.cls.sGet Mt.find Mt.fn hg (hk z σ₁ i x Φ E Q rl e2 fun τ a b t => kk τ a b (t₁.trans t))
theorem kft {o : Expr} {name : Str} {ap pos : Pos} {args : List Expr} {a : M V} {l : List (M V)} {n : Nat} {m : M AF} {fa : Addr} {pl : Env → Sem Bool} (Mt : Meth g.K name fa) (ha : RE g sc q d o a) (hl : RA g sc q d pos args (all l))
    (hm : CallOk g q d (.ref fa) (l.length + 1) (call n m)) (hst : ∀ env,(backTo pos (starEach args env)).any (·.1) = false := by intro _; rfl)
    (he : ∀ env,eval (.Call (.Attribute o name ap) args [] pos) env = (do
      let ov ← eval o env
      standAt ap.atName
      let (f,first) ← holding [ov] (getMethod ov name (pl env))
      callWith pos f first (backTo pos (starEach args env)) (backToKw pos (keywordEach [] env))) := by intro _; rfl) :
    RE g sc q d (.Call (.Attribute o name ap) args [] pos) (kip n m a l) :=
  meth_core Mt ha he fun z σ i x Φ E Q rl e k => ker (K := g.K) (by unfold kept; exact Mt.keep) (hst z.env) (hl z σ _ E _ (kkd (kae e)) fun σ₂ vals vs t₂ e₂ r => ⟨σ₂.kin,
    hm σ₂ (.at (.ref i) :: vs) (.ref x :: vals) Φ E Q (by rw [List.length_cons,e₂.1]) (.cons (t₂.vr rl) r) e₂.2 fun τ a b t => k τ a b (t₂.trans t)⟩)
noncomputable def gVar : List V → Option (List V)
  | [x,.at a] => some [x,.tup [a]]
  | _ => none
theorem re_var1 {o x : Expr} {name : Str} {ap pos : Pos} {a b : M V} {n : Nat} {m : M AF} {fa : Addr} {pl : Env → Sem Bool} (Mt : Meth g.K name fa) (ha : RE g sc q d o a) (hb : RE g sc q d x b)
    (hm : CallOk g q d (.ref fa) 2 (kkt gVar n m)) (hst : ∀ env,backTo pos (starEach [x] env) = [(false,eval x env)] := by intro _; rfl)
    (he : ∀ env,eval (.Call (.Attribute o name ap) [x] [] pos) env = (do
      let ov ← eval o env
      standAt ap.atName
      let (f,first) ← holding [ov] (getMethod ov name (pl env))
      callWith pos f first (backTo pos (starEach [x] env)) (backToKw pos (keywordEach [] env))) := by intro _; rfl) :
    RE g sc q d (.Call (.Attribute o name ap) [x] [] pos) (ki0 n m a b) :=
  meth_core Mt ha he fun z σ i xx Φ E Q rl e k => ker (K := g.K) (by unfold kept; exact Mt.keep) (by rw [hst]; rfl) (by
    rw [hst]
    refine spliced_cons (hb z σ _ E _ (kae e) fun σ₂ val y t₂ e₂ r => spliced_nil ⟨σ₂.kin,?_⟩)
    obtain ⟨y0,e3⟩ := kk6 e₂
    exact hm σ₂ [.at (.ref i),.at y0] [.ref xx,val] Φ E Q rfl (.cons (t₂.vr rl) (.cons r .nil)) e3 fun τ a b t => k τ a b (t₂.trans t))
noncomputable def gStar : List V → Option (List V)
  | x :: y :: r => (khs r).map fun l => [x,y,.tup l]
  | _ => none
theorem paired_up {ρ : RM} {h : Heap} {l : List At} {vs : List Value} (p : Paired (AtR ρ) l vs) : Paired (VR ρ h) (l.map V.at) vs := by
  induction p with
  | nil => exact .nil
  | cons a _ ih => exact .cons a ih
theorem atsOf_map (l : List At) : khs (l.map V.at) = some l := by
  induction l with
  | nil => rfl
  | cons a r ih => simp [khs,ih]
inductive Seq1 (σ : St g z) (P : List V → Prop) : Value → Prop
  | mk (T : String) (hT : T = "list" ∨ T = "tuple") (ad : Addr) (ob : Obj) (nn : Nat) (xs : List V) (ws : List Value) (ha : σ.s.heap.get? ad = some ob) (hc : ob.cls = .type T) (hd : ob.data = .seq ws.toArray nn) (pr : Paired (VR σ.ρ σ.s.heap) xs ws) (e : P xs) : Seq1 σ P (.ref ad)
theorem seq_of (σ : St g z) {v : V} {val : Value} {Φ : Src → Fm → Hp → Prop} (r : VR σ.ρ σ.s.heap v val) (e : ok (seqOf v) σ.f σ.H Φ) : Seq1 σ (fun xs => ∃ gd,Φ ⟨xs,gd⟩ σ.f σ.H) val := by
  unfold seqOf at e
  split at e
  · obtain ⟨T,ws,rfl,hT,pr⟩ := r
    exact ⟨"tuple",.inr rfl,T,_,0,_,ws,hT,rfl,rfl,paired_up pr,_,kao e⟩
  · obtain ⟨a,xs,ho,e1⟩ := kf3 e
    obtain ⟨l,ws,n,_,pl,pr,_⟩ := σ.list ho r
    exact ⟨"list",.inl rfl,l,_,n,xs,ws,pl,rfl,rfl,pr,_,kao e1⟩
theorem star_of {M : Model} {A : Around} {E : Value → Shared → Prop} {s : Shared} {T : String} {ad : Addr} {ob : Obj} {Q : List Value → Shared → Prop} (hT : T = "list" ∨ T = "tuple") (ha : s.heap.get? ad = some ob) (hc : ob.cls = .type T) (h : wpAny M A (collect (.ref ad)) Q E s) : StarOf M A E (.ref ad) Q s := by
  have hT' : Shared.TypeIs s (.ref ad) T := ⟨ob,ha,hc⟩
  unfold StarOf notIterableAtAll
  rcases hT with rfl | rfl
  · exact wpAny_bind (wpAny_specialOf hT' PySem.F.slot_list_iter.lookup (wpAny_pure ⟨rfl,h⟩))
  · exact wpAny_bind (wpAny_specialOf hT' PySem.F.slot_tuple_iter.lookup (wpAny_pure ⟨rfl,h⟩))
theorem re_star {o x y : Expr} {name : Str} {ap pos sp : Pos} {a b l : M V} {n : Nat} {m : M AF} {fa : Addr} (Mt : Meth g.K name fa) (ha : RE g sc q d o a) (hb : RE g sc q d x b) (hz : RE g sc q d y l)
    (hm : CallGen g q d (.ref fa) (fun n => 2 ≤ n ∧ n ≤ 2000) (kkt gStar n m))
    (h1 : ∀ env,starEach [x,.Starred y sp] env = (false,eval x env) :: starEach [.Starred y sp] env := by intro _; rfl) (h2 : ∀ env,starEach [.Starred y sp] env = [(true,eval y env)] := by intro _; rfl)
    (he : ∀ env,eval (.Call (.Attribute o name ap) [x,.Starred y sp] [] pos) env = (do
      let ov ← eval o env
      standAt ap.atName
      let (f,first) ← holding [ov] (do pure (← getAttr ov name true,[]))
      let callPos ← methodCallPos false o env ap pos
      callWith callPos f first (backTo pos (starEach [x,.Starred y sp] env)) (backToKw pos (keywordEach [] env))) := by intro _; rfl) :
    RE g sc q d (.Call (.Attribute o name ap) [x,.Starred y sp] [] pos) (callStar n m a b l) := by
  intro z σ Φ E Q e k
  rw [he]
  refine wpAny_bind (ha z σ _ E _ (kae e) fun σ₁ lv v t₁ e₁ rl => wpAny_bind (wpAny_standAt (wpAny_bind (wpAny_holding (wpAny_bind ?_)))))
  obtain ⟨i,ob,ho,hk,e2⟩ := ok_chk (kae e₁)
  obtain ⟨xx,dx,es,ne,ia,hg⟩ := inst_of σ₁ ho hk rl Mt.own
  refine get_bind σ₁.kin ia (plainGet_of g.cls.sGet).1 (findObj_fn g.cls.sDict Mt.find Mt.special Mt.takes Mt.copied (by show lookIn name (dictOf es ne) = _; rw [lookIn_dict,hg])) (plainGet_of g.cls.sGet).2
    (wpAny_call (fn_get (s := { σ₁.s with toks := σ₁.s.toks + 1 }) σ₁.kin (beq_iff_eq.mp Mt.fn) (handed_on rfl (wpAny_pure ?_))))
  refine wpAny_bind (wpAny_pure ?_)
  have hq : (σ₁.push (methodObj (.ref fa) (.ref xx)) (σ₁.s.toks + 1)).s.heap.get? σ₁.s.heap.objs.size = some (methodObj (.ref fa) (.ref xx)) := Heap.get?_push_size _ rfl
  have t₂ : To σ (σ₁.push (methodObj (.ref fa) (.ref xx)) (σ₁.s.toks + 1)) := t₁.trans (σ₁.keep_to kb8)
  have rl₂ : VR (σ₁.push (methodObj (.ref fa) (.ref xx)) (σ₁.s.toks + 1)).ρ _ (.at (.ref i)) (.ref xx) := kg3 rl (methodObj (.ref fa) (.ref xx))
  refine ks_call (P := MethP g.K σ₁.s.heap.objs.size fa (.ref xx)) (by rw [h1,h2]; rfl) (fun h X => keeps_M Mt.inK h X) ?_
  rw [h1]
  refine evalArgs_plain (spliced_cons (hb z (σ₁.push _ _) _ E _ (kae e2) fun σ₃ yv y t₃ e₃ ry => ?_))
  obtain ⟨hq₃,nO₃⟩ := t₃.ext.kept hq rfl (σ₁.freeO (Nat.le_refl _)) σ₁.freeX
  rw [h2]
  refine ks_spliced (hz z σ₃ _ E _ (kae e₃) fun σ₄ zv w' t₄ e₄ rz => ?_)
  obtain ⟨hq₄,_⟩ := t₄.ext.kept hq₃ rfl nO₃ σ₁.freeX
  obtain ⟨T,hT,ad,ob,nn,xs,ws,ha,hc,hd,pr,gd,e5⟩ := seq_of σ₄ rz (kae e₄)
  obtain ⟨as,hat,e6⟩ := kge e5
  obtain ⟨hlt,e7⟩ := kfh e6
  have hat' : xs = as.map V.at := kep hat
  subst hat'
  have hlen := Paired.length pr
  rw [List.length_map] at hlen
  refine star_of hT ha hc (wpAny_collect_seq ad hT ha hc hd (fun h₅ hk₅ => spliced_nil ⟨⟨hk₅ _ _ hq₄,σ₄.kin.keeps hk₅⟩,?_⟩) (by unfold sizeLine; simp only [List.size_toArray]; omega))
  rw [List.append_nil,List.nil_append]
  refine wpAny_call (method_call (s := { σ₄.s with heap := h₅ }) (hk₅ _ _ hq₄) ?_)
  have t₅ : To σ₄ (σ₄.keep h₅ σ₄.s.toks hk₅) := σ₄.keep_to hk₅
  exact hm (σ₄.keep h₅ σ₄.s.toks hk₅) (.at (.ref i) :: y :: as.map V.at) (.ref xx :: yv :: ws) Φ _ ⟨by simp,by simp only [List.length_cons,List.length_map]; omega⟩ (.cons (t₅.vr (t₄.vr (t₃.vr rl₂))) (.cons (t₅.vr (t₄.vr ry)) (t₅.vs pr)))
    (by unfold kkt gStar; simp only [atsOf_map,Option.map_some]; exact e7) fun τ a b t => k τ a b ((((t₂.trans t₃).trans t₄).trans t₅).trans t)
end
end Mine
namespace Mine
open PySem PySem.W PySem.Calls PyProof.Rows
theorem Inv.around {prog : Program} {w : World} {h₀ : Heap} {A A' : Around} {env : Env} {X : List Addr} {ρ : RM} {f : Fm} {H : Hp} {h : Heap} (I : Inv prog w h₀ A env X ρ f H h) (hA : A'.frames = A.frames) : Inv prog w h₀ A' env X ρ f H h :=
  ⟨I.base,I.old,I.hr,I.fr,I.x,let ⟨l,e,k⟩ := I.frs; ⟨l,hA.trans e,k⟩⟩
section
variable {g : Gl} {sc : Sc} {q : Bool} {d : Nat}
structure Mk (K : Frag) (C fI : Addr) : Prop where
  makes : makesIn K C = true
  init : findIn K (.ref C) "__init__" = some (some (.ref fI))
  fn : typeIn K (.ref fI) = some (.type "function")
  keep : keepIn K (.ref C) = true
noncomputable def make1 (o : O) (n : Nat) (m : M AF) (vs : List V) : M V := bnd (new o) fun x => bnd (call n m (x :: vs)) fun r => noneF r (ret x)
theorem ok_noneF {β : Type} {r : V} {k : M β} {f : Fm} {H : Hp} {Φ : β → Fm → Hp → Prop} (e : ok (noneF r k) f H Φ) : r = .at .none ∧ ok k f H Φ := by
  cases r with
  | tup _ => exact ka4 e
  | «at» r => cases r with
    | none => exact ⟨rfl,e⟩
    | _ => exact ka4 e
def Fc.under {d : Nat} (z : Fc sc q (d + 1)) (c : Code) (h1 : (z.A.under c).frames = z.A.frames) (h2 : (z.A.under c).handled = z.A.handled) (h3 : (z.A.under c).depth ≤ z.A.depth + 1) (h4 : (z.A.under c).units ≤ z.A.units + 10) : Fc sc q d :=
  ⟨z.A.under c,z.env,z.X,z.cx.names,z.cx.kind,z.cx.globals,z.cx.builtins,z.cx.locX,z.cx.celX,fun h => h2.trans (z.cx.handled h),by have := z.cx.depth; omega,by have := z.cx.units; omega,fun h => let ⟨o,e,k⟩ := z.cx.top h; ⟨o,h1.trans e,k⟩⟩
theorem ok_make {C fI : Addr} {o : O} {n np : Nat} {m : M AF} (Mk : Mk g.K C fI) (hC : (C = kdd ∧ o = .inst []) ∨ (C = kha ∧ o = .node none none none)) (hm : CallGen g q d (.ref fI) (· = np + 1) (kkt some n m)) : CallOk g q (d + 1) (.ref C) np (make1 o n m) := by
  intro sc z σ vs vals Φ E Q hl r e k
  have e₁ := kae (kgy (kae e))
  have keep : ∀ b o,σ.s.heap.get? b = some o → ((σ.s.heap.push emptyDict).push (instObj C σ.s.heap.objs.size)).get? b = some o := fun b o e => Heap.get?_push_of_some _ (Heap.get?_push_of_some _ e)
  have hx : ((σ.s.heap.push emptyDict).push (instObj C σ.s.heap.objs.size)).get? (σ.s.heap.objs.size + 1) = some (instObj C σ.s.heap.objs.size) := by rw [← Heap.size_push σ.s.heap emptyDict]; exact Heap.get?_push_size _ rfl
  have hdx : ((σ.s.heap.push emptyDict).push (instObj C σ.s.heap.objs.size)).get? σ.s.heap.objs.size = some emptyDict := Heap.get?_push_of_some _ (Heap.get?_push_size _ rfl)
  have oat : OAt g.prog g.w (σ.ρ ++ [(σ.s.heap.objs.size + 1,σ.s.heap.objs.size)]) ((σ.s.heap.push emptyDict).push (instObj C σ.s.heap.objs.size)) (σ.s.heap.objs.size + 1,σ.s.heap.objs.size) o := by
    rcases hC with ⟨rfl,rfl⟩ | ⟨rfl,rfl⟩
    · exact ⟨[],0,hx,hdx,.nil⟩
    · exact ⟨#[],hx,hdx,rfl,rfl,rfl⟩
  have XK := σ.kin
  refine wpAny_call (make_core (makes_of XK Mk.makes) (looks_findIn XK Mk.init) (fun self => bind_fn XK self Mk.fn) (.inl rfl) ?_)
  generalize hτ : σ.new _ σ.s.toks _ o keep (Nat.le_succ _) (Nat.le_refl _) oat = τ
  have t₁ : To σ τ := hτ ▸ σ.new_to ..
  have ra : VR τ.ρ τ.s.heap (.at (.ref σ.H.length)) (.ref (σ.s.heap.objs.size + 1)) := hτ ▸ σ.new_ref
  have e₂ : ok (call n m (.at (.ref σ.H.length) :: vs)) τ.f τ.H fun r f H => ok (noneF r (ret (.at (.ref σ.H.length)))) f H Φ := hτ ▸ e₁
  have hs : τ.s = { σ.s with heap := (σ.s.heap.push emptyDict).push (instObj C σ.s.heap.objs.size) } := by rw [← hτ]; rfl
  rw [← hs]
  refine hm (z := z.under (.builtin "type.__call__" ⟨.ref C :: vals,[]⟩) rfl rfl (Nat.le_refl _) (by show z.A.units + 1 ≤ _; omega)) ⟨τ.ρ,τ.f,τ.H,τ.s,τ.inv.around rfl⟩ (.at (.ref σ.H.length) :: vs) (.ref (σ.s.heap.objs.size + 1) :: vals) _ _ (by simp [hl]) (.cons ra (t₁.vs r)) e₂ fun υ a b t e ra' => ?_
  obtain ⟨rfl,e₃⟩ := ok_noneF e
  cases (ra' : a = .none)
  have t₂ : To τ (⟨υ.ρ,υ.f,υ.H,υ.s,υ.inv.around rfl⟩ : St g z) := ⟨t.ext,t.same⟩
  exact ⟨rfl,k ⟨υ.ρ,υ.f,υ.H,υ.s,υ.inv.around rfl⟩ _ _ (t₁.trans t₂) (kao e₃) (t₂.vr ra)⟩
theorem re_make {x : Str} {p pos : Pos} {args : List Expr} {l : List (M V)} {o : O} {n : Nat} {m : M AF} {C : Addr} (hx : sc.names.lookup x = some .globalImplicit) (hv : gval g.K x = some (.ref C)) (hk : keepIn g.K (.ref C) = true)
    (ha : RA g sc q d pos args (all l)) (hm : CallOk g q d (.ref C) l.length (make1 o n m))
    (hst : ∀ env,(backTo pos (starEach args env)).any (·.1) = false := by intro _; rfl) (hd : (x == ("__debug__" : Str)) = false := by decide) : RE g sc q d (.Call (.Name x p) args [] pos) (make o n m l) :=
  kc5 hx hv hk ha hm hst hd
theorem pick_from {l : List Value} {k : Int} (h : 0 ≤ k) : kms_pick l (some k) none = l.drop k.toNat := by
  have e1 : kms_lo (some k) l.length = min k.toNat l.length := if_neg (by omega)
  unfold kms_pick
  rw [e1,show kms_hi none l.length = l.length from rfl,List.take_of_length_le (by simp)]
  rcases Nat.le_total k.toNat l.length with h1 | h1
  · rw [Nat.min_eq_left h1]
  · rw [Nat.min_eq_right h1,List.drop_of_length_le (Nat.le_refl _),List.drop_of_length_le h1]
theorem pick_to {l : List Value} {k : Int} (h : 0 ≤ k) : kms_pick l none (some k) = l.take k.toNat := by
  have e1 : kms_hi (some k) l.length = min k.toNat l.length := if_neg (by omega)
  unfold kms_pick
  rw [e1,show kms_lo none l.length = 0 from rfl,List.drop_zero,Nat.sub_zero]
  rcases Nat.le_total k.toNat l.length with h1 | h1
  · rw [Nat.min_eq_left h1]
  · rw [Nat.min_eq_right h1,List.take_of_length_le (Nat.le_refl _),List.take_of_length_le h1]
theorem cut_end {z : Fc sc q d} (σ : St g z) {xs : List V} {ws : List Value} {vl vu : Value} {Φ : V → Fm → Hp → Prop} {Q : Value → Shared → Prop} (pr : Paired (VR σ.ρ σ.s.heap) xs ws) (hl : xs.length ≤ lim) (e : ok (new (.list xs)) σ.f σ.H Φ) (k : ∀ (τ : St g z) a b,To σ τ → Φ b τ.f τ.H → VR τ.ρ τ.s.heap b a → Q a τ.s) :
    Q (.ref (σ.s.heap.objs.size + 1)) { σ.s with heap := (σ.s.heap.push { cls := .type "slice",data := .fields #[vl,vu,.none] }).push { cls := .type "list",data := .seq ws.toArray } } := by
  have t := σ.keep_to (h' := σ.s.heap.push { cls := .type "slice",data := .fields #[vl,vu,.none] }) (tk := σ.s.toks) kb8
  have key := k ((σ.push { cls := .type "slice",data := .fields #[vl,vu,.none] } σ.s.toks).newList σ.s.toks (pr.mono fun _ _ => t.vr) hl) _ _ (t.trans (St.new_to _ _ _ _ _)) (kgy e) (St.new_ref _)
  rw [← Heap.size_push σ.s.heap { cls := .type "slice",data := .fields #[vl,vu,.none] }]
  exact key
theorem re_cutFrom {v e : Expr} {p pos : Pos} {a b : M V} (ha : RE g sc q d v a) (hb : RE g sc q d e b) (ht : ∀ o r,letTemporaryGo v o r = pure () := by intro _ _; rfl) :
    RE g sc q d (.Subscript v (.Slice (some e) none none p) pos) (app2 cutFrom a b) := by
  intro z σ Φ E Q em k
  refine wpAny_Subscript_list_slice (ha z σ _ E _ (kae em) fun σ₁ vx x t₁ e₁ rx => ?_) ht
  rw [evalPart_some]
  refine hb z σ₁ _ E _ (kae e₁) fun σ₂ vy y t₂ e₂ ry => ?_
  rw [evalPart_none]
  refine wpAny_pure ?_
  obtain ⟨n,xs,ho,e3⟩ := kf3 e₂
  obtain ⟨i,e4⟩ := kdl e3
  obtain ⟨hi,e5⟩ := kfh e4
  obtain ⟨t,rfl⟩ := ry
  obtain ⟨l,ws,nn,hρ,pl,pr,hl⟩ := σ₂.list ho (t₂.vr rx)
  have hlen := Paired.length pr
  refine ⟨l,ws.toArray,some i,none,rfl,IsList.of pl,by unfold lim at hl; unfold sizeLine; simp only [List.size_toArray]; omega,.int i t,.none,?_⟩
  rw [kms_pick_eq]
  simp only [pick_from hi]
  exact cut_end σ₂ (pdrop pr i.toNat) (by rw [List.length_drop]; omega) e5 fun τ a b t => k τ a b ((t₁.trans t₂).trans t)
theorem klf {fd : FuncData} {ps : List Str} {T : Addr} {items : List Value} {np : Nat} (hT : g.K.lookup T = some (ki6 items)) (hd : fd.defaults = .ref T) {G : List V → Option (List V)} {gv : List Value → List Value}
    (hb : ∀ vals : List Value,vals.length = np → ∃ kf : Option (Array Value) → Sem (List (Str × Value)),bindArgs fd ⟨vals,[]⟩ = (seqItems? fd.defaults >>= kf) ∧ kf (some items.toArray) = pure (ps.zip (gv vals)))
    (hl : ∀ vals : List Value,vals.length = np → (gv vals).length = ps.length)
    (hg : ∀ (ρ : RM) (h : Heap) (vs vs' : List V) (vals : List Value),vs.length = np → VsR ρ h vs vals → G vs = some vs' → VsR ρ h vs' (gv vals)) : Binds g fd ps (· = np) G := by
  intro h ρ s vs vs' vals hs hn hbase r hgv A' E Q k
  have hvl : vals.length = np := by rw [← Paired.length r]; exact hn
  obtain ⟨kf,h1,h2⟩ := hb vals hvl
  rw [h1,hd]
  subst hs
  refine wpAny_bind (wpAny_seqItems (g.bs.kin.keeps hbase _ _ hT) rfl ?_)
  rw [h2]
  exact wpAny_pure (k s.heap (gv vals) (fun _ _ e => e) (hg ρ s.heap vs vs' vals hn r hgv) (hl vals hvl))
end
end Mine
namespace Mine
open PySem PySem.W PySem.Calls PyProof.Rows
theorem wp_join {M : Model} {A : Around} {α β : Type} {t : Sem α} {a : β} {Q : α → Shared → Prop} {E : Value → Shared → Prop} {s : Shared} (h : wpAny M A (pure a : Sem β) (fun _ s₁ => wpAny M A t Q E s₁) E s) : wpAny M A t Q E s :=
  fun Γ p hΓ => h Γ p hΓ Γ p hΓ
noncomputable def clOf (cells : List (Str × Addr)) : List (Str × NameKind) → List (Str × Addr) → List (Str × Addr)
  | [],acc => acc
  | (n,k) :: r,acc => if k == .free then clOf cells r ((n,(cells.lookup n).getD 0) :: acc) else clOf cells r acc
theorem kh8 {env : Env} (F : Str × NameKind → List (Str × Addr) → Sem (ForInStep (List (Str × Addr)))) (hF : ∀ n k cs,F (n,k) cs = if k == NameKind.free then (do let c ← cellOf env n; pure (ForInStep.yield ((n,c) :: cs))) else pure (ForInStep.yield cs)) :
    ∀ (names : List (Str × NameKind)) (acc : List (Str × Addr)),(∀ x,(x,NameKind.free) ∈ names → (env.cells.lookup x).isSome = true) → forIn names acc F = (pure (clOf env.cells names acc) : Sem (List (Str × Addr)))
  | [],acc,_ => rfl
  | (n,k) :: r,acc,hh => by
    rw [List.forIn_cons,hF]
    unfold clOf
    by_cases hk : k = .free
    · subst hk
      obtain ⟨c,hc⟩ := Option.isSome_iff_exists.mp (hh n List.mem_cons_self)
      have e1 : cellOf env n = pure c := by unfold cellOf; rw [hc]
      simp only [beq_self_eq_true,if_true,e1,pure_bind,hc,Option.getD_some]
      exact kh8 F hF r _ fun x hx => hh x (List.mem_cons_of_mem _ hx)
    · have hb : (k == NameKind.free) = false := beq_false_of_ne hk
      simp only [hb,Bool.false_eq_true,if_false,pure_bind]
      exact kh8 F hF r _ fun x hx => hh x (List.mem_cons_of_mem _ hx)
theorem kmf {scope : Scope} {env : Env} (h : ∀ x,(x,NameKind.free) ∈ scope.names → (env.cells.lookup x).isSome = true) : closureFor scope env = pure (clOf env.cells scope.names []) := by
  unfold closureFor
  dsimp only
  rw [kh8 _ (fun n k cs => by cases hk : k == NameKind.free <;> simp [hk]) scope.names [] h]
  rfl
theorem kj5 {cells : List (Str × Addr)} {x : Str} {c : Addr} : ∀ {names : List (Str × NameKind)} {acc : List (Str × Addr)},(∀ y,(y,NameKind.free) ∈ names → (cells.lookup y).isSome = true) → (clOf cells names acc).lookup x = some c → acc.lookup x = some c ∨ cells.lookup x = some c
  | [],_,_,h => .inl h
  | (n,k) :: r,acc,hh,h => by
    unfold clOf at h
    split at h
    · rename_i hk
      have hk' : k = .free := beq_iff_eq.mp hk
      subst hk'
      rcases kj5 (fun y hy => hh y (List.mem_cons_of_mem _ hy)) h with h1 | h1
      · rw [List.lookup_cons] at h1
        split at h1
        · rename_i hx
          obtain ⟨c',hc⟩ := Option.isSome_iff_exists.mp (hh n List.mem_cons_self)
          rw [hc,Option.getD_some] at h1
          have := beq_iff_eq.mp hx
          subst this
          exact .inr (hc.trans h1)
        · exact .inl h1
      · exact .inr h1
    · exact kj5 (fun y hy => hh y (List.mem_cons_of_mem _ hy)) h
theorem kiz {cells : List (Str × Addr)} {x : Str} {c : Addr} (hc : cells.lookup x = some c) : ∀ {names : List (Str × NameKind)} {acc : List (Str × Addr)},(∀ y,(y,NameKind.free) ∈ names → (cells.lookup y).isSome = true) → ((x,NameKind.free) ∈ names ∨ acc.lookup x = some c) → (clOf cells names acc).lookup x = some c
  | [],_,_,h => by rcases h with h | h; exact nomatch h; exact h
  | (n,k) :: r,acc,hh,h => by
    unfold clOf
    split
    · rename_i hk
      have hk' : k = .free := beq_iff_eq.mp hk
      subst hk'
      refine kiz hc (fun y hy => hh y (List.mem_cons_of_mem _ hy)) ?_
      by_cases hx : x = n
      · subst hx; refine .inr ?_; rw [List.lookup_cons_self,hc]; rfl
      · rcases h with h | h
        · rcases List.mem_cons.mp h with e | h
          · cases e; exact absurd rfl hx
          · exact .inl h
        · refine .inr ?_; rw [List.lookup_cons,beq_false_of_ne hx]; exact h
    · rename_i hk
      refine kiz hc (fun y hy => hh y (List.mem_cons_of_mem _ hy)) ?_
      rcases h with h | h
      · rcases List.mem_cons.mp h with e | h
        · cases e; exact absurd rfl hk
        · exact .inl h
      · exact .inr h
theorem kdm : ∀ (names : List (Str × NameKind)) (n : Nat) (acc : List (Str × Addr)),cellsFrom n names acc = cellsFrom n names [] ++ acc
  | [],_,_ => rfl
  | (x,k) :: r,n,acc => by
    unfold cellsFrom
    split
    · rw [kdm r (n + 1) ((x,n) :: acc),kdm r (n + 1) [(x,n)],List.append_assoc]; rfl
    · exact kdm r n acc
theorem ken {x : Str} : ∀ (l m : List (Str × Addr)),(l ++ m).lookup x = (l.lookup x).or (m.lookup x)
  | [],m => by simp
  | (y,c) :: r,m => by
    rw [List.cons_append,List.lookup_cons,List.lookup_cons]
    split
    · rfl
    · exact ken r m
noncomputable def relab (names : List (Str × NameKind)) : List (Str × NameKind) := names.map fun p => if p.2 == .free then (p.1,.cell) else p
structure kkf (sc sc' : Sc) (scope : Scope) (fr : List (Option Nat)) : Prop where
  kind : scope.kind = .function
  names : sc'.names = relab scope.names
  free : ∀ (i : Nat) (x : Str),scope.names[i]? = some (x,NameKind.free) → ∃ j : Nat,fr[i]? = some (some j) ∧ sc.names[j]? = some (x,NameKind.cell)
  own : ∀ (i : Nat) (x : Str) (k : NameKind),scope.names[i]? = some (x,k) → k ≠ NameKind.free → fr[i]? = some none
  len : fr.length = scope.names.length
  nodup : (scope.names.map (·.1)).Nodup
  nodupO : (sc.names.map (·.1)).Nodup
  cells : ∀ x ∈ sc'.cells,(x,NameKind.cell) ∈ scope.names
  comp : sc'.fn = false
theorem kfj {x : Str} : ∀ {names : List (Str × NameKind)} {n : Nat},(x,NameKind.cell) ∉ names → (cellsFrom n names []).lookup x = none
  | [],_,_ => rfl
  | (y,k) :: r,n,h => by
    unfold cellsFrom
    split
    · rename_i hk
      have hk' : k = .cell := beq_iff_eq.mp hk
      subst hk'
      rw [kdm,ken,kfj (fun hm => h (List.mem_cons_of_mem _ hm)),List.lookup_cons,beq_false_of_ne (fun e => h (by rw [e]; exact List.mem_cons_self))]
      rfl
    · exact kfj fun hm => h (List.mem_cons_of_mem _ hm)
theorem kj6 {cells : List (Str × Addr)} {x : Str} {c : Addr} : ∀ {names : List (Str × NameKind)} {acc : List (Str × Addr)},(clOf cells names acc).lookup x = some c → acc.lookup x = some c ∨ (x,NameKind.free) ∈ names
  | [],_,h => .inl h
  | (n,k) :: r,acc,h => by
    unfold clOf at h
    split at h
    · rename_i hk
      have hk' : k = .free := beq_iff_eq.mp hk
      subst hk'
      rcases kj6 h with h1 | h1
      · rw [List.lookup_cons] at h1
        split at h1
        · rename_i hx
          rw [beq_iff_eq.mp hx]; exact .inr List.mem_cons_self
        · exact .inl h1
      · exact .inr (List.mem_cons_of_mem _ h1)
    · rcases kj6 h with h1 | h1
      · exact .inl h1
      · exact .inr (List.mem_cons_of_mem _ h1)
theorem Inv.backF {prog : Program} {w : World} {h₀ : Heap} {A A' : Around} {env env' : Env} {X X' Y : List Addr} {ρ ρ' : RM} {f f' : Fm} {H H' : Hp} {h h' : Heap} (I : Inv prog w h₀ A env X ρ f H h) (I' : Inv prog w h₀ A' env' X' ρ' f' H' h') (x : Ext h₀ Y ρ h ρ' h')
    (hY : ∀ b ∈ Y,h.get? b = none ∨ (b ∉ X ∧ ∃ o fs,h.get? b = some o ∧ o.data = .fields fs)) : Inv prog w h₀ A env X ρ' f H' h' ∧ Ext h₀ (Y ++ X) ρ h ρ' h' := by
  have nY : ∀ b o,h.get? b = some o → (∀ fs,o.data ≠ .fields fs) ∨ b ∈ X → b ∉ Y := fun b o e hd hm => by
    rcases hY b hm with h1 | ⟨h1,o',fs,h2,h3⟩
    · rw [e] at h1; cases h1
    · rw [e] at h2; cases h2
      rcases hd with hd | hd
      · exact hd fs h3
      · exact h1 hd
  have no : ∀ b o,¬ owns ρ b → h.get? b = some o → ¬ owns ρ' b := fun b o hn e q => by have := x.new b q hn; rw [e] at this; cases this
  have tk : ∀ b o,kdv o → h.get? b = some o → h'.get? b = some o := fun b o t e => x.tup e t (I.tupFree e t).1 (nY b o e (.inl (by obtain ⟨vs,rfl⟩ := t; intro fs h; cases h)))
  have nX : ∀ b ∈ X,¬ owns ρ' b := fun b hb => let ⟨_,q,o,e,_⟩ := I.x b hb; no b o q e
  have nYX : ∀ b ∈ Y ++ X,¬ owns ρ' b := fun b hb => by
    rcases List.mem_append.mp hb with hb | hb
    · exact x.x b hb
    · exact nX b hb
  refine ⟨⟨I'.base,I'.old,I'.hr,⟨I.fr.len,?_,fun i y hy => ?_,I.fr.apart,?_,I.fr.loc.2⟩,fun a ha => ?_,?_⟩,x.mono (fun _ h => List.mem_append.mpr (.inl h)) nYX⟩
  · obtain ⟨m,n,k⟩ := I.fr.ns
    obtain ⟨oL,es,ep,eL,dL,_⟩ := id n
    exact ⟨m,ki2 n fun o e => let ⟨sl,q,_⟩ := x.keep _ o e I.fr.loc.1 (nY _ _ e (.inl (by rw [eL] at e; cases e; rw [dL]; intro fs h; cases h))); ⟨sl,q⟩,fun i y v a b => let ⟨val,c,r⟩ := k i y v a b; ⟨val,c,VR.mono x.pre tk r⟩⟩
  · obtain ⟨c,o,a,⟨ob,b,b'⟩,z1,z2,k⟩ := I.fr.cell i y hy
    obtain ⟨sl,e,_⟩ := x.keep _ ob b z1 (nY _ _ b (.inl (by rw [b']; intro fs h; cases h)))
    exact ⟨c,o,a,⟨_,e,b'⟩,no _ _ z1 b,z2,fun v qv => let ⟨val,c,r⟩ := k v qv; ⟨val,c,VR.mono x.pre tk r⟩⟩
  · obtain ⟨m,⟨o,_,_,e,_⟩,_⟩ := I.fr.ns
    exact no _ _ I.fr.loc.1 e
  · obtain ⟨z1,z2,o,e,t⟩ := I.x a ha
    obtain ⟨sl,e',k⟩ := x.keep _ o e z2 (nY _ _ e (.inr ha))
    refine ⟨z1,no _ _ z2 e,_,e',fun ⟨vs,q⟩ => ?_⟩
    have hd : o.data = .seq vs.toArray 0 := congrArg Obj.data q
    have := k (.inr (by intro es ep h; rw [hd] at h; cases h))
    subst this
    exact t ⟨vs,q⟩
  · obtain ⟨l,e,k⟩ := I.frs
    refine ⟨l,e,fun v hv => ?_⟩
    obtain ⟨m,L,o,es,ep,a,b,c,dd,g⟩ := k v hv
    obtain ⟨sl,e',_⟩ := x.keep _ o dd c (nY _ _ dd (.inl (by rw [g]; intro fs h; cases h)))
    exact ⟨m,L,_,es,ep,a,b,no _ _ c dd,e',g⟩
section
variable {A : Around} {E : Value → Shared → Prop} {s : Shared}
noncomputable def kj4 (scope : Scope) (cl : List (Str × Addr)) (C : Addr) (env : Env) : Env :=
  { scope := scope,locals := C,globals := env.globals,cells := cellsFrom (C + 1) scope.names cl,qual := env.qual,func := none,code := env.code,frame := env.frame,builtins := env.builtins }
theorem wp_compEnv {M : Model} {scope : Scope} {cl : List (Str × Addr)} {env : Env} {Q : Env → Shared → Prop}
    (h : Q (kj4 scope cl s.heap.objs.size env) { s with heap := pushCells (s.heap.push { cls := .type "dict",data := .dict #[] }) scope.names }) : wpAny M A (newFunctionEnv scope env.globals cl [] env.qual none .none (some env)) Q E s := by
  simp only [newFunctionEnv,Option.isSome_some,if_true]
  refine wpAny_bind (wpAny_alloc ?_)
  refine wpAny_bind (wpAny_layCells _ (fun name kind cells => by cases hkc : kind == NameKind.cell <;> simp [hkc]) _ _ _ _ ?_)
  refine wpAny_bind (wpAny_pure ?_)
  refine wpAny_pure ?_
  have e : (s.heap.push { cls := .type "dict",data := .dict #[] }).objs.size = s.heap.objs.size + 1 := Heap.size_push ..
  unfold kj4 at h
  rw [← e] at h
  exact h
end
section
variable {g : Gl} {sc sc' : Sc} {q : Bool} {d : Nat} {z : Fc sc q d}
theorem St.foreignD (σ₀ τ : St g z) {C : Addr} {h' : Heap} {m : Str → Option Value} (hC : σ₀.s.heap.get? C = none) (hn : ¬ owns τ.ρ C) (ns : τ.s.heap.Ns C m) (hs : Heap.SameBut C τ.s.heap h') : Inv g.prog g.w g.h₀ z.A z.env z.X τ.ρ τ.f τ.H h' ∧ Ext g.h₀ (C :: z.X) τ.ρ τ.s.heap τ.ρ h' := by
  obtain ⟨oC,es,ep,eC,dC,_⟩ := id ns
  have ne : ∀ b ob,σ₀.s.heap.get? b = some ob → b ≠ C := fun b ob e q => by subst q; rw [hC] at e; cases e
  have hk : ∀ b ob,b ≠ C → τ.s.heap.get? b = some ob → h'.get? b = some ob := fun b ob hb e => (hs.2 b hb).trans e
  have hX : C ∉ z.X := fun hm => by obtain ⟨_,_,ob,e,_⟩ := σ₀.inv.x C hm; exact ne C ob e rfl
  have nt : ∀ b ob,kdv ob → τ.s.heap.get? b = some ob → b ≠ C := fun b ob t e q => by subst q; rw [eC] at e; cases e; exact kd4 dC t
  have no : ∀ b,owns τ.ρ b → b ≠ C := fun b ob q => hn (q ▸ ob)
  have tk : ∀ b ob,kdv ob → τ.s.heap.get? b = some ob → h'.get? b = some ob := fun b ob t e => hk b ob (nt b ob t e) e
  have nL : z.env.locals ≠ C := by obtain ⟨m,⟨o,_,_,e,_⟩,_⟩ := σ₀.inv.fr.ns; exact ne _ _ e
  have iv := τ.inv
  refine ⟨⟨fun b ob e => hk b ob (ne b ob (σ₀.inv.base b ob e)) (iv.base b ob e),iv.old,⟨iv.hr.len,iv.hr.sep,fun i ob p a b => ?_⟩,⟨iv.fr.len,?_,fun i x hx => ?_,iv.fr.apart,iv.fr.loc⟩,fun a ha => ?_,?_⟩,
    List.prefix_rfl,fun _ a b => absurd a b,fun b ob e _ hm => ⟨ob.slots,hk b ob (fun q => hm (q ▸ List.mem_cons_self)) e,fun _ => rfl⟩,fun b hb => ?_⟩
  · have hm := List.mem_of_getElem? b
    exact (iv.hr.at_ i ob p a b).mono List.prefix_rfl tk (fun _ e => hk _ _ (no _ ⟨p,hm,.inl rfl⟩) e) fun _ e => hk _ _ (no _ ⟨p,hm,.inr rfl⟩) e
  · obtain ⟨m,n,k⟩ := iv.fr.ns
    exact ⟨m,n.at' fun o1 e1 => hk _ _ nL e1,fun i x v a b => let ⟨val,c,d⟩ := k i x v a b; ⟨val,c,VR.mono List.prefix_rfl tk d⟩⟩
  · obtain ⟨c,oc,a,⟨ob,b,b'⟩,z1,z2,k⟩ := iv.fr.cell i x hx
    have hne : c ≠ C := fun q => by subst q; rw [eC] at b; cases b; rw [dC] at b'; cases b'
    exact ⟨c,oc,a,⟨ob,hk _ _ hne b,b'⟩,z1,z2,fun v qv => let ⟨val,c,d⟩ := k v qv; ⟨val,c,VR.mono List.prefix_rfl tk d⟩⟩
  · obtain ⟨q1,q2,ob,e,t⟩ := iv.x a ha
    exact ⟨q1,q2,ob,hk _ _ (fun q => hX (q ▸ ha)) e,t⟩
  · obtain ⟨l₀,e₀,k₀⟩ := σ₀.inv.frs
    obtain ⟨l,e,k⟩ := iv.frs
    rw [e₀] at e; cases e
    refine ⟨l₀,e₀,fun v hv => ?_⟩
    obtain ⟨_,L₀,o₀,_,_,a₀,_,_,d₀,_⟩ := k₀ v hv
    obtain ⟨m,L,ob,es,ep,a,b,c,dd,g⟩ := k v hv
    rw [a₀] at a; cases a
    exact ⟨m,L₀,ob,es,ep,a₀,b,c,hk _ _ (ne _ _ d₀) dd,g⟩
  · rcases List.mem_cons.mp hb with rfl | hb
    · exact hn
    · exact (iv.x b hb).2.1
theorem klo {A : Around} {env : Env} {X : List Addr} {scope : Scope} {fr : List (Option Nat)} (c : Cx sc q d A env X) (S : kkf sc sc' scope fr) : (relabel scope env).names = sc'.names := by
  rw [S.names]
  unfold relabel relab
  refine List.map_congr_left fun p hp => ?_
  obtain ⟨n,k⟩ := p
  dsimp only
  by_cases hk : k = .free
  · subst hk
    obtain ⟨i,hi⟩ := List.getElem?_of_mem hp
    obtain ⟨j,_,hj⟩ := S.free i n hi
    have : env.kindOf n = some .cell := by unfold Env.kindOf; rw [c.names]; exact kcl S.nodupO hj
    simp [this,c.kind]
  · simp [hk]
theorem comp_enter {z : Fc sc true d} (σ : St g z) {scope : Scope} {fr : List (Option Nat)} (S : kkf sc sc' scope fr) :
    let C := σ.s.heap.objs.size
    let cenv : Env := { kj4 scope (clOf z.env.cells scope.names []) C z.env with scope := relabel scope z.env }
    let h' := pushCells (σ.s.heap.push { cls := .type "dict",data := .dict #[] }) scope.names
    let X' := C :: sc'.cells.filterMap (cenv.cells.lookup ·)
    (∀ b o,σ.s.heap.get? b = some o → h'.get? b = some o) ∧ Cx sc' true d z.A cenv X' ∧ Inv g.prog g.w g.h₀ z.A cenv X' σ.ρ (kjv fr σ.f) σ.H h' ∧ (∀ b ∈ X',σ.s.heap.objs.size ≤ b) := by
  intro C cenv h' X'
  obtain ⟨A,env,X,c⟩ := z
  obtain ⟨ρ,f,H,s,I⟩ := σ
  obtain ⟨h,s1,s2,s3,s4⟩ := s
  dsimp only at *
  have keep : ∀ b o,h.get? b = some o → h'.get? b = some o := fun b o e => pushCells_keeps _ _ b o (Heap.get?_push_of_some _ e)
  have sz : g.h₀.objs.size ≤ h.objs.size := St.size (z := ⟨A,env,X,c⟩) ⟨ρ,f,H,⟨h,s1,s2,s3,s4⟩,I⟩
  have no : ∀ b,h.objs.size ≤ b → ¬ owns ρ b := fun b hb q => by
    obtain ⟨ob,e,_⟩ := I.hr.notTup q
    exact absurd (Heap.lt_size e) (Nat.not_lt.mpr hb)
  have hfree : ∀ x,(x,NameKind.free) ∈ scope.names → ∃ (c : Addr) (o : Option Value) (j : Nat),env.cells.lookup x = some c ∧ h.IsCell c o ∧ sc.names[j]? = some (x,NameKind.cell) := fun x hx => by
    obtain ⟨i,hi⟩ := List.getElem?_of_mem hx
    obtain ⟨j,_,hj⟩ := S.free i x hi
    obtain ⟨c',o,a,b,_⟩ := I.fr.cell j x (by rw [c.names]; exact hj)
    exact ⟨c',o,j,a,b,hj⟩
  have hsome : ∀ y,(y,NameKind.free) ∈ scope.names → (env.cells.lookup y).isSome = true := fun y hy => let ⟨c,_,_,e,_⟩ := hfree y hy; by rw [e]; rfl
  have ok := cellsFrom_ok scope.names (h.push { cls := .type "dict",data := .dict #[] }) (C + 1) [] ⟨fun _ _ hm => (nomatch hm),List.Pairwise.nil⟩ (by rw [Heap.size_push]; exact Nat.le_refl _)
  rw [Heap.size_push] at ok
  have ce : cenv.cells = cellsFrom (C + 1) scope.names [] ++ clOf env.cells scope.names [] := kdm _ _ _
  have nsC : h'.Ns C (fun _ => none) := (Heap.Ns.new h (.type "dict")).keeps (pushCells_keeps _ _)
  have en : cenv.scope.names = sc'.names := klo c S
  have dis : ∀ {x : Str} {k k' : NameKind},(x,k) ∈ scope.names → (x,k') ∈ scope.names → k = k' := fun {x k k'} h1 h2 => by
    obtain ⟨i,hi⟩ := List.getElem?_of_mem h1
    obtain ⟨j,hj⟩ := List.getElem?_of_mem h2
    have := kh0 S.nodup hi hj
    subst this
    rw [hi] at hj; cases hj; rfl
  have lookC : ∀ {x : Str} {a : Addr},cenv.cells.lookup x = some a → ((x,a) ∈ cellsFrom (C + 1) scope.names [] ∧ C + 1 ≤ a) ∨ (env.cells.lookup x = some a ∧ a < C) := fun {x a} hl => by
    rw [ce,ken] at hl
    cases ho : (cellsFrom (C + 1) scope.names []).lookup x with
    | some b =>
      rw [ho] at hl; cases hl
      have hm := PySem.mem_of_lookup ho
      exact .inl ⟨hm,(ok.empty _ _ hm).2⟩
    | none =>
      rw [ho] at hl
      have hl' : (clOf env.cells scope.names []).lookup x = some a := hl
      rcases kj6 hl' with h1 | h1
      · cases h1
      · obtain ⟨c',o,j,e1,e2,_⟩ := hfree x h1
        have := kiz e1 hsome (.inl h1) (acc := [])
        rw [hl'] at this; cases this
        exact .inr ⟨e1,e2.lt⟩
  have C' : Cx sc' true d A cenv X' := ⟨en,S.kind,c.globals,c.builtins,List.mem_cons_self,fun x hx a ha => List.mem_cons_of_mem _ (List.mem_filterMap.mpr ⟨x,hx,ha⟩),c.handled,c.depth,c.units,fun h => by rw [S.comp] at h; cases h⟩
  have ownX : ∀ b ∈ X',h.objs.size ≤ b := fun b hb => by
    rcases List.mem_cons.mp hb with rfl | hb
    · exact Nat.le_refl _
    · obtain ⟨x,hx,hl⟩ := List.mem_filterMap.mp hb
      rcases lookC hl with ⟨_,h1⟩ | ⟨_,h1⟩
      · exact Nat.le_of_succ_le h1
      · have hs := kcp (n := C + 1) (acc := []) (.inl (S.cells x hx))
        obtain ⟨a,ha⟩ := Option.isSome_iff_exists.mp hs
        have hl2 : cenv.cells.lookup x = some b := hl
        rw [ce,ken,ha] at hl2
        cases hl2
        exact Nat.le_of_succ_le (ok.empty _ _ (PySem.mem_of_lookup ha)).2
  have tk : ∀ b o,kdv o → h.get? b = some o → h'.get? b = some o := fun b o _ e => keep b o e
  refine ⟨keep,C',⟨fun b o e => keep b o (I.base b o e),I.old,I.hr.keeps keep,⟨?_,⟨_,nsC,fun i x v hx hv => ?_⟩,fun i x hx => ?_,fun x y a h1 h2 => ?_,no _ (Nat.le_refl _),sz⟩,fun a ha => ?_,?_⟩,ownX⟩
  · rw [en,S.names]; unfold relab kjv; rw [List.length_map,List.length_map,S.len]
  · exfalso
    rw [en,S.names] at hx
    unfold relab at hx
    rw [List.getElem?_map] at hx
    cases hp : scope.names[i]? with
    | none => rw [hp] at hx; cases hx
    | some p =>
      rw [hp] at hx
      obtain ⟨n,k⟩ := p
      simp only [Option.map_some,Option.some.injEq] at hx
      by_cases hk : k = .free
      · subst hk; simp at hx
      · have := S.own i n k hp hk
        rw [kjv,List.getElem?_map,this] at hv
        cases hv
  · rw [en,S.names] at hx
    unfold relab at hx
    rw [List.getElem?_map] at hx
    cases hp : scope.names[i]? with
    | none => rw [hp] at hx; cases hx
    | some p =>
      rw [hp] at hx
      obtain ⟨n,k⟩ := p
      simp only [Option.map_some,Option.some.injEq] at hx
      have hmem := List.mem_of_getElem? hp
      by_cases hk : k = .free
      · subst hk
        simp at hx
        subst hx
        obtain ⟨j,hj1,hj2⟩ := S.free i n hp
        obtain ⟨a,o,e1,⟨ob,e2,e2'⟩,z1,z2,kk⟩ := I.fr.cell j n (by rw [c.names]; exact hj2)
        refine ⟨a,o,?_,⟨ob,keep _ _ e2,e2'⟩,z1,z2,fun v hv => ?_⟩
        · rw [ce,ken,kfj (fun hm => by have := dis hmem hm; cases this)]
          exact kiz e1 hsome (.inl hmem)
        · rw [kjv,List.getElem?_map,hj1] at hv
          simp only [Option.map_some,Option.some.injEq,Option.bind_some] at hv
          cases hfj : f[j]? with
          | none => rw [hfj] at hv; cases hv
          | some y =>
            rw [hfj] at hv
            have hy : y = some v := hv
            subst hy
            obtain ⟨val,h1,h2⟩ := kk v hfj
            exact ⟨val,h1,VR.mono List.prefix_rfl tk h2⟩
      · simp [hk] at hx
        obtain ⟨rfl,rfl⟩ := hx
        have hs := kcp (n := C + 1) (acc := []) (.inl hmem)
        obtain ⟨a,ha⟩ := Option.isSome_iff_exists.mp hs
        have em := ok.empty _ _ (PySem.mem_of_lookup ha)
        refine ⟨a,none,by rw [ce,ken,ha]; rfl,em.1,no _ (Nat.le_of_succ_le em.2),Nat.le_trans sz (Nat.le_of_succ_le em.2),fun v hv => ?_⟩
        have := S.own i n .cell hp (by decide)
        rw [kjv,List.getElem?_map,this] at hv
        cases hv
  · rcases lookC h1 with ⟨m1,l1⟩ | ⟨m1,l1⟩ <;> rcases lookC h2 with ⟨m2,l2⟩ | ⟨m2,l2⟩
    · exact name_of_addr ok.apart m1 m2
    · exact absurd l2 (Nat.not_lt.mpr (Nat.le_of_succ_le l1))
    · exact absurd l1 (Nat.not_lt.mpr (Nat.le_of_succ_le l2))
    · exact I.fr.apart x y a m1 m2
  · have hge := ownX a ha
    refine ⟨Nat.le_trans sz hge,no _ hge,?_⟩
    rcases List.mem_cons.mp ha with rfl | ha
    · obtain ⟨oL,_,_,eL,dL,_⟩ := nsC
      exact ⟨oL,eL,kd6 (by rw [dL]; intro _ _ h; cases h)⟩
    · obtain ⟨x,hx,hl⟩ := List.mem_filterMap.mp ha
      rcases lookC hl with ⟨m1,_⟩ | ⟨_,l1⟩
      · obtain ⟨o,e,dd⟩ := (ok.empty _ _ m1).1
        exact ⟨o,e,kd6 (by rw [dd]; intro _ _ h; cases h)⟩
      · exact absurd l1 (Nat.not_lt.mpr hge)
  · obtain ⟨l,e,k⟩ := I.frs
    exact ⟨l,e,fun v hv => let ⟨m,L,o,es,ep,a,b,c,d,g⟩ := k v hv; ⟨m,L,o,es,ep,a,b,c,keep _ _ d,g⟩⟩
end
end Mine
namespace Mine
open PySem PySem.W PySem.Calls PyProof.Rows
theorem bnd_assoc {α β γ : Type} (m : M α) (k : α → M β) (l : β → M γ) : bnd (bnd m k) l = bnd m fun a => bnd (k a) l := by
  funext f h
  unfold bnd
  cases m f h <;> rfl
section
variable {g : Gl} {sc sc' : Sc} {q : Bool} {d : Nat}
def kke (g : Gl) (sc' : Sc) (d : Nat) (tgt e : Expr) (m : Src → Nat → M Unit) : Prop :=
  ∀ (z : Fc sc' true d) (σ : St g z) (It : Addr) (src : Src) (sv : V) (vv : Value) (P : Nat → Obj → Prop) (o : Obj) (a : Nat) (acc : Value) (Φ : Unit → Fm → Hp → Prop) (R : Result → Shared → Prop),
    kkx g tgt src.items src.guard It sv vv P → Apart σ It o → P 0 o → VR σ.ρ σ.s.heap sv vv → AtR σ.ρ (.ref a) acc → ok (m src a) σ.f σ.H Φ → (∀ τ : St g z,ToI It σ τ → Φ () τ.f τ.H → R (.ok .next) τ.s) →
      codeAny (model g.prog g.w) z.A (.compLoop e 0 (.ref It) acc z.env) R σ.s
abbrev RIfs (g : Gl) (sc : Sc) (q : Bool) (d : Nat) (ifs : List Expr) (m : M Bool) : Prop :=
  RX g EqR sc q d (fun env => forIn ifs true fun c r => if r = true then do let ok ← isTrue c env (eval c env); pure (ForInStep.yield ok) else pure (ForInStep.yield r)) m
theorem khf : RIfs g sc q d [] (ret true) := fun z σ Φ E Q e k => wpAny_tests_nil (k σ _ _ .rfl (kao e) rfl)
theorem kln {x : Expr} {t : M Bool} (ht : RT g sc q d x t) : RIfs g sc q d [x] t := fun z σ Φ E Q e k => wpAny_tests_one (ht z σ Φ E Q e k)
theorem app_acc {z : Fc sc q d} (σ : St g z) {a : Nat} {acc v : Value} {x : V} {Φ : V → Fm → Hp → Prop} {E : Value → Shared → Prop} {Q : Value → Shared → Prop} (ra : AtR σ.ρ (.ref a) acc) (rx : VR σ.ρ σ.s.heap x v) (e : ok (append (.at (.ref a)) x) σ.f σ.H Φ)
    (k : ∀ τ : St g z,To σ τ → Φ (.at .none) τ.f τ.H → Q .none τ.s) : wpAny (model g.prog g.w) z.A (PySem.call (.builtin "list.append") [acc,v]) Q E σ.s := by
  refine σ.append (v := .at (.ref a)) ra rx e fun l vs n hl hlt pl h => ?_
  subst hl
  refine call_meets F.slot_list_append ⟨_,pl,rfl⟩ F.entry_list_append (F.args_list_append_2 _ _) (list_append l vs.toArray n v (by unfold lim at hlt; unfold sizeLine; simp only [List.size_toArray]; omega)) ⟨pl,?_⟩
  obtain ⟨τ,t,e,_,hs⟩ := h σ.s.toks
  have := k τ t e
  rw [hs] at this
  exact this
inductive CInv {z : Fc sc true d} (σ : St g z) (it : Addr) (sv : V) (vv : Value) (P : Nat → Obj → Prop) (items : List V) (m : List V → M Unit) (Φ : Unit → Fm → Hp → Prop) (a : Nat) (acc : Value) : Nat → Shared → Prop
  | mk (τ : St g z) (i : Nat) (rest : List V) (o : Obj) (t : ToI it σ τ) (hd : items.drop i = rest) (e : ok (m rest) τ.f τ.H Φ) (ap : Apart τ it o) (hP : P i o) (hv : VR τ.ρ τ.s.heap sv vv) (ra : AtR τ.ρ (.ref a) acc) : CInv σ it sv vv P items m Φ a acc rest.length τ.s
theorem kj2 {z : Fc sc true d} {σ : St g z} {tgt : Expr} {gd : Option (Nat × O)} {items : List V} {It : Addr} {sv : V} {vv : Value} {P : Nat → Obj → Prop} {bt : V → M Unit} {step : M Unit} {m : List V → M Unit} {Φ : Unit → Fm → Hp → Prop} {a : Nat} {acc : Value} (hm0 : m [] = kf9 gd)
    (hm1 : ∀ v r,m (v :: r) = bnd (kf9 gd) fun _ => bnd (bt v) fun _ => bnd step fun _ => m r) (hbt : RBnd g sc true d tgt bt) (st : kkx g tgt items gd It sv vv P) {n : Nat} {s' : Shared} (h : CInv σ It sv vv P items m Φ a acc n s')
    {E : Value → Shared → Prop} {R : Option Value → Shared → Prop} {G : Shared → Prop} (hR : ∀ val s₁,wpAny (model g.prog g.w) z.A (letOwnedTupleGo tgt (.ref It) val) (fun _ s₂ => wpAny (model g.prog g.w) z.A (PySem.assign tgt z.env val) (fun _ s₃ => G s₃) E s₂) E s₁ → R (some val) s₁)
    (hnone : ∀ τ : St g z,ToI It σ τ → Φ () τ.f τ.H → R none τ.s)
    (hG : ∀ (τ : St g z) (Ψ : Fm → Hp → Prop),AtR τ.ρ (.ref a) acc → ok step τ.f τ.H (fun _ => Ψ) → (∀ τ' : St g z,To τ τ' → Ψ τ'.f τ'.H → ∃ m',m' < n ∧ CInv σ It sv vv P items m Φ a acc m' τ'.s) → G τ.s) :
    wpAny (model g.prog g.w) z.A (pyNext (.ref It)) R E s' := by
  obtain ⟨τ,i,rest,o₂,t₂,hd,e₂,ap₂,hP₂,hv₂,ra₂⟩ := h
  cases rest with
  | nil =>
    rw [hm0] at e₂
    obtain ⟨hg,e₃⟩ := kir e₂
    exact st.done τ i o₂ ap₂ hP₂ hv₂ hg (List.getElem?_eq_none_iff.mpr (List.drop_eq_nil_iff.mp hd)) _ _ fun h' tk hk => hnone (τ.foreign h' tk ap₂ hk) (t₂.trans (τ.foreign_to ap₂ hk)) e₃
  | cons v rest =>
    rw [hm1] at e₂
    obtain ⟨hg,e₃⟩ := kir (kae e₂)
    obtain ⟨hi,hd'⟩ := getElem?_drop_cons hd
    have e₄ := kae e₃
    refine st.item τ i o₂ v ap₂ hP₂ hv₂ hg hi (hbt.goes _ _ _ _ e₄) _ _ _ hR fun val h₃ t₃ o₃ hk ho₃ hP₃ hval => ?_
    refine hbt.go z (τ.foreign h₃ t₃ ap₂ hk) v val _ _ _ hval e₄ fun σ₄ t₄ e₅ => ?_
    have ap₄ : Apart σ₄ It o₃ := Apart.to (σ := τ.foreign h₃ t₃ ap₂ hk) ⟨ap₂.x,ap₂.own,ap₂.old,ho₃,st.fld _ _ hP₃⟩ t₄
    refine hG σ₄ _ (ra₂.mono t₄.ext.pre) (kae e₅) fun σ₅ t₅ e₆ => ?_
    have ap₅ := ap₄.to t₅
    exact ⟨rest.length,Nat.lt_succ_self _,.mk σ₅ (i + 1) rest o₃ (((t₂.trans (τ.foreign_to ap₂ hk)).trans (t₄.cons ap₄.own)).trans (t₅.cons ap₅.own)) hd' e₆ ap₅ hP₃ (t₅.vr (t₄.vr (ap₂.vr hk hv₂))) ((ra₂.mono t₄.ext.pre).mono t₅.ext.pre)⟩
theorem kea {tgt elt iter : Expr} {ifs : List Expr} {scope : Scope} {pos : Pos} {bt : V → M Unit} {t : M Bool} {me : M V} (hbt : RBnd g sc' true d tgt bt) (hplain : ∀ it v,letOwnedTupleGo tgt it v = pure ()) (ht : RIfs g sc' true d ifs t) (he : RE g sc' true d elt me) :
    kke g sc' d tgt (.ListComp elt [⟨tgt,iter,ifs,0⟩] scope pos) (fun src a => kme src.guard bt t me a src.items) := by
  intro z σ It src sv vv P o a acc Φ R st ap hP hv ra e k
  refine codeAny_compLoop_tests (CInv σ It sv vv P src.items (kme src.guard bt t me a) Φ a acc) (fun n s' h => ?_) src.items.length (.mk σ 0 src.items o (To.rfl.cons ap.own) rfl e ap hP hv ra) (fun v => hplain _ v)
  refine kj2 (step := kmd t me a) rfl (fun _ _ => rfl) hbt st h (fun val s₁ hw => by rw [hplain] at hw; exact wp_join hw) k fun τ Ψ ra₁ e₁ k₁ => ?_
  refine ht z τ _ _ _ (kae e₁) fun σ₂ b b' t₂ e₂ r => ?_
  cases (r : b' = b)
  cases b with
  | false => exact k₁ σ₂ t₂ (kao e₂)
  | true => exact he z σ₂ _ _ _ (kae e₂) fun σ₃ vy y t₃ e₃ ry => app_acc σ₃ ((ra₁.mono t₂.ext.pre).mono t₃.ext.pre) ry (kae e₃) fun τ' t' e' => k₁ τ' ((t₂.trans t₃).trans t') (kao e')
theorem loop_pair {tgt elt iter : Expr} {scope : Scope} {pos : Pos} {bt : V → M Unit} {me : M V} (hbt : RBnd g sc' true d tgt bt) (he : RE g sc' true d elt me) :
    kke g sc' d tgt (.ListComp elt [⟨tgt,iter,[],0⟩] scope pos) (fun src a => kme src.guard bt (ret true) me a src.items) := by
  intro z σ It src sv vv P o a acc Φ R st ap hP hv ra e k
  refine kcp_loop (CInv σ It sv vv P src.items (kme src.guard bt (ret true) me a) Φ a acc) (fun n s' h => ?_) src.items.length (.mk σ 0 src.items o (To.rfl.cons ap.own) rfl e ap hP hv ra)
  refine kj2 (step := kmd (ret true) me a) rfl (fun _ _ => rfl) hbt st h (fun val s₁ hw => hw) k fun τ Ψ ra₁ e₁ k₁ => ?_
  exact he z τ _ _ _ (kae (kao (kae e₁))) fun σ₃ vy y t₃ e₃ ry => app_acc σ₃ (ra₁.mono t₃.ext.pre) ry (kae e₃) fun τ' t' e' => k₁ τ' (t₃.trans t') (kao e')
theorem put_acc {z : Fc sc q d} (σ : St g z) {a : Nat} {D : Addr} {vk v : Value} {x y : V} {Φ : Unit → Fm → Hp → Prop} {E : Value → Shared → Prop} {Q : Unit → Shared → Prop} (ra : AtR σ.ρ (.ref a) (.ref D)) (rk : VR σ.ρ σ.s.heap x vk) (rx : VR σ.ρ σ.s.heap y v) (e : ok (putD (.at (.ref a)) x y) σ.f σ.H Φ)
    (k : ∀ τ : St g z,To σ τ → Φ () τ.f τ.H → Q () τ.s) : wpAny (model g.prog g.w) z.A (dictSet D vk v) Q E σ.s := by
  obtain ⟨a',es,ep,ho,e1⟩ := ok_dct e
  obtain ⟨i,e2⟩ := kdl e1
  obtain ⟨v0,e3⟩ := kk6 e2
  obtain ⟨hl,e4⟩ := kfh e3
  obtain ⟨t,rfl⟩ := rk
  obtain ⟨_,kvs,hρ,dk,pr,hlim⟩ := σ.dict ho ra
  have hlen := Paired.length pr
  obtain ⟨pr',hany⟩ := khb (i := i) pr rx
  refine dset_at dk (by unfold lim at hl; unfold sizeLine; omega) fun h' dk' hs => ?_
  rw [← hany] at dk'
  exact k (σ.setD _ hρ hs dk' pr' (by have := kj1 (es := es) (i := i) (a := v0); omega)) (σ.turn_to _ _ _) (khi e4)
theorem loop_dict {tgt kx vx iter : Expr} {scope : Scope} {pos : Pos} {bt : V → M Unit} {mk me : M V} (hbt : RBnd g sc' true d tgt bt) (hplain : ∀ it v,letOwnedTupleGo tgt it v = pure ()) (hkx : RE g sc' true d kx mk) (he : RE g sc' true d vx me) :
    kke g sc' d tgt (.DictComp kx vx [⟨tgt,iter,[],0⟩] scope pos) (fun src a => compD src.guard bt mk me a src.items) := by
  intro z σ It src sv vv P o a acc Φ R st ap hP hv ra e k
  obtain ⟨pD,hpD,rfl⟩ := id ra
  refine codeAny_compLoop_testsD (CInv σ It sv vv P src.items (compD src.guard bt mk me a) Φ a (.ref pD.1)) (fun n s' h => ?_) src.items.length (.mk σ 0 src.items o (To.rfl.cons ap.own) rfl e ap hP hv ra) (fun v => hplain _ v)
  refine kj2 (step := bnd mk fun key => bnd me fun x => putD (.at (.ref a)) key x) rfl (fun v r => ?_) hbt st h (fun val s₁ hw => by rw [hplain] at hw; exact wp_join hw) k fun τ Ψ ra₁ e₁ k₁ => ?_
  · show compD _ _ _ _ _ (v :: r) = _
    simp only [bnd_assoc]; rfl
  · refine wpAny_tests_nil ?_
    rw [if_pos rfl]
    exact hkx z τ _ _ _ (kae e₁) fun σ₂ vk kk t₂ e₂ rk => he z σ₂ _ _ _ (kae e₂) fun σ₃ vy y t₃ e₃ ry => put_acc σ₃ ((ra₁.mono t₂.ext.pre).mono t₃.ext.pre) (t₃.vr rk) ry e₃ fun τ' t' e' => k₁ τ' ((t₂.trans t₃).trans t') e'
end
end Mine
namespace Mine
open PySem PySem.W PySem.Calls PyProof.Rows
section
variable {g : Gl} {sc sc' : Sc} {q : Bool} {d : Nat}
theorem ok_within {α : Type} {fr : List (Option Nat)} {m : M α} {f : Fm} {H : Hp} {Φ : α → Fm → Hp → Prop} (e : ok (within fr m) f H Φ) : ok m (kjv fr f) H fun a _ H' => Φ a f H' := by
  obtain ⟨b,f',H',e,h⟩ := e
  unfold within at e
  split at e
  · rename_i a fc H₁ q; cases e; exact ⟨_,fc,_,q,h⟩
  · cases e
structure CEnd (g : Gl) {z : Fc sc q d} (σ τ : St g z) (C : Addr) (mC : Str → Option Value) : Prop where
  to : To σ τ
  new : σ.s.heap.get? C = none
  own : ¬ owns τ.ρ C
  nx : C ∉ z.X
  ns : τ.s.heap.Ns C mC
  before : ∃ σ₀ : St g z,σ₀.s.heap.get? C = none
noncomputable abbrev compM (fr : List (Option Nat)) (m : Src → Nat → M Unit) (o0 : O) (sr : Src) : M V := bnd (new o0) fun acc => kf6 acc fun a => bnd (within fr (m sr a)) fun _ => ret acc
theorem To.fresh {z : Fc sc q d} {σ τ : St g z} (t : To σ τ) {b : Addr} (hb : τ.s.heap.objs.size ≤ b) : σ.s.heap.get? b = none := by
  cases eb : σ.s.heap.get? b with
  | none => rfl
  | some ob =>
    have hbX : b ∉ z.X := fun hm => by
      obtain ⟨_,_,ob,e,_⟩ := τ.inv.x _ hm
      exact absurd (Heap.lt_size e) (Nat.not_lt.mpr hb)
    obtain ⟨sl,e',_⟩ := t.ext.keep b ob eb (fun q => τ.freeO hb (klx t.ext.pre q)) hbX
    exact absurd (Heap.lt_size e') (Nat.not_lt.mpr hb)
theorem kj3 {tgt iter e : Expr} {ifs : List Expr} {scope : Scope} {pos : Pos} {fr : List (Option Nat)} {ms : M Src} {m : Src → Nat → M Unit} {o0 : O} {ob0 : Obj} {newAcc : Sem Value}
    (S : kkf sc sc' scope fr) (hs : RSrc g sc true d tgt iter ms) (hl : kke g sc' d tgt e m) (hcl : clausesOf e = [⟨tgt,iter,ifs,0⟩]) (hfold : ∀ env x,foldedSetIterable iter env x = pure x)
    (hacc : ∀ (A : Around) (E : Value → Shared → Prop) (Q : Value → Shared → Prop) (s : Shared),Q (.ref s.heap.objs.size) { s with heap := s.heap.push ob0 } → wpAny (model g.prog g.w) A newAcc Q E s)
    (hob : ∀ (ρ : RM) (h : Heap),OAt g.prog g.w (ρ ++ [(h.objs.size,h.objs.size)]) (h.push ob0) (h.objs.size,h.objs.size) o0)
    (hstart : ∀ (A : Around) (env : Env) (it acc : Value) (R : Result → Shared → Prop) (s : Shared),codeAny (model g.prog g.w) A (.compLoop e 0 it acc env) R s → wpAny (model g.prog g.w) A (pyIter it) (fun it' s' => codeAny (model g.prog g.w) A (.compLoop e 0 it' acc env) R s')
      (notedBy (model g.prog g.w) A env fun x s' => R (.error x) s') s → codeAny (model g.prog g.w) A (.compStart e 0 it acc env) R s)
    {z : Fc sc true d} (σ : St g z) {Φ : V → Fm → Hp → Prop} (em : ok (bnd ms (compM fr m o0)) σ.f σ.H Φ) {use : Option (Value → Sem Unit)} {Q : Value → Shared → Prop} {E : Value → Shared → Prop}
    (post : ∀ (τ : St g z) acc b C mC,CEnd g σ τ C mC → Φ b τ.f τ.H → VR τ.ρ τ.s.heap b acc → compPost (model g.prog g.w) z.A E use Q acc C (.ok .next) τ.s) : wpAny (model g.prog g.w) z.A (comprehension e scope z.env pos newAcc false (eval iter z.env) use) Q E σ.s := by
  have hsome : ∀ y,(y,NameKind.free) ∈ scope.names → (z.env.cells.lookup y).isSome = true := fun y hy => by
    obtain ⟨i,hi⟩ := List.getElem?_of_mem hy
    obtain ⟨j,_,hj⟩ := S.free i y hi
    obtain ⟨c',o,a,_⟩ := σ.inv.fr.cell j y (by rw [z.cx.names]; exact hj)
    rw [a]; rfl
  refine wpAny_comprehension_free hcl (hfold z.env) (kmf hsome) S.kind (fun p hp _ => ?_) (hs z σ _ _ _ (kae em) fun σ₁ src It sv vv P o S₁ e₁ => ?_)
  · obtain ⟨i,hi⟩ := List.getElem?_of_mem hp
    have := kcl S.nodup (x := p.1) (k := p.2) hi
    rename_i hk
    rw [this,hk]
  refine hacc _ _ _ _ ?_
  have e₂ : ok (bnd (within fr (m src σ₁.H.length)) fun _ => ret (.at (.ref σ₁.H.length))) σ₁.f (σ₁.H ++ [o0]) Φ := kgy (kae e₁)
  generalize hτ : σ₁.new (σ₁.s.heap.push ob0) σ₁.s.toks (σ₁.s.heap.objs.size,σ₁.s.heap.objs.size) o0 kb8 (Nat.le_refl _) (Nat.le_refl _) (hob _ _) = σ₂
  have t₂ : To σ₁ σ₂ := hτ ▸ σ₁.new_to ..
  have ra : VR σ₂.ρ σ₂.s.heap (.at (.ref σ₁.H.length)) (.ref σ₁.s.heap.objs.size) := hτ ▸ σ₁.new_ref
  have e₃ : ok (bnd (within fr (m src σ₁.H.length)) fun _ => ret (.at (.ref σ₁.H.length))) σ₂.f σ₂.H Φ := hτ ▸ e₂
  have hs₂ : σ₂.s = { σ₁.s with heap := σ₁.s.heap.push ob0 } := by rw [← hτ]; rfl
  rw [← hs₂]
  clear hτ e₁ e₂
  refine wp_compEnv ?_
  obtain ⟨keep,C',Ic,ownX⟩ := comp_enter σ₂ S
  have ap₂ := S₁.ap.to t₂
  have e₇ := ok_within (kae e₃)
  generalize hX' : (σ₂.s.heap.objs.size :: sc'.cells.filterMap (({ kj4 scope (clOf z.env.cells scope.names []) σ₂.s.heap.objs.size z.env with scope := relabel scope z.env } : Env).cells.lookup ·)) = X' at C' Ic ownX
  have inX : σ₂.s.heap.objs.size ∈ X' := by rw [← hX']; exact List.mem_cons_self
  let z' : Fc sc' true d := ⟨z.A,_,X',C'⟩
  let σc : St g z' := ⟨σ₂.ρ,_,σ₂.H,{ σ₂.s with heap := pushCells (σ₂.s.heap.push { cls := .type "dict",data := .dict #[] }) scope.names },Ic⟩
  have apc : Apart σc It o := ⟨fun hm => absurd (Heap.lt_size ap₂.at_) (Nat.not_lt.mpr (ownX _ hm)),ap₂.own,ap₂.old,keep _ _ ap₂.at_,ap₂.fld⟩
  have loop : codeAny (model g.prog g.w) z.A (.compLoop e 0 (.ref It) (.ref σ₁.s.heap.objs.size) { kj4 scope (clOf z.env.cells scope.names []) σ₂.s.heap.objs.size z.env with scope := relabel scope z.env })
      (compPost (model g.prog g.w) z.A E use Q (.ref σ₁.s.heap.objs.size) σ₂.s.heap.objs.size) σc.s := by
    refine hl z' σc It src sv vv P o σ₁.H.length (.ref σ₁.s.heap.objs.size) _ _ S₁.st apc S₁.p0 (VR.mono List.prefix_rfl (fun b o _ e => keep b o e) (t₂.vr S₁.vr)) ra e₇ fun τc tc ec => ?_
    have xall : Ext g.h₀ (It :: X') σ₂.ρ σ₂.s.heap τc.ρ τc.s.heap := tc.ext.drop keep (fun b hb => .inl hb) tc.ext.x
    obtain ⟨I',x'⟩ := σ₂.inv.backF τc.inv xall (fun b hb => by
      rcases List.mem_cons.mp hb with rfl | hb
      · exact .inr ⟨ap₂.x,o,let ⟨fs,hfs⟩ := ap₂.fld; ⟨fs,ap₂.at_,hfs⟩⟩
      · exact .inl (kfw (ownX b hb)))
    have t12 := S₁.to.trans t₂
    have xf : Ext g.h₀ z.X σ.ρ σ.s.heap τc.ρ τc.s.heap := by
      refine ((t12.ext.mono (Y := (It :: X') ++ z.X) (fun _ h => List.mem_append.mpr (.inr h)) (fun b hb q => ?_)).trans x').drop (fun _ _ e => e) (fun b hb => ?_) fun b hb => x'.x b (List.mem_append.mpr (.inr hb))
      · exact x'.x b hb (klx x'.pre q)
      · rcases List.mem_append.mp hb with hb | hb
        · rcases List.mem_cons.mp hb with rfl | hb
          · exact .inr S₁.new
          · exact .inr (t12.fresh (ownX b hb))
        · exact .inl hb
    obtain ⟨mC',nsC',_⟩ := τc.inv.fr.ns
    have ss : τc.s = { σ.s with heap := τc.s.heap,toks := τc.s.toks } := by
      rw [tc.same]
      show ({ σ₂.s with heap := τc.s.heap,toks := τc.s.toks } : Shared) = _
      rw [t12.same]
    exact post ⟨τc.ρ,σ₂.f,τc.H,τc.s,I'⟩ _ (.at (.ref σ₁.H.length)) σ₂.s.heap.objs.size mC' ⟨⟨xf,ss⟩,t12.fresh (Nat.le_refl _),tc.ext.x _ (List.mem_cons_of_mem _ inX),σ₂.freeX,nsC',σ₂,kfw (Nat.le_refl _)⟩ (kao ec) (AtR.mono (a := .ref σ₁.H.length) tc.ext.pre ra)
  exact hstart _ _ _ _ _ _ loop (S₁.st.self _ _ 0 o apc.at_ S₁.p0 _ _ loop)
theorem CEnd.gone {z : Fc sc q d} {σ τ : St g z} {C : Addr} {mC : Str → Option Value} (c : CEnd g σ τ C mC) {h'' : Heap} (hs : Heap.SameBut C τ.s.heap h'') : ∃ υ : St g z,υ.s = { τ.s with heap := h'' } ∧ υ.f = τ.f ∧ υ.H = τ.H ∧ To σ υ ∧ ∀ {v : V} {val : Value},VR τ.ρ τ.s.heap v val → VR υ.ρ υ.s.heap v val := by
  obtain ⟨σ₀,h₀⟩ := c.before
  obtain ⟨I',x'⟩ := σ₀.foreignD τ h₀ c.own c.ns hs
  refine ⟨⟨τ.ρ,τ.f,τ.H,{ τ.s with heap := h'' },I'⟩,rfl,rfl,rfl,⟨((c.to.ext.cons c.own).trans x').uncons c.new,by show ({ τ.s with heap := h'' } : Shared) = _; rw [c.to.same]⟩,fun rv => ?_⟩
  refine VR.mono List.prefix_rfl (fun bb o t e => x'.tup e t (τ.inv.tupFree e t).1 (fun hm => ?_)) rv
  rcases List.mem_cons.mp hm with rfl | hm
  · obtain ⟨oC,_,_,eC,dC,_⟩ := c.ns
    rw [eC] at e; cases e; exact kd4 dC t
  · exact (τ.inv.tupFree e t).2 hm
theorem post_none {z : Fc sc q d} {σ τ : St g z} {acc : Value} {C : Addr} {mC : Str → Option Value} {b : V} {Φ : V → Fm → Hp → Prop} {Q : Value → Shared → Prop} {E : Value → Shared → Prop} (c : CEnd g σ τ C mC) (e : Φ b τ.f τ.H) (rv : VR τ.ρ τ.s.heap b acc)
    (k : ∀ (τ : St g z) a b,To σ τ → Φ b τ.f τ.H → VR τ.ρ τ.s.heap b a → Q a τ.s) : compPost (model g.prog g.w) z.A E none Q acc C (.ok .next) τ.s := by
  refine ⟨mC,c.ns,fun h'' hs => ?_⟩
  obtain ⟨υ,e1,e2,e3,t,hv⟩ := c.gone hs
  have := k υ acc b t (by rw [e2,e3]; exact e) (hv rv)
  rw [e1] at this
  exact this
theorem CEnd.step {z : Fc sc q d} {σ τ υ : St g z} {C : Addr} {mC : Str → Option Value} (c : CEnd g σ τ C mC) (t : To τ υ) (hC : ¬ owns υ.ρ C) : CEnd g σ υ C mC :=
  ⟨c.to.trans t,c.new,hC,c.nx,ki2 c.ns fun o e => let ⟨sl,q,_⟩ := t.ext.keep C o e c.own c.nx; ⟨sl,q⟩,c.before⟩
theorem post_some {z : Fc sc true d} {σ τ : St g z} {acc : Value} {C : Addr} {mC : Str → Option Value} {b : V} {i : Nat} {x : Str} {px : Pos} {Φ : AF → Fm → Hp → Prop} {Q : Flow → Shared → Prop} {E : Value → Shared → Prop} (hn : (sc.names.map (·.1)).Nodup) (hi : sc.names[i]? = some (x,.local))
    (c : CEnd g σ τ C mC) (e : ok (bnd (setl i b) fun _ => ret .next) τ.f τ.H Φ) (rv : VR τ.ρ τ.s.heap b acc) (k : ∀ (τ : St g z),To σ τ → Φ .next τ.f τ.H → Q .next τ.s) :
    compPost (model g.prog g.w) z.A E (some fun v => assignAll v [PySem.assign (.Name x px) z.env]) (fun _ => Q .next) acc C (.ok .next) τ.s := by
  show wpAny (model g.prog g.w) z.A (PySem.assign (.Name x px) z.env acc) _ E _
  refine wpAny_assign_Name (kcw τ hn hi rv fun h₂ t₂ I₂ t' => ?_)
  have c₂ := c.step t' c.own
  refine ⟨mC,c₂.ns,fun h'' hs => ?_⟩
  obtain ⟨υ,e1,e2,e3,t,_⟩ := c₂.gone hs
  have := k υ t (by rw [e2,e3]; exact kao (ke0 (kae e)))
  rw [e1] at this
  exact this
theorem list_oat0 (ρ : RM) (h : Heap) : OAt g.prog g.w (ρ ++ [(h.objs.size,h.objs.size)]) (h.push { cls := .type "list",data := .seq ([] : List Value).toArray }) (h.objs.size,h.objs.size) (.list []) := list_oat (vs := []) .nil (Nat.zero_le _)
theorem kdb {tgt elt iter : Expr} {ifs : List Expr} {scope : Scope} {pos : Pos} {fr : List (Option Nat)} {ms : M Src} {bt : V → M Unit} {t : M Bool} {me : M V} (S : kkf sc sc' scope fr) (hs : RSrc g sc true d tgt iter ms)
    (hl : kke g sc' d tgt (.ListComp elt [⟨tgt,iter,ifs,0⟩] scope pos) (fun src a => kme src.guard bt t me a src.items)) (hfold : ∀ env x,foldedSetIterable iter env x = pure x := by intro _ _; rfl) :
    RE g sc true d (.ListComp elt [⟨tgt,iter,ifs,0⟩] scope pos) (kcc ms fr bt t me) := by
  intro z σ Φ E Q e k
  rw [eval_ListComp]
  exact kj3 (ob0 := { cls := .type "list",data := .seq ([] : List Value).toArray }) S hs hl rfl hfold (fun A E Q s h => wpAny_newList h) list_oat0 (fun A env it acc R s h1 h2 => codeAny_compStart_list h1 h2) σ e
    fun τ acc b C mC c e r => post_none c e r k
theorem kjc {tgt kx vx iter : Expr} {scope : Scope} {pos : Pos} {fr : List (Option Nat)} {ms : M Src} {bt : V → M Unit} {mk me : M V} (S : kkf sc sc' scope fr) (hs : RSrc g sc true d tgt iter ms)
    (hl : kke g sc' d tgt (.DictComp kx vx [⟨tgt,iter,[],0⟩] scope pos) (fun src a => compD src.guard bt mk me a src.items)) (hfold : ∀ env x,foldedSetIterable iter env x = pure x := by intro _ _; rfl) :
    RE g sc true d (.DictComp kx vx [⟨tgt,iter,[],0⟩] scope pos) (kgu ms fr bt mk me) := by
  intro z σ Φ E Q e k
  show wpAny (model g.prog g.w) z.A (comprehension (.DictComp kx vx [⟨tgt,iter,[],0⟩] scope pos) scope z.env _ newDict false (eval iter z.env) none) Q E σ.s
  exact kj3 (ob0 := { cls := .type "dict",data := .dict #[] }) S hs hl rfl hfold (fun A E Q s h => by simp only [newDict,newObj]; exact wpAny_bind (wpAny_alloc (wpAny_pure h))) (fun ρ h => dict_oat) (fun A env it acc R s h1 h2 => codeAny_compStart_dict h1 h2) σ e
    fun τ acc b C mC c e r => post_none c e r k
theorem khw {tgt elt iter : Expr} {ifs : List Expr} {scope : Scope} {pos px ps : Pos} {fr : List (Option Nat)} {ms : M Src} {bt : V → M Unit} {t : M Bool} {me : M V} {i : Nat} {x : Str} (hn : (sc.names.map (·.1)).Nodup) (hi : sc.names[i]? = some (x,.local)) (S : kkf sc sc' scope fr) (hs : RSrc g sc true d tgt iter ms)
    (hl : kke g sc' d tgt (.ListComp elt [⟨tgt,iter,ifs,0⟩] scope pos) (fun src a => kme src.guard bt t me a src.items))
    (hsw : (px.line == pos.line && !(scope.names.any fun p => p.1 == x && (p.2 == .local || p.2 == .cell))) = true) (hfold : ∀ env x,foldedSetIterable iter env x = pure x := by intro _ _; rfl) :
    RS g sc true d (.Assign [.Name x px] (.ListComp elt [⟨tgt,iter,ifs,0⟩] scope pos) ps) (assign i (kcc ms fr bt t me)) := by
  intro z σ Φ E Q e k
  have hk : z.env.kindOf x = some .local := z.kindOf hn hi
  rw [exec_Assign_arm]
  refine wpAny_bind (wpAny_standAt ?_)
  have sw : swapsWithSole [.Name x px] (.ListComp elt [⟨tgt,iter,ifs,0⟩] scope pos) ps.line z.env = pure true := by
    show (pure (z.env.blockKind == .function && z.env.kindOf x == some .local && px.line == pos.line && !(scope.names.any fun p => p.1 == x && (p.2 == .local || p.2 == .cell))) : Sem Bool) = pure true
    have hb : z.env.blockKind = .function := by unfold Env.blockKind; rw [z.cx.kind]; rfl
    rw [Bool.and_eq_true] at hsw
    rw [hb,hk,hsw.1,hsw.2]; rfl
  rw [sw]
  refine wpAny_bind (wpAny_pure ?_)
  rw [if_pos rfl]
  refine wpAny_bind (wpAny_bind ?_)
  exact kj3 (ob0 := { cls := .type "list",data := .seq ([] : List Value).toArray }) S hs hl rfl hfold (fun A E Q s h => wpAny_newList h) list_oat0 (fun A env it acc R s h1 h2 => codeAny_compStart_list h1 h2) σ (kae e)
    fun τ acc b C mC c e r => post_some (Q := fun fl s' => wpAny (model g.prog g.w) z.A (pure ()) (fun _ s' => wpAny (model g.prog g.w) z.A (pure Flow.next) Q E s') E s') (px := px) hn hi c e r fun τ t e => wpAny_pure (wpAny_pure (k τ _ _ t e rfl))
end
end Mine
namespace Mine
open PySem PySem.W PyProof.Rows
noncomputable def Runs {α : Type} (n : Nat) (c : Nat → Nat → Bool) (P : α → Prop) : KasT α → Prop
  | .ret a => P a
  | .ask i j k => i < n ∧ j < n ∧ Runs n c P (k (c i j))
theorem Runs.bind {α β : Type} {n : Nat} {c : Nat → Nat → Bool} {P : α → Prop} {P' : β → Prop} {f : α → KasT β} : ∀ {t : KasT α},Runs n c P t → (∀ a,P a → Runs n c P' (f a)) → Runs n c P' (t.bind f)
  | .ret _,h,k => k _ h
  | .ask _ _ _,h,k => ⟨h.1,h.2.1,Runs.bind h.2.2 k⟩
theorem Runs.mono {α : Type} {n : Nat} {c : Nat → Nat → Bool} {P P' : α → Prop} : ∀ {t : KasT α},Runs n c P t → (∀ a,P a → P' a) → Runs n c P' t
  | .ret _,h,k => k _ h
  | .ask _ _ _,h,k => ⟨h.1,h.2.1,Runs.mono h.2.2 k⟩
theorem Runs.wp {α : Type} {n : Nat} {c : Nat → Nat → Bool} {P : α → Prop} {cmp : Nat → Nat → (Bool → Shared → Prop) → Shared → Prop} {Q : α → Shared → Prop} {s : Shared} (hc : ∀ i j,i < n → j < n → ∀ C : Bool → Shared → Prop,C (c i j) s → cmp i j C s) (hq : ∀ a,P a → Q a s) :
    ∀ {t : KasT α},Runs n c P t → t.kasWp cmp Q s
  | .ret _,h => hq _ h
  | .ask i j k,h => hc i j h.1 h.2.1 _ (Runs.wp hc hq h.2.2)
structure Ord (n : Nat) (c : Nat → Nat → Bool) : Prop where
  tr : ∀ i j k,i < n → j < n → k < n → c i j = true → c j k = true → c i k = true
  tot : ∀ i j,i < n → j < n → i ≠ j → c i j = true ∨ c j i = true
structure Per (n : Nat) (p : Array Nat) : Prop where
  perm : p.toList.Perm (List.range n)
section
variable {n : Nat} {c : Nat → Nat → Bool} {p : Array Nat}
theorem Per.size (h : Per n p) : p.size = n := by have := h.perm.length_eq; simpa using this
theorem Per.lt (h : Per n p) (hn : 0 < n) (k : Nat) : p.getD k 0 < n := by
  by_cases hk : k < p.size
  · have e : p.getD k 0 = p[k] := by simp [Array.getD,hk]
    rw [e]
    have : p[k] ∈ p.toList := by simp
    exact List.mem_range.mp (h.perm.mem_iff.mp this)
  · have e : p.getD k 0 = 0 := by simp [Array.getD,hk]
    omega
theorem Per.inj (h : Per n p) {i j : Nat} (hi : i < n) (hj : j < n) (e : p.getD i 0 = p.getD j 0) : i = j := by
  have hs := h.size
  have hi' : i < p.size := by omega
  have hj' : j < p.size := by omega
  have nd : p.toList.Nodup := h.perm.nodup_iff.mpr List.nodup_range
  have e1 : p.getD i 0 = p.toList[i]'(by simpa using hi') := by simp [Array.getD,hi']
  have e2 : p.getD j 0 = p.toList[j]'(by simpa using hj') := by simp [Array.getD,hj']
  rw [e1,e2] at e
  exact (List.getElem_inj nd).mp e
noncomputable def Asc (c : Nat → Nat → Bool) (p : Array Nat) (m : Nat) : Prop := ∀ i j,i < j → j < m → c (p.getD i 0) (p.getD j 0) = true
noncomputable def Desc (c : Nat → Nat → Bool) (p : Array Nat) (m : Nat) : Prop := ∀ i j,i < j → j < m → c (p.getD j 0) (p.getD i 0) = true
theorem Asc.succ (O : Ord n c) (h : Per n p) {m : Nat} (a : Asc c p m) (h1 : 1 ≤ m) (hm : m < n) (hc : c (p.getD (m - 1) 0) (p.getD m 0) = true) : Asc c p (m + 1) := fun i j hij hj => by
  have hn : 0 < n := by omega
  rcases Nat.lt_or_ge j m with hj' | hj'
  · exact a i j hij hj'
  · obtain rfl : j = m := by omega
    rcases Nat.lt_or_ge i (j - 1) with hi | hi
    · exact O.tr _ _ _ (h.lt hn _) (h.lt hn _) (h.lt hn _) (a i (j - 1) hi (by omega)) hc
    · obtain rfl : i = j - 1 := by omega
      exact hc
theorem Desc.succ (O : Ord n c) (h : Per n p) {m : Nat} (a : Desc c p m) (h1 : 1 ≤ m) (hm : m < n) (hc : c (p.getD m 0) (p.getD (m - 1) 0) = true) : Desc c p (m + 1) := fun i j hij hj => by
  have hn : 0 < n := by omega
  rcases Nat.lt_or_ge j m with hj' | hj'
  · exact a i j hij hj'
  · obtain rfl : j = m := by omega
    rcases Nat.lt_or_ge i (j - 1) with hi | hi
    · exact O.tr _ _ _ (h.lt hn _) (h.lt hn _) (h.lt hn _) hc (a i (j - 1) hi (by omega))
    · obtain rfl : i = j - 1 := by omega
      exact hc
theorem run_asc (O : Ord n c) (h : Per n p) : ∀ (f m : Nat),1 ≤ m → m + f ≤ n → Asc c p m → Runs n c (fun r => m ≤ r ∧ r ≤ m + f ∧ Asc c p r ∧ (r = m + f ∨ c (p.getD r 0) (p.getD (r - 1) 0) = true)) (kas_asc p f m)
  | 0,m,_,_,a => ⟨Nat.le_refl _,Nat.le_refl _,a,.inl rfl⟩
  | f + 1,m,h1,hm,a => by
    have hn : 0 < n := by omega
    refine ⟨h.lt hn _,h.lt hn _,?_⟩
    cases hc : c (p.getD m 0) (p.getD (m - 1) 0) with
    | true => exact ⟨Nat.le_refl _,by omega,a,.inr hc⟩
    | false =>
      have hne : p.getD m 0 ≠ p.getD (m - 1) 0 := fun e => by have := h.inj (by omega) (by omega) e; omega
      have hc' := (O.tot _ _ (h.lt hn m) (h.lt hn (m - 1)) hne).resolve_left (by rw [hc]; decide)
      exact (run_asc O h f (m + 1) (by omega) (by omega) (a.succ O h h1 (by omega) hc')).mono fun r hr => ⟨by have := hr.1; omega,by have := hr.2.1; omega,hr.2.2.1,by rcases hr.2.2.2 with h | h; exact .inl (by omega); exact .inr h⟩
theorem run_desc (O : Ord n c) (h : Per n p) : ∀ (f m : Nat),1 ≤ m → m + f ≤ n → Desc c p m → Runs n c (fun r : Array Nat × Nat × Nat => r.1 = p ∧ r.2.2 = 0 ∧ m ≤ r.2.1 ∧ r.2.1 ≤ m + f ∧ Desc c p r.2.1) (kas_desc f p m 0)
  | 0,m,_,_,a => ⟨rfl,rfl,Nat.le_refl _,Nat.le_refl _,a⟩
  | f + 1,m,h1,hm,a => by
    have hn : 0 < n := by omega
    refine ⟨h.lt hn _,h.lt hn _,?_⟩
    cases hc : c (p.getD m 0) (p.getD (m - 1) 0) with
    | true =>
      exact (run_desc O h f (m + 1) (by omega) (by omega) (a.succ O h h1 (by omega) hc)).mono fun r hr => ⟨hr.1,hr.2.1,by have := hr.2.2.1; omega,by have := hr.2.2.2.1; omega,hr.2.2.2.2⟩
    | false =>
      have hne : p.getD m 0 ≠ p.getD (m - 1) 0 := fun e => by have := h.inj (by omega) (by omega) e; omega
      have hc' := (O.tot _ _ (h.lt hn m) (h.lt hn (m - 1)) hne).resolve_left (by rw [hc]; decide)
      refine ⟨h.lt hn _,h.lt hn _,?_⟩
      rw [hc']
      exact ⟨rfl,rfl,Nat.le_refl _,Nat.le_add_right m (f + 1),a⟩
theorem kja (O : Ord n c) (h : Per n p) {k : Nat} (hk : k < n) : ∀ (f l r : Nat),r - l ≤ f → l ≤ r → r ≤ k → (∀ i,i < l → c (p.getD i 0) (p.getD k 0) = true) → (∀ i,r ≤ i → i < k → c (p.getD k 0) (p.getD i 0) = true) → Asc c p k →
    Runs n c (fun l' => l' ≤ k ∧ (∀ i,i < l' → c (p.getD i 0) (p.getD k 0) = true) ∧ ∀ i,l' ≤ i → i < k → c (p.getD k 0) (p.getD i 0) = true) (kas_place p k f l r)
  | 0,l,r,hf,hlr,hr,h1,h2,_ => ⟨by omega,h1,fun i hi hik => h2 i (by omega) hik⟩
  | f + 1,l,r,hf,hlr,hr,h1,h2,a => by
    have hn : 0 < n := by omega
    unfold kas_place
    split
    · exact ⟨by omega,h1,fun i hi hik => h2 i (by omega) hik⟩
    · rename_i hlt
      refine ⟨h.lt hn _,h.lt hn _,?_⟩
      cases hc : c (p.getD k 0) (p.getD ((l + r) / 2) 0) with
      | true =>
        show Runs n c _ (kas_place p k f l ((l + r) / 2))
        refine kja O h hk f l ((l + r) / 2) (by omega) (by omega) (by omega) h1 (fun i hi hik => ?_) a
        rcases Nat.lt_or_ge ((l + r) / 2) i with hh | hh
        · exact O.tr _ _ _ (h.lt hn _) (h.lt hn _) (h.lt hn _) hc (a _ _ hh hik)
        · obtain rfl : i = (l + r) / 2 := by omega
          exact hc
      | false =>
        show Runs n c _ (kas_place p k f ((l + r) / 2 + 1) r)
        have hne : p.getD k 0 ≠ p.getD ((l + r) / 2) 0 := fun e => by have := h.inj hk (by omega) e; omega
        have hc' := (O.tot _ _ (h.lt hn k) (h.lt hn ((l + r) / 2)) hne).resolve_left (by rw [hc]; decide)
        refine kja O h hk f ((l + r) / 2 + 1) r (by omega) (by omega) hr (fun i hi => ?_) h2 a
        rcases Nat.lt_or_ge i ((l + r) / 2) with hh | hh
        · exact O.tr _ _ _ (h.lt hn _) (h.lt hn _) (h.lt hn _) (a _ _ hh (by omega)) hc'
        · obtain rfl : i = (l + r) / 2 := by omega
          exact hc'
theorem kg8 {p : Array Nat} {k : Nat} {o : Option Nat} (h : p[k]? = o) : p.getD k 0 = o.getD 0 := by
  subst h
  by_cases hk : k < p.size <;> simp [Array.getD,hk]
theorem Per.of (h : Per n p) {p' : Array Nat} (hp : p'.Perm p) : Per n p' := ⟨(Array.perm_iff_toList_perm.mp hp).trans h.perm⟩
theorem run_bin (O : Ord n c) : ∀ (f : Nat) (p : Array Nat) (k : Nat),Per n p → 1 ≤ k → k + f = n → Asc c p k → Runs n c (fun p' => Per n p' ∧ Asc c p' n) (kas_bin f p k)
  | 0,p,k,h,_,hk,a => ⟨h,by rw [← hk,Nat.add_zero]; exact a⟩
  | f + 1,p,k,h,h1,hk,a => by
    have hkn : k < n := by omega
    refine (kja O h hkn k 0 k (by omega) (Nat.zero_le _) (Nat.le_refl _) (fun i hi => absurd hi (Nat.not_lt_zero _)) (fun i hi hik => by omega) a).bind fun l hl => ?_
    obtain ⟨hl1,hl2,hl3⟩ := hl
    have hs := h.size
    have gb : ∀ i,(bubble p k (k - l)).getD i 0 = if i = l then p.getD k 0 else if l < i ∧ i ≤ k then p.getD (i - 1) 0 else p.getD i 0 := fun i => by
      have e := getElem?_bubble (xs := p) (src := k) (by omega) (k - l) (by omega) i
      rw [show k - (k - l) = l by omega] at e
      rw [kg8 e]
      split
      · exact (kg8 rfl).symm
      · split
        · exact (kg8 rfl).symm
        · exact (kg8 rfl).symm
    refine run_bin O f _ (k + 1) (h.of (bubble_perm _ _ _)) (by omega) (by omega) fun i j hij hj => ?_
    rw [gb i,gb j]
    by_cases hi1 : i = l
    · rw [if_pos hi1,if_neg (by omega),if_pos (by omega)]
      exact hl3 (j - 1) (by omega) (by omega)
    · rw [if_neg hi1]
      by_cases hj1 : j = l
      · rw [if_pos hj1,if_neg (by omega)]
        exact hl2 i (by omega)
      · rw [if_neg hj1]
        by_cases hi2 : l < i ∧ i ≤ k
        · rw [if_pos hi2,if_pos (by omega)]
          exact a _ _ (by omega) (by omega)
        · rw [if_neg hi2]
          by_cases hj2 : l < j ∧ j ≤ k
          · rw [if_pos hj2]; exact a _ _ (by omega) (by omega)
          · rw [if_neg hj2]; exact a _ _ hij (by omega)
theorem run_tail3 (O : Ord n c) (h : Per n p) {m : Nat} (h1 : 1 ≤ m) (hm : m ≤ n) (dsc : Desc c p m) : Runs n c (fun r : Nat × Array Nat => 1 ≤ r.1 ∧ r.1 ≤ n ∧ Per n r.2 ∧ Asc c r.2 r.1) (kas_tail3 m n p) := by
  have hs := h.size
  have gm : ∀ i,(kas_rev p 0 m).getD i 0 = if i < m then p.getD (m - 1 - i) 0 else p.getD i 0 := fun i => by
    have e := getElem?_mirror_all (xs := p) (i := 0) (j := m) (by omega) i
    have e' : (kas_rev p 0 m)[i]? = _ := e
    rw [kg8 e']
    by_cases hi : i < m
    · rw [if_pos ⟨Nat.zero_le _,hi⟩,if_pos hi,show 0 + m - 1 - i = m - 1 - i by omega]; exact (kg8 rfl).symm
    · rw [if_neg (fun q => hi q.2),if_neg hi]; exact (kg8 rfl).symm
  have hP : Per n (kas_rev p 0 m) := h.of (mirror_perm _ _ _ _)
  have a : Asc c (kas_rev p 0 m) m := fun i j hij hj => by
    rw [gm i,gm j,if_pos (by omega),if_pos hj]
    exact dsc _ _ (by omega) (by omega)
  refine (run_asc O hP (n - m) m h1 (by omega) a).bind fun r hr => ?_
  exact ⟨by have := hr.1; omega,by have := hr.2.1; omega,hP,hr.2.2.1⟩
theorem run_count (O : Ord n c) (h : Per n p) (hn : 2 ≤ n) : Runs n c (fun r : Nat × Array Nat => 1 ≤ r.1 ∧ r.1 ≤ n ∧ Per n r.2 ∧ Asc c r.2 r.1) (kas_count n p) := by
  have h0 : 0 < n := by omega
  refine (run_asc O h (n - 1) 1 (Nat.le_refl _) (by omega) (fun i j hij hj => by omega)).bind fun m hm => ?_
  obtain ⟨m1,m2,a,hor⟩ := hm
  by_cases he : (m == n) = true
  · rw [if_pos he]
    exact ⟨m1,by omega,h,a⟩
  · rw [if_neg he]
    by_cases hg : m > 1
    · rw [if_pos hg]
      refine ⟨h.lt h0 _,h.lt h0 _,?_⟩
      rw [a 0 (m - 1) (by omega) (by omega)]
      exact ⟨m1,by omega,h,a⟩
    · rw [if_neg hg]
      obtain rfl : m = 1 := by omega
      have hne : ¬ 1 = n := fun e => he (by simp [← e])
      have hc := hor.resolve_left (by omega)
      have d2 : Desc c p 2 := fun i j hij hj => by
        obtain rfl : i = 0 := by omega
        obtain rfl : j = 1 := by omega
        exact hc
      unfold kas_descPart
      refine (run_desc O h (n - (1 + 1)) 2 (by omega) (by omega) d2).bind fun r hr => ?_
      obtain ⟨r1,r2,r3,r4,r5⟩ := hr
      rw [r2,if_neg (by omega),r1]
      exact run_tail3 O h (by omega) (by omega) r5
theorem run_sort (O : Ord n c) (hn : 2 ≤ n) : Runs n c (fun p => Per n p ∧ Asc c p n) (kas_sort n) := by
  refine (run_count O (p := List.toArray (List.range n)) ⟨by simp⟩ hn).bind fun r hr => ?_
  obtain ⟨r1,r2,hp,a⟩ := hr
  by_cases hlt : r.1 < n
  · rw [if_pos hlt,Nat.max_eq_left r1]
    exact run_bin O _ _ _ hp r1 (by omega) a
  · rw [if_neg hlt]
    obtain e : r.1 = n := by omega
    exact ⟨hp,e ▸ a⟩
end
end Mine
namespace Mine
open PySem PySem.W PySem.Calls PyProof.Rows
section
variable {lt : V → V → Bool}
theorem kfv (x : V) : ∀ l : List V,(kc2 lt x l).Perm (x :: l)
  | [] => .refl _
  | y :: r => by
    unfold kc2
    split
    · exact .refl _
    · exact ((kfv x r).cons y).trans (.swap x y r)
theorem keu : ∀ l : List V,(kfn lt l).Perm l
  | [] => .refl _
  | x :: r => (kfv x _).trans ((keu r).cons x)
end
noncomputable def vInt (i : Int) : V := .at (.int i)
theorem kl2 : ∀ {xs : List V} {l : List Int},ints? xs = some l → xs = l.map vInt
  | [],_,e => by cases e; rfl
  | .at (.int i) :: r,_,e => by
    simp only [ints?,Option.map_eq_some_iff] at e
    obtain ⟨l,e,rfl⟩ := e
    rw [kl2 e]; rfl
theorem ints_of_map (l : List Int) : ints? (l.map vInt) = some l := by
  induction l with
  | nil => rfl
  | cons a r ih => show (ints? (r.map vInt)).map (a :: ·) = _; rw [ih]; rfl
noncomputable def insI (i : Int) : List Int → List Int
  | [] => [i]
  | j :: r => if i < j then i :: j :: r else j :: insI i r
noncomputable def srtI : List Int → List Int
  | [] => []
  | i :: r => insI i (srtI r)
theorem kju (i : Int) : ∀ l : List Int,(insI i l).Perm (i :: l)
  | [] => .refl _
  | y :: r => by
    unfold insI
    split
    · exact .refl _
    · exact ((kju i r).cons y).trans (.swap i y r)
theorem srtI_perm : ∀ l : List Int,(srtI l).Perm l
  | [] => .refl _
  | x :: r => (kju x _).trans ((srtI_perm r).cons x)
theorem kjt (i : Int) : ∀ {l : List Int},l.Pairwise (· ≤ ·) → (insI i l).Pairwise (· ≤ ·)
  | [],_ => by simp [insI]
  | y :: r,h => by
    obtain ⟨hy,hr⟩ := List.pairwise_cons.mp h
    unfold insI
    split
    · rename_i hl
      refine List.pairwise_cons.mpr ⟨fun z hz => ?_,h⟩
      rcases List.mem_cons.mp hz with rfl | hz
      · omega
      · have := hy z hz; omega
    · rename_i hl
      refine List.pairwise_cons.mpr ⟨fun z hz => ?_,kjt i hr⟩
      rcases List.mem_cons.mp ((kju i r).mem_iff.mp hz) with rfl | hz
      · omega
      · exact hy z hz
theorem ki8 : ∀ l : List Int,(srtI l).Pairwise (· ≤ ·)
  | [] => .nil
  | x :: r => kjt x (ki8 r)
theorem kih {H : Hp} (i : Int) : ∀ l : List Int,kc2 (fun x y => (ltV H x y).getD false) (vInt i) (l.map vInt) = (insI i l).map vInt
  | [] => rfl
  | j :: r => by
    have e : (ltV H (vInt i) (vInt j)).getD false = decide (i < j) := rfl
    rw [List.map_cons]
    unfold kc2 insI
    simp only [e]
    by_cases h : i < j
    · simp [h]
    · simp only [decide_eq_false h,Bool.false_eq_true,if_false,if_neg h,List.map_cons]
      rw [kih i r]
theorem kk0 {H : Hp} : ∀ l : List Int,kfn (fun x y => (ltV H x y).getD false) (l.map vInt) = (srtI l).map vInt
  | [] => rfl
  | i :: r => by
    show kc2 _ (vInt i) (kfn _ (r.map vInt)) = _
    rw [kk0 r,kih]; rfl
theorem sort_ints {H : Hp} {l ns : List Int} (hp : ns.Perm l) (hs : ns.Pairwise (· ≤ ·)) : kfn (fun x y => (ltV H x y).getD false) (l.map vInt) = ns.map vInt := by
  rw [kk0,lks_uniq ((srtI_perm l).trans hp.symm) (ki8 l) hs]
theorem perm_uniq {α : Type} {R : α → α → Prop} : ∀ {a b : List α},a.Perm b → a.Pairwise R → b.Pairwise R → (∀ x ∈ a,∀ y ∈ a,R x y → R y x → x = y) → a = b
  | [],b,hp,_,_,_ => (List.Perm.nil_eq hp)
  | x :: a,b,hp,ha,hb,hs => by
    obtain ⟨hx,ha'⟩ := List.pairwise_cons.mp ha
    cases b with
    | nil => exact absurd hp.symm.nil_eq (by simp)
    | cons y b =>
      obtain ⟨hy,hb'⟩ := List.pairwise_cons.mp hb
      have hxy : x = y := by
        by_cases h : x = y
        · exact h
        · have h1 : x ∈ b := by
            rcases List.mem_cons.mp (hp.mem_iff.mp List.mem_cons_self) with e | h'
            · exact absurd e h
            · exact h'
          have h2 : y ∈ a := by
            rcases List.mem_cons.mp (hp.mem_iff.mpr (List.mem_cons_self (a := y) (l := b))) with e | h'
            · exact absurd e.symm h
            · exact h'
          exact hs x List.mem_cons_self y (List.mem_cons_of_mem _ h2) (hx y h2) (hy x h1)
      subst hxy
      rw [perm_uniq (List.Perm.cons_inv hp) ha' hb' fun x hx y hy => hs x (List.mem_cons_of_mem _ hx) y (List.mem_cons_of_mem _ hy)]
theorem ltInts_tr : ∀ {a b c : List Int},kdy a b = true → kdy b c = true → kdy a c = true
  | [],[],_,h,_ => by cases h
  | [],_ :: _,[],_,h => by cases h
  | [],_ :: _,_ :: _,_,_ => rfl
  | _ :: _,[],_,h,_ => by cases h
  | _ :: _,_ :: _,[],_,h => by cases h
  | x :: a,y :: b,z :: c,h1,h2 => by
    unfold kdy at h1 h2 ⊢
    by_cases e1 : x = y
    · subst e1
      rw [if_pos rfl] at h1
      by_cases e2 : x = z
      · subst e2; rw [if_pos rfl] at h2 ⊢; exact ltInts_tr h1 h2
      · rw [if_neg e2] at h2 ⊢; exact h2
    · rw [if_neg e1] at h1
      have l1 := of_decide_eq_true h1
      by_cases e2 : y = z
      · subst e2; rw [if_neg e1]; exact h1
      · rw [if_neg e2] at h2
        have l2 := of_decide_eq_true h2
        rw [if_neg (by omega)]; exact decide_eq_true (by omega)
theorem kk7 : ∀ {a b : List Int},a ≠ b → kdy a b = true ∨ kdy b a = true
  | [],[],h => absurd rfl h
  | [],_ :: _,_ => .inl rfl
  | _ :: _,[],_ => .inr rfl
  | x :: a,y :: b,h => by
    unfold kdy
    by_cases e : x = y
    · subst e
      rw [if_pos rfl,if_pos rfl]
      exact kk7 fun q => h (by rw [q])
    · rw [if_neg e,if_neg (Ne.symm e)]
      rcases Int.lt_or_gt_of_ne e with h1 | h1
      · exact .inl (decide_eq_true h1)
      · exact .inr (decide_eq_true h1)
theorem kk8 : ∀ a : List Int,kdy a a = false
  | [] => rfl
  | x :: a => by unfold kdy; rw [if_pos rfl]; exact kk8 a
theorem ke4 : ∀ {a b c : List Nat},kbf a b = true → kbf b c = true → kbf a c = true
  | [],[],_,h,_ => by cases h
  | [],_ :: _,[],_,h => by cases h
  | [],_ :: _,_ :: _,_,_ => rfl
  | _ :: _,[],_,h,_ => by cases h
  | _ :: _,_ :: _,[],_,h => by cases h
  | x :: a,y :: b,z :: c,h1,h2 => by
    unfold kbf at h1 h2 ⊢
    by_cases e1 : x = y
    · subst e1
      rw [if_pos rfl] at h1
      by_cases e2 : x = z
      · subst e2; rw [if_pos rfl] at h2 ⊢; exact ke4 h1 h2
      · rw [if_neg e2] at h2 ⊢; exact h2
    · rw [if_neg e1] at h1
      have l1 := of_decide_eq_true h1
      by_cases e2 : y = z
      · subst e2; rw [if_neg e1]; exact h1
      · rw [if_neg e2] at h2
        have l2 := of_decide_eq_true h2
        rw [if_neg (by omega)]; exact decide_eq_true (by omega)
theorem kdz : ∀ {a b : List Nat},a ≠ b → kbf a b = true ∨ kbf b a = true
  | [],[],h => absurd rfl h
  | [],_ :: _,_ => .inl rfl
  | _ :: _,[],_ => .inr rfl
  | x :: a,y :: b,h => by
    unfold kbf
    by_cases e : x = y
    · subst e
      rw [if_pos rfl,if_pos rfl]
      exact kdz fun q => h (by rw [q])
    · rw [if_neg e,if_neg (Ne.symm e)]
      rcases Nat.lt_or_gt_of_ne e with h1 | h1
      · exact .inl (decide_eq_true h1)
      · exact .inr (decide_eq_true h1)
theorem kd0 : ∀ a : List Nat,kbf a a = false
  | [] => rfl
  | x :: a => by unfold kbf; rw [if_pos rfl]; exact kd0 a
noncomputable def ltP (a b : D0 × Int) : Bool := if a.1 = b.1 then decide (a.2 < b.2) else (lt0 a.1 b.1).getD false
theorem lt0_tr {a b c : D0} (h1 : lt0 a b = some true) (h2 : lt0 b c = some true) : lt0 a c = some true := by
  cases a <;> cases b <;> cases c <;> simp only [lt0,Option.some.injEq,reduceCtorEq] at h1 h2 ⊢
  · exact ke4 h1 h2
  · exact ltInts_tr h1 h2
theorem lt0_tot {a b : D0} (hs : (lt0 a b).isSome = true) (hne : a ≠ b) : lt0 a b = some true ∨ lt0 b a = some true := by
  cases a with
  | str x =>
    cases b with
    | str y =>
      have : x.cps.toList ≠ y.cps.toList := fun e => hne (by
        cases x; cases y; simp only [D0.str.injEq,Str.mk.injEq]; exact Array.toList_inj.mp e)
      rcases kdz this with h | h
      · exact .inl (congrArg some h)
      · exact .inr (congrArg some h)
    | «ints» l => cases hs
  | «ints» l =>
    cases b with
    | str y => cases hs
    | «ints» m =>
      have hlm : l ≠ m := fun e => hne (congrArg D0.ints e)
      rcases kk7 hlm with h | h
      · exact .inl (congrArg some h)
      · exact .inr (congrArg some h)
theorem lt0_irr (a : D0) : lt0 a a = some false := by
  cases a with
  | str x => exact congrArg some (kd0 _)
  | «ints» l => exact congrArg some (kk8 _)
theorem ltP_iff {a b : D0 × Int} : ltP a b = true ↔ (a.1 = b.1 ∧ a.2 < b.2) ∨ (a.1 ≠ b.1 ∧ lt0 a.1 b.1 = some true) := by
  unfold ltP
  by_cases h : a.1 = b.1
  · rw [if_pos h]; simp [h]
  · rw [if_neg h]
    cases lt0 a.1 b.1 with
    | none => simp [h]
    | some r => cases r <;> simp [h]
theorem ltP_tr {a b c : D0 × Int} (h1 : ltP a b = true) (h2 : ltP b c = true) : ltP a c = true := by
  rw [ltP_iff] at h1 h2 ⊢
  rcases h1 with ⟨e1,l1⟩ | ⟨e1,l1⟩ <;> rcases h2 with ⟨e2,l2⟩ | ⟨e2,l2⟩
  · exact .inl ⟨e1.trans e2,by omega⟩
  · exact .inr ⟨by rw [e1]; exact e2,by rw [e1]; exact l2⟩
  · exact .inr ⟨by rw [← e2]; exact e1,by rw [← e2]; exact l1⟩
  · have := lt0_tr l1 l2
    exact .inr ⟨(fun e => by rw [e,lt0_irr] at this; cases this),this⟩
theorem ltP_tot {a b : D0 × Int} (hs : (lt0 a.1 b.1).isSome = true) (hne : a ≠ b) : ltP a b = true ∨ ltP b a = true := by
  rw [ltP_iff,ltP_iff]
  by_cases h : a.1 = b.1
  · have : a.2 ≠ b.2 := fun e => hne (Prod.ext h e)
    rcases Int.lt_or_gt_of_ne this with h1 | h1
    · exact .inl (.inl ⟨h,h1⟩)
    · exact .inr (.inl ⟨h.symm,h1⟩)
  · rcases lt0_tot hs h with h1 | h1
    · exact .inl (.inr ⟨h,h1⟩)
    · exact .inr (.inr ⟨Ne.symm h,h1⟩)
theorem ltP_irr (a : D0 × Int) : ltP a a = false := by unfold ltP; rw [if_pos rfl]; simp
theorem kif {H : Hp} {x y : V} {a b : D0 × Int} (ha : rdPr H x = some a) (hb : rdPr H y = some b) : (ltV H x y).getD false = ltP a b := by
  have un : ∀ {z : V} {c : D0 × Int},rdPr H z = some c → rdV H z = some (.pr c.1 c.2) := fun {z c} hz => by
    cases z with
    | «at» u => cases hz
    | tup l => show (rdPr H (.tup l)).map _ = _; rw [hz]; rfl
  unfold ltV
  rw [un ha,un hb]
  show ((match lt0 a.1 b.1 with
    | some r => some (if a.1 = b.1 then decide (a.2 < b.2) else r)
    | none => none : Option Bool)).getD false = _
  unfold ltP
  by_cases h : a.1 = b.1
  · rw [if_pos h]
    simp only [h,lt0_irr]
    simp
  · rw [if_neg h]
    cases lt0 a.1 b.1 with
    | none => rfl
    | some r => simp [h]
section
variable {lt : V → V → Bool} {S : V → Prop} {R : V → V → Prop}
theorem kjs (h1 : ∀ x y,S x → S y → lt x y = true → R x y) (h2 : ∀ x y,S x → S y → lt x y = false → R y x) (ht : ∀ x y z,S x → S y → S z → R x y → R y z → R x z) (x : V) (hx : S x) :
    ∀ {l : List V},(∀ y ∈ l,S y) → l.Pairwise R → (kc2 lt x l).Pairwise R
  | [],_,_ => by simp [kc2]
  | y :: r,hS,h => by
    obtain ⟨hy,hr⟩ := List.pairwise_cons.mp h
    have sy := hS y List.mem_cons_self
    have sr : ∀ z ∈ r,S z := fun z hz => hS z (List.mem_cons_of_mem _ hz)
    unfold kc2
    split
    · rename_i hl
      refine List.pairwise_cons.mpr ⟨fun z hz => ?_,h⟩
      rcases List.mem_cons.mp hz with rfl | hz
      · exact h1 _ _ hx sy hl
      · exact ht _ _ _ hx sy (sr z hz) (h1 _ _ hx sy hl) (hy z hz)
    · rename_i hl
      refine List.pairwise_cons.mpr ⟨fun z hz => ?_,kjs h1 h2 ht x hx sr hr⟩
      rcases List.mem_cons.mp ((kfv x r).mem_iff.mp hz) with rfl | hz
      · exact h2 _ _ hx sy (by simpa using hl)
      · exact hy z hz
theorem sortBy_on (h1 : ∀ x y,S x → S y → lt x y = true → R x y) (h2 : ∀ x y,S x → S y → lt x y = false → R y x) (ht : ∀ x y z,S x → S y → S z → R x y → R y z → R x z) :
    ∀ l : List V,(∀ y ∈ l,S y) → (kfn lt l).Pairwise R
  | [],_ => .nil
  | x :: r,hS => kjs h1 h2 ht x (hS x List.mem_cons_self) (fun y hy => hS y (List.mem_cons_of_mem _ ((keu r).mem_iff.mp hy))) (sortBy_on h1 h2 ht r fun y hy => hS y (List.mem_cons_of_mem _ hy))
end
theorem mapO_at {α β : Type} {g : α → Option β} : ∀ {xs : List α} {l : List β},mapO g xs = some l → l.length = xs.length ∧ ∀ i (h1 : i < xs.length) (h2 : i < l.length),g xs[i] = some l[i]
  | [],_,e => by cases e; exact ⟨rfl,fun i h => absurd h (Nat.not_lt_zero _)⟩
  | x :: xs,l,e => by
    unfold mapO at e
    cases h1 : g x with
    | none => rw [h1] at e; cases e
    | some y =>
      cases h2 : mapO g xs with
      | none => rw [h1,h2] at e; cases e
      | some m =>
        rw [h1,h2] at e; cases e
        obtain ⟨a,b⟩ := mapO_at h2
        refine ⟨by simp [a],fun i k1 k2 => ?_⟩
        cases i with
        | zero => exact h1
        | succ i => exact b i (by simpa using k1) (by simpa using k2)
theorem sort_prs {H : Hp} {xs : List V} {l : List (D0 × Int)} (hm : mapO (rdPr H) xs = some l) (hs : ∀ a ∈ l,∀ b ∈ l,(lt0 a.1 b.1).isSome = true) (hn : l.Nodup) {p : Array Nat} (P : Per l.length p)
    (A : Asc (fun i j => ltP (l.getD i default) (l.getD j default)) p l.length) : kfn (fun x y => (ltV H x y).getD false) xs = p.toList.map fun i => xs.getD i default := by
  obtain ⟨hl,hg⟩ := mapO_at hm
  have key : ∀ x ∈ xs,∃ i,∃ h1 : i < xs.length,∃ h2 : i < l.length,x = xs[i] ∧ rdPr H x = some l[i] := fun x hx => by
    obtain ⟨i,hi,e⟩ := List.getElem_of_mem hx
    exact ⟨i,hi,by omega,e.symm,by rw [← e]; exact hg i hi (by omega)⟩
  have asym : ∀ a b : D0 × Int,ltP a b = true → ltP b a = false := fun a b h => by
    cases h' : ltP b a with
    | false => rfl
    | true => have := ltP_tr h h'; rw [ltP_irr] at this; cases this
  have tot : ∀ a ∈ l,∀ b ∈ l,ltP a b = false → ltP b a = false → a = b := fun a ha b hb h1 h2 => by
    by_cases h : a = b
    · exact h
    · rcases ltP_tot (hs a ha b hb) h with h' | h'
      · rw [h1] at h'; cases h'
      · rw [h2] at h'; cases h'
  refine perm_uniq (R := fun x y => (ltV H y x).getD false = false) ?_ ?_ ?_ ?_
  · refine (keu xs).trans (List.Perm.symm ?_)
    have e : xs = (List.range l.length).map fun i => xs.getD i default := by
      refine List.ext_getElem (by simp [hl]) fun i h1 h2 => ?_
      simp [h1]
    have := P.perm.map (fun i => xs.getD i default)
    rw [← e] at this; exact this
  · refine sortBy_on (S := fun x => x ∈ xs) (fun x y hx hy h => ?_) (fun x y _ _ h => h) (fun x y z hx hy hz h1 h2 => ?_) xs fun y hy => hy
    · obtain ⟨i,i1,i2,_,ri⟩ := key x hx
      obtain ⟨j,j1,j2,_,rj⟩ := key y hy
      rw [kif ri rj] at h
      rw [kif rj ri]; exact asym _ _ h
    · obtain ⟨i,i1,i2,_,ri⟩ := key x hx
      obtain ⟨j,j1,j2,_,rj⟩ := key y hy
      obtain ⟨k,k1,k2,_,rk⟩ := key z hz
      rw [kif rj ri] at h1
      rw [kif rk rj] at h2
      rw [kif rk ri]
      cases h : ltP l[k] l[i] with
      | false => rfl
      | true =>
        by_cases e : l[i] = l[j]
        · rw [e,h2] at h; cases h
        · rcases ltP_tot (hs _ (List.getElem_mem i2) _ (List.getElem_mem j2)) e with h' | h'
          · have := ltP_tr h h'; rw [h2] at this; cases this
          · rw [h1] at h'; cases h'
  · rw [List.pairwise_map,List.pairwise_iff_getElem]
    intro i j hi hj hij
    have hsz := P.size
    simp only [Array.length_toList] at hi hj
    have a := A i j hij (by omega)
    have gi : p.getD i 0 = p.toList[i] := by simp [Array.getD,hi]
    have gj : p.getD j 0 = p.toList[j] := by simp [Array.getD,hj]
    have li : p.toList[i] < l.length := List.mem_range.mp (P.perm.mem_iff.mp (List.getElem_mem _))
    have lj : p.toList[j] < l.length := List.mem_range.mp (P.perm.mem_iff.mp (List.getElem_mem _))
    rw [gi,gj] at a
    have ei : xs.getD p.toList[i] default = xs[p.toList[i]]'(by omega) := by simp only [List.getD_eq_getElem?_getD]; rw [List.getElem?_eq_getElem (by omega)]; rfl
    have ej : xs.getD p.toList[j] default = xs[p.toList[j]]'(by omega) := by simp only [List.getD_eq_getElem?_getD]; rw [List.getElem?_eq_getElem (by omega)]; rfl
    have fi : l.getD p.toList[i] default = l[p.toList[i]] := by simp only [List.getD_eq_getElem?_getD]; rw [List.getElem?_eq_getElem (by omega)]; rfl
    have fj : l.getD p.toList[j] default = l[p.toList[j]] := by simp only [List.getD_eq_getElem?_getD]; rw [List.getElem?_eq_getElem (by omega)]; rfl
    replace a : ltP (l.getD p.toList[i] default) (l.getD p.toList[j] default) = true := a
    rw [fi,fj] at a
    rw [ei,ej,kif (hg _ (by omega) lj) (hg _ (by omega) li)]
    exact asym _ _ a
  · intro x hx y hy h1 h2
    obtain ⟨i,i1,i2,ei,ri⟩ := key x ((keu xs).mem_iff.mp hx)
    obtain ⟨j,j1,j2,ej,rj⟩ := key y ((keu xs).mem_iff.mp hy)
    rw [kif rj ri] at h1
    rw [kif ri rj] at h2
    have := tot _ (List.getElem_mem i2) _ (List.getElem_mem j2) h2 h1
    have hij := (List.getElem_inj hn).mp this
    subst hij
    rw [ei,ej]
theorem ord_prs {l : List (D0 × Int)} (hs : ∀ a ∈ l,∀ b ∈ l,(lt0 a.1 b.1).isSome = true) (hn : l.Nodup) : Ord l.length (fun i j => ltP (l.getD i default) (l.getD j default)) := by
  have g : ∀ i,i < l.length → ∃ h : i < l.length,l.getD i default = l[i] := fun i h => ⟨h,by simp only [List.getD_eq_getElem?_getD]; rw [List.getElem?_eq_getElem h]; rfl⟩
  refine ⟨fun i j k hi hj hk h1 h2 => ltP_tr h1 h2,fun i j hi hj hij => ?_⟩
  obtain ⟨_,ei⟩ := g i hi
  obtain ⟨_,ej⟩ := g j hj
  show ltP (l.getD i default) (l.getD j default) = true ∨ ltP (l.getD j default) (l.getD i default) = true
  rw [ei,ej]
  exact ltP_tot (hs _ (List.getElem_mem hi) _ (List.getElem_mem hj)) fun e => hij ((List.getElem_inj hn).mp e)
end Mine
namespace Mine
open PySem PySem.W PySem.Calls PyProof.Rows PySem.SeqAt PySem.Spec
noncomputable def OneAt (A : Around) (s : Shared) (x y : Value) (b : Bool) : Prop :=
  ∀ (prog : Program) (w : World) (E : Value → Shared → Prop) (Q : Bool → Shared → Prop),Q b s → wpAny (model prog w) A (oneLt' true x y) Q E s
theorem one_lists {A : Around} {s : Shared} {l b : Addr} {items items2 : Array Value} {n n2 : Nat} {e c : Nat → Bool} (hl : IsL s.heap l items n) (hb : IsL s.heap b items2 n2) (hu : A.units < cLine)
    (he : ∀ j (h1 : j < items.size) (h2 : j < items2.size),EqAt A.in1 s items[j] items2[j] (e j)) (hc : ∀ j (h1 : j < items.size) (h2 : j < items2.size),LtAt A.in1 s items[j] items2[j] (c j)) :
    OneAt A s (.ref l) (.ref b) (lexB e c items.size items2.size (min items.size items2.size) 0) := fun prog w E Q h => by
  rw [oneLt'_eq]
  simp only [if_true]
  refine wpAny_bind (wpAny_cRoomFor hu ?_)
  refine wpAny_bind (wpAny_callSpecialIfBound?_slot (T := "list") ⟨_,hl,rfl⟩ F.slot_list_lt (call_meets F.slot_list_lt ⟨_,hl,rfl⟩ F.entry_list_lt (F.args_list_lt_2 _ _) (list_lt l b items items2 n n2 e c) ⟨hl,hb,he,hc,?_⟩))
  exact wpAny_truthy_bool h
theorem one_ints {A : Around} {s : Shared} {p r : Addr} {ws us : List Value} {n m : Nat} {ns ms : List Int} (hl : IsL s.heap p ws.toArray n) (hr : IsL s.heap r us.toArray m) (ia : IntsAre ws ns) (ib : IntsAre us ms) (hu : A.units + 2 < cLine) :
    OneAt A s (.ref p) (.ref r) (kdy ns ms) := by
  have l1 := ia.length
  have l2 := ib.length
  have key := one_lists (A := A) (e := fun j => decide (ns[j]? = ms[j]?)) (c := fun j => match ns[j]?,ms[j]? with | some a,some b => decide (a < b) | _,_ => false) hl hr (by omega) (fun j h1 h2 => by
      simp only [List.size_toArray] at h1 h2
      obtain ⟨t,e1⟩ := kcz ia j h1 (by omega)
      obtain ⟨u,e2⟩ := kcz ib j h2 (by omega)
      simp only [List.getElem_toArray,e1,e2]
      have h1' : j < ns.length := by omega
      have h2' : j < ms.length := by omega
      simp only [List.getElem?_eq_getElem h1',List.getElem?_eq_getElem h2',Option.some.injEq]
      exact eq_int (by show A.units + 1 < cLine; omega)) (fun j h1 h2 => by
      simp only [List.size_toArray] at h1 h2
      obtain ⟨t,e1⟩ := kcz ia j h1 (by omega)
      obtain ⟨u,e2⟩ := kcz ib j h2 (by omega)
      simp only [List.getElem_toArray,e1,e2]
      have h1' : j < ns.length := by omega
      have h2' : j < ms.length := by omega
      simp only [List.getElem?_eq_getElem h1',List.getElem?_eq_getElem h2']
      exact LtAt.int)
  simp only [List.size_toArray,l1,l2] at key
  rw [kjo (ns := ns) (ms := ms) (fun j h1 h2 => by simp [h1,h2]) (fun j h1 h2 => by simp [h1,h2]) (min ns.length ms.length) 0 (Nat.sub_zero _) (Nat.zero_le _)] at key
  exact key
section
variable {g : Gl} {sc : Sc} {q : Bool} {d : Nat} {z : Fc sc q d}
theorem one_d0 (σ : St g z) {B : Around} {x y : At} {a b : D0} {vx vy : Value} {r : Bool} (ha : rd0 σ.H x = some a) (hb : rd0 σ.H y = some b) (rx : AtR σ.ρ x vx) (ry : AtR σ.ρ y vy) (hl : lt0 a b = some r) (hu : B.units + 2 < cLine) : OneAt B σ.s vx vy r := by
  unfold rd0 at ha hb
  split at ha
  · rename_i x0
    split at ha
    · cases ha
      obtain ⟨t,rfl⟩ := rx
      split at hb
      · rename_i y0
        split at hb
        · cases hb
          obtain ⟨u,rfl⟩ := ry
          cases hl
          unfold ltStr
          rw [kjk]; exact fun prog w E Q h => oneLt_str h
        · cases hb
      · obtain ⟨l,_,rfl⟩ := Option.map_eq_some_iff.mp hb
        cases hl
      · cases hb
    · cases ha
  · rename_i n
    obtain ⟨l,hl1,rfl⟩ := Option.map_eq_some_iff.mp ha
    obtain ⟨p,ws,m,rfl,il,ia⟩ := kgh σ hl1 rx
    split at hb
    · split at hb
      · cases hb; cases hl
      · cases hb
    · obtain ⟨l2,hl2,rfl⟩ := Option.map_eq_some_iff.mp hb
      obtain ⟨p2,ws2,m2,rfl,il2,ia2⟩ := kgh σ hl2 ry
      cases hl
      exact one_ints il il2 ia ia2 hu
    · cases hb
  · cases ha
theorem key_pr (σ : St g z) {B : Around} {x y : V} {a b : D0 × Int} {vx vy : Value} (ha : rdPr σ.H x = some a) (hb : rdPr σ.H y = some b) (rx : VR σ.ρ σ.s.heap x vx) (ry : VR σ.ρ σ.s.heap y vy) (hl : (lt0 a.1 b.1).isSome = true) (hu : B.units + 66 < cLine)
    {E : Value → Shared → Prop} {Q : Bool → Shared → Prop} (h : Q (ltP a b) σ.s) : wpAny (model g.prog g.w) B (keyLt' (tuples' true) vx vy) Q E σ.s := by
  obtain ⟨r,hl⟩ := Option.isSome_iff_exists.mp hl
  obtain ⟨y1,i1,T1,v1,t1,rfl,h1,e1,rfl,g1,r1⟩ := kem σ ha rx
  obtain ⟨y2,i2,T2,v2,t2,rfl,h2,e2,rfl,g2,r2⟩ := kem σ hb ry
  refine kat_lt g1 rfl g2 rfl (kat_cons (eq_at σ (B := B) (klr h1) (klr h2) r1 r2 (by omega) g.prog g.w _ _ (kat_go (fun he => kat_yes ?_) fun he => kat_no ?_)))
  · have he : a.1 = b.1 := by simpa using he
    refine kat_cons (eq_int (A := B) (by omega) g.prog g.w _ _ (kat_go (fun hi => kat_yes (kat_nil ?_)) fun hi => kat_no (kat_one _ _ ?_)))
    · have hi : i1 = i2 := by simpa using hi
      have e : ltP a b = false := by unfold ltP; rw [if_pos he,e1,e2,hi]; simp
      rw [e] at h
      simpa using h
    · refine PyProof.Rows.lt_int ?_
      have e : ltP a b = decide (i1 < i2) := by unfold ltP; rw [if_pos he,e1,e2]
      rw [e] at h
      exact h
  · have he : a.1 ≠ b.1 := by simpa using he
    have e : ltP a b = r := by unfold ltP; rw [if_neg he,hl]; rfl
    rw [e] at h
    exact one_d0 σ (B := B) h1 h2 r1 r2 hl (by omega) g.prog g.w _ _ h
theorem klw {ρ : RM} {h : Heap} {xs : List V} {ws : List Value} (pr : Paired (VR ρ h) xs ws) {i : Nat} (hi : i < xs.length) : VR ρ h (xs.getD i default) (ws.getD i .none) := by
  have hl := Paired.length pr
  obtain ⟨b,hb,r⟩ := pget pr (List.getElem?_eq_getElem hi)
  have e1 : xs.getD i default = xs[i] := by simp only [List.getD_eq_getElem?_getD]; rw [List.getElem?_eq_getElem hi]; rfl
  have e2 : ws.getD i .none = b := by simp only [List.getD_eq_getElem?_getD]; rw [hb]; rfl
  rw [e1,e2]; exact r
theorem pair_map {ρ : RM} {h : Heap} {xs : List V} {ws : List Value} (pr : Paired (VR ρ h) xs ws) : ∀ {p : List Nat},(∀ i ∈ p,i < xs.length) → Paired (VR ρ h) (p.map fun i => xs.getD i default) (p.map fun i => ws.getD i .none)
  | [],_ => .nil
  | i :: p,hp => .cons (klw pr (hp i List.mem_cons_self)) (pair_map pr fun j hj => hp j (List.mem_cons_of_mem _ hj))
theorem kat_prs (σ : St g z) (M : Model) (T : String) : ∀ {xs : List V} {ws : List Value},Paired (VR σ.ρ σ.s.heap) xs ws → ∀ {l : List (D0 × Int)},mapO (rdPr σ.H) xs = some l →
    (∀ a ∈ l,match a.1 with | .str _ => T = "str" | .ints _ => T = "list") → ∃ fs,KatTups σ.s.heap ws fs ∧ fs.length = l.length ∧ ∀ v ∈ fs,Looks M σ.s.heap (typeOf v) (.type T) := by
  intro xs ws p
  induction p with
  | nil => intro l e _; cases e; exact ⟨[],.nil,rfl,fun v hv => nomatch hv⟩
  | @cons x b xs ws r pr ih =>
    intro l e hT
    unfold mapO at e
    cases h1 : rdPr σ.H x with
    | none => rw [h1] at e; cases e
    | some y =>
      cases h2 : mapO (rdPr σ.H) xs with
      | none => rw [h1,h2] at e; cases e
      | some m =>
        rw [h1,h2] at e; cases e
        obtain ⟨fs,k,kl,kt⟩ := ih h2 fun a ha => hT a (List.mem_cons_of_mem _ ha)
        obtain ⟨y1,i1,T1,v1,t1,rfl,hy,e1,rfl,g1,r1⟩ := kem σ h1 r
        refine ⟨v1 :: fs,.cons g1 rfl rfl rfl k,by simp [kl],fun v hv => ?_⟩
        rcases List.mem_cons.mp hv with rfl | hv
        · have ht := hT y List.mem_cons_self
          unfold rd0 at hy
          split at hy
          · split at hy
            · have hyy := Option.some.inj hy
              obtain ⟨t,rfl⟩ := r1
              rw [← hyy] at ht
              cases ht
              exact Looks.of_pure rfl
            · cases hy
          · obtain ⟨z,hz,hyy⟩ := Option.map_eq_some_iff.mp hy
            obtain ⟨p,ws',n,rfl,il,_⟩ := kgh σ hz r1
            rw [← hyy] at ht
            cases ht
            exact (Looks.ld il).andThen .now
          · cases hy
        · exact kt v hv
theorem ints_pair {ρ : RM} {h : Heap} {ws : List Value} {l : List Int} (p : IntsAre ws l) : Paired (VR ρ h) (l.map vInt) ws := by
  induction p with
  | nil => exact .nil
  | cons n t _ ih => exact .cons ⟨t,rfl⟩ ih
theorem items_at (σ : St g z) {v : V} {val : Value} {xs : List V} (hi : kfi σ.H v = some xs) (r : VR σ.ρ σ.s.heap v val) : Seq1 σ (fun ys => ys = xs) val := by
  unfold kfi at hi
  split at hi
  · cases hi
    obtain ⟨T,ws,rfl,hT,pr⟩ := r
    exact ⟨"tuple",.inr rfl,T,_,0,_,ws,hT,rfl,rfl,paired_up pr,rfl⟩
  · obtain ⟨l,ws,n,_,pl,pr,_⟩ := σ.list (kg6 hi) r
    exact ⟨"list",.inl rfl,l,_,n,xs,ws,pl,rfl,rfl,pr,rfl⟩
  · cases hi
noncomputable abbrev srtOf (H : Hp) (xs : List V) : List V := kfn (fun x y => (ltV H x y).getD false) xs
theorem kkz (σ : St g z) {h₁ h₂ : Heap} {xs : List V} {ws : List Value} {n : Nat} {Φ : V → Fm → Hp → Prop} {Q : Value → Shared → Prop} (hk₁ : ∀ b o,σ.s.heap.get? b = some o → h₁.get? b = some o) (hk₂ : ∀ b o,h₁.get? b = some o → h₂.get? b = some o)
    (ho : h₂.get? h₁.objs.size = some (seqObj "list" ws.toArray n)) (pr : Paired (VR σ.ρ σ.s.heap) xs ws) (hl : xs.length ≤ lim) (e : ok (new (.list xs)) σ.f σ.H Φ) (k : ∀ (τ : St g z) a b,To σ τ → Φ b τ.f τ.H → VR τ.ρ τ.s.heap b a → Q a τ.s) :
    Q (.ref h₁.objs.size) { σ.s with heap := h₂ } := by
  have t₁ := σ.keep_to (tk := σ.s.toks) hk₁
  exact k ((σ.keep h₁ σ.s.toks hk₁).new h₂ σ.s.toks (h₁.objs.size,h₁.objs.size) (.list xs) hk₂ (Nat.le_refl _) (Nat.le_refl _) ⟨rfl,ws,⟨n,ho⟩,pr.mono fun _ _ => VR.mono ⟨_,rfl⟩ fun b o _ e => hk₂ b o (hk₁ b o e),hl⟩) _ _ (t₁.trans (St.new_to _ _ _ _ _)) (kgy e) (St.new_ref _)
theorem kko (σ : St g z) {v : V} {val : Value} {xs : List V} {l : List Int} {Φ : V → Fm → Hp → Prop} {E : Value → Shared → Prop} {Q : Value → Shared → Prop} (hi : kfi σ.H v = some xs) (hx : ints? xs = some l) (hlen : xs.length < 64) (r : VR σ.ρ σ.s.heap v val)
    (e : ok (new (.list (srtOf σ.H xs))) σ.f σ.H Φ) (k : ∀ (τ : St g z) a b,To σ τ → Φ b τ.f τ.H → VR τ.ρ τ.s.heap b a → Q a τ.s) : wpAny (model g.prog g.w) z.A (PySem.call (.builtin "sorted") [val]) Q E σ.s := by
  obtain ⟨T,hT,a,o,n,xs,ws,ho,hc,hd,pr,rfl⟩ := items_at σ hi r
  have hwl := Paired.length pr
  refine call_function_entry kind_sorted plain_sorted entry_sorted (args_sorted1 _) ?_
  unfold Builtin.«sorted»
  refine wpAny_bind (m := checkCount "sorted" 1 1 _) (wpAny_pure ?_)
  refine wpAny_bind (wpAny_collect_seq a hT ho hc hd (fun h₁ hk₁ => ?_) (by unfold sizeLine; simp only [List.size_toArray]; omega))
  have e9 : ws.toArray.toList.length = ws.length := by simp
  refine wpAny_bind (wpAny_newList ?_ (by unfold sizeLine; omega))
  have hoL : (h₁.push { cls := .type "list",data := .seq ws.toArray }).get? h₁.objs.size = some (seqObj "list" ws.toArray 0) := Heap.get?_push_size _ rfl
  have ia : IntsAre ws l := kl3 hx pr
  refine wpAny_bind (wpAny_holding (wpAny_call_entry slot_list_sort ⟨_,hoL,rfl⟩ entry_list_sort (list_sort_tree (s := { σ.s with heap := h₁.push { cls := .type "list",data := .seq ws.toArray } }) hoL ia (by omega) fun out ns' a1 a2 a3 => ⟨_,rfl,?_⟩) (args_list_sort _)))
  refine wpAny_pure ⟨_,rfl,?_⟩
  obtain ⟨ep,hat⟩ := sortedHeap_at (out := out) hoL
  have srt : srtOf σ.H xs = ns'.map vInt := by rw [kl2 hx]; exact sort_ints a2 a3
  refine kkz σ (ws := out.toList) (n := ep) hk₁ (fun b o h1 => ?_) (by rw [hat]) (by rw [srt]; exact ints_pair a1) (by
    rw [srt,List.length_map,a2.length_eq]
    have := congrArg List.length (kl2 hx)
    rw [List.length_map] at this
    unfold lim; omega) e k
  have hlt := Heap.lt_size h1
  rw [sortedHeap_old (Nat.ne_of_lt hlt) (by rw [Heap.size_push]; exact Nat.lt_succ_of_lt hlt)]
  exact Heap.get?_push_of_some _ h1
theorem okPrs_some {H : Hp} {xs : List V} (hx : okPrs H xs = true) : ∃ l,mapO (rdPr H) xs = some l ∧ 2 ≤ l.length ∧ (∀ a ∈ l,∀ b ∈ l,(lt0 a.1 b.1).isSome = true) ∧ l.Nodup := by
  unfold okPrs at hx
  split at hx
  · rename_i l hm
    simp only [Bool.and_eq_true,decide_eq_true_eq,List.all_eq_true] at hx
    exact ⟨l,hm,hx.1.1,hx.1.2,hx.2⟩
  · cases hx
theorem prs_type {l : List (D0 × Int)} (h0 : 0 < l.length) (hs : ∀ a ∈ l,∀ b ∈ l,(lt0 a.1 b.1).isSome = true) : ∃ T : String,T ≠ "tuple" ∧ ∀ a ∈ l,match a.1 with | .str _ => T = "str" | .ints _ => T = "list" := by
  cases e : (l[0]).1 with
  | str x =>
    refine ⟨"str",by decide,fun a ha => ?_⟩
    have := hs _ (List.getElem_mem h0) a ha
    rw [e] at this
    cases h : a.1 with
    | str y => rfl
    | «ints» y => rw [h] at this; cases this
  | «ints» x =>
    refine ⟨"list",by decide,fun a ha => ?_⟩
    have := hs _ (List.getElem_mem h0) a ha
    rw [e] at this
    cases h : a.1 with
    | str y => rw [h] at this; cases this
    | «ints» y => rfl
theorem kh4 {α : Type} [Inhabited α] {l : List α} {i : Nat} (h : i < l.length) : l.getD i default = l[i] := by simp only [List.getD_eq_getElem?_getD]; rw [List.getElem?_eq_getElem h]; rfl
noncomputable abbrev hpS (h₁ : Heap) (ws : List Value) : Heap := (((h₁.push (seqObj "list" ws.toArray 0)).update h₁.objs.size (Obj.mapSeq fun _ => (#[] : Array Value))).push (seqObj "tuple" ws.toArray 0)).push (seqObj "list" #[] 0)
theorem kli (σ : St g z) {v : V} {val : Value} {xs : List V} {Φ : V → Fm → Hp → Prop} {E : Value → Shared → Prop} {Q : Value → Shared → Prop} (hi : kfi σ.H v = some xs) (hx : okPrs σ.H xs = true) (hlen : xs.length < 64) (r : VR σ.ρ σ.s.heap v val) (hu : z.A.units + 68 < cLine)
    (e : ok (new (.list (srtOf σ.H xs))) σ.f σ.H Φ) (k : ∀ (τ : St g z) a b,To σ τ → Φ b τ.f τ.H → VR τ.ρ τ.s.heap b a → Q a τ.s) : wpAny (model g.prog g.w) z.A (PySem.call (.builtin "sorted") [val]) Q E σ.s := by
  obtain ⟨T,hT,a,o,n,xs,ws,ho,hc,hd,pr,rfl⟩ := items_at σ hi r
  have hwl := Paired.length pr
  obtain ⟨l,hm,h2,hs,hn⟩ := okPrs_some hx
  obtain ⟨hll,hg⟩ := mapO_at hm
  obtain ⟨U,hU,hs3⟩ := prs_type (by omega) hs
  refine call_function_entry kind_sorted plain_sorted entry_sorted (args_sorted1 _) ?_
  unfold Builtin.«sorted»
  refine wpAny_bind (m := checkCount "sorted" 1 1 _) (wpAny_pure ?_)
  refine wpAny_bind (wpAny_collect_seq a hT ho hc hd (fun h₁ hk₁ => ?_) (by unfold sizeLine; simp only [List.size_toArray]; omega))
  have e9 : ws.toArray.toList.length = ws.length := by simp
  refine wpAny_bind (wpAny_newList ?_ (by unfold sizeLine; omega))
  have hoL : (h₁.push (seqObj "list" ws.toArray 0)).get? h₁.objs.size = some (seqObj "list" ws.toArray 0) := Heap.get?_push_size _ rfl
  refine wpAny_bind (wpAny_holding (wpAny_call_entry slot_list_sort ⟨_,hoL,rfl⟩ entry_list_sort ?_ (args_list_sort _)))
  show wpAny _ _ _ _ _ { σ.s with heap := h₁.push (seqObj "list" ws.toArray 0) }
  obtain ⟨e1,ho1⟩ : ∃ e1,((h₁.push (seqObj "list" ws.toArray 0)).update h₁.objs.size (Obj.mapSeq fun _ => (#[] : Array Value))).get? h₁.objs.size = some (seqObj "list" #[] e1) := ⟨_,get?_update_seq hoL fun _ => #[]⟩
  have keep3 : ∀ b o,h₁.get? b = some o → (hpS h₁ ws).get? b = some o := fun b o q => by
    have hlt : b < h₁.objs.size := Heap.lt_size q
    refine Heap.get?_push_of_some _ (Heap.get?_push_of_some _ ?_)
    rw [Heap.get?_update_ne _ _ _ _ (Nat.ne_of_lt hlt)]
    exact Heap.get?_push_of_some _ q
  have t₃ := σ.keep_to (tk := σ.s.toks) fun b o e => keep3 b o (hk₁ b o e)
  have pr₃ := pr.mono fun _ _ => t₃.vr
  rw [list_sort_plain]
  refine wpAny_bind (listItems_at hoL rfl ?_)
  refine wpAny_bind (listUpdate_at hoL rfl ?_ (by rw [List.size_toArray,sizeLine_eq]; omega) (Nat.zero_le _))
  refine wpAny_bind (seqEpoch_at ho1 rfl ?_)
  refine wpAny_bind (wpAny_newTuple ?_ (by show ws.length ≤ _; rw [sizeLine_eq]; omega))
  refine wpAny_bind (wpAny_newList ?_ (Nat.zero_le _))
  refine wpAny_holding ?_
  show wpAny (model g.prog g.w) _ _ _ _ { σ.s with heap := hpS h₁ ws }
  dsimp only
  have hn2 : ¬ ws.toArray.size < 2 := by rw [List.size_toArray]; omega
  rw [if_neg hn2,if_neg hn2]
  obtain ⟨fs,kt,kl,ktT⟩ := kat_prs (σ.keep (hpS h₁ ws) σ.s.toks fun b o e => keep3 b o (hk₁ b o e)) (model g.prog g.w) U pr₃ hm hs3
  refine wpAny_bind (kat_kind kt (by omega) ktT (by simp) ?_)
  have eU : (Value.type U != Value.type "tuple") = true := by
    simp only [bne_iff_ne,ne_eq]
    exact kg4 hU
  rw [eU]
  have hwn : ws.length = l.length := by omega
  have run := run_sort (ord_prs hs hn) h2
  refine wpAny_bind (wpAny_mono (kat_run (ks := ws) (vs := ws) (κ := tuples' true) (Q := fun st' s' => s' = { σ.s with heap := hpS h₁ ws } ∧ ∃ p : Array Nat,Per l.length p ∧ Asc (fun i j => ltP (l.getD i default) (l.getD j default)) p l.length ∧ arrOf st' = p.map (kas_item (ws.toArray.zip ws.toArray)) ∧ failedOf st' = none)
    (G := fun p s' => s' = { σ.s with heap := hpS h₁ ws } ∧ Per l.length p ∧ Asc (fun i j => ltP (l.getD i default) (l.getD j default)) p l.length) rfl (by omega) (by omega) (fun p' st' s' a1 a2 a3 a4 => ⟨a4.1,p',a4.2.1,a4.2.2,a2,a3⟩) ?ask) ?_ fun _ _ e => e)
  case ask =>
    rw [hwn]
    refine Runs.wp (fun i j hi hj C hC => ?_) (fun p hp => ⟨rfl,hp⟩) run
    exact key_pr (σ.keep (hpS h₁ ws) σ.s.toks fun b o e => keep3 b o (hk₁ b o e)) (x := xs.getD i default) (y := xs.getD j default) (a := l.getD i default) (b := l.getD j default) (by rw [kh4 (by omega),kh4 hi]; exact hg i (by omega) hi) (by rw [kh4 (by omega),kh4 hj]; exact hg j (by omega) hj)
      (klw pr₃ (by omega)) (klw pr₃ (by omega)) (by rw [kh4 hi,kh4 hj]; exact hs _ (List.getElem_mem hi) _ (List.getElem_mem hj)) (by show z.A.units + 1 + 1 + 66 < cLine; omega) hC
  rintro ⟨⟨⟩,st'⟩ s' ⟨rfl,p,hP,hA,har,hf⟩
  dsimp only
  have hout := kat_snds rfl har
  have hsz : (List.toArray (p.toList.map fun i => ws.getD i Value.none)).size = ws.length := by rw [List.size_toArray,List.length_map,Array.length_toList,hP.size,hwn]
  rw [hout]
  have ho3 : (hpS h₁ ws).get? h₁.objs.size = some (seqObj "list" #[] e1) := Heap.get?_push_of_some _ (Heap.get?_push_of_some _ ho1)
  refine wpAny_bind (seqEpoch_at ho3 rfl ?_)
  refine wpAny_bind (listUpdate_at ho3 rfl ?_ (Nat.zero_le _) (Nat.le_trans (Nat.le_of_eq hsz) (by rw [sizeLine_eq]; omega)))
  rw [hf]
  simp only [bne_self_eq_false,Bool.false_eq_true,if_false]
  refine wpAny_pure ⟨_,rfl,wpAny_pure ⟨_,rfl,?_⟩⟩
  have srt : srtOf σ.H xs = p.toList.map fun i => xs.getD i default := sort_prs hm hs hn hP hA
  have plt : ∀ i ∈ p.toList,i < xs.length := fun i hi => by
    have := List.mem_range.mp (hP.perm.mem_iff.mp hi)
    omega
  refine kkz σ (ws := p.toList.map fun i => ws.getD i .none) hk₁ (fun b o q => ?_) (get?_update_seq ho3 fun _ => List.toArray (p.toList.map fun i => ws.getD i Value.none)) (by rw [srt]; exact pair_map pr plt) (by
    rw [srt,List.length_map,Array.length_toList,hP.size]
    unfold lim; omega) e k
  rw [Heap.get?_update_ne _ _ _ _ (Nat.ne_of_lt (Heap.lt_size q))]
  exact keep3 b o q
theorem ok_sortedM {v : V} {f : Fm} {H : Hp} {Φ : V → Fm → Hp → Prop} (e : ok (kga v) f H Φ) : ∃ xs,kfi H v = some xs ∧ xs.length < 64 ∧ khc H xs = true ∧ ok (new (.list (srtOf H xs))) f H Φ := by
  obtain ⟨b,f',H',e,h⟩ := e
  unfold kga at e
  cases hi : kfi H v with
  | none => rw [hi] at e; cases e
  | some xs =>
    rw [hi] at e
    dsimp only at e
    split at e
    · rename_i hc
      obtain ⟨h64,hs⟩ := Bool.and_eq_true_iff.mp hc
      exact ⟨xs,rfl,of_decide_eq_true h64,hs,b,f',H',e,h⟩
    · cases e
theorem kgd : Call1 g q d (.builtin "sorted") kga := by
  intro sc z σ v val Φ E Q r e k
  obtain ⟨xs,hi,h64,hs,e1⟩ := ok_sortedM e
  unfold khc at hs
  cases hx : ints? xs with
  | some l => exact kko σ hi hx h64 r e1 k
  | none =>
    rw [hx] at hs
    exact kli σ hi (by simpa using hs) h64 r (by have := z.cx.units; unfold cLine; omega) e1 k
end
end Mine
namespace Mine
open PySem PySem.W PySem.Calls PyProof.Rows
namespace N
theorem slot_ga : Slot "list_iterator" "__getattribute__" "object.__getattribute__" :=
  .of (owner := "object") (n := "__getattribute__") (by rw [typeLookup_type,builtinLookup_eq_fast]; kernel_rfl) (by decide +kernel) (by decide +kernel) (by decide +kernel)
    (by first | exact .inl (by decide +kernel) | exact .inr (by decide +kernel)) (by rw [isSubtype_type]; kernel_rfl)
theorem lk_next : typeLookup (.type "list_iterator") "__next__" = pure (some (.builtin "list_iterator.__next__")) := by rw [typeLookup_type,builtinLookup_eq_fast]; kernel_rfl
theorem ty_next : typeOf (.builtin "list_iterator.__next__") = pure (.type "wrapper_descriptor") := by first | rfl | kernel_rfl
theorem slot_get : Slot "wrapper_descriptor" "__get__" "wrapper_descriptor.__get__" :=
  .of (owner := "wrapper_descriptor") (n := "__get__") (by rw [typeLookup_type,builtinLookup_eq_fast]; kernel_rfl) (by decide +kernel) (by decide +kernel) (by decide +kernel)
    (by first | exact .inl (by decide +kernel) | exact .inr (by decide +kernel)) (by rw [isSubtype_type]; kernel_rfl)
theorem args_get (a b c : Value) : argsOk "wrapper_descriptor.__get__" ⟨[a,b,c],[]⟩ := by unfold argsOk; kernel_rfl
theorem entry_get : entryFor table "wrapper_descriptor.__get__" = some Builtin.«wrapper_descriptor.__get__» := entryFor_of_tree (by kernel_rfl)
theorem lk_set : typeLookup (.type "wrapper_descriptor") "__set__" = pure none := by rw [typeLookup_type,builtinLookup_eq_fast]; kernel_rfl
theorem lk_del : typeLookup (.type "wrapper_descriptor") "__delete__" = pure none := by rw [typeLookup_type,builtinLookup_eq_fast]; kernel_rfl
theorem owner_next : (".".intercalate ("list_iterator.__next__".cutAt '.').dropLast) = "list_iterator" := by decide +kernel
theorem sub_next : isSubtype (.type "list_iterator") (.type (".".intercalate ("list_iterator.__next__".cutAt '.').dropLast)) = pure true := by
  rw [owner_next,isSubtype_type]; kernel_rfl
end N
abbrev kgf (a : Addr) : Obj := { cls := .type "method-wrapper",data := .fields #[.builtin "list_iterator.__next__",.ref a] }
section
variable {prog : Program} {w : World} {A : Around} {E : Value → Shared → Prop} {h : Heap} {g : Array GenState} {d : Drawn} {t : Nat} {os : OsState} {a : Addr} {o : Obj}
theorem next_get {R : Result → Shared → Prop} (hx : h.get? a = some o) (hc : o.cls = .type "list_iterator") (hq : R (.ok (.ret (.ref h.objs.size))) ⟨h.push (kgf a),g,d,t,os⟩) :
    codeAny (model prog w) A (.call (.builtin "wrapper_descriptor.__get__") ⟨[.builtin "list_iterator.__next__",.ref a,.type "list_iterator"],[]⟩) R ⟨h,g,d,t,os⟩ := by
  have hT : (⟨h,g,d,t,os⟩ : Shared).TypeIs (.ref a) "list_iterator" := ⟨_,hx,hc⟩
  have hT5 : (⟨h,g,d,t,os⟩ : Shared).TypeIs (.builtin "list_iterator.__next__") "wrapper_descriptor" := N.ty_next
  have f8 := N.sub_next
  refine codeAny_call_builtin N.slot_get.plain N.entry_get (N.slot_get.check _ _ _ _ _ _ _ _ hT5 (N.args_get _ _ _) ?_)
  repeat (any_goals (first | assumption | wp_step))
theorem next_entry {tk : Tok} {Q : PySem.Fin → Shared → Prop} {fs : Array Value} (hx : h.get? a = some o) (hc : o.cls = .type "list_iterator") (hd : o.data = .fields fs) (hdd : o.dict = none) (hq : Q (.done (.ret (.ref h.objs.size))) ⟨h.push (kgf a),g,d,t,os⟩) :
    wpAny (model prog w) A (Builtin.«object.__getattribute__» ⟨[.ref a,.str "__next__" tk],[]⟩) Q E ⟨h,g,d,t,os⟩ := by
  have hT : (⟨h,g,d,t,os⟩ : Shared).TypeIs (.ref a) "list_iterator" := ⟨_,hx,hc⟩
  have hT5 : (⟨h,g,d,t,os⟩ : Shared).TypeIs (.builtin "list_iterator.__next__") "wrapper_descriptor" := N.ty_next
  have f4 := N.lk_next
  have f5 := N.ty_next
  have f6 := N.slot_get.lookup
  have f7 := N.lk_set
  have f8 := N.lk_del
  repeat (any_goals (first | assumption | wp_step))
  rw [hd]
  dsimp only
  repeat (any_goals (first | assumption | wp_step))
  rw [hc,hdd]
  dsimp only
  repeat (any_goals (first | assumption | wp_step))
  refine next_get hx hc ?_
  repeat (any_goals (first | assumption | wp_step))
theorem khj {tk : Tok} {R : Result → Shared → Prop} {fs : Array Value} (hx : h.get? a = some o) (hc : o.cls = .type "list_iterator") (hd : o.data = .fields fs) (hdd : o.dict = none) (hq : R (.ok (.ret (.ref h.objs.size))) ⟨h.push (kgf a),g,d,t,os⟩) :
    codeAny (model prog w) A (.call (.builtin "object.__getattribute__") ⟨[.ref a,.str "__next__" tk],[]⟩) R ⟨h,g,d,t,os⟩ :=
  codeAny_call_builtin N.slot_ga.plain F.entry_object_getattribute (N.slot_ga.check _ _ _ _ _ _ _ _ (show (⟨h,g,d,t,os⟩ : Shared).TypeIs (.ref a) "list_iterator" from ⟨_,hx,hc⟩) (F.args_object_getattribute_2 _ _) (next_entry hx hc hd hdd hq))
theorem next_attr {Q : Value → Shared → Prop} {fs : Array Value} {expr : Bool} (hx : h.get? a = some o) (hc : o.cls = .type "list_iterator") (hd : o.data = .fields fs) (hdd : o.dict = none) (hq : Q (.ref h.objs.size) ⟨h.push (kgf a),g,d,t + 1,os⟩) :
    wpAny (model prog w) A (getAttr (.ref a) "__next__" expr) Q E ⟨h,g,d,t,os⟩ := by
  have hT : (⟨h,g,d,t,os⟩ : Shared).TypeIs (.ref a) "list_iterator" := ⟨_,hx,hc⟩
  have f2 := N.slot_ga.lookup
  have f3 := N.slot_ga.bind (.ref a)
  unfold getAttr
  repeat (any_goals (first | assumption | with_reducible apply khj hx hc hd hdd | wp_step))
  rw [hc]
  repeat (any_goals (first | assumption | with_reducible apply khj hx hc hd hdd | wp_step))
  rw [if_neg (by show ¬ (expr && false) = true; simp)]
  unfold boundAndCalled
  repeat (any_goals (first | assumption | with_reducible apply khj hx hc hd hdd | wp_step))
  refine khj hx hc hd hdd ?_
  exact wpAny_pure hq
end
section
variable {prog : Program} {w : World} {h₀ : Heap}
theorem frs_at {A : Around} {ρ : RM} {h : Heap} (fr : Frs h₀ A ρ h) {l : List Env} (e : A.frames = some l) {b : Addr} (hb : b ∈ l.filterMap (·.frame)) :
    h₀.objs.size ≤ b ∧ ¬ owns ρ b ∧ ∃ o es ep,h.get? b = some o ∧ o.data = .dict es ep := by
  obtain ⟨l',e',k⟩ := fr
  rw [e] at e'; cases e'
  obtain ⟨v,hv,hf⟩ := List.mem_filterMap.mp hb
  obtain ⟨_,L,o,es,ep,a,b',c,dd,g⟩ := k v hv
  rw [a] at hf; cases hf
  exact ⟨b',c,o,es,ep,dd,g⟩
theorem Inv.slots {A A' : Around} {env : Env} {X : List Addr} {ρ : RM} {f : Fm} {H : Hp} {h h' : Heap} (I : Inv prog w h₀ A env X ρ f H h) {l : List Env} (e : A.frames = some l) (hA : A'.frames = A.frames)
    (hk : ∀ b o,h.get? b = some o → b ∉ l.filterMap (·.frame) → h'.get? b = some o) (hs : ∀ b o,h.get? b = some o → b ∈ l.filterMap (·.frame) → ∃ sl,h'.get? b = some { o with slots := sl }) :
    Inv prog w h₀ A' env X ρ f H h' ∧ Ext h₀ X ρ h ρ h' := by
  have F := fun b (hb : b ∈ l.filterMap (·.frame)) => frs_at I.frs e hb
  have any : ∀ b o,h.get? b = some o → ∃ sl,h'.get? b = some { o with slots := sl } := fun b o ho => by
    by_cases hb : b ∈ l.filterMap (·.frame)
    · exact hs b o ho hb
    · exact ⟨o.slots,hk b o ho hb⟩
  have tk : ∀ b o,kdv o → h.get? b = some o → h'.get? b = some o := fun b o t ho => hk b o ho fun hb => by
    obtain ⟨_,_,ob,es,ep,q1,q2⟩ := F b hb
    rw [ho] at q1; cases q1; obtain ⟨vs,rfl⟩ := t; cases q2
  have ow : ∀ b o,owns ρ b → h.get? b = some o → h'.get? b = some o := fun b o hb ho => hk b o ho fun hm => (F b hm).2.1 hb
  refine ⟨⟨fun b o q => hk b o (I.base b o q) fun hb => absurd (Heap.lt_size q) (Nat.not_lt.mpr (F b hb).1),I.old,⟨I.hr.len,I.hr.sep,fun i o p a b => ?_⟩,⟨I.fr.len,?_,fun i y hy => ?_,I.fr.apart,I.fr.loc⟩,fun a ha => ?_,?_⟩,
    List.prefix_rfl,fun _ a b => absurd a b,fun b o ho hn hX => ?_,fun a ha => (I.x a ha).2.1⟩
  · have hm := List.mem_of_getElem? b
    exact (I.hr.at_ i o p a b).mono List.prefix_rfl tk (fun ob q => ow _ _ ⟨p,hm,.inl rfl⟩ q) fun ob q => ow _ _ ⟨p,hm,.inr rfl⟩ q
  · obtain ⟨m,n,k⟩ := I.fr.ns
    exact ⟨m,ki2 n fun o q => any _ o q,fun i y v a b => let ⟨val,c,r⟩ := k i y v a b; ⟨val,c,VR.mono List.prefix_rfl tk r⟩⟩
  · obtain ⟨c,o,a,⟨ob,b,b'⟩,z1,z2,k⟩ := I.fr.cell i y hy
    obtain ⟨sl,q⟩ := any _ ob b
    exact ⟨c,o,a,⟨_,q,b'⟩,z1,z2,fun v qv => let ⟨val,c,r⟩ := k v qv; ⟨val,c,VR.mono List.prefix_rfl tk r⟩⟩
  · obtain ⟨z1,z2,o,q,t⟩ := I.x a ha
    by_cases hb : a ∈ l.filterMap (·.frame)
    · obtain ⟨sl,q'⟩ := hs a o q hb
      obtain ⟨_,_,ob,es,ep,q1,q2⟩ := F a hb
      rw [q] at q1; cases q1
      exact ⟨z1,z2,_,q',fun ⟨vs,r⟩ => by have : o.data = .seq vs.toArray 0 := congrArg Obj.data r; rw [q2] at this; cases this⟩
    · exact ⟨z1,z2,o,hk a o q hb,t⟩
  · obtain ⟨l',e',k⟩ := I.frs
    refine ⟨l',hA.trans e',fun v hv => ?_⟩
    obtain ⟨m,L,o,es,ep,a,b,c,dd,g⟩ := k v hv
    obtain ⟨sl,q⟩ := any _ o dd
    exact ⟨m,L,_,es,ep,a,b,c,q,g⟩
  · by_cases hb : b ∈ l.filterMap (·.frame)
    · obtain ⟨sl,q'⟩ := hs b o ho hb
      obtain ⟨q0,_,ob,es,ep,q1,q2⟩ := F b hb
      rw [ho] at q1; cases q1
      refine ⟨sl,q',fun hc => ?_⟩
      rcases hc with hc | hc
      · exact absurd hc (Nat.not_lt.mpr q0)
      · exact absurd q2 (hc es ep)
    · exact ⟨o.slots,hk b o ho hb,fun _ => rfl⟩
theorem frs_fun {A : Around} {ρ : RM} {h : Heap} (fr : Frs h₀ A ρ h) {l : List Env} (e : A.frames = some l) (as : List Addr) (ha : ∀ b ∈ l.filterMap (·.frame),b ∈ as) : h.FunFrames (hideAll h as) l := by
  obtain ⟨l',e',k⟩ := fr
  rw [e] at e'; cases e'
  clear e
  induction l with
  | nil => trivial
  | cons v r ih =>
    obtain ⟨m,L,o,es,ep,a,b',c,dd,g⟩ := k v List.mem_cons_self
    exact ⟨m,⟨L,o,a,hideAll_none _ (ha L (List.mem_filterMap.mpr ⟨v,List.mem_cons_self,a⟩)),dd,fun vs q => by rw [g] at q; cases q⟩,
      ih (fun b hb => ha b (by obtain ⟨u,hu,hf⟩ := List.mem_filterMap.mp hb; exact List.mem_filterMap.mpr ⟨u,List.mem_cons_of_mem _ hu,hf⟩)) fun u hu => k u (List.mem_cons_of_mem _ hu)⟩
namespace N
theorem check_next {a : Addr} : checkBoundCall "list_iterator.__next__" ⟨[.ref a],[]⟩ = pure () := by first | kernel_rfl | rfl
theorem quiet_next {as : Args} : (Code.builtin "list_iterator.__next__" as).quiet = true := Code.quiet_builtin _ (by decide +kernel)
end N
section
variable {M : Model} {A : Around} {E : Value → Shared → Prop} {s : Shared}
theorem kj7 {pos : Pos} {u a : Addr} {Q : Value → Shared → Prop} (ho : s.heap.get? u = some (kgf a)) (h : wpAny M A (PySem.call (.ref u) []) Q E s) : wpAny M A (callWith pos (.ref u) [] [] []) Q E s := by
  unfold callWith
  refine wpAny_bind (wpAny_holding ?_)
  unfold evalArgs
  show wpAny M A (spliced [] >>= _) _ E s
  refine wpAny_bind (spliced_nil (wpAny_bind (wpAny_pure (wpAny_holding (wpAny_bind (wpAny_pure (wpAny_bind (wpAny_pure (wpAny_pure ?_)))))))))
  refine wpAny_bind (wpAny_standAt ?_)
  refine wpAny_bind (m := keeperOf (.ref u)) ?_
  unfold keeperOf
  refine wpAny_bind (wpAny_load ho ?_)
  refine wpAny_of_eq (a := Keeper.machine) (by rfl) ?_
  exact wpAny_bind (wpAny_mono h (fun r s₂ hr => wpAny_bind (wpAny_holding (wpAny_point (wpAny_pure hr)))) fun _ _ x => x)
theorem call_nx {u a : Addr} {Q : Value → Shared → Prop} (ho : s.heap.get? u = some (kgf a))
    (h : wpAny (model prog w) (A.under (.builtin "list_iterator.__next__" ⟨[.ref a],[]⟩)) (Builtin.«list_iterator.__next__» ⟨[.ref a],[]⟩) (fun fin s' => ∃ v,fin = .done (.ret v) ∧ Q v s') E s) : wpAny (model prog w) A (PySem.call (.ref u) []) Q E s := by
  refine wpAny_call (codeAny_of_tree ?_)
  show wpAny _ A.in1 (callAny (.ref u) ⟨[],[]⟩) _ _ s
  simp only [callAny]
  refine wpAny_bind (wpAny_load ho ?_)
  dsimp only
  refine KFB.if_so (by decide) ?_
  refine wpAny_bind (m := checkBoundCall "list_iterator.__next__" ⟨[.ref a],[]⟩) (wpAny_of_eq (a := ()) N.check_next ?_)
  refine wpAny_bind (wpAny_pure (wpAny_pure ?_))
  exact ⟨N.quiet_next,codeAny_builtin entry_listiter_next (wpAny_mono h (fun fin s' h' => by obtain ⟨v,rfl,hv⟩ := h'; exact hv) fun _ _ x => x)⟩
end
end
section
variable {prog : Program} {w : World} {A : Around} {E : Value → Shared → Prop} {s : Shared}
theorem nx_item {it l : Addr} {i : Nat} {items : Array Value} {x : Value} {Q : Value → Shared → Prop} (hit : s.heap.IsListIter it l i) (hl : s.heap.IsList l items) (hx : items[i]? = some x)
    (hQ : ∀ h',h'.IsListIter it l (i + 1) → Heap.SameBut it s.heap h' → Q x { s with heap := h' }) :
    wpAny (model prog w) A (Builtin.«list_iterator.__next__» ⟨[.ref it],[]⟩) (fun fin s' => ∃ v,fin = .done (.ret v) ∧ Q v s') E s := by
  obtain ⟨o,ho,hc,hd⟩ := id hit
  obtain ⟨ol,hol,_,nl,hdl⟩ := hl
  show wpAny _ _ (field (.ref it) 0 >>= _) _ _ s
  refine wpAny_bind (wpAny_field ho hd (x := .ref l) rfl ?_)
  show wpAny _ _ (if (Value.ref l == Value.none) = true then _ else _) _ _ s
  rw [if_neg (show ¬ ((Value.ref l == Value.none) = true) from Bool.false_ne_true)]
  show wpAny _ _ (field (.ref it) 1 >>= _) _ _ s
  refine wpAny_bind (wpAny_field ho hd (x := .int i 0) rfl ?_)
  show wpAny _ _ (seqItems? (.ref l) >>= _) _ _ s
  refine wpAny_bind (wpAny_seqItems hol hdl ?_)
  simp only [Int.toNat_natCast,hx]
  refine wpAny_bind (wpAny_setField ho hd (by simp) (wpAny_pure ⟨x,rfl,hQ _ ?_ (Heap.SameBut.update ..)⟩))
  exact ⟨_,Heap.get?_update_self _ ho (Obj.isFreed_of_fields (Obj.data_mapFields hd _)),(Obj.cls_mapFields ..).trans hc,by
    rw [Obj.data_mapFields hd]; simp [rawInt]⟩
theorem nx_end {it l : Addr} {i : Nat} {items : Array Value} {Q : PySem.Fin → Shared → Prop} (hh : A.handled = none) (hit : s.heap.IsListIter it l i) (hl : s.heap.IsList l items) (hx : items[i]? = none)
    (hE : ∀ h₁ h₂ e oe vs a0,Heap.SameBut it s.heap h₁ → (∃ o,h₁.get? it = some o ∧ o.cls = .type "list_iterator") → (∀ b o,h₁.get? b = some o → h₂.get? b = some o) → h₁.get? e = none → h₂.get? e = some oe → oe.cls = .type "StopIteration" → oe.data = .fields vs → vs[1]? = some .none → vs[0]? = some a0 →
      E (.ref e) { s with heap := h₂ }) :
    wpAny (model prog w) A (Builtin.«list_iterator.__next__» ⟨[.ref it],[]⟩) Q E s := by
  obtain ⟨o,ho,hc,hd⟩ := id hit
  obtain ⟨ol,hol,_,nl,hdl⟩ := hl
  show wpAny _ _ (field (.ref it) 0 >>= _) _ _ s
  refine wpAny_bind (wpAny_field ho hd (x := .ref l) rfl ?_)
  show wpAny _ _ (if (Value.ref l == Value.none) = true then _ else _) _ _ s
  rw [if_neg (show ¬ ((Value.ref l == Value.none) = true) from Bool.false_ne_true)]
  show wpAny _ _ (field (.ref it) 1 >>= _) _ _ s
  refine wpAny_bind (wpAny_field ho hd (x := .int i 0) rfl ?_)
  show wpAny _ _ (seqItems? (.ref l) >>= _) _ _ s
  refine wpAny_bind (wpAny_seqItems hol hdl ?_)
  simp only [Int.toNat_natCast,hx]
  refine wpAny_bind (wpAny_rule (wpAny_bind (wpAny_setField ho hd (by simp) ?_)))
  show wpAny _ _ (newExc (.type "StopIteration") [] >>= _) _ _ _
  refine wpAny_bind ?_
  simp only [newExc,newTuple]
  refine wpAny_bind (wpAny_newObj_type ?_ (by size_fits))
  refine wpAny_bind (m := firstArgMember _ _) (wpAny_of_eq (a := Value.none) (by first | rfl | (simp only [firstArgMember]; rfl)) ?_)
  refine wpAny_newObj_type ?_ (by size_fits)
  simp only [raiseNew]
  refine wpAny_bind (wpAny_handled ?_)
  first | rw [show A.in1.handled = none from hh] | rw [hh]
  refine wpAny_bind (wpAny_pure (wpAny_throw ?_))
  refine hE _ _ _ _ _ _ (Heap.SameBut.update ..) ⟨_,Heap.get?_update_self _ ho (Obj.isFreed_of_fields (Obj.data_mapFields hd _)),(Obj.cls_mapFields ..).trans hc⟩ (fun b o q => Heap.get?_push_of_some _ (Heap.get?_push_of_some _ q)) (Heap.get?_none_of_le (by simp)) (Heap.get?_push_size _ rfl) rfl rfl rfl rfl
end
section
variable {g : Gl} {sc : Sc} {q : Bool} {d : Nat}
theorem ok_isItr {β : Type} {o : O} {k : Nat → Nat → M β} {f : Fm} {H : Hp} {Φ : β → Fm → Hp → Prop} (e : ok (isItr o k) f H Φ) : ∃ l i,o = .iter l (some i) ∧ ok (k l i) f H Φ := by
  cases o with
  | iter l i => cases i with
    | some i => exact ⟨_,_,rfl,e⟩
    | none => exact ka4 e
  | _ => exact ka4 e
theorem ok_isNxt {β : Type} {o : O} {k : Nat → M β} {f : Fm} {H : Hp} {Φ : β → Fm → Hp → Prop} (e : ok (isNxt o k) f H Φ) : ∃ it,o = .nxt it ∧ ok (k it) f H Φ := by
  cases o with
  | nxt it => exact ⟨_,rfl,e⟩
  | _ => exact ka4 e
theorem re_next {o : Expr} {p : Pos} {a : M V} (ha : RE g sc q d o a) (hb : ∀ env,attributeBase o "__next__" env (eval o env) = eval o env := by intro _; rfl) : RE g sc q d (.Attribute o "__next__" p) (app1 nextOf a) := by
  intro z σ Φ E Q e k
  rw [arm_eval_Attribute,hb]
  refine wpAny_bind (ha z σ _ E _ (kae e) fun σ₁ vx x t₁ e₁ rx => wpAny_bind (wpAny_standAt (wpAny_bind (wpAny_holding ?_))))
  obtain ⟨n,e2⟩ := kc1 e₁
  obtain ⟨o,ho,e3⟩ := ke1 e2
  obtain ⟨l,i,rfl,e4⟩ := ok_isItr e3
  obtain ⟨rfl,e5⟩ := kfh e4
  obtain ⟨p1,p2,hp,hpp,qq,hq,⟨oi,hi,hc,hd⟩,hz⟩ := σ₁.ref ho rx
  obtain ⟨oi',hi',hdd⟩ := hz rfl
  rw [hi] at hi'; cases hi'
  refine next_attr hi hc hd hdd (wpAny_bind (wpAny_letTemporaryGo (wpAny_pure ?_)))
  exact k (σ₁.new (σ₁.s.heap.push (kgf p1)) _ (σ₁.s.heap.objs.size,σ₁.s.heap.objs.size) (.nxt n) kb8 (Nat.le_refl _) (Nat.le_refl _) ⟨rfl,(p1,p2),kl6 ⟨_,rfl⟩ hp,Heap.get?_push_size _ rfl⟩) _ _ (t₁.trans (σ₁.new_to _ _ _ _)) (kgy e5) σ₁.new_ref
end
end Mine
namespace Mine
open PySem PySem.W PySem.Calls PyProof.Rows
namespace N
theorem stop_exc : isSubtype (.type "StopIteration") (.type "BaseException") = pure true := by rw [isSubtype_type]; kernel_rfl
theorem stop_nt : isSubtype (.type ((Manifest.find? "StopIteration").elim "type" fun x => x.metatype)) (.type "tuple") = pure false := by
  rw [show ((Manifest.find? "StopIteration").elim "type" fun x => x.metatype) = "type" by kernel_rfl,isSubtype_type]; kernel_rfl
theorem stop_sub : isSubtype (.type "StopIteration") (.type "StopIteration") = pure true := by rw [isSubtype_type]; kernel_rfl
end N
section
variable {g : Gl} {sc : Sc} {q : Bool} {d : Nat}
inductive Nx1 (f : Fm) (H : Hp) (Ψ : Option V → Fm → Hp → Prop) : V → Prop
  | item (a it l i : Nat) (xs : List V) (v : V) (h1 : H[a]? = some (.nxt it)) (h2 : H[it]? = some (.iter l (some i))) (h3 : H[l]? = some (.list xs)) (hx : xs[i]? = some v) (e : Ψ (some v) f (H.set it (.iter l (some (i + 1))))) : Nx1 f H Ψ (.at (.ref a))
  | done (a it l i : Nat) (xs : List V) (h1 : H[a]? = some (.nxt it)) (h2 : H[it]? = some (.iter l (some i))) (h3 : H[l]? = some (.list xs)) (hx : xs[i]? = none) (e : Ψ none f (H.set it (.iter l none))) : Nx1 f H Ψ (.at (.ref a))
theorem ok_callNext {x : V} {f : Fm} {H : Hp} {Ψ : Option V → Fm → Hp → Prop} (e : ok (callNext x) f H Ψ) : Nx1 f H Ψ x := by
  obtain ⟨a,e1⟩ := kc1 e
  obtain ⟨o1,h1,e2⟩ := ke1 e1
  obtain ⟨it,rfl,e3⟩ := ok_isNxt e2
  obtain ⟨o2,h2,e4⟩ := ke1 e3
  obtain ⟨l,i,rfl,e5⟩ := ok_isItr e4
  obtain ⟨o3,h3,e6⟩ := ke1 e5
  obtain ⟨xs,rfl,e7⟩ := kly e6
  cases hx : xs[i]? with
  | some v => rw [hx] at e7; exact .item a it l i xs v h1 h2 h3 hx (kao (khi (kae e7)))
  | none => rw [hx] at e7; exact .done a it l i xs h1 h2 h3 hx (kao (khi (kae e7)))
inductive NxAt {z : Fc sc q d} (σ : St g z) (it l i : Nat) (xs : List V) : Value → Prop
  | mk (u p r : Addr) (hnx : σ.s.heap.get? u = some (kgf p)) (hρ : σ.ρ[it]? = some (p,p)) (hl : σ.ρ[l]? = some (r,r)) (hit : σ.s.heap.IsListIter p r i) (vs : List Value) (pl : σ.s.heap.IsList r vs.toArray) (pr : Paired (VR σ.ρ σ.s.heap) xs vs) : NxAt σ it l i xs (.ref u)
theorem St.nx {z : Fc sc q d} (σ : St g z) {a it l i : Nat} {xs : List V} {v : Value} (h1 : σ.H[a]? = some (.nxt it)) (h2 : σ.H[it]? = some (.iter l (some i))) (h3 : σ.H[l]? = some (.list xs)) (rv : VR σ.ρ σ.s.heap (.at (.ref a)) v) : NxAt σ it l i xs v := by
  obtain ⟨p1,p2,_,hpp,q1,hq1,hnx⟩ := σ.ref h1 rv
  obtain ⟨⟨a1,a2⟩,ha,hpp2,ql,hql,hit,_⟩ := σ.inv.get h2
  rw [hq1] at ha; cases ha
  obtain ⟨⟨b1,b2⟩,hb,hpp3,vs,⟨n,pl⟩,pr,_⟩ := σ.inv.get h3
  rw [hql] at hb; cases hb
  cases hpp2; cases hpp3
  exact ⟨p1,a1,b1,hnx,hq1,hql,hit,vs,IsList.of pl,pr⟩
theorem rs_try {i : Nat} {x : Str} {p p' p'' pos np hp tp : Pos} {fe : Expr} {b₀ : Stmt} {suite : List Stmt} {it : M V} {handler : M AF} (hn : (sc.names.map (·.1)).Nodup) (hi : sc.names[i]? = some (x,.local)) (hfn : sc.fn = true)
    (hsi : sc.names.lookup ("StopIteration" : Str) = some .globalImplicit) (hv : gval g.K "StopIteration" = some (.type "StopIteration")) (hf : RE g sc true d fe it) (hb : RB g sc false d (b₀ :: suite) handler)
    (he : ∀ env,eval (.Call fe [] [] pos) env = (do let f ← eval fe env; callWith pos f [] [] []) := by intro _; rfl)
    (hs : ∀ env,swapsWith (.Call fe [] [] pos) (some (.Name x p)) p'.line env = pure false := by intro _; rfl) :
    RS g sc true d (.Try [.Assign [.Name x p] (.Call fe [] [] pos) p',.Break p''] [.ExceptHandler (some (.Name "StopIteration" np)) none (b₀ :: suite) hp] [] [] tp) (ki7 i it handler) := by
  intro z σ Φ E Q e k
  refine wpAny_Try_except (wpAny_execs_cons (wpAny_Assign_Name ?_ (hs z.env)))
  rw [he]
  refine wpAny_bind (hf z σ _ _ _ (kae e) fun σ₁ gv gx t₁ e₁ rg => ?_)
  cases ok_callNext (kae e₁) with
  | item a itn l j xs v h1 h2 h3 hx e₂ =>
    obtain ⟨u,p1,r1,hnx,hρ,hql,hit,vs,pl,pr⟩ := σ₁.nx h1 h2 h3 rg
    refine kj7 hnx (call_nx hnx ?_)
    obtain ⟨val,hval,rv⟩ := pget pr hx
    refine nx_item hit pl (by simpa using hval) fun h₂ hit₂ hs₂ => ?_
    have t₂ := σ₁.turn_to (h' := h₂) (tk := σ₁.s.toks) (o := .iter l (some (j + 1))) hρ (fun b ob hb _ eb => (hs₂.2 b hb).trans eb) ⟨rfl,_,hql,hit₂,fun z => absurd z (Nat.succ_ne_zero j)⟩
    refine kcw (σ₁.turn h₂ σ₁.s.toks (.iter l (some (j + 1))) hρ _ _) hn hi (t₂.vr rv) fun h₃ t₃ I₃ t' => ?_
    refine kat (g := g) (sc := sc) (q := true) (d := d) (klm (p := p'')) z (St.to _ _ _ _ h₃ t₃ I₃) (fun b f H => b = .brk ∧ Φ .brk f H) _ _ ⟨_,_,_,rfl,rfl,kao (ke0 (kae e₂))⟩ fun τ fl b t e r => ?_
    obtain ⟨rfl,e⟩ := e
    cases (r : fl = .brk)
    exact k τ .brk .brk (((t₁.trans t₂).trans t').trans t) e rfl
  | done a itn l j xs h1 h2 h3 hx e₂ =>
    obtain ⟨u,p1,r1,hnx,hρ,hql,hit,vs,pl,pr⟩ := σ₁.nx h1 h2 h3 rg
    refine kj7 hnx (call_nx hnx ?_)
    refine nx_end (z.cx.handled rfl) hit pl (khy pr hx) fun h₂ h₃ ea oe ws a0 hsame hit2 hkeep hen heo hcls hdat hv1 hv0 => ?_
    have hk₂ : ∀ b ob,b ≠ p1 → b ≠ p1 → σ₁.s.heap.get? b = some ob → h₂.get? b = some ob := fun b ob hb _ eb => (hsame.2 b hb).trans eb
    have t₂ := σ₁.turn_to (h' := h₂) (tk := σ₁.s.toks) (o := .iter l none) hρ hk₂ ⟨rfl,hit2⟩
    obtain ⟨I₂,x₂⟩ := σ₁.inv.turn (o := .iter l none) hρ hk₂ ⟨rfl,hit2⟩
    obtain ⟨outer,hfr,hfm⟩ := z.cx.top hfn
    show wpAny (model g.prog g.w) z.A (noteFrame (.ref ea) z.env) _ _ { σ₁.s with heap := h₃ }
    have hen' : (hideAll h₂ ((z.env :: outer).filterMap (·.frame))).get? ea = none := by
      cases zz : (hideAll h₂ ((z.env :: outer).filterMap (·.frame))).get? ea with
      | none => rfl
      | some o => have := of_hideAll _ zz; rw [hen] at this; cases this
    have hl : h₃.FunFrames (hideAll h₂ ((z.env :: outer).filterMap (·.frame))) (z.env :: outer) := (frs_fun I₂.frs hfr _ fun _ h => h).of_keeps fun b o hb _ => ⟨o,hkeep b o hb,rfl⟩
    unfold noteFrame
    simp only [hfm]
    refine wpAny_bind (wpAny_field (s := { σ₁.s with heap := h₃ }) heo hdat hv1 ?_)
    rw [if_neg (by decide)]
    refine wpAny_entryW (s := { σ₁.s with heap := h₃ }) (base := hideAll h₂ ((z.env :: outer).filterMap (·.frame))) hfr hl hfm heo (fun b o hb => hkeep _ _ (of_hideAll _ hb)) hen' hdat (Array.getElem?_eq_some_iff.mp hv1).1 hv0 fun h₄ hN => ?_
    obtain ⟨k1,k2,k3,k4⟩ := hN
    refine wpAny_landsW (s := { σ₁.s with heap := h₄ }) (L := z.env.locals) ⟨k1,hen',k2,k3⟩ fun h₅ hfl₅ hsm₅ => ?_
    have up5 : h₂.UpToSlots h₅ := ((Heap.UpToSlots.of_keeps hkeep).trans k4).trans hsm₅
    have mv : ∀ h₆,Heap.FlyingW (hideAll h₂ ((z.env :: outer).filterMap (·.frame))) (z.env :: outer) ea oe.cls a0 h₆ → h₂.UpToSlots h₆ → Inv g.prog g.w g.h₀ (z.A.mark (some (.ref ea))) z.env z.X σ₁.ρ σ₁.f (σ₁.H.set itn (.iter l none)) h₆ ∧ Ext g.h₀ z.X σ₁.ρ h₂ σ₁.ρ h₆ := fun h₆ fl up =>
      I₂.slots hfr (A' := z.A.mark (some (.ref ea))) rfl (fun b o hb hm => fl.1 b o (hideAll_get _ hb hm)) fun b o hb hm => up b o hb fun vs z => by
        obtain ⟨_,_,ob,es,ep,g1,g2⟩ := frs_at I₂.frs hfr hm
        rw [hb] at g1; cases g1; rw [g2] at z; cases z
    let z' : Fc sc false d := ⟨z.A.mark (some (.ref ea)),z.env,z.X,⟨z.cx.names,z.cx.kind,z.cx.globals,z.cx.builtins,z.cx.locX,z.cx.celX,fun h => (nomatch h),z.cx.depth,z.cx.units,z.cx.top⟩⟩
    refine wpAny_handleBy_builtin (X := "StopIteration") (T := "StopIteration") (b := true) N.stop_exc N.stop_nt N.stop_sub ?_
    obtain ⟨I₅,_⟩ := mv h₅ hfl₅ up5
    obtain ⟨ob5,g5,c5⟩ := hfl₅.there
    refine kg2 (z := z') ⟨_,_,_,{ σ₁.s with heap := h₅ },I₅⟩ hsi hv ⟨rfl,⟨ob5,g5,c5.trans hcls⟩,?_⟩
    rw [if_pos rfl]
    refine lands_againW (s := { σ₁.s with heap := h₅ }) hfl₅ fun h₆ hfl₆ hsm₆ => ?_
    obtain ⟨I₆,x₆⟩ := mv h₆ hfl₆ (up5.trans hsm₆)
    refine hb z' ⟨_,_,_,{ σ₁.s with heap := h₆ },I₆⟩ Φ _ Q e₂ fun τ a b t e r => ?_
    have hst : τ.s = { σ₁.s with heap := τ.s.heap,toks := τ.s.toks } := t.same
    exact k ⟨τ.ρ,τ.f,τ.H,τ.s,τ.inv.around rfl⟩ a b (t₁.trans ⟨(x₂.trans x₆).trans t.ext,hst⟩) e r
end
end Mine
namespace Mine
open PySem PySem.W PySem.Calls PyProof.Rows
theorem q_text (a b : Str) : ((("=?" ++ a) ++ "?q?") ++ b) ++ "?=" = (⟨([61,63] ++ a.cps.toList ++ [63,113,63] ++ b.cps.toList ++ [63,61]).toArray⟩ : Str) := by
  have e1 : ("=?" : Str).cps = #[61,63] := by decide +kernel
  have e2 : ("?q?" : Str).cps = #[63,113,63] := by decide +kernel
  have e3 : ("?=" : Str).cps = #[63,61] := by decide +kernel
  have : (((("=?" ++ a) ++ "?q?") ++ b) ++ "?=" : Str).cps = ([61,63] ++ a.cps.toList ++ [63,113,63] ++ b.cps.toList ++ [63,61]).toArray := by
    rw [PySem.Str.cps_append,PySem.Str.cps_append,PySem.Str.cps_append,PySem.Str.cps_append,e1,e2,e3]
    apply Array.toList_inj.mp
    simp
  exact congrArg PySem.Str.mk this
namespace Dc
open Builtin
section
variable {b : Array UInt8} {t : Tok} {x y : UInt8}
theorem road_eq {id : String} : _codecs.decodeRoad id b (PySem.Str.ofString "latin1") none [] = (_codecs.runDecoder id _codecs.latin1Decoder none true b 0 [] >>= fun r => mkStr ⟨r.1⟩) := by kernel_rfl
theorem run1 {id : String} : _codecs.runDecoder id _codecs.latin1Decoder none true [x].toArray 0 [] = pure (#[x.toNat],1) := by kernel_rfl
theorem run2 {id : String} : _codecs.runDecoder id _codecs.latin1Decoder none true [x,y].toArray 0 [] = pure (#[x.toNat,y.toNat],2) := by kernel_rfl
theorem meets_text {z : PySem.Str} {n : Nat} {t1 t2 : Tok} {d : PySem.Str} (hd : ∀ id,_codecs.runDecoder id _codecs.latin1Decoder none true b 0 [] = pure (z.cps,n)) :
    Meets («_codecs.decode.text» ⟨[.bytes b t,.str (PySem.Str.ofString "latin1") t1,.none,.str d t2],[]⟩) (fun _ R s => z.length ≤ sizeLine ∧ R (.ok (.ret (.str z s.toks))) { s with toks := s.toks + 1 }) := by
  refine .of_wp fun prog w A R s hS => ?_
  obtain ⟨hsz,h⟩ := hS
  show wpAny _ _ (Bytes.bytesLike _ (.bytes b t) >>= fun r => _) _ _ s
  refine wpAny_bind (wpAny_of_eq KBd.like_eq ?_)
  refine wpAny_bind (wpAny_of_eq KBd.held_eq ?_)
  show wpAny _ _ (_codecs.decodeRoad _ b (PySem.Str.ofString "latin1") none [] >>= fun v => _) _ _ s
  rw [road_eq,hd]
  refine wpAny_bind (wpAny_bind (wpAny_pure ?_))
  exact wpAny_mkStr (wpAny_pure ⟨_,rfl,h⟩) hsz
theorem entry_eq {c : UInt8} {cs : List UInt8} {u : Tok} : «bytes.decode» ⟨[.bytes (c :: cs).toArray t,.str (PySem.Str.ofString "latin1") u],[]⟩ = (mkStr (PySem.Str.ofString "utf-8") >>= fun _ => mkStr (PySem.Str.ofString "latin1") >>= fun e => mkStr (PySem.Str.ofString "bytes.decode") >>= fun d =>
    PySem.call (.builtin "_codecs.decode.text") [.bytes (c :: cs).toArray t,e,.none,d] >>= fun v => PySem.ret v) := by kernel_rfl
theorem meets_decode {z : PySem.Str} {n : Nat} {c : UInt8} {cs : List UInt8} {u : Tok} (hd : ∀ id,_codecs.runDecoder id _codecs.latin1Decoder none true (c :: cs).toArray 0 [] = pure (z.cps,n)) :
    Meets («bytes.decode» ⟨[.bytes (c :: cs).toArray t,.str (PySem.Str.ofString "latin1") u],[]⟩) (fun _ R s => z.length ≤ sizeLine ∧ ∀ t' k,R (.ok (.ret (.str z t'))) { s with toks := k }) := by
  refine .of_wp fun prog w A R s hS => ?_
  obtain ⟨hsz,h⟩ := hS
  rw [entry_eq]
  refine wpAny_bind (wpAny_mkStr ?_ (by decide))
  refine wpAny_bind (wpAny_mkStr ?_ (by decide))
  refine wpAny_bind (wpAny_mkStr ?_ (by decide))
  exact wpAny_bind (call_function_meets KBd.kind_text KBd.plain_text KBd.entry_text (KBd.args_text _ _ _ _) (meets_text hd) ⟨hsz,wpAny_pure ⟨_,rfl,h _ _⟩⟩)
theorem args2 (a b : Value) : argsOk "bytes.decode" ⟨[a,b],[]⟩ := by unfold argsOk; kernel_rfl
end
end Dc
noncomputable def kek (c : Nat) : Str := ⟨(sign c).toArray⟩
theorem sign_len (c : Nat) : (sign c).length ≤ 3 := by
  unfold sign; split <;> first | decide | skip
  split <;> simp
theorem sign_one {c : Nat} (h : ((kek c).length == 1 && (kek c).cps.all fun x => decide (x < 128)) = true) : ∃ d,(kek c).cps[0]? = some d ∧ sign c = [d] := by
  have h1 : (sign c).length = 1 := by
    have := (Bool.and_eq_true_iff.mp h).1
    simpa [kek,PySem.Str.length] using this
  match hs : sign c,h1 with
  | [d],_ => exact ⟨d,by simp [kek,hs],rfl⟩
theorem kiw : ∀ l : List Nat,(l.flatMap sign).length ≤ 3 * l.length
  | [] => by simp
  | c :: r => by
    have := kiw r
    have := sign_len c
    simp only [List.flatMap_cons,List.length_append,List.length_cons]
    omega
structure HM (K : Frag) (T : Addr) : Prop where
  obj : ∃ items n,K.lookup T = some { cls := .type "list",data := .seq items n } ∧ ∀ c,c < 256 → ∃ tk,items[c]? = some (.str (kek c) tk)
  glob : gval K "_QUOPRI_HEADER_MAP" = some (.ref T)
section
variable {prog : Program} {w : World} {A : Around} {E : Value → Shared → Prop} {s : Shared}
theorem kjm {T : Addr} {items : Array Value} {c : Nat} {Q : Builtin.Str.Mapped → Shared → Prop} (hl : s.heap.IsList T items) (hc : c < 256) (hit : ∃ tk,items[c]? = some (.str (kek c) tk)) (hQ : ∀ tk,Q (.text (kek c)) { s with toks := tk }) :
    wpAny (model prog w) A (Builtin.Str.tableLookup (.ref T) c) Q E s := by
  obtain ⟨tk,hit⟩ := hit
  unfold Builtin.Str.tableLookup
  refine wpAny_bind (wpAny_attempt (wpAny_bind (wpAny_mkInt ?_)))
  refine wpAny_getItem_list (s := { s with toks := s.toks + 1 }) hl (by omega) (by omega) (by simpa using hit) ?_
  dsimp only
  refine wpAny_bind (m := asInt? (.str (kek c) tk)) (wpAny_of_eq (a := none) (by rfl) ?_)
  refine wpAny_bind (m := asStr? (.str (kek c) tk)) (wpAny_of_eq (a := some (kek c)) (by rfl) ?_)
  exact wpAny_pure (hQ _)
noncomputable def kg7 (known : List (Nat × Option Nat)) : Prop := ∀ c a,known.lookup c = some a → ∃ d,a = some d ∧ sign c = [d]
theorem known_cons {known : List (Nat × Option Nat)} (h : kg7 known) {c d : Nat} (hd : sign c = [d]) : kg7 ((c,some d) :: known) := fun c' a e => by
  rw [List.lookup_cons] at e
  split at e
  · rename_i hb
    have := beq_iff_eq.mp hb
    subst this
    cases e; exact ⟨d,rfl,hd⟩
  · exact h c' a e
abbrev TrSt := List Str × Nat × Bool × List (Nat × Option Nat) × Bool
theorem tr_loop {F : Nat → TrSt → Sem (ForInStep TrSt)} {Q : TrSt → Shared → Prop}
    (step : ∀ (c : Nat) (pieces : List Str) (total : Nat) (fast : Bool) (known : List (Nat × Option Nat)) (t : Nat),c < 256 → total ≤ 3000 → kg7 known →
      wpAny (model prog w) A (F c (pieces,total,fast,known,false)) (fun r s' => ∃ fast' known' tk,r = .yield (kek c :: pieces,total + (sign c).length,fast',known',false) ∧ kg7 known' ∧ s' = { s with toks := tk }) E { s with toks := t }) :
    ∀ (cs done : List Nat) (pieces : List Str) (total : Nat) (fast : Bool) (known : List (Nat × Option Nat)) (t : Nat),(∀ c ∈ cs,c < 256) → total + 3 * cs.length ≤ 3000 → kg7 known → pieces.reverse.foldl (fun acc p => acc ++ p.cps) #[] = (done.flatMap sign).toArray →
      (∀ pieces' total' fast' known' tk,pieces'.reverse.foldl (fun acc p => acc ++ p.cps) #[] = ((done ++ cs).flatMap sign).toArray → total' ≤ 3000 → Q (pieces',total',fast',known',false) { s with toks := tk }) →
      wpAny (model prog w) A (forIn cs (pieces,total,fast,known,false) F) Q E { s with toks := t }
  | [],done,pieces,total,fast,known,t,_,hn,_,hp,hQ => by
    rw [List.forIn_nil]
    exact wpAny_pure (hQ pieces total fast known t (by simpa using hp) (by simpa using hn))
  | c :: cs,done,pieces,total,fast,known,t,hc,hn,hk,hp,hQ => by
    rw [List.forIn_cons]
    simp only [List.length_cons] at hn
    refine wpAny_bind (wpAny_mono (step c pieces total fast known t (hc c List.mem_cons_self) (by omega) hk) (fun r s' h => ?_) fun _ _ x => x)
    obtain ⟨fast',known',tk,rfl,hk',rfl⟩ := h
    have h3 := sign_len c
    refine tr_loop step cs (done ++ [c]) (kek c :: pieces) (total + (sign c).length) fast' known' tk (fun x hx => hc x (List.mem_cons_of_mem _ hx)) (by omega) hk' ?_ fun pieces' total' fast' known' tk h1 h2 => hQ pieces' total' fast' known' tk (by rw [h1]; simp) h2
    rw [List.reverse_cons,List.foldl_append,hp]
    simp [kek]
theorem kjg {T : Addr} {items : Array Value} {x : Str} {t : Tok} {Q : PySem.Fin → Shared → Prop} (hl : s.heap.IsList T items) (hit : ∀ c,c < 256 → ∃ tk,items[c]? = some (.str (kek c) tk)) (hx : ∀ c ∈ x.cps.toList,c < 256) (hn : x.cps.size ≠ 0) (hsz : x.cps.size < 1000)
    (hQ : ∀ t' tk,Q (.done (.ret (.str ⟨(x.cps.toList.flatMap sign).toArray⟩ t'))) { s with toks := tk }) : wpAny (model prog w) A (Builtin.«str.translate» ⟨[.str x t,.ref T],[]⟩) Q E s := by
  unfold Builtin.«str.translate»
  refine wpAny_bind (m := Builtin.Str.strOneArg "translate" _) (wpAny_of_eq (a := (.str x t,x,.ref T)) (by rfl) ?_)
  dsimp only
  have h0 : ¬ ((x.length == 0) = true) := by simpa [PySem.Str.length] using hn
  rw [if_neg h0]
  refine wpAny_bind ?_
  rw [← Array.forIn_toList]
  refine tr_loop (s := s) ?step x.cps.toList [] [] 0 (x.cps.all fun c => decide (c < 128)) [] s.toks hx (by simp; omega) (fun c a e => by cases e) (by simp) fun pieces' total' fast' known' tk h1 h2 => ?_
  case step =>
    intro c pieces total fast known t hc ht hk
    have nt : ¬ (Builtin.Str.tooLong total = true) := KPc.short (by omega)
    dsimp only
    rw [if_neg nt]
    have slow : ∀ (fast' : Bool) (known' : List (Nat × Option Nat)) (t' : Nat),kg7 known' → wpAny (model prog w) A (do
        let __do_lift ← Builtin.Str.tableLookup (.ref T) c
        match __do_lift with
          | Builtin.Str.Mapped.keep => pure (ForInStep.yield ({ cps := #[c] } :: pieces,total + 1,fast',known',false))
          | Builtin.Str.Mapped.drop => pure (ForInStep.yield (pieces,total,fast',known',true))
          | Builtin.Str.Mapped.char d => pure (ForInStep.yield ({ cps := #[d] } :: pieces,total + 1,fast',known',false))
          | Builtin.Str.Mapped.text t => pure (ForInStep.yield (t :: pieces,total + t.length,fast',known',false)))
        (fun r s' => ∃ fast' known' tk,r = .yield (kek c :: pieces,total + (sign c).length,fast',known',false) ∧ kg7 known' ∧ s' = { s with toks := tk }) E { s with toks := t' } := fun fast' known' t' hk' =>
      wpAny_bind (kjm (s := { s with toks := t' }) hl hc (hit c hc) fun tk => wpAny_pure ⟨fast',known',tk,by simp [kek,PySem.Str.length],hk',rfl⟩)
    cases fast with
    | false =>
      simp only [Bool.false_eq_true,if_false]
      exact slow false known t hk
    | true =>
      simp only [if_true]
      cases hlk : known.lookup c with
      | some a =>
        obtain ⟨dd,rfl,hd⟩ := hk c a hlk
        simp only
        refine wpAny_bind (wpAny_pure ?_)
        exact wpAny_pure ⟨true,known,t,by simp [kek,hd],hk,rfl⟩
      | none =>
        simp only
        refine wpAny_bind (kjm (s := { s with toks := t }) hl hc (hit c hc) fun tk => ?_)
        dsimp only
        by_cases h1 : ((kek c).length == 1 && (kek c).cps.all fun x => decide (x < 128)) = true
        · rw [if_pos h1]
          obtain ⟨dd,hd0,hd⟩ := sign_one h1
          rw [hd0]
          dsimp only
          refine wpAny_bind (wpAny_pure ?_)
          exact wpAny_pure ⟨true,_,tk,by simp [kek,hd],known_cons hk hd,rfl⟩
        · rw [if_neg h1]
          dsimp only
          refine wpAny_bind (wpAny_pure ?_)
          refine wpAny_bind (wpAny_rule ?_)
          simp only [Bool.false_eq_true,if_false]
          exact slow false known tk hk
  dsimp only
  rw [if_neg (KPc.short (by omega))]
  rw [h1]
  refine wpAny_bind (wpAny_mkStr (wpAny_pure (hQ _ _)) ?_)
  have := kiw x.cps.toList
  show (([] ++ x.cps.toList).flatMap sign).toArray.size ≤ sizeLine
  rw [sizeLine_eq]
  simp only [List.nil_append,List.size_toArray,Array.length_toList] at this ⊢
  omega
end
section
variable {g : Gl} {sc : Sc} {q : Bool} {d : Nat}
inductive Pct (f : Fm) (i j : Nat) (Ψ : V → Prop) : Prop
  | mk (a b : Str) (ha : f[i]? = some (some (.at (.str a)))) (hb : f[j]? = some (some (.at (.str b)))) (la : a.cps.size < 10000) (lb : b.cps.size < 10000) (e : Ψ (.at (.str ⟨([61,63] ++ a.cps.toList ++ [63,113,63] ++ b.cps.toList ++ [63,61]).toArray⟩))) : Pct f i j Ψ
theorem ok_percent {i j : Nat} {f : Fm} {H : Hp} {Φ : V → Fm → Hp → Prop} (e : ok (app1 klu (kid [loc i,loc j])) f H Φ) : Pct f i j fun v => Φ v f H := by
  obtain ⟨x,hx,e1⟩ := ok_loc (kae (kae (kae e)))
  obtain ⟨y,hy,e2⟩ := ok_loc (kae (kae e1))
  obtain ⟨l,hl,e3⟩ := kge (kao (kao e2))
  have e4 := kao e3
  have hq := kep hl
  cases l with
  | nil => cases hq
  | cons a l => cases l with
    | nil => cases hq
    | cons b l => cases l with
      | cons c l => cases hq
      | nil =>
        cases hq
        cases a with
        | str a => cases b with
          | str b =>
            obtain ⟨hlen,e5⟩ := kfh e4
            exact ⟨a,b,hx,hy,hlen.1,hlen.2,kao e5⟩
          | _ => exact ka4 e4
        | _ => exact ka4 e4
theorem re_joined {e1 e2 : Expr} {j1 j2 j3 : Nat} {p1 p2 p3 q1 q2 pos : Pos} {i j : Nat} (h1 : RE g sc q d e1 (loc i)) (h2 : RE g sc q d e2 (loc j)) :
    RE g sc q d (.JoinedStr [.Constant (.str "=?") j1 p1,.FormattedValue e1 115 none q1,.Constant (.str "?q?") j2 p2,.FormattedValue e2 115 none q2,.Constant (.str "?=") j3 p3] pos) (app1 klu (kid [loc i,loc j])) := by
  intro z σ Φ E Q e k
  obtain ⟨a,b,ha,hb,la,lb,e⟩ := ok_percent e
  have fv : ∀ {e : Expr} {i : Nat} {a : Str} {qq : Pos} (τ : St g z) (Q : Value → Shared → Prop),RE g sc q d e (loc i) → τ.f = σ.f → τ.H = σ.H → σ.f[i]? = some (some (.at (.str a))) → a.cps.size < 10000 → To σ τ → (∀ (υ : St g z) t,υ.f = σ.f → υ.H = σ.H → To σ υ → Q (.str a t) υ.s) →
      wpAny (model g.prog g.w) z.A (eval (.FormattedValue e 115 none qq) z.env) Q E τ.s :=
    fun {e i a qq} τ Q h hf hH hi hl t kk => wpAny_FormattedValue_s (h z τ (fun v f H => v = .at (.str a) ∧ f = σ.f ∧ H = σ.H) E _ ⟨.at (.str a),τ.f,τ.H,by unfold loc; rw [hf,hi],rfl,hf,hH⟩ fun υ val v t' he r => by
      obtain ⟨rfl,h2,h3⟩ := he
      obtain ⟨tk,rfl⟩ := r
      have hz : a.length ≤ sizeLine := by rw [sizeLine_eq]; show a.cps.size ≤ _; omega
      have k2 : ∀ (υ' : St g z) t,υ'.f = σ.f → υ'.H = σ.H → To σ υ' → wpAny (model g.prog g.w) z.A (formatField (.str a t) Str.empty) Q E υ'.s := fun υ' t h2 h3 t2 => wpAny_formatField_str (kk υ' t h2 h3 t2) (kk (υ'.toks _) _ h2 h3 (t2.trans (υ'.toks_to _))) hz
      exact wpAny_habitSame_str (k2 υ tk h2 h3 (t.trans t')) (k2 (υ.toks _) _ h2 h3 ((t.trans t').trans (υ.toks_to _))) hz)
  have len : ∀ {x : Str} {n : Nat},x.cps.size ≤ n → n ≤ 30000 → x.length ≤ sizeLine := fun {x n} h1 h2 => by rw [sizeLine_eq]; show x.cps.size ≤ _; omega
  have z1 : ("=?" : Str).cps.size = 2 := by decide +kernel
  have z2 : ("?q?" : Str).cps.size = 3 := by decide +kernel
  have z3 : ("?=" : Str).cps.size = 2 := by decide +kernel
  have z0 : (Str.empty ++ ("=?" : Str)) = "=?" := by decide +kernel
  refine wpAny_JoinedStr (wpAny_Constant_str ⟨_,_,rfl,by decide +kernel,?_⟩)
  rw [z0]
  refine fv (σ.toks (σ.s.toks + 1)) _ h1 rfl rfl ha la (σ.toks_to _) fun σ₁ t1 f1 H1 t₁ => ⟨_,_,rfl,len (n := 2 + a.cps.size) (by rw [PySem.Str.cps_append,Array.size_append]; omega) (by omega),?_⟩
  refine wpAny_Constant_str ⟨_,_,rfl,len (n := 5 + a.cps.size) (by rw [PySem.Str.cps_append,PySem.Str.cps_append,Array.size_append,Array.size_append]; omega) (by omega),?_⟩
  refine fv (σ₁.toks (σ₁.s.toks + 1)) _ h2 f1 H1 hb lb (t₁.trans (σ₁.toks_to _)) fun σ₂ t2 f2 H2 t₂ => ⟨_,_,rfl,len (n := 5 + a.cps.size + b.cps.size) (by rw [PySem.Str.cps_append,PySem.Str.cps_append,PySem.Str.cps_append,Array.size_append,Array.size_append,Array.size_append]; omega) (by omega),?_⟩
  have hlast : ((((("=?" : Str) ++ a) ++ "?q?") ++ b) ++ "?=").length ≤ sizeLine := len (n := 7 + a.cps.size + b.cps.size) (by rw [PySem.Str.cps_append,PySem.Str.cps_append,PySem.Str.cps_append,PySem.Str.cps_append,Array.size_append,Array.size_append,Array.size_append,Array.size_append]; omega) (by omega)
  refine wpAny_Constant_str ⟨_,_,rfl,hlast,hlast,?_⟩
  rw [q_text]
  exact k ((σ₂.toks (σ₂.s.toks + 1)).toks _) _ (.at (.str ⟨([61,63] ++ a.cps.toList ++ [63,113,63] ++ b.cps.toList ++ [63,61]).toArray⟩)) ((t₂.trans (σ₂.toks_to _)).trans (St.toks_to _ _)) (by show Φ _ σ₂.f σ₂.H; rw [f2,H2]; exact e) ⟨_,rfl⟩
inductive Dec (Ψ : Str → Prop) : V → Prop
  | mk (cc : UInt8) (cs : List UInt8) (z : Str) (n : Nat) (hd : ∀ id,Builtin._codecs.runDecoder id Builtin._codecs.latin1Decoder none true (cc :: cs).toArray 0 [] = pure (z.cps,n)) (hz : z.length ≤ 10) (e : Ψ z) : Dec Ψ (.at (.bytes (cc :: cs).toArray))
theorem ok_decode {x : V} {f : Fm} {H : Hp} {Φ : V → Fm → Hp → Prop} (e : ok (kiy x) f H Φ) : Dec (fun z => Φ (.at (.str z)) f H) x := by
  cases x with
  | tup _ => exact ka4 e
  | «at» x => cases x with
    | bytes b =>
      obtain ⟨b⟩ := b
      cases b with
      | nil => exact ka4 e
      | cons x b => cases b with
        | nil => exact .mk x [] ⟨#[x.toNat]⟩ 1 (fun _ => Dc.run1) (by show (1 : Nat) ≤ 10; decide) (kao e)
        | cons y b => cases b with
          | nil => exact .mk x [y] ⟨#[x.toNat,y.toNat]⟩ 2 (fun _ => Dc.run2) (by show (2 : Nat) ≤ 10; decide) (kao e)
          | cons _ _ => exact ka4 e
    | _ => exact ka4 e
theorem re_decode {o : Expr} {j : Nat} {ap pos cp : Pos} {a : M V} (ha : RE g sc q d o a) (hbase : ∀ env,attributeBase o "decode" env (eval o env) = eval o env := by intro _; rfl) (hline : (ap.endLine == pos.line) = true := by rfl)
    : RE g sc q d (.Call (.Attribute o "decode" ap) [.Constant (.str "latin1") j cp] [] pos) (app1 kiy a) := by
  intro z σ Φ E Q e k
  refine wpAny_Call_method1_late (hbase z.env) hline rfl (ha z σ _ E _ (kae e) fun σ₁ lv v t₁ e₁ rl => ?_)
  obtain ⟨cc,cs,zz,n,hd,hz,e₂⟩ := ok_decode e₁
  obtain ⟨t,rfl⟩ := rl
  refine ⟨"bytes","bytes.decode",FB.plainAttrs_bytes,FB.slot_bytes_decode,FB.type_bytes_decode,typeIs_bytes _ _ _,(fun b eb => nomatch eb),?_⟩
  refine Calls.callWith_builtin rfl (Calls.evalArgs_plain (Calls.spliced_cons (wpAny_Constant_str (Calls.spliced_nil ?_))))
  exact call_meets FB.slot_bytes_decode (typeIs_bytes _ _ _) FB.entry_bytes_decode (Dc.args2 _ _) (Dc.meets_decode hd) ⟨by rw [sizeLine_eq]; omega,fun t' k' => k (σ₁.toks k') _ _ (t₁.trans (σ₁.toks_to _)) e₂ ⟨t',rfl⟩⟩
inductive Tra (Ψ : V → Prop) : V → Prop
  | mk (x : Str) (hx : ∀ c ∈ x.cps.toList,c < 256) (hn : x.cps.size ≠ 0) (hsz : x.cps.size < 1000) (e : Ψ (.at (.str ⟨(x.cps.toList.flatMap sign).toArray⟩))) : Tra Ψ (.at (.str x))
theorem ok_translate {x : V} {f : Fm} {H : Hp} {Φ : V → Fm → Hp → Prop} (e : ok (translate x) f H Φ) : Tra (fun v => Φ v f H) x := by
  cases x with
  | tup _ => exact ka4 e
  | «at» x => cases x with
    | str x =>
      obtain ⟨hc,e1⟩ := kfh e
      simp only [Bool.and_eq_true,decide_eq_true_eq] at hc
      refine .mk x (fun c hm => ?_) hc.2.1 hc.2.2 (kao e1)
      have := Array.all_eq_true'.mp hc.1 c (Array.mem_toList_iff.mp hm)
      simpa using this
    | _ => exact ka4 e
theorem re_translate {o : Expr} {ap pos np : Pos} {a : M V} {T : Addr} (Hm : HM g.K T) (hx : sc.names.lookup ("_QUOPRI_HEADER_MAP" : Str) = some .globalImplicit) (ha : RE g sc q d o a) (hbase : ∀ env,attributeBase o "translate" env (eval o env) = eval o env := by intro _; rfl) (hline : (ap.endLine == pos.line) = true := by rfl)
    : RE g sc q d (.Call (.Attribute o "translate" ap) [.Name "_QUOPRI_HEADER_MAP" np] [] pos) (app1 translate a) := by
  intro z σ Φ E Q e k
  refine wpAny_Call_method1_late (hbase z.env) hline rfl (ha z σ _ E _ (kae e) fun σ₁ lv v t₁ e₁ rl => ?_)
  obtain ⟨x,hc,hn,hsz,e₂⟩ := ok_translate e₁
  obtain ⟨t,rfl⟩ := rl
  refine ⟨"str","str.translate",F.plainAttrs_str,F.slot_str_translate,F.type_str_translate,typeIs_str _ _ _,(fun b eb => nomatch eb),?_⟩
  refine Calls.callWith_builtin rfl (Calls.evalArgs_plain (Calls.spliced_cons (kg2 σ₁ hx Hm.glob (Calls.spliced_nil ?_))))
  obtain ⟨items,n,hT,hit⟩ := Hm.obj
  refine wpAny_call_entry F.slot_str_translate (typeIs_str _ _ _) F.entry_str_translate ?_ (F.args_str_translate_2 _ _)
  exact kjg ⟨_,σ₁.kin _ _ hT,rfl,n,rfl⟩ hit hc hn hsz fun t' tk => ⟨_,rfl,k (σ₁.toks tk) _ _ (t₁.trans (σ₁.toks_to _)) e₂ ⟨t',rfl⟩⟩
theorem vs_tup {ρ : RM} {h : Heap} {l : List At} {rest : List Value} (r : VsR ρ h (l.map V.at) rest) : VR ρ (h.push (ki6 rest)) (.tup l) (.ref h.objs.size) :=
  ⟨_,rest,rfl,Heap.get?_push_size _ rfl,kje r⟩
theorem binds_star {fd : FuncData} {ps : List Str} (hps : ps.length = 3) (hb : ∀ (v0 v1 : Value) (rest : List Value),bindArgs fd ⟨v0 :: v1 :: rest,[]⟩ = (newTuple rest >>= fun t => pure (ps.zip [v0,v1,t]))) :
    Binds g fd ps (fun n => 2 ≤ n ∧ n ≤ 2000) gStar := by
  intro h ρ s vs vs' vals hs hn hbase r hg A' E Q k
  subst hs
  cases r with
  | nil => exact absurd hn.1 (by simp)
  | cons r0 r =>
    cases r with
    | nil => exact absurd hn.1 (by simp)
    | cons r1 r =>
      rename_i x v0 y v1 ys rest
      unfold gStar at hg
      simp only [Option.map_eq_some_iff] at hg
      obtain ⟨l,hl,rfl⟩ := hg
      rw [hb]
      have hrl := Paired.length r
      have hn2 := hn.2
      simp only [List.length_cons] at hn2
      refine wpAny_bind (wpAny_newTuple ?_ (by rw [sizeLine_eq]; omega))
      have e := kep hl
      subst e
      exact wpAny_pure (k _ [v0,v1,.ref s.heap.objs.size] (fun _ _ q => Heap.get?_push_of_some _ q) (.cons (kg3 r0 _) (.cons (kg3 r1 _) (.cons (vs_tup r) .nil))) (by rw [hps]; rfl))
theorem binds_var {fd : FuncData} {ps : List Str} (hps : ps.length = 2) (hb : ∀ (v0 v1 : Value),bindArgs fd ⟨[v0,v1],[]⟩ = (newTuple [v1] >>= fun t => pure (ps.zip [v0,t]))) :
    Binds g fd ps (· = 2) gVar := by
  intro h ρ s vs vs' vals hs hn hbase r hg A' E Q k
  subst hs
  cases r with
  | nil => cases hn
  | cons r0 r =>
    cases r with
    | nil => cases hn
    | cons r1 r =>
      cases r with
      | cons r2 r => exact absurd hn (by simp)
      | nil =>
        rename_i x v0 y v1
        cases y with
        | «at» a =>
          cases hg
          rw [hb]
          refine wpAny_bind (wpAny_newTuple ?_ (by rw [sizeLine_eq]; simp))
          exact wpAny_pure (k _ [v0,.ref s.heap.objs.size] (fun _ _ q => Heap.get?_push_of_some _ q) (.cons (kg3 r0 _) (.cons (vs_tup (l := [a]) (.cons r1 .nil)) .nil)) (by rw [hps]; rfl))
        | tup _ => cases hg
end
end Mine
namespace Mine
open PySem PySem.W PySem.Calls PyProof.Rows
noncomputable abbrev pw : Program := PySem.Challenge.pw_oc0217_01
noncomputable def nth {α : Type} : List α → Nat → Option α
  | [],_ => none
  | a :: _,0 => some a
  | _ :: r,n + 1 => nth r n
noncomputable def stA (p : Program) (i : Nat) : Option Stmt := nth p.main.body i
noncomputable def stB (p : Program) (i j : Nat) : Option Stmt := match stA p i with
  | some (.ClassDef _ _ _ b _ _ _ _ _ _ _) => nth b j
  | _ => none
noncomputable def fnA : Option Stmt → Arguments
  | some (.FunctionDef _ a _ _ _ _ _ _ _ _) => a
  | _ => default
noncomputable def fnB : Option Stmt → List Stmt
  | some (.FunctionDef _ _ b _ _ _ _ _ _ _) => b
  | _ => []
noncomputable def fnS : Option Stmt → Scope
  | some (.FunctionDef _ _ _ _ _ _ s _ _ _) => s
  | _ => default
noncomputable def scF (o : Option Stmt) (cells : List Str) : Sc := ⟨(fnS o).names,cells,true⟩
noncomputable def scC (scope : Scope) (cells : List Str) : Sc := ⟨relab scope.names,cells,false⟩
noncomputable def ndB : List (Str × NameKind) → Bool
  | [] => true
  | x :: r => !(r.any fun y => y.1 == x.1) && ndB r
theorem kbk : ∀ {l : List (Str × NameKind)},ndB l = true → (l.map (·.1)).Nodup
  | [],_ => .nil
  | x :: r,h => by
    obtain ⟨h1,h2⟩ := Bool.and_eq_true_iff.mp h
    rw [List.map_cons,List.nodup_cons]
    refine ⟨fun hm => ?_,kbk h2⟩
    obtain ⟨y,hy,e⟩ := List.mem_map.mp hm
    have : (r.any fun y => y.1 == x.1) = true := List.any_eq_true.mpr ⟨y,hy,beq_iff_eq.mpr e⟩
    rw [this] at h1; cases h1
noncomputable def frB (sc : Sc) : List (Str × NameKind) → List (Option Nat) → Bool
  | [],[] => true
  | (x,k) :: r,some j :: t => k == .free && sc.names[j]? == some (x,.cell) && frB sc r t
  | (x,k) :: r,none :: t => k != .free && frB sc r t
  | _,_ => false
theorem frB_at {sc : Sc} : ∀ {l : List (Str × NameKind)} {fr : List (Option Nat)},frB sc l fr = true → fr.length = l.length ∧ ∀ (i : Nat) x k,l[i]? = some (x,k) → (k = NameKind.free ∧ ∃ j : Nat,fr[i]? = some (some j) ∧ sc.names[j]? = some (x,NameKind.cell)) ∨ (k ≠ NameKind.free ∧ fr[i]? = some none)
  | [],[],_ => ⟨rfl,fun i x k h => by simp at h⟩
  | [],_ :: _,h => by cases h
  | (_,_) :: _,[],h => nomatch h
  | (x,k) :: r,o :: t,h => by
    have hh : frB sc r t = true ∧ ((k = NameKind.free ∧ ∃ j : Nat,o = some j ∧ sc.names[j]? = some (x,NameKind.cell)) ∨ (k ≠ NameKind.free ∧ o = none)) := by
      cases o with
      | none =>
        obtain ⟨h1,h2⟩ := Bool.and_eq_true_iff.mp (show (k != .free && frB sc r t) = true from h)
        exact ⟨h2,.inr ⟨by simpa using h1,rfl⟩⟩
      | some j =>
        obtain ⟨h1,h2⟩ := Bool.and_eq_true_iff.mp (show (k == .free && sc.names[j]? == some (x,.cell) && frB sc r t) = true from h)
        obtain ⟨h3,h4⟩ := Bool.and_eq_true_iff.mp h1
        exact ⟨h2,.inl ⟨beq_iff_eq.mp h3,j,rfl,beq_iff_eq.mp h4⟩⟩
    obtain ⟨e1,e2⟩ := frB_at hh.1
    refine ⟨by simp [e1],fun i y k' hi => ?_⟩
    cases i with
    | zero =>
      simp only [List.getElem?_cons_zero,Option.some.injEq,Prod.mk.injEq] at hi ⊢
      obtain ⟨rfl,rfl⟩ := hi
      exact hh.2
    | succ i => simp only [List.getElem?_cons_succ] at hi ⊢; exact e2 i y k' hi
noncomputable def compB (sc : Sc) (scope : Scope) (cells : List Str) (fr : List (Option Nat)) : Bool :=
  scope.kind == .function && frB sc scope.names fr && ndB scope.names && ndB sc.names && cells.all fun x => scope.names.any fun y => y.1 == x && y.2 == .cell
theorem kf4 {sc : Sc} {scope : Scope} {cells : List Str} {fr : List (Option Nat)} (h : compB sc scope cells fr = true) : kkf sc (scC scope cells) scope fr := by
  unfold compB at h
  simp only [Bool.and_eq_true] at h
  obtain ⟨⟨⟨⟨h1,h2⟩,h3⟩,h4⟩,h5⟩ := h
  obtain ⟨e1,e2⟩ := frB_at h2
  refine ⟨by simpa using h1,rfl,fun i x hx => ?_,fun i x k hx hk => ?_,e1,kbk h3,kbk h4,fun x hx => ?_,rfl⟩
  · rcases e2 i x _ hx with ⟨_,h⟩ | ⟨h,_⟩
    · exact h
    · exact absurd rfl h
  · rcases e2 i x _ hx with ⟨h,_⟩ | ⟨_,h⟩
    · exact absurd h hk
    · exact h
  · obtain ⟨y,hy,e⟩ := List.any_eq_true.mp (List.all_eq_true.mp h5 x hx)
    obtain ⟨a,b⟩ := Bool.and_eq_true_iff.mp e
    have ea := beq_iff_eq.mp a
    have eb := beq_iff_eq.mp b
    obtain ⟨y1,y2⟩ := y
    dsimp only at ea eb
    subst ea eb
    exact hy
section
variable {g : Gl} {sc sc' : Sc} {q : Bool} {d : Nat}
noncomputable def gHdr : List V → Option (List V)
  | [x] => some [x,.at (.str "iso-8859-1")]
  | _ => none
theorem re_hdr {x : Str} {p pos : Pos} {arg : Expr} {a : M V} {n : Nat} {m : M AF} {fv : Value} (hx : sc.names.lookup x = some .globalImplicit) (hv : gval g.K x = some fv) (hk : kept g.K fv = true) (ha : RA g sc q d pos [arg] (all [a])) (hm : CallOk g q d fv 1 (kkt gHdr n m))
    (hst : ∀ env,(backTo pos (starEach [arg] env)).any (·.1) = false := by intro _; rfl) (hd : (x == ("__debug__" : Str)) = false := by decide) : RE g sc q d (.Call (.Name x p) [arg] [] pos) (kfk n m [a,cst (.str "iso-8859-1")]) := by
  have e : kfk n m [a,cst (.str "iso-8859-1")] = bnd (all [a]) (kkt gHdr n m) := by
    funext f h
    unfold kfk all bnd
    cases a f h <;> rfl
  rw [e]
  exact kc5 hx hv hk ha hm hst hd
theorem ra_int {p p' : Pos} {i : Int} {j : Nat} {rest : List Expr} {l : List (M V)} (hb : RA g sc q d p rest (all l)) : RA g sc q d p (.Constant (.int i) j p' :: rest) (all (cst (.int i) :: l)) :=
  kau kbg hb
theorem swC {elt : Expr} {gens : List Comprehension} {scope : Scope} {pos px : Pos} {x : Str} {l : Nat} {env : Env} (h : env.kindOf x = some .cell) : swapsWith (.ListComp elt gens scope pos) (some (.Name x px)) l env = pure false := by
  show (pure (env.blockKind == .function && env.kindOf x == some .local && px.line == pos.line && !(scope.names.any fun p => p.1 == x && (p.2 == .local || p.2 == .cell))) : Sem Bool) = pure false
  rw [h]
  have : (some NameKind.cell == some NameKind.local) = false := rfl
  rw [this,Bool.and_false]; rfl
end
noncomputable def fnTab : List (Str × Addr) := [("header_encode",45),("heappush",177),("heappop",184),("_siftdown",191),("_siftup",198),("_law_rows",205),("_law_place",212),("_law_in_order",217),("_law_rounds",222),("_law_piles",227),("_law_lesser_yet",234),("_law_comes_so",239),("law",244),("_NodeInfo",69),("TopologicalSorter",166)]
noncomputable def biTab : List (Str × Value) := [("len",.builtin "len"),("sorted",.builtin "sorted"),("iter",.builtin "iter"),("tuple",.type "tuple"),("bool",.type "bool"),("set",.type "set"),("bytes",.type "bytes"),("range",.type "range"),("StopIteration",.type "StopIteration")]
noncomputable def meTab : List (Str × Addr) := [("_get_nodeinfo",109),("add",116),("prepare",121),("get_ready",128),("is_active",135),("done",149),("_find_cycle",156)]
structure Kf (K : Frag) : Prop where
  fn : ∀ x a,fnTab.lookup x = some a → gval K x = some (.ref a)
  kp : ∀ a,(fnTab.any fun e => e.2 == a) = true → keepIn K (.ref a) = true
  bi : ∀ x v,biTab.lookup x = some v → gval K x = some v
  out : gval K "_NODE_OUT" = some (.int (-1) 1752)
  dn : gval K "_NODE_DONE" = some (.int (-2) 1755)
  me : ∀ x a,meTab.lookup x = some a → Meth K x a
  mkS : Mk K 166 102
  mkN : Mk K 69 65
  hm : HM K 29
end Mine
set_option maxHeartbeats 400000
namespace Mine
open PySem PySem.W PySem.Calls PyProof.Rows
section
variable {g : Gl}
noncomputable def sc_header_encode : Sc := scF (stA pw 12) []
theorem kb1 : (sc_header_encode.names.map (·.1)).Nodup := kbk (by kernel_rfl)
theorem ki3 (F : Kf g.K) : RB g sc_header_encode true 0 (fnB (stA pw 12)) kc0 := by
  refine kag ?_ ?_
  · exact (kdt (rt_not (khd (kac kb1 (by kernel_rfl) (by kernel_rfl)))) (kat (kbr re_str)) kck)
  refine kag ?_ ?_
  · refine kar ?_ ?_ ?_ ?_
    · exact kb1
    · kernel_rfl
    · exact (re_translate F.hm (by kernel_rfl) (re_decode (kac kb1 (by kernel_rfl) (by kernel_rfl))))
    · intro _; kernel_rfl
  refine kat ?_
  exact (kbr (re_joined (kac kb1 (by kernel_rfl) (by kernel_rfl)) (kac kb1 (by kernel_rfl) (by kernel_rfl))))
abbrev kgm (g : Gl) : Prop := CallOk g true 1 (.ref 45) 1 (kkt gHdr 4 kc0)
noncomputable def sc_NodeInfo_init : Sc := scF (stB pw 19 1) []
theorem kcb : (sc_NodeInfo_init.names.map (·.1)).Nodup := kbk (by kernel_rfl)
theorem ki4 (F : Kf g.K) : RB g sc_NodeInfo_init true 0 (fnB (stB pw 19 1)) kdp := by
  refine kag ?_ ?_
  · exact (kcr (kac kcb (by kernel_rfl) (by kernel_rfl)) (kac kcb (by kernel_rfl) (by kernel_rfl)))
  refine kag ?_ ?_
  · exact (kcr (kac kcb (by kernel_rfl) (by kernel_rfl)) kbg)
  refine kat ?_
  exact (kcr (kac kcb (by kernel_rfl) (by kernel_rfl)) (kco kbh (by decide)))
abbrev kgn (g : Gl) : Prop := CallOk g true 2 (.ref 69) 1 (make1 (.node none none none) 2 kdp)
noncomputable def sc_TopologicalSorter_get_nodeinfo : Sc := scF (stB pw 21 1) []
theorem kal : (sc_TopologicalSorter_get_nodeinfo.names.map (·.1)).Nodup := kbk (by kernel_rfl)
theorem kds (F : Kf g.K) (c_NodeInfo_init : kgn g) : RB g sc_TopologicalSorter_get_nodeinfo true 2 (fnB (stB pw 21 1)) ka8 := by
  refine kag ?_ ?_
  · exact (kdt (kbx (re_walrus kal (by kernel_rfl) (re_dget (kb5 (kac kal (by kernel_rfl) (by kernel_rfl))) (kac kal (by kernel_rfl) (by kernel_rfl)))) kfg) (kat (rs_put2 kal (by kernel_rfl) (kb5 (kac kal (by kernel_rfl) (by kernel_rfl))) (kac kal (by kernel_rfl) (by kernel_rfl)) (re_make (by kernel_rfl) (F.fn _ _ (by kernel_rfl)) (F.kp _ (by kernel_rfl)) (kau (kac kal (by kernel_rfl) (by kernel_rfl)) kbh) (c_NodeInfo_init.weaken (by decide)) (by intro _; rfl) (by kernel_rfl)))) kck)
  refine kat ?_
  exact (kbr (kac kal (by kernel_rfl) (by kernel_rfl)))
abbrev kce (g : Gl) : Prop := CallOk g true 3 (.ref 109) 2 (call 4 ka8)
noncomputable def sc_TopologicalSorter_add : Sc := scF (stB pw 21 2) []
theorem kak : (sc_TopologicalSorter_add.names.map (·.1)).Nodup := kbk (by kernel_rfl)
theorem kfs (F : Kf g.K) (c_TopologicalSorter_get_nodeinfo : kce g) : RB g sc_TopologicalSorter_add true 3 (fnB (stB pw 21 2)) kb6 := by
  refine kag ?_ ?_
  · exact (kdt (kbx (kb5 (kac kak (by kernel_rfl) (by kernel_rfl))) kfg) (kat kew) kck)
  refine kag ?_ ?_
  · refine kar ?_ ?_ ?_ ?_
    · exact kak
    · kernel_rfl
    · exact (kft (F.me _ _ (by kernel_rfl)) (kac kak (by kernel_rfl) (by kernel_rfl)) (kau (kac kak (by kernel_rfl) (by kernel_rfl)) kbh) (c_TopologicalSorter_get_nodeinfo.weaken (by decide)))
    · intro _; kernel_rfl
  refine kag ?_ ?_
  · exact (kgq (kac kak (by kernel_rfl) (by kernel_rfl)) (kbs (by kernel_rfl) (F.bi _ _ (by kernel_rfl)) (by kernel_rfl) (kac kak (by kernel_rfl) (by kernel_rfl)) kfb (by intro _; rfl) (by kernel_rfl)))
  refine kat ?_
  exact (kfo (kcy (kac kak (by kernel_rfl) (by kernel_rfl))) (kbi kak (by kernel_rfl)) (kag (kar kak (by kernel_rfl) (kft (F.me _ _ (by kernel_rfl)) (kac kak (by kernel_rfl) (by kernel_rfl)) (kau (kac kak (by kernel_rfl) (by kernel_rfl)) kbh) (c_TopologicalSorter_get_nodeinfo.weaken (by decide))) (by intro _; kernel_rfl)) (kat (kby (kcg (kb5 (kac kak (by kernel_rfl) (by kernel_rfl))) (kac kak (by kernel_rfl) (by kernel_rfl)))))))
abbrev kdq (g : Gl) : Prop := CallGen g true 4 (.ref 116) (fun n => 2 ≤ n ∧ n ≤ 2000) (kkt gStar 8 kb6)
noncomputable def sc_TopologicalSorter_init : Sc := scF (stB pw 21 0) []
theorem kap : (sc_TopologicalSorter_init.names.map (·.1)).Nodup := kbk (by kernel_rfl)
theorem kfl (F : Kf g.K) (c_TopologicalSorter_add : kdq g) : RB g sc_TopologicalSorter_init true 4 (fnB (stB pw 21 0)) kbb := by
  refine kag ?_ ?_
  · exact (kcr (kac kap (by kernel_rfl) (by kernel_rfl)) re_dict0)
  refine kag ?_ ?_
  · exact (kcr (kac kap (by kernel_rfl) (by kernel_rfl)) kfg)
  refine kag ?_ ?_
  · exact (kcr (kac kap (by kernel_rfl) (by kernel_rfl)) kbg)
  refine kag ?_ ?_
  · exact (kcr (kac kap (by kernel_rfl) (by kernel_rfl)) kbg)
  refine kat ?_
  exact (kdt (kbx (kac kap (by kernel_rfl) (by kernel_rfl)) kfg) (kat (kfo (rsrc_items (kac kap (by kernel_rfl) (by kernel_rfl))) (kjd kap (by kernel_rfl) (by kernel_rfl)) (kat (kby (re_star (F.me _ _ (by kernel_rfl)) (kac kap (by kernel_rfl) (by kernel_rfl)) (kac kap (by kernel_rfl) (by kernel_rfl)) (kac kap (by kernel_rfl) (by kernel_rfl)) (c_TopologicalSorter_add.weaken (by decide))))))) kck)
abbrev kci (g : Gl) : Prop := CallOk g true 6 (.ref 166) 1 (make1 (.inst []) 4 kbb)
noncomputable def sc_TopologicalSorter_find_cycle : Sc := scF (stB pw 21 8) []
theorem kaa : (sc_TopologicalSorter_find_cycle.names.map (·.1)).Nodup := kbk (by kernel_rfl)
theorem kd8 (F : Kf g.K) : RB g sc_TopologicalSorter_find_cycle true 0 (fnB (stB pw 21 8)) kbn := by
  refine kag ?_ ?_
  · refine kar ?_ ?_ ?_ ?_
    · exact kaa
    · kernel_rfl
    · exact (kb5 (kac kaa (by kernel_rfl) (by kernel_rfl)))
    · intro _; kernel_rfl
  refine kag ?_ ?_
  · refine kar ?_ ?_ ?_ ?_
    · exact kaa
    · kernel_rfl
    · exact (kco kbh (by decide))
    · intro _; kernel_rfl
  refine kag ?_ ?_
  · refine kar ?_ ?_ ?_ ?_
    · exact kaa
    · kernel_rfl
    · exact (kco kbh (by decide))
    · intro _; kernel_rfl
  refine kag ?_ ?_
  · refine kar ?_ ?_ ?_ ?_
    · exact kaa
    · kernel_rfl
    · exact (kc5 (by kernel_rfl) (F.bi _ _ (by kernel_rfl)) (by kernel_rfl) (l := []) kbh ok_set (by intro _; rfl) (by kernel_rfl))
    · intro _; kernel_rfl
  refine kag ?_ ?_
  · refine kar ?_ ?_ ?_ ?_
    · exact kaa
    · kernel_rfl
    · exact re_dict0
    · intro _; kernel_rfl
  refine kag ?_ ?_
  · exact (kfo (kcy (kac kaa (by kernel_rfl) (by kernel_rfl))) (kbi kaa (by kernel_rfl)) (kag (kdt (kbx (kac kaa (by kernel_rfl) (by kernel_rfl)) (kac kaa (by kernel_rfl) (by kernel_rfl))) (kat kjb) kck) (kat (khe rt_true (kag (kdt (kbx (kac kaa (by kernel_rfl) (by kernel_rfl)) (kac kaa (by kernel_rfl) (by kernel_rfl))) (kat (kdt (kbx (kac kaa (by kernel_rfl) (by kernel_rfl)) (kac kaa (by kernel_rfl) (by kernel_rfl))) (kat kew) kck)) (kag (kby (re_sadd (kac kaa (by kernel_rfl) (by kernel_rfl)) (kac kaa (by kernel_rfl) (by kernel_rfl)))) (kag (kby (kcg (kac kaa (by kernel_rfl) (by kernel_rfl)) (re_next (kbs (by kernel_rfl) (F.bi _ _ (by kernel_rfl)) (by kernel_rfl) (kb5 (kb4 (kac kaa (by kernel_rfl) (by kernel_rfl)) (kac kaa (by kernel_rfl) (by kernel_rfl)))) ok_iter (by intro _; rfl) (by kernel_rfl))))) (kag (kk3 (kac kaa (by kernel_rfl) (by kernel_rfl)) (kac kaa (by kernel_rfl) (by kernel_rfl)) (kbs (by kernel_rfl) (F.bi _ _ (by kernel_rfl)) (by kernel_rfl) (kac kaa (by kernel_rfl) (by kernel_rfl)) kfb (by intro _; rfl) (by kernel_rfl))) (kat (kby (kcg (kac kaa (by kernel_rfl) (by kernel_rfl)) (kac kaa (by kernel_rfl) (by kernel_rfl))))))))) (kat (khe (khd (kac kaa (by kernel_rfl) (by kernel_rfl))) (kat (rs_try kaa (by kernel_rfl) rfl (by kernel_rfl) (F.bi _ _ (by kernel_rfl)) (kb4 (kac kaa (by kernel_rfl) (by kernel_rfl)) re_neg) (kag (rs_del (kac kaa (by kernel_rfl) (by kernel_rfl)) (re_pop (kac kaa (by kernel_rfl) (by kernel_rfl)))) (kat (kby (re_pop (kac kaa (by kernel_rfl) (by kernel_rfl)))))))) (kat klm)))) kck))))
  refine kat ?_
  exact (kbr kfg)
abbrev kcn (g : Gl) : Prop := CallOk g true 1 (.ref 156) 1 (call 11 kbn)
noncomputable def sc_TopologicalSorter_prepare : Sc := scF (stB pw 21 3) []
theorem kay : (sc_TopologicalSorter_prepare.names.map (·.1)).Nodup := kbk (by kernel_rfl)
theorem kes (F : Kf g.K) (c_TopologicalSorter_find_cycle : kcn g) : RB g sc_TopologicalSorter_prepare true 1 (fnB (stB pw 21 3)) kba := by
  refine kag ?_ ?_
  · exact (kdt (kbx (kb5 (kac kay (by kernel_rfl) (by kernel_rfl))) kfg) (kat kew) kck)
  refine kag ?_ ?_
  · exact (kcr (kac kay (by kernel_rfl) (by kernel_rfl)) (kdb (sc' := (scC _ [])) (kf4 (by kernel_rfl)) (rsrc_values (kb5 (kac kay (by kernel_rfl) (by kernel_rfl)))) (kea (kbi (kbk (by kernel_rfl)) (by kernel_rfl)) (by intro _ _; rfl) (kln (kbx (kb5 (kac (kbk (by kernel_rfl)) (by kernel_rfl) (by kernel_rfl))) kbg)) (kb5 (kac (kbk (by kernel_rfl)) (by kernel_rfl) (by kernel_rfl))))))
  refine kag ?_ ?_
  · refine kar ?_ ?_ ?_ ?_
    · exact kay
    · kernel_rfl
    · exact (kft (F.me _ _ (by kernel_rfl)) (kac kay (by kernel_rfl) (by kernel_rfl)) kbh (c_TopologicalSorter_find_cycle.weaken (by decide)))
    · intro _; kernel_rfl
  refine kat ?_
  exact (kdt (khd (kac kay (by kernel_rfl) (by kernel_rfl))) (kat kew) kck)
abbrev kb9 (g : Gl) : Prop := CallOk g true 2 (.ref 121) 1 (call 4 kba)
noncomputable def sc_TopologicalSorter_get_ready : Sc := scF (stB pw 21 4) []
theorem kaf : (sc_TopologicalSorter_get_ready.names.map (·.1)).Nodup := kbk (by kernel_rfl)
theorem kef (F : Kf g.K) : RB g sc_TopologicalSorter_get_ready true 0 (fnB (stB pw 21 4)) ka3 := by
  refine kag ?_ ?_
  · exact (kdt (kbx (kb5 (kac kaf (by kernel_rfl) (by kernel_rfl))) kfg) (kat kew) kck)
  refine kag ?_ ?_
  · refine kar ?_ ?_ ?_ ?_
    · exact kaf
    · kernel_rfl
    · exact (kbs (by kernel_rfl) (F.bi _ _ (by kernel_rfl)) (by kernel_rfl) (kb5 (kac kaf (by kernel_rfl) (by kernel_rfl))) ok_tuple (by intro _; rfl) (by kernel_rfl))
    · intro _; kernel_rfl
  refine kag ?_ ?_
  · refine kar ?_ ?_ ?_ ?_
    · exact kaf
    · kernel_rfl
    · exact (kb5 (kac kaf (by kernel_rfl) (by kernel_rfl)))
    · intro _; kernel_rfl
  refine kag ?_ ?_
  · exact (kfo (kcy (kac kaf (by kernel_rfl) (by kernel_rfl))) (kbi kaf (by kernel_rfl)) (kat (kcr (kb4 (kac kaf (by kernel_rfl) (by kernel_rfl)) (kac kaf (by kernel_rfl) (by kernel_rfl))) (klq (by kernel_rfl) F.out (by kernel_rfl)))))
  refine kag ?_ ?_
  · exact (kby (re_clear (kb5 (kac kaf (by kernel_rfl) (by kernel_rfl)))))
  refine kag ?_ ?_
  · exact (kgq (kac kaf (by kernel_rfl) (by kernel_rfl)) (kbs (by kernel_rfl) (F.bi _ _ (by kernel_rfl)) (by kernel_rfl) (kac kaf (by kernel_rfl) (by kernel_rfl)) kfb (by intro _; rfl) (by kernel_rfl)))
  refine kat ?_
  exact (kbr (kac kaf (by kernel_rfl) (by kernel_rfl)))
abbrev kb3 (g : Gl) : Prop := CallOk g true 1 (.ref 128) 1 (call 8 ka3)
noncomputable def sc_TopologicalSorter_is_active : Sc := scF (stB pw 21 5) []
theorem kbd : (sc_TopologicalSorter_is_active.names.map (·.1)).Nodup := kbk (by kernel_rfl)
theorem kee (F : Kf g.K) : RB g sc_TopologicalSorter_is_active true 0 (fnB (stB pw 21 5)) ka2 := by
  refine kag ?_ ?_
  · exact (kdt (kbx (kb5 (kac kbd (by kernel_rfl) (by kernel_rfl))) kfg) (kat kew) kck)
  refine kat ?_
  exact (kbr (re_or (re_cmp (kb5 (kac kbd (by kernel_rfl) (by kernel_rfl))) (kb5 (kac kbd (by kernel_rfl) (by kernel_rfl)))) (kbs (by kernel_rfl) (F.bi _ _ (by kernel_rfl)) (by kernel_rfl) (kb5 (kac kbd (by kernel_rfl) (by kernel_rfl))) ok_bool (by intro _; rfl) (by kernel_rfl))))
abbrev kb2 (g : Gl) : Prop := CallOk g true 1 (.ref 135) 1 (call 3 ka2)
noncomputable def sc_TopologicalSorter_done : Sc := scF (stB pw 21 7) []
theorem kad : (sc_TopologicalSorter_done.names.map (·.1)).Nodup := kbk (by kernel_rfl)
theorem kfm (F : Kf g.K) : RB g sc_TopologicalSorter_done true 0 (fnB (stB pw 21 7)) kbc := by
  refine kag ?_ ?_
  · exact (kdt (kbx (kb5 (kac kad (by kernel_rfl) (by kernel_rfl))) kfg) (kat kew) kck)
  refine kag ?_ ?_
  · refine kar ?_ ?_ ?_ ?_
    · exact kad
    · kernel_rfl
    · exact (kb5 (kac kad (by kernel_rfl) (by kernel_rfl)))
    · intro _; kernel_rfl
  refine kat ?_
  exact (kfo (kcy (kac kad (by kernel_rfl) (by kernel_rfl))) (kbi kad (by kernel_rfl)) (kag (kdt (kbx (re_walrus kad (by kernel_rfl) (re_dget (kac kad (by kernel_rfl) (by kernel_rfl)) (kac kad (by kernel_rfl) (by kernel_rfl)))) kfg) (kat kew) kck) (kag (kar kad (by kernel_rfl) (kb5 (kac kad (by kernel_rfl) (by kernel_rfl))) (by intro _; kernel_rfl)) (kag (kdt (kbx (kac kad (by kernel_rfl) (by kernel_rfl)) (klq (by kernel_rfl) F.out (by kernel_rfl))) (kat (kdt (kbx (kac kad (by kernel_rfl) (by kernel_rfl)) kbg) (kat kew) (kat (kdt (kbx (kac kad (by kernel_rfl) (by kernel_rfl)) (klq (by kernel_rfl) F.dn (by kernel_rfl))) (kat kew) (kat kew))))) kck) (kag (kcr (kac kad (by kernel_rfl) (by kernel_rfl)) (klq (by kernel_rfl) F.dn (by kernel_rfl))) (kag (kfo (kcy (kb5 (kac kad (by kernel_rfl) (by kernel_rfl)))) (kbi kad (by kernel_rfl)) (kag (kar kad (by kernel_rfl) (kb4 (kac kad (by kernel_rfl) (by kernel_rfl)) (kac kad (by kernel_rfl) (by kernel_rfl))) (by intro _; kernel_rfl)) (kag (kgq (kac kad (by kernel_rfl) (by kernel_rfl)) kbg) (kat (kdt (kbx (kb5 (kac kad (by kernel_rfl) (by kernel_rfl))) kbg) (kat (kby (kcg (kb5 (kac kad (by kernel_rfl) (by kernel_rfl))) (kac kad (by kernel_rfl) (by kernel_rfl))))) kck))))) (kat (kgq (kac kad (by kernel_rfl) (by kernel_rfl)) kbg))))))))
abbrev kcj (g : Gl) : Prop := CallOk g true 1 (.ref 149) 2 (kkt gVar 11 kbc)
noncomputable def sc_siftdown : Sc := scF (stA pw 25) []
theorem ka5 : (sc_siftdown.names.map (·.1)).Nodup := kbk (by kernel_rfl)
theorem w_siftdown (F : Kf g.K) : RB g sc_siftdown true 0 (fnB (stA pw 25)) keo := by
  refine kag ?_ ?_
  · refine kar ?_ ?_ ?_ ?_
    · exact ka5
    · kernel_rfl
    · exact (kb4 (kac ka5 (by kernel_rfl) (by kernel_rfl)) (kac ka5 (by kernel_rfl) (by kernel_rfl)))
    · intro _; kernel_rfl
  refine kag ?_ ?_
  · exact (khe (kbx (kac ka5 (by kernel_rfl) (by kernel_rfl)) (kac ka5 (by kernel_rfl) (by kernel_rfl))) (kag (kar ka5 (by kernel_rfl) (kdg (kdg (kac ka5 (by kernel_rfl) (by kernel_rfl)) kbg) kbg) (by intro _; kernel_rfl)) (kag (kar ka5 (by kernel_rfl) (kb4 (kac ka5 (by kernel_rfl) (by kernel_rfl)) (kac ka5 (by kernel_rfl) (by kernel_rfl))) (by intro _; kernel_rfl)) (kag (kdt (kbx (kac ka5 (by kernel_rfl) (by kernel_rfl)) (kac ka5 (by kernel_rfl) (by kernel_rfl))) (kag (kk3 (kac ka5 (by kernel_rfl) (by kernel_rfl)) (kac ka5 (by kernel_rfl) (by kernel_rfl)) (kac ka5 (by kernel_rfl) (by kernel_rfl))) (kag (kar ka5 (by kernel_rfl) (kac ka5 (by kernel_rfl) (by kernel_rfl)) (by intro _; kernel_rfl)) (kat kjb))) kck) (kat klm)))) kck)
  refine kat ?_
  exact (kk3 (kac ka5 (by kernel_rfl) (by kernel_rfl)) (kac ka5 (by kernel_rfl) (by kernel_rfl)) (kac ka5 (by kernel_rfl) (by kernel_rfl)))
abbrev kib (g : Gl) : Prop := CallOk g true 1 (.ref 191) 3 (call 6 keo)
noncomputable def sc_heappush : Sc := scF (stA pw 23) []
theorem ke3 : (sc_heappush.names.map (·.1)).Nodup := kbk (by kernel_rfl)
theorem w_heappush (F : Kf g.K) (c_siftdown : kib g) : RB g sc_heappush true 1 (fnB (stA pw 23)) kgv := by
  refine kag ?_ ?_
  · exact (kby (kcg (kac ke3 (by kernel_rfl) (by kernel_rfl)) (kac ke3 (by kernel_rfl) (by kernel_rfl))))
  refine kat ?_
  exact (kby (kc5 (by kernel_rfl) (F.fn _ _ (by kernel_rfl)) (F.kp _ (by kernel_rfl)) (kau (kac ke3 (by kernel_rfl) (by kernel_rfl)) (kau kbg (kau (kdg (kbs (by kernel_rfl) (F.bi _ _ (by kernel_rfl)) (by kernel_rfl) (kac ke3 (by kernel_rfl) (by kernel_rfl)) kfb (by intro _; rfl) (by kernel_rfl)) kbg) kbh))) (c_siftdown.weaken (by decide)) (by intro _; rfl) (by kernel_rfl)))
abbrev klh (g : Gl) : Prop := CallOk g true 2 (.ref 177) 2 (call 4 kgv)
noncomputable def sc_siftup : Sc := scF (stA pw 26) []
theorem kav : (sc_siftup.names.map (·.1)).Nodup := kbk (by kernel_rfl)
theorem w_siftup (F : Kf g.K) (c_siftdown : kib g) : RB g sc_siftup true 1 (fnB (stA pw 26)) ki1 := by
  refine kag ?_ ?_
  · refine kar ?_ ?_ ?_ ?_
    · exact kav
    · kernel_rfl
    · exact (kbs (by kernel_rfl) (F.bi _ _ (by kernel_rfl)) (by kernel_rfl) (kac kav (by kernel_rfl) (by kernel_rfl)) kfb (by intro _; rfl) (by kernel_rfl))
    · intro _; kernel_rfl
  refine kag ?_ ?_
  · refine kar ?_ ?_ ?_ ?_
    · exact kav
    · kernel_rfl
    · exact (kac kav (by kernel_rfl) (by kernel_rfl))
    · intro _; kernel_rfl
  refine kag ?_ ?_
  · refine kar ?_ ?_ ?_ ?_
    · exact kav
    · kernel_rfl
    · exact (kb4 (kac kav (by kernel_rfl) (by kernel_rfl)) (kac kav (by kernel_rfl) (by kernel_rfl)))
    · intro _; kernel_rfl
  refine kag ?_ ?_
  · refine kar ?_ ?_ ?_ ?_
    · exact kav
    · kernel_rfl
    · exact (kdg (kdg kbg (kac kav (by kernel_rfl) (by kernel_rfl))) kbg)
    · intro _; kernel_rfl
  refine kag ?_ ?_
  · exact (khe (kbx (kac kav (by kernel_rfl) (by kernel_rfl)) (kac kav (by kernel_rfl) (by kernel_rfl))) (kag (kar kav (by kernel_rfl) (kdg (kac kav (by kernel_rfl) (by kernel_rfl)) kbg) (by intro _; kernel_rfl)) (kag (kdt (kll (rl_and (kbx (kac kav (by kernel_rfl) (by kernel_rfl)) (kac kav (by kernel_rfl) (by kernel_rfl))) (rl_one (rt_not (kbx (kb4 (kac kav (by kernel_rfl) (by kernel_rfl)) (kac kav (by kernel_rfl) (by kernel_rfl))) (kb4 (kac kav (by kernel_rfl) (by kernel_rfl)) (kac kav (by kernel_rfl) (by kernel_rfl)))))))) (kat (kar kav (by kernel_rfl) (kac kav (by kernel_rfl) (by kernel_rfl)) (by intro _; kernel_rfl))) kck) (kag (kk3 (kac kav (by kernel_rfl) (by kernel_rfl)) (kac kav (by kernel_rfl) (by kernel_rfl)) (kb4 (kac kav (by kernel_rfl) (by kernel_rfl)) (kac kav (by kernel_rfl) (by kernel_rfl)))) (kag (kar kav (by kernel_rfl) (kac kav (by kernel_rfl) (by kernel_rfl)) (by intro _; kernel_rfl)) (kat (kar kav (by kernel_rfl) (kdg (kdg kbg (kac kav (by kernel_rfl) (by kernel_rfl))) kbg) (by intro _; kernel_rfl))))))) kck)
  refine kag ?_ ?_
  · exact (kk3 (kac kav (by kernel_rfl) (by kernel_rfl)) (kac kav (by kernel_rfl) (by kernel_rfl)) (kac kav (by kernel_rfl) (by kernel_rfl)))
  refine kat ?_
  exact (kby (kc5 (by kernel_rfl) (F.fn _ _ (by kernel_rfl)) (F.kp _ (by kernel_rfl)) (kau (kac kav (by kernel_rfl) (by kernel_rfl)) (kau (kac kav (by kernel_rfl) (by kernel_rfl)) (kau (kac kav (by kernel_rfl) (by kernel_rfl)) kbh))) (c_siftdown.weaken (by decide)) (by intro _; rfl) (by kernel_rfl)))
abbrev C_siftup (g : Gl) : Prop := CallOk g true 2 (.ref 198) 2 (call 9 ki1)
noncomputable def sc_heappop : Sc := scF (stA pw 24) []
theorem kch : (sc_heappop.names.map (·.1)).Nodup := kbk (by kernel_rfl)
theorem w_heappop (F : Kf g.K) (c_siftup : C_siftup g) : RB g sc_heappop true 2 (fnB (stA pw 24)) khr := by
  refine kag ?_ ?_
  · refine kar ?_ ?_ ?_ ?_
    · exact kch
    · kernel_rfl
    · exact (re_pop (kac kch (by kernel_rfl) (by kernel_rfl)))
    · intro _; kernel_rfl
  refine kag ?_ ?_
  · exact (kdt (khd (kac kch (by kernel_rfl) (by kernel_rfl))) (kag (kar kch (by kernel_rfl) (kb4 (kac kch (by kernel_rfl) (by kernel_rfl)) kbg) (by intro _; kernel_rfl)) (kag (kk3 (kac kch (by kernel_rfl) (by kernel_rfl)) kbg (kac kch (by kernel_rfl) (by kernel_rfl))) (kag (kby (kc5 (by kernel_rfl) (F.fn _ _ (by kernel_rfl)) (F.kp _ (by kernel_rfl)) (kau (kac kch (by kernel_rfl) (by kernel_rfl)) (kau kbg kbh)) (c_siftup.weaken (by decide)) (by intro _; rfl) (by kernel_rfl))) (kat (kbr (kac kch (by kernel_rfl) (by kernel_rfl))))))) kck)
  refine kat ?_
  exact (kbr (kac kch (by kernel_rfl) (by kernel_rfl)))
abbrev C_heappop (g : Gl) : Prop := CallOk g true 3 (.ref 184) 1 (call 4 khr)
noncomputable def sc_law_rows : Sc := scF (stA pw 28) []
theorem ka9 : (sc_law_rows.names.map (·.1)).Nodup := kbk (by kernel_rfl)
theorem w_law_rows (F : Kf g.K) : RB g sc_law_rows true 0 (fnB (stA pw 28)) kfr := by
  refine kag ?_ ?_
  · refine kar ?_ ?_ ?_ ?_
    · exact ka9
    · kernel_rfl
    · refine kco ?_ ?_
      · iterate 14 refine ra_int ?_
        exact kbh
      · decide
    · intro _; kernel_rfl
  refine kag ?_ ?_
  · refine kar ?_ ?_ ?_ ?_
    · exact ka9
    · kernel_rfl
    · exact (kco (kau (kco (kau kbg kbh) (by decide)) (kau (kco (kau kbg (kau kbg kbh)) (by decide)) kbh)) (by decide))
    · intro _; kernel_rfl
  refine kag ?_ ?_
  · exact (kfo (kcy (kac ka9 (by kernel_rfl) (by kernel_rfl))) (kbi ka9 (by kernel_rfl)) (kag (kar ka9 (by kernel_rfl) (kdg (kac ka9 (by kernel_rfl) (by kernel_rfl)) kbg) (by intro _; kernel_rfl)) (kag (kar ka9 (by kernel_rfl) (re_if (kbx (kdg (kdg (kac ka9 (by kernel_rfl) (by kernel_rfl)) kbg) kbg) kbg) (kco (kau (kb4 (kac ka9 (by kernel_rfl) (by kernel_rfl)) (kdg (kac ka9 (by kernel_rfl) (by kernel_rfl)) kbg)) kbh) (by decide)) (kco (kau (kb4 (kac ka9 (by kernel_rfl) (by kernel_rfl)) (kdg (kac ka9 (by kernel_rfl) (by kernel_rfl)) kbg)) (kau (kb4 (kac ka9 (by kernel_rfl) (by kernel_rfl)) (kdg (kac ka9 (by kernel_rfl) (by kernel_rfl)) kbg)) kbh)) (by decide))) (by intro _; kernel_rfl)) (kat (kdt (kbx (kac ka9 (by kernel_rfl) (by kernel_rfl)) (kac ka9 (by kernel_rfl) (by kernel_rfl))) (kat (kby (kcg (kac ka9 (by kernel_rfl) (by kernel_rfl)) (kac ka9 (by kernel_rfl) (by kernel_rfl))))) kck)))))
  refine kat ?_
  exact (kbr (kac ka9 (by kernel_rfl) (by kernel_rfl)))
abbrev C_law_rows (g : Gl) : Prop := CallOk g true 1 (.ref 205) 1 (call 6 kfr)
noncomputable def sc_law_place : Sc := scF (stA pw 29) []
theorem kbj : (sc_law_place.names.map (·.1)).Nodup := kbk (by kernel_rfl)
theorem w_law_place (F : Kf g.K) : RB g sc_law_place true 0 (fnB (stA pw 29)) kf1 := by
  refine kag ?_ ?_
  · refine kar ?_ ?_ ?_ ?_
    · exact kbj
    · kernel_rfl
    · exact (kco kbh (by decide))
    · intro _; kernel_rfl
  refine kag ?_ ?_
  · exact (kfo (kcy (kac kbj (by kernel_rfl) (by kernel_rfl))) (kbi kbj (by kernel_rfl)) (kat (kdt (kbx (kac kbj (by kernel_rfl) (by kernel_rfl)) kbg) (kat (kby (kcg (kac kbj (by kernel_rfl) (by kernel_rfl)) (kdg kbg kbg)))) (kat (kdt (kll (rl_or (kbx (kac kbj (by kernel_rfl) (by kernel_rfl)) (kco (by exact (kau kbg (by exact (kau kbg (by exact (kau kbg (by exact (kau kbg (by exact (kau kbg (by exact kbh))))))))))) (by decide))) (rl_or (rt_cmp2 kbg (kac kbj (by kernel_rfl) (by kernel_rfl)) kbg) (rl_or (rt_cmp2 kbg (kac kbj (by kernel_rfl) (by kernel_rfl)) kbg) (rl_one (rt_cmp2 kbg (kac kbj (by kernel_rfl) (by kernel_rfl)) kbg)))))) (kat (kby (kcg (kac kbj (by kernel_rfl) (by kernel_rfl)) (kdg (kac kbj (by kernel_rfl) (by kernel_rfl)) kbg)))) (kat (kby (kcg (kac kbj (by kernel_rfl) (by kernel_rfl)) (kdg (kdg kbg kbg) (kac kbj (by kernel_rfl) (by kernel_rfl)))))))))))
  refine kat ?_
  exact (kbr (kdg (kac kbj (by kernel_rfl) (by kernel_rfl)) (kco (kau (kdg kbg kbg) kbh) (by decide))))
abbrev kkg (g : Gl) : Prop := CallOk g true 1 (.ref 212) 1 (call 3 kf1)
noncomputable def sc_law_in_order : Sc := scF (stA pw 30) ["names"]
theorem kgg : (sc_law_in_order.names.map (·.1)).Nodup := kbk (by kernel_rfl)
theorem kkl (F : Kf g.K) : RB g sc_law_in_order true 0 (fnB (stA pw 30)) kc8 := by
  refine kat ?_
  exact (kbr (kdb (sc' := (scC _ [])) (kf4 (by kernel_rfl)) (kcy (kbs (by kernel_rfl) (F.bi _ _ (by kernel_rfl)) (by kernel_rfl) (kdb (sc' := (scC _ [])) (kf4 (by kernel_rfl)) (kel (by kernel_rfl) (F.bi _ _ (by kernel_rfl)) (kbs (by kernel_rfl) (F.bi _ _ (by kernel_rfl)) (by kernel_rfl) (kb0 kgg (by kernel_rfl) (by kernel_rfl)) kfb (by intro _; rfl) (by kernel_rfl)) (by intro _; rfl) (by kernel_rfl)) (kea (kbi (kbk (by kernel_rfl)) (by kernel_rfl)) (by intro _ _; rfl) khf (klp (kau (kb4 (kb0 (kbk (by kernel_rfl)) (by kernel_rfl) (by kernel_rfl)) (kac (kbk (by kernel_rfl)) (by kernel_rfl) (by kernel_rfl))) (kau (kac (kbk (by kernel_rfl)) (by kernel_rfl) (by kernel_rfl)) kbh)) (by decide)))) kgd (by intro _; rfl) (by kernel_rfl))) (loop_pair (kjd (kbk (by kernel_rfl)) (by kernel_rfl) (by kernel_rfl)) (kac (kbk (by kernel_rfl)) (by kernel_rfl) (by kernel_rfl)))))
abbrev kg0 (g : Gl) : Prop := CallOk g true 1 (.ref 217) 1 (call 4 kc8)
noncomputable def sc_law_rounds : Sc := scF (stA pw 31) ["waits"]
theorem kbe : (sc_law_rounds.names.map (·.1)).Nodup := kbk (by kernel_rfl)
theorem w_law_rounds (F : Kf g.K) (c_TopologicalSorter_done : kcj g) (c_TopologicalSorter_get_ready : kb3 g) (c_TopologicalSorter_init : kci g) (c_TopologicalSorter_is_active : kb2 g) (c_TopologicalSorter_prepare : kb9 g) : RB g sc_law_rounds true 6 (fnB (stA pw 31)) kff := by
  refine kag ?_ ?_
  · refine kar ?_ ?_ ?_ ?_
    · exact kbe
    · kernel_rfl
    · exact (re_make (by kernel_rfl) (F.fn _ _ (by kernel_rfl)) (F.kp _ (by kernel_rfl)) (kau (kjc (sc' := (scC _ [])) (kf4 (by kernel_rfl)) (kel (by kernel_rfl) (F.bi _ _ (by kernel_rfl)) (kbs (by kernel_rfl) (F.bi _ _ (by kernel_rfl)) (by kernel_rfl) (kb0 kbe (by kernel_rfl) (by kernel_rfl)) kfb (by intro _; rfl) (by kernel_rfl)) (by intro _; rfl) (by kernel_rfl)) (loop_dict (kbi (kbk (by kernel_rfl)) (by kernel_rfl)) (by intro _ _; rfl) (kac (kbk (by kernel_rfl)) (by kernel_rfl) (by kernel_rfl)) (kb4 (kb0 (kbk (by kernel_rfl)) (by kernel_rfl) (by kernel_rfl)) (kac (kbk (by kernel_rfl)) (by kernel_rfl) (by kernel_rfl))))) kbh) (c_TopologicalSorter_init.weaken (by decide)) (by intro _; rfl) (by kernel_rfl))
    · intro _; kernel_rfl
  refine kag ?_ ?_
  · exact (kby (kft (F.me _ _ (by kernel_rfl)) (kac kbe (by kernel_rfl) (by kernel_rfl)) kbh (c_TopologicalSorter_prepare.weaken (by decide))))
  refine kag ?_ ?_
  · refine kar ?_ ?_ ?_ ?_
    · exact kbe
    · kernel_rfl
    · exact (kco kbh (by decide))
    · intro _; kernel_rfl
  refine kag ?_ ?_
  · exact (khe (khd (kft (F.me _ _ (by kernel_rfl)) (kac kbe (by kernel_rfl) (by kernel_rfl)) kbh (c_TopologicalSorter_is_active.weaken (by decide)))) (kag (kar kbe (by kernel_rfl) (kft (F.me _ _ (by kernel_rfl)) (kac kbe (by kernel_rfl) (by kernel_rfl)) kbh (c_TopologicalSorter_get_ready.weaken (by decide))) (by intro _; kernel_rfl)) (kag (kby (kcg (kac kbe (by kernel_rfl) (by kernel_rfl)) (kbs (by kernel_rfl) (F.bi _ _ (by kernel_rfl)) (by kernel_rfl) (kac kbe (by kernel_rfl) (by kernel_rfl)) kgd (by intro _; rfl) (by kernel_rfl)))) (kat (kfo (kcy (kac kbe (by kernel_rfl) (by kernel_rfl))) (kbi kbe (by kernel_rfl)) (kat (kby (re_var1 (F.me _ _ (by kernel_rfl)) (kac kbe (by kernel_rfl) (by kernel_rfl)) (kac kbe (by kernel_rfl) (by kernel_rfl)) (c_TopologicalSorter_done.weaken (by decide))))))))) kck)
  refine kat ?_
  exact (kbr (kac kbe (by kernel_rfl) (by kernel_rfl)))
abbrev kij (g : Gl) : Prop := CallOk g true 7 (.ref 222) 1 (call 9 kff)
noncomputable def sc_law_piles : Sc := scF (stA pw 32) ["places","k"]
theorem kbl : (sc_law_piles.names.map (·.1)).Nodup := kbk (by kernel_rfl)
theorem w_law_piles (F : Kf g.K) : RB g sc_law_piles true 0 (fnB (stA pw 32)) kf2 := by
  refine kag ?_ ?_
  · refine kar ?_ ?_ ?_ ?_
    · exact kbl
    · kernel_rfl
    · exact (kco kbh (by decide))
    · intro _; kernel_rfl
  refine kag ?_ ?_
  · exact (kfo (kcy (kac kbl (by kernel_rfl) (by kernel_rfl))) (rbnd_cell kbl (by kernel_rfl) (by decide +kernel)) (kag (khw kbl (by kernel_rfl) (sc' := (scC _ [])) (kf4 (by kernel_rfl)) (kcy (kac kbl (by kernel_rfl) (by kernel_rfl))) (kea (kbi (kbk (by kernel_rfl)) (by kernel_rfl)) (by intro _ _; rfl) (kln (kbx (kb4 (kb0 (kbk (by kernel_rfl)) (by kernel_rfl) (by kernel_rfl)) (kb4 (kac (kbk (by kernel_rfl)) (by kernel_rfl) (by kernel_rfl)) re_neg)) (kb4 (kb0 (kbk (by kernel_rfl)) (by kernel_rfl) (by kernel_rfl)) (kb0 (kbk (by kernel_rfl)) (by kernel_rfl) (by kernel_rfl))))) (kac (kbk (by kernel_rfl)) (by kernel_rfl) (by kernel_rfl))) (by kernel_rfl)) (kat (kdt (kbx (kbs (by kernel_rfl) (F.bi _ _ (by kernel_rfl)) (by kernel_rfl) (kac kbl (by kernel_rfl) (by kernel_rfl)) kfb (by intro _; rfl) (by kernel_rfl)) (kbs (by kernel_rfl) (F.bi _ _ (by kernel_rfl)) (by kernel_rfl) (kac kbl (by kernel_rfl) (by kernel_rfl)) kfb (by intro _; rfl) (by kernel_rfl))) (kat (kby (kcg (kac kbl (by kernel_rfl) (by kernel_rfl)) (kco (kau (kb0 kbl (by kernel_rfl) (by kernel_rfl)) kbh) (by decide))))) (kat (kby (kcg (kb4 (kac kbl (by kernel_rfl) (by kernel_rfl)) (kbs (by kernel_rfl) (F.bi _ _ (by kernel_rfl)) (by kernel_rfl) (kac kbl (by kernel_rfl) (by kernel_rfl)) kfb (by intro _; rfl) (by kernel_rfl))) (kb0 kbl (by kernel_rfl) (by kernel_rfl)))))))))
  refine kat ?_
  exact (kbr (kdb (sc' := (scC _ [])) (kf4 (by kernel_rfl)) (kcy (kac kbl (by kernel_rfl) (by kernel_rfl))) (kea (kbi (kbk (by kernel_rfl)) (by kernel_rfl)) (by intro _ _; rfl) khf (kbs (by kernel_rfl) (F.bi _ _ (by kernel_rfl)) (by kernel_rfl) (kac (kbk (by kernel_rfl)) (by kernel_rfl) (by kernel_rfl)) kgd (by intro _; rfl) (by kernel_rfl)))))
abbrev kkh (g : Gl) : Prop := CallOk g true 1 (.ref 227) 2 (call 6 kf2)
noncomputable def sc_law_lesser_yet : Sc := scF (stA pw 33) []
theorem ka1 : (sc_law_lesser_yet.names.map (·.1)).Nodup := kbk (by kernel_rfl)
theorem kil (F : Kf g.K) : RB g sc_law_lesser_yet true 0 (fnB (stA pw 33)) kda := by
  refine kag ?_ ?_
  · refine kar ?_ ?_ ?_ ?_
    · exact ka1
    · kernel_rfl
    · exact (kco kbh (by decide))
    · intro _; kernel_rfl
  refine kag ?_ ?_
  · exact (kfo (kcy (kac ka1 (by kernel_rfl) (by kernel_rfl))) (kbi ka1 (by kernel_rfl)) (kat (kdt (kll (rl_or (kbx (kac ka1 (by kernel_rfl) (by kernel_rfl)) (kco kbh (by decide))) (rl_one (kbx (kb4 (kac ka1 (by kernel_rfl) (by kernel_rfl)) (kac ka1 (by kernel_rfl) (by kernel_rfl))) (kb4 (kac ka1 (by kernel_rfl) (by kernel_rfl)) (kb4 (kac ka1 (by kernel_rfl) (by kernel_rfl)) re_neg)))))) (kat (kby (kcg (kac ka1 (by kernel_rfl) (by kernel_rfl)) (kac ka1 (by kernel_rfl) (by kernel_rfl))))) kck)))
  refine kat ?_
  exact (kbr (kac ka1 (by kernel_rfl) (by kernel_rfl)))
abbrev kf5 (g : Gl) : Prop := CallOk g true 1 (.ref 234) 2 (call 4 kda)
noncomputable def sc_law_comes_so : Sc := scF (stA pw 34) ["waits"]
theorem kai : (sc_law_comes_so.names.map (·.1)).Nodup := kbk (by kernel_rfl)
theorem kkm (F : Kf g.K) (c_TopologicalSorter_done : kcj g) (c_TopologicalSorter_get_ready : kb3 g) (c_TopologicalSorter_init : kci g) (c_TopologicalSorter_is_active : kb2 g) (c_TopologicalSorter_prepare : kb9 g) (c_heappop : C_heappop g) (c_heappush : klh g) (c_law_lesser_yet : kf5 g) : RB g sc_law_comes_so true 6 (fnB (stA pw 34)) kc9 := by
  refine kag ?_ ?_
  · refine kar ?_ ?_ ?_ ?_
    · exact kai
    · kernel_rfl
    · exact (re_make (by kernel_rfl) (F.fn _ _ (by kernel_rfl)) (F.kp _ (by kernel_rfl)) (kau (kjc (sc' := (scC _ [])) (kf4 (by kernel_rfl)) (kel (by kernel_rfl) (F.bi _ _ (by kernel_rfl)) (kbs (by kernel_rfl) (F.bi _ _ (by kernel_rfl)) (by kernel_rfl) (kb0 kai (by kernel_rfl) (by kernel_rfl)) kfb (by intro _; rfl) (by kernel_rfl)) (by intro _; rfl) (by kernel_rfl)) (loop_dict (kbi (kbk (by kernel_rfl)) (by kernel_rfl)) (by intro _ _; rfl) (kac (kbk (by kernel_rfl)) (by kernel_rfl) (by kernel_rfl)) (kb4 (kb0 (kbk (by kernel_rfl)) (by kernel_rfl) (by kernel_rfl)) (kac (kbk (by kernel_rfl)) (by kernel_rfl) (by kernel_rfl))))) kbh) (c_TopologicalSorter_init.weaken (by decide)) (by intro _; rfl) (by kernel_rfl))
    · intro _; kernel_rfl
  refine kag ?_ ?_
  · exact (kby (kft (F.me _ _ (by kernel_rfl)) (kac kai (by kernel_rfl) (by kernel_rfl)) kbh (c_TopologicalSorter_prepare.weaken (by decide))))
  refine kag ?_ ?_
  · refine kar ?_ ?_ ?_ ?_
    · exact kai
    · kernel_rfl
    · exact (kco kbh (by decide))
    · intro _; kernel_rfl
  refine kag ?_ ?_
  · exact (kfo (kel (by kernel_rfl) (F.bi _ _ (by kernel_rfl)) (kbs (by kernel_rfl) (F.bi _ _ (by kernel_rfl)) (by kernel_rfl) (kac kai (by kernel_rfl) (by kernel_rfl)) kfb (by intro _; rfl) (by kernel_rfl)) (by intro _; rfl) (by kernel_rfl)) (kbi kai (by kernel_rfl)) (kag (kfo (kcy (kft (F.me _ _ (by kernel_rfl)) (kac kai (by kernel_rfl) (by kernel_rfl)) kbh (c_TopologicalSorter_get_ready.weaken (by decide)))) (kbi kai (by kernel_rfl)) (kat (kby (kc5 (by kernel_rfl) (F.fn _ _ (by kernel_rfl)) (F.kp _ (by kernel_rfl)) (kau (kac kai (by kernel_rfl) (by kernel_rfl)) (kau (klp (kau (kb4 (kac kai (by kernel_rfl) (by kernel_rfl)) (kac kai (by kernel_rfl) (by kernel_rfl))) (kau (kac kai (by kernel_rfl) (by kernel_rfl)) kbh)) (by decide)) kbh)) (c_heappush.weaken (by decide)) (by intro _; rfl) (by kernel_rfl))))) (kag (kdt (kbx (kbs (by kernel_rfl) (F.bi _ _ (by kernel_rfl)) (by kernel_rfl) (kdb (sc' := (scC _ [])) (kf4 (by kernel_rfl)) (kcy (kac kai (by kernel_rfl) (by kernel_rfl))) (loop_pair (kjd (kbk (by kernel_rfl)) (by kernel_rfl) (by kernel_rfl)) (kac (kbk (by kernel_rfl)) (by kernel_rfl) (by kernel_rfl)))) kgd (by intro _; rfl) (by kernel_rfl)) (kbs (by kernel_rfl) (F.bi _ _ (by kernel_rfl)) (by kernel_rfl) (kc5 (by kernel_rfl) (F.fn _ _ (by kernel_rfl)) (F.kp _ (by kernel_rfl)) (kau (re_cutFrom (kac kai (by kernel_rfl) (by kernel_rfl)) (kac kai (by kernel_rfl) (by kernel_rfl))) (kau (kac kai (by kernel_rfl) (by kernel_rfl)) kbh)) (c_law_lesser_yet.weaken (by decide)) (by intro _; rfl) (by kernel_rfl)) kgd (by intro _; rfl) (by kernel_rfl))) (kat (kbr re_bool)) kck) (kag (kar kai (by kernel_rfl) (kc5 (by kernel_rfl) (F.fn _ _ (by kernel_rfl)) (F.kp _ (by kernel_rfl)) (kau (kac kai (by kernel_rfl) (by kernel_rfl)) kbh) (c_heappop.weaken (by decide)) (by intro _; rfl) (by kernel_rfl)) (by intro _; kernel_rfl)) (kag (kdt (kbx (kac kai (by kernel_rfl) (by kernel_rfl)) (klp (kau (kb4 (kac kai (by kernel_rfl) (by kernel_rfl)) (kb4 (kac kai (by kernel_rfl) (by kernel_rfl)) (kac kai (by kernel_rfl) (by kernel_rfl)))) (kau (kb4 (kac kai (by kernel_rfl) (by kernel_rfl)) (kac kai (by kernel_rfl) (by kernel_rfl))) kbh)) (by decide))) (kat (kbr re_bool)) kck) (kat (kby (re_var1 (F.me _ _ (by kernel_rfl)) (kac kai (by kernel_rfl) (by kernel_rfl)) (kb4 (kac kai (by kernel_rfl) (by kernel_rfl)) kbg) (c_TopologicalSorter_done.weaken (by decide))))))))))
  refine kat ?_
  exact (kbr (re_and (re_cmp (kac kai (by kernel_rfl) (by kernel_rfl)) (kco kbh (by decide))) (re_not (kft (F.me _ _ (by kernel_rfl)) (kac kai (by kernel_rfl) (by kernel_rfl)) kbh (c_TopologicalSorter_is_active.weaken (by decide))))))
abbrev kg1 (g : Gl) : Prop := CallOk g true 7 (.ref 239) 4 (call 16 kc9)
noncomputable def sc_law : Sc := scF (stA pw 35) ["rows","words"]
theorem kc3 : (sc_law.names.map (·.1)).Nodup := kbk (by kernel_rfl)
theorem w_lawT (F : Kf g.K) (c_header_encode : kgm g) (c_law_comes_so : kg1 g) (c_law_in_order : kg0 g) (c_law_piles : kkh g) (c_law_place : kkg g) (c_law_rounds : kij g) : RB g sc_law true 7 ((fnB (stA pw 35)).drop 1) b_lawT := by
  refine kag ?_ ?_
  · exact (rs_assignC kc3 (by kernel_rfl) (by decide +kernel) (kdb (sc' := (scC _ [])) (kf4 (by kernel_rfl)) (kcy (kb0 kc3 (by kernel_rfl) (by kernel_rfl))) (kea (kbi (kbk (by kernel_rfl)) (by kernel_rfl)) (by intro _ _; rfl) khf (re_hdr (by kernel_rfl) (F.fn _ _ (by kernel_rfl)) (F.kp _ (by kernel_rfl)) (kau (kbs (by kernel_rfl) (F.bi _ _ (by kernel_rfl)) (by kernel_rfl) (kac (kbk (by kernel_rfl)) (by kernel_rfl) (by kernel_rfl)) ok_bytes (by intro _; rfl) (by kernel_rfl)) kbh) (c_header_encode.weaken (by decide)) (by intro _; rfl) (by kernel_rfl)))) (fun _ h => swC h))
  refine kag ?_ ?_
  · exact (khw kc3 (by kernel_rfl) (sc' := (scC _ [])) (kf4 (by kernel_rfl)) (kcy (kb0 kc3 (by kernel_rfl) (by kernel_rfl))) (kea (kbi (kbk (by kernel_rfl)) (by kernel_rfl)) (by intro _ _; rfl) khf (kc5 (by kernel_rfl) (F.fn _ _ (by kernel_rfl)) (F.kp _ (by kernel_rfl)) (kau (kac (kbk (by kernel_rfl)) (by kernel_rfl) (by kernel_rfl)) kbh) (c_law_place.weaken (by decide)) (by intro _; rfl) (by kernel_rfl))) (by kernel_rfl))
  refine kag ?_ ?_
  · exact (khw kc3 (by kernel_rfl) (sc' := (scC _ ["k"])) (kf4 (by kernel_rfl)) (kel (by kernel_rfl) (F.bi _ _ (by kernel_rfl)) (kbs (by kernel_rfl) (F.bi _ _ (by kernel_rfl)) (by kernel_rfl) (kb0 kc3 (by kernel_rfl) (by kernel_rfl)) kfb (by intro _; rfl) (by kernel_rfl)) (by intro _; rfl) (by kernel_rfl)) (kea (rbnd_cell (kbk (by kernel_rfl)) (by kernel_rfl) (by decide +kernel)) (by intro _ _; rfl) khf (kdb (sc' := (scC _ [])) (kf4 (by kernel_rfl)) (kel (by kernel_rfl) (F.bi _ _ (by kernel_rfl)) (kbs (by kernel_rfl) (F.bi _ _ (by kernel_rfl)) (by kernel_rfl) (kb0 (kbk (by kernel_rfl)) (by kernel_rfl) (by kernel_rfl)) kfb (by intro _; rfl) (by kernel_rfl)) (by intro _; rfl) (by kernel_rfl)) (kea (kbi (kbk (by kernel_rfl)) (by kernel_rfl)) (by intro _ _; rfl) (kln (kll (rl_and (kbx (kb4 (kb0 (kbk (by kernel_rfl)) (by kernel_rfl) (by kernel_rfl)) (kac (kbk (by kernel_rfl)) (by kernel_rfl) (by kernel_rfl))) (kb4 (kb0 (kbk (by kernel_rfl)) (by kernel_rfl) (by kernel_rfl)) (kb0 (kbk (by kernel_rfl)) (by kernel_rfl) (by kernel_rfl)))) (rl_one (kbx (kb4 (kb0 (kbk (by kernel_rfl)) (by kernel_rfl) (by kernel_rfl)) (kac (kbk (by kernel_rfl)) (by kernel_rfl) (by kernel_rfl))) (kb4 (kb0 (kbk (by kernel_rfl)) (by kernel_rfl) (by kernel_rfl)) (kb0 (kbk (by kernel_rfl)) (by kernel_rfl) (by kernel_rfl)))))))) (kac (kbk (by kernel_rfl)) (by kernel_rfl) (by kernel_rfl))))) (by kernel_rfl))
  refine kag ?_ ?_
  · refine kar ?_ ?_ ?_ ?_
    · exact kc3
    · kernel_rfl
    · exact (kc5 (by kernel_rfl) (F.fn _ _ (by kernel_rfl)) (F.kp _ (by kernel_rfl)) (kau (kb0 kc3 (by kernel_rfl) (by kernel_rfl)) kbh) (c_law_in_order.weaken (by decide)) (by intro _; rfl) (by kernel_rfl))
    · intro _; kernel_rfl
  refine kag ?_ ?_
  · refine kar ?_ ?_ ?_ ?_
    · exact kc3
    · kernel_rfl
    · exact (kc5 (by kernel_rfl) (F.fn _ _ (by kernel_rfl)) (F.kp _ (by kernel_rfl)) (kau (kac kc3 (by kernel_rfl) (by kernel_rfl)) kbh) (c_law_in_order.weaken (by decide)) (by intro _; rfl) (by kernel_rfl))
    · intro _; kernel_rfl
  refine kag ?_ ?_
  · exact (kdt (kbx (kc5 (by kernel_rfl) (F.fn _ _ (by kernel_rfl)) (F.kp _ (by kernel_rfl)) (kau (kac kc3 (by kernel_rfl) (by kernel_rfl)) kbh) (c_law_rounds.weaken (by decide)) (by intro _; rfl) (by kernel_rfl)) (kc5 (by kernel_rfl) (F.fn _ _ (by kernel_rfl)) (F.kp _ (by kernel_rfl)) (kau (kac kc3 (by kernel_rfl) (by kernel_rfl)) (kau (kac kc3 (by kernel_rfl) (by kernel_rfl)) kbh)) (c_law_piles.weaken (by decide)) (by intro _; rfl) (by kernel_rfl))) (kat (kbr re_bool)) kck)
  refine kat ?_
  exact (kbr (re_and (kc5 (by kernel_rfl) (F.fn _ _ (by kernel_rfl)) (F.kp _ (by kernel_rfl)) (kau (kac kc3 (by kernel_rfl) (by kernel_rfl)) (by exact (kau (kb0 kc3 (by kernel_rfl) (by kernel_rfl)) (by exact (kau (kac kc3 (by kernel_rfl) (by kernel_rfl)) (by exact (kau (kac kc3 (by kernel_rfl) (by kernel_rfl)) (by exact kbh)))))))) (c_law_comes_so.weaken (by decide)) (by intro _; rfl) (by kernel_rfl)) (kc5 (by kernel_rfl) (F.fn _ _ (by kernel_rfl)) (F.kp _ (by kernel_rfl)) (kau (kac kc3 (by kernel_rfl) (by kernel_rfl)) (by exact (kau (kb0 kc3 (by kernel_rfl) (by kernel_rfl)) (by exact (kau (kac kc3 (by kernel_rfl) (by kernel_rfl)) (by exact (kau (kb0 kc3 (by kernel_rfl) (by kernel_rfl)) (by exact kbh)))))))) (c_law_comes_so.weaken (by decide)) (by intro _; rfl) (by kernel_rfl))))
end
end Mine
namespace Mine
open PySem PySem.W PySem.Calls PyProof.Rows
abbrev zS (l : List Nat) (t : Nat) : Value := .str ⟨⟨l⟩⟩ t
abbrev zE (P : Params) (l : List Nat) (t : Nat) (v : Value) : DictEntry := ⟨PyData.keyHash P ⟨⟨l⟩⟩,.str ⟨⟨l⟩⟩ t,v⟩
noncomputable abbrev z0 (t : Nat) : Value := zS [47,99,108,97,105,109,47,99,117,116,46,112,121] t
noncomputable abbrev z1 (t : Nat) : Value := zS [99,112,121,51,49,51,46,103,114,97,112,104,108,105,98] t
noncomputable abbrev z2 (t : Nat) : Value := zS [108,97,119,95,111,99,48,50,49,55,95,48,49] t
noncomputable abbrev z3 (t : Nat) : Value := zS [84,111,112,111,108,111,103,105,99,97,108,83,111,114,116,101,114] t
noncomputable abbrev z4 (t : Nat) : Value := zS [99,112,121,51,49,51,46,101,109,97,105,108,46,113,117,111,112,114,105,109,105,109,101] t
noncomputable abbrev z5 (t : Nat) : Value := zS [97,98,99,100,101,102,103,104,105,106,107,108,109,110,111,112,113,114,115,116,117,118,119,120,121,122] t
noncomputable abbrev z6 (t : Nat) : Value := zS [65,66,67,68,69,70,71,72,73,74,75,76,77,78,79,80,81,82,83,84,85,86,87,88,89,90] t
noncomputable abbrev z7 (t : Nat) : Value := zS [97,98,99,100,101,102,103,104,105,106,107,108,109,110,111,112,113,114,115,116,117,118,119,120,121,122,65,66,67,68,69,70,71,72,73,74,75,76,77,78,79,80,81,82,83,84,85,86,87,88,89,90] t
noncomputable abbrev z8 (P : Params) (t : Nat) (v : Value) : DictEntry := zE P [95,95,102,105,114,115,116,108,105,110,101,110,111,95,95] t v
noncomputable abbrev z9 (P : Params) (t : Nat) (v : Value) : DictEntry := zE P [95,95,115,116,97,116,105,99,95,97,116,116,114,105,98,117,116,101,115,95,95] t v
noncomputable section
noncomputable def life0 : Life := .mk [] [] [] 0 [] [] false #[] [] 0 false false false 0 [2000,10,10] false 0 true [] [] 0 false
noncomputable def x11 (p : Program) (P : Params) : Obj := ⟨(.type "tuple"),none,(.seq ⟨[]⟩ 0),⟨[]⟩⟩
noncomputable def x12 (p : Program) (P : Params) : Obj := ⟨.none,none,(.fields ⟨[]⟩),⟨[]⟩⟩
noncomputable def x13 (p : Program) (P : Params) : Obj := ⟨(.type "code"),none,(.fields ⟨[(zS [60,109,111,100,117,108,101,62] 182),(zS [60,109,111,100,117,108,101,62] 183),(z0 184),(.int 1 0),(.int 0 0),(.int 0 0),(.int 0 0),(.int 0 0),(.ref 11),(.bool false),(.int 181 0),(.ref 12),.none,.none,.none,.none,(.int 185 0),(.int 1 0),(z0 186)]⟩),⟨[]⟩⟩
noncomputable def x14 (p : Program) (P : Params) : Obj := ⟨(.type "frame"),none,.plain,⟨[some (.ref 13),some (.ref 3),some (.ref 3),none,some (zS [95,95,109,97,105,110,95,95] 164),none,some (.ref 0)]⟩⟩
noncomputable def treea (p : Program) (P : Params) : BT := (.node (boot_o_0 P) (.node (boot_o_1 P) (.node (boot_o_3 P) (.node (boot_o_7 P) .nil .nil) (.node (x11 p P) .nil .nil)) (.node (boot_o_5 P) (.node (boot_o_9 P) .nil .nil) (.node (x13 p P) .nil .nil))) (.node (boot_o_2 P) (.node (boot_o_4 P) (.node (boot_o_8 P) .nil .nil) (.node (x12 p P) .nil .nil)) (.node (boot_o_6 P) (.node (boot_o_10 P) .nil .nil) (.node (x14 p P) .nil .nil))))
noncomputable def x3v0 (p : Program) (P : Params) : Obj := ⟨(.type "dict"),none,(.dict ⟨[zE P [95,95,110,97,109,101,95,95] 165 (zS [95,95,109,97,105,110,95,95] 164),zE P [95,95,100,111,99,95,95] 166 .none,zE P [95,95,112,97,99,107,97,103,101,95,95] 167 .none,zE P [95,95,108,111,97,100,101,114,95,95] 168 (.builtin "__main__.__loader__#opaque"),zE P [95,95,115,112,101,99,95,95] 169 .none,zE P [95,95,97,110,110,111,116,97,116,105,111,110,115,95,95] 170 (.ref 6),zE P [95,95,98,117,105,108,116,105,110,115,95,95] 171 (.ref 4),zE P [95,95,102,105,108,101,95,95] 173 (z0 172),zE P [95,95,99,97,99,104,101,100,95,95] 174 .none,zE P [95,119,97,108,108] 193 (.ref 21)]⟩ 10),⟨[]⟩⟩
noncomputable def x12v0 (p : Program) (P : Params) : Obj := ⟨.none,none,(.fields ⟨[(.int 1 0),(.int 0 0),(.ref 20)]⟩),⟨[]⟩⟩
noncomputable def x15 (p : Program) (P : Params) : Obj := ⟨(.type "tuple"),none,(.seq ⟨[]⟩ 0),⟨[]⟩⟩
noncomputable def x16 (p : Program) (P : Params) : Obj := ⟨.none,none,(.fields ⟨[]⟩),⟨[]⟩⟩
noncomputable def x17 (p : Program) (P : Params) : Obj := ⟨(.type "tuple"),none,(.seq ⟨[(zS [107] 190)]⟩ 0),⟨[]⟩⟩
noncomputable def x18 (p : Program) (P : Params) : Obj := ⟨(.type "tuple"),none,(.seq ⟨[]⟩ 0),⟨[]⟩⟩
noncomputable def x19 (p : Program) (P : Params) : Obj := ⟨.none,none,(.func { name := ⟨⟨[95,119,97,108,108]⟩⟩,qualname := ⟨⟨[95,119,97,108,108]⟩⟩,params := (fnA (stA p 0)),body := (.stmts (fnB (stA p 0))),scope := fnS (stA p 0),globals := 0,closure := [],defaults := .none,kwdefaults := .none,doc := .none,pyModule := .none,annotations := none,code := .none,closureTuple := .none,builtins := 0 }),⟨[]⟩⟩
noncomputable def x20 (p : Program) (P : Params) : Obj := ⟨(.type "code"),none,(.fields ⟨[(zS [95,119,97,108,108] 187),(zS [95,119,97,108,108] 188),(z0 189),(.int 1 0),(.int 1 0),(.int 0 0),(.int 0 0),(.int 3 0),(.ref 15),(.bool true),(.int 181 0),(.ref 16),.none,(.ref 17),(.ref 18),(.ref 19),(.int 191 0),(.int 1 0),(z0 192)]⟩),⟨[]⟩⟩
noncomputable def x21 (p : Program) (P : Params) : Obj := ⟨(.type "function"),none,(.func { name := ⟨⟨[95,119,97,108,108]⟩⟩,qualname := ⟨⟨[95,119,97,108,108]⟩⟩,params := (fnA (stA p 0)),body := (.stmts (fnB (stA p 0))),scope := fnS (stA p 0),globals := 3,closure := [],defaults := .none,kwdefaults := .none,doc := .none,pyModule := (zS [95,95,109,97,105,110,95,95] 164),annotations := none,code := (.ref 20),closureTuple := .none,builtins := 0 }),⟨[]⟩⟩
noncomputable def tree0 (p : Program) (P : Params) : BT := (.node (boot_o_0 P) (.node (boot_o_1 P) (.node (x3v0 p P) (.node (boot_o_7 P) (.node (x15 p P) .nil .nil) .nil) (.node (x11 p P) (.node (x19 p P) .nil .nil) .nil)) (.node (boot_o_5 P) (.node (boot_o_9 P) (.node (x17 p P) .nil .nil) .nil) (.node (x13 p P) (.node (x21 p P) .nil .nil) .nil))) (.node (boot_o_2 P) (.node (boot_o_4 P) (.node (boot_o_8 P) (.node (x16 p P) .nil .nil) .nil) (.node (x12v0 p P) (.node (x20 p P) .nil .nil) .nil)) (.node (boot_o_6 P) (.node (boot_o_10 P) (.node (x18 p P) .nil .nil) .nil) (.node (x14 p P) .nil .nil))))
noncomputable def x3v1 (p : Program) (P : Params) : Obj := ⟨(.type "dict"),none,(.dict ⟨[zE P [95,95,110,97,109,101,95,95] 165 (zS [95,95,109,97,105,110,95,95] 164),zE P [95,95,100,111,99,95,95] 166 .none,zE P [95,95,112,97,99,107,97,103,101,95,95] 167 .none,zE P [95,95,108,111,97,100,101,114,95,95] 168 (.builtin "__main__.__loader__#opaque"),zE P [95,95,115,112,101,99,95,95] 169 .none,zE P [95,95,97,110,110,111,116,97,116,105,111,110,115,95,95] 170 (.ref 6),zE P [95,95,98,117,105,108,116,105,110,115,95,95] 171 (.ref 4),zE P [95,95,102,105,108,101,95,95] 173 (z0 172),zE P [95,95,99,97,99,104,101,100,95,95] 174 .none,zE P [95,119,97,108,108] 193 (.ref 21),zE P [95,81,85,79,80,82,73,95,77,65,80] 1221 (.ref 24)]⟩ 11),⟨[]⟩⟩
noncomputable def x22 (p : Program) (P : Params) : Obj := ⟨(.type "range"),none,(.fields ⟨[(.int 0 195),(.int 256 194),(.int 1 196)]⟩),⟨[]⟩⟩
noncomputable def x23 (p : Program) (P : Params) : Obj := ⟨(.type "range_iterator"),none,(.fields ⟨[(.int 256 0),(.int 0 0),(.int 1 0)]⟩),⟨[]⟩⟩
noncomputable def x24 (p : Program) (P : Params) : Obj := ⟨(.type "list"),none,(.seq ⟨[(zS [61,48,48] 200),(zS [61,48,49] 204),(zS [61,48,50] 208),(zS [61,48,51] 212),(zS [61,48,52] 216),(zS [61,48,53] 220),(zS [61,48,54] 224),(zS [61,48,55] 228),(zS [61,48,56] 232),(zS [61,48,57] 236),(zS [61,48,65] 240),(zS [61,48,66] 244),(zS [61,48,67] 248),(zS [61,48,68] 252),(zS [61,48,69] 256),(zS [61,48,70] 260),(zS [61,49,48] 264),(zS [61,49,49] 268),(zS [61,49,50] 272),(zS [61,49,51] 276),(zS [61,49,52] 280),(zS [61,49,53] 284),(zS [61,49,54] 288),(zS [61,49,55] 292),(zS [61,49,56] 296),(zS [61,49,57] 300),(zS [61,49,65] 304),(zS [61,49,66] 308),(zS [61,49,67] 312),(zS [61,49,68] 316),(zS [61,49,69] 320),(zS [61,49,70] 324),(zS [61,50,48] 328),(zS [61,50,49] 332),(zS [61,50,50] 336),(zS [61,50,51] 340),(zS [61,50,52] 344),(zS [61,50,53] 348),(zS [61,50,54] 352),(zS [61,50,55] 356),(zS [61,50,56] 360),(zS [61,50,57] 364),(zS [61,50,65] 368),(zS [61,50,66] 372),(zS [61,50,67] 376),(zS [61,50,68] 380),(zS [61,50,69] 384),(zS [61,50,70] 388),(zS [61,51,48] 392),(zS [61,51,49] 396),(zS [61,51,50] 400),(zS [61,51,51] 404),(zS [61,51,52] 408),(zS [61,51,53] 412),(zS [61,51,54] 416),(zS [61,51,55] 420),(zS [61,51,56] 424),(zS [61,51,57] 428),(zS [61,51,65] 432),(zS [61,51,66] 436),(zS [61,51,67] 440),(zS [61,51,68] 444),(zS [61,51,69] 448),(zS [61,51,70] 452),(zS [61,52,48] 456),(zS [61,52,49] 460),(zS [61,52,50] 464),(zS [61,52,51] 468),(zS [61,52,52] 472),(zS [61,52,53] 476),(zS [61,52,54] 480),(zS [61,52,55] 484),(zS [61,52,56] 488),(zS [61,52,57] 492),(zS [61,52,65] 496),(zS [61,52,66] 500),(zS [61,52,67] 504),(zS [61,52,68] 508),(zS [61,52,69] 512),(zS [61,52,70] 516),(zS [61,53,48] 520),(zS [61,53,49] 524),(zS [61,53,50] 528),(zS [61,53,51] 532),(zS [61,53,52] 536),(zS [61,53,53] 540),(zS [61,53,54] 544),(zS [61,53,55] 548),(zS [61,53,56] 552),(zS [61,53,57] 556),(zS [61,53,65] 560),(zS [61,53,66] 564),(zS [61,53,67] 568),(zS [61,53,68] 572),(zS [61,53,69] 576),(zS [61,53,70] 580),(zS [61,54,48] 584),(zS [61,54,49] 588),(zS [61,54,50] 592),(zS [61,54,51] 596),(zS [61,54,52] 600),(zS [61,54,53] 604),(zS [61,54,54] 608),(zS [61,54,55] 612),(zS [61,54,56] 616),(zS [61,54,57] 620),(zS [61,54,65] 624),(zS [61,54,66] 628),(zS [61,54,67] 632),(zS [61,54,68] 636),(zS [61,54,69] 640),(zS [61,54,70] 644),(zS [61,55,48] 648),(zS [61,55,49] 652),(zS [61,55,50] 656),(zS [61,55,51] 660),(zS [61,55,52] 664),(zS [61,55,53] 668),(zS [61,55,54] 672),(zS [61,55,55] 676),(zS [61,55,56] 680),(zS [61,55,57] 684),(zS [61,55,65] 688),(zS [61,55,66] 692),(zS [61,55,67] 696),(zS [61,55,68] 700),(zS [61,55,69] 704),(zS [61,55,70] 708),(zS [61,56,48] 712),(zS [61,56,49] 716),(zS [61,56,50] 720),(zS [61,56,51] 724),(zS [61,56,52] 728),(zS [61,56,53] 732),(zS [61,56,54] 736),(zS [61,56,55] 740),(zS [61,56,56] 744),(zS [61,56,57] 748),(zS [61,56,65] 752),(zS [61,56,66] 756),(zS [61,56,67] 760),(zS [61,56,68] 764),(zS [61,56,69] 768),(zS [61,56,70] 772),(zS [61,57,48] 776),(zS [61,57,49] 780),(zS [61,57,50] 784),(zS [61,57,51] 788),(zS [61,57,52] 792),(zS [61,57,53] 796),(zS [61,57,54] 800),(zS [61,57,55] 804),(zS [61,57,56] 808),(zS [61,57,57] 812),(zS [61,57,65] 816),(zS [61,57,66] 820),(zS [61,57,67] 824),(zS [61,57,68] 828),(zS [61,57,69] 832),(zS [61,57,70] 836),(zS [61,65,48] 840),(zS [61,65,49] 844),(zS [61,65,50] 848),(zS [61,65,51] 852),(zS [61,65,52] 856),(zS [61,65,53] 860),(zS [61,65,54] 864),(zS [61,65,55] 868),(zS [61,65,56] 872),(zS [61,65,57] 876),(zS [61,65,65] 880),(zS [61,65,66] 884),(zS [61,65,67] 888),(zS [61,65,68] 892),(zS [61,65,69] 896),(zS [61,65,70] 900),(zS [61,66,48] 904),(zS [61,66,49] 908),(zS [61,66,50] 912),(zS [61,66,51] 916),(zS [61,66,52] 920),(zS [61,66,53] 924),(zS [61,66,54] 928),(zS [61,66,55] 932),(zS [61,66,56] 936),(zS [61,66,57] 940),(zS [61,66,65] 944),(zS [61,66,66] 948),(zS [61,66,67] 952),(zS [61,66,68] 956),(zS [61,66,69] 960),(zS [61,66,70] 964),(zS [61,67,48] 968),(zS [61,67,49] 972),(zS [61,67,50] 976),(zS [61,67,51] 980),(zS [61,67,52] 984),(zS [61,67,53] 988),(zS [61,67,54] 992),(zS [61,67,55] 996),(zS [61,67,56] 1000),(zS [61,67,57] 1004),(zS [61,67,65] 1008),(zS [61,67,66] 1012),(zS [61,67,67] 1016),(zS [61,67,68] 1020),(zS [61,67,69] 1024),(zS [61,67,70] 1028),(zS [61,68,48] 1032),(zS [61,68,49] 1036),(zS [61,68,50] 1040),(zS [61,68,51] 1044),(zS [61,68,52] 1048),(zS [61,68,53] 1052),(zS [61,68,54] 1056),(zS [61,68,55] 1060),(zS [61,68,56] 1064),(zS [61,68,57] 1068),(zS [61,68,65] 1072),(zS [61,68,66] 1076),(zS [61,68,67] 1080),(zS [61,68,68] 1084),(zS [61,68,69] 1088),(zS [61,68,70] 1092),(zS [61,69,48] 1096),(zS [61,69,49] 1100),(zS [61,69,50] 1104),(zS [61,69,51] 1108),(zS [61,69,52] 1112),(zS [61,69,53] 1116),(zS [61,69,54] 1120),(zS [61,69,55] 1124),(zS [61,69,56] 1128),(zS [61,69,57] 1132),(zS [61,69,65] 1136),(zS [61,69,66] 1140),(zS [61,69,67] 1144),(zS [61,69,68] 1148),(zS [61,69,69] 1152),(zS [61,69,70] 1156),(zS [61,70,48] 1160),(zS [61,70,49] 1164),(zS [61,70,50] 1168),(zS [61,70,51] 1172),(zS [61,70,52] 1176),(zS [61,70,53] 1180),(zS [61,70,54] 1184),(zS [61,70,55] 1188),(zS [61,70,56] 1192),(zS [61,70,57] 1196),(zS [61,70,65] 1200),(zS [61,70,66] 1204),(zS [61,70,67] 1208),(zS [61,70,68] 1212),(zS [61,70,69] 1216),(zS [61,70,70] 1220)]⟩ 256),⟨[]⟩⟩
noncomputable def x25 (p : Program) (P : Params) : Obj := ⟨(.type "dict"),none,(.dict ⟨[]⟩ 2),⟨[]⟩⟩
noncomputable def x26 (p : Program) (P : Params) : Obj := ⟨(.type "tuple"),none,(.seq ⟨[]⟩ 0),⟨[]⟩⟩
noncomputable def x27 (p : Program) (P : Params) : Obj := ⟨(.type "StopIteration"),none,(.fields ⟨[(.ref 26),.none,.none,.none,(.bool false),.none]⟩),⟨[]⟩⟩
noncomputable def tree1 (p : Program) (P : Params) : BT := (.node (boot_o_0 P) (.node (boot_o_1 P) (.node (x3v1 p P) (.node (boot_o_7 P) (.node (x15 p P) .nil .nil) (.node (x23 p P) .nil .nil)) (.node (x11 p P) (.node (x19 p P) .nil .nil) (.node (x27 p P) .nil .nil))) (.node (boot_o_5 P) (.node (boot_o_9 P) (.node (x17 p P) .nil .nil) (.node (x25 p P) .nil .nil)) (.node (x13 p P) (.node (x21 p P) .nil .nil) .nil))) (.node (boot_o_2 P) (.node (boot_o_4 P) (.node (boot_o_8 P) (.node (x16 p P) .nil .nil) (.node (x24 p P) .nil .nil)) (.node (x12v0 p P) (.node (x20 p P) .nil .nil) .nil)) (.node (boot_o_6 P) (.node (boot_o_10 P) (.node (x18 p P) .nil .nil) (.node (x26 p P) .nil .nil)) (.node (x14 p P) (.node (x22 p P) .nil .nil) .nil))))
noncomputable def x28 (p : Program) (P : Params) : Obj := ⟨(.type "slice"),none,(.fields ⟨[.none,.none,.none]⟩),⟨[]⟩⟩
noncomputable def x30 (p : Program) (P : Params) : Obj := ⟨(.type "slice"),none,(.fields ⟨[.none,.none,.none]⟩),⟨[]⟩⟩
noncomputable def x31 (p : Program) (P : Params) : Obj := ⟨(.type "list"),none,(.seq ⟨[(zS [61,48,48] 200),(zS [61,48,49] 204),(zS [61,48,50] 208),(zS [61,48,51] 212),(zS [61,48,52] 216),(zS [61,48,53] 220),(zS [61,48,54] 224),(zS [61,48,55] 228),(zS [61,48,56] 232),(zS [61,48,57] 236),(zS [61,48,65] 240),(zS [61,48,66] 244),(zS [61,48,67] 248),(zS [61,48,68] 252),(zS [61,48,69] 256),(zS [61,48,70] 260),(zS [61,49,48] 264),(zS [61,49,49] 268),(zS [61,49,50] 272),(zS [61,49,51] 276),(zS [61,49,52] 280),(zS [61,49,53] 284),(zS [61,49,54] 288),(zS [61,49,55] 292),(zS [61,49,56] 296),(zS [61,49,57] 300),(zS [61,49,65] 304),(zS [61,49,66] 308),(zS [61,49,67] 312),(zS [61,49,68] 316),(zS [61,49,69] 320),(zS [61,49,70] 324),(zS [61,50,48] 328),(zS [61,50,49] 332),(zS [61,50,50] 336),(zS [61,50,51] 340),(zS [61,50,52] 344),(zS [61,50,53] 348),(zS [61,50,54] 352),(zS [61,50,55] 356),(zS [61,50,56] 360),(zS [61,50,57] 364),(zS [61,50,65] 368),(zS [61,50,66] 372),(zS [61,50,67] 376),(zS [61,50,68] 380),(zS [61,50,69] 384),(zS [61,50,70] 388),(zS [61,51,48] 392),(zS [61,51,49] 396),(zS [61,51,50] 400),(zS [61,51,51] 404),(zS [61,51,52] 408),(zS [61,51,53] 412),(zS [61,51,54] 416),(zS [61,51,55] 420),(zS [61,51,56] 424),(zS [61,51,57] 428),(zS [61,51,65] 432),(zS [61,51,66] 436),(zS [61,51,67] 440),(zS [61,51,68] 444),(zS [61,51,69] 448),(zS [61,51,70] 452),(zS [61,52,48] 456),(zS [61,52,49] 460),(zS [61,52,50] 464),(zS [61,52,51] 468),(zS [61,52,52] 472),(zS [61,52,53] 476),(zS [61,52,54] 480),(zS [61,52,55] 484),(zS [61,52,56] 488),(zS [61,52,57] 492),(zS [61,52,65] 496),(zS [61,52,66] 500),(zS [61,52,67] 504),(zS [61,52,68] 508),(zS [61,52,69] 512),(zS [61,52,70] 516),(zS [61,53,48] 520),(zS [61,53,49] 524),(zS [61,53,50] 528),(zS [61,53,51] 532),(zS [61,53,52] 536),(zS [61,53,53] 540),(zS [61,53,54] 544),(zS [61,53,55] 548),(zS [61,53,56] 552),(zS [61,53,57] 556),(zS [61,53,65] 560),(zS [61,53,66] 564),(zS [61,53,67] 568),(zS [61,53,68] 572),(zS [61,53,69] 576),(zS [61,53,70] 580),(zS [61,54,48] 584),(zS [61,54,49] 588),(zS [61,54,50] 592),(zS [61,54,51] 596),(zS [61,54,52] 600),(zS [61,54,53] 604),(zS [61,54,54] 608),(zS [61,54,55] 612),(zS [61,54,56] 616),(zS [61,54,57] 620),(zS [61,54,65] 624),(zS [61,54,66] 628),(zS [61,54,67] 632),(zS [61,54,68] 636),(zS [61,54,69] 640),(zS [61,54,70] 644),(zS [61,55,48] 648),(zS [61,55,49] 652),(zS [61,55,50] 656),(zS [61,55,51] 660),(zS [61,55,52] 664),(zS [61,55,53] 668),(zS [61,55,54] 672),(zS [61,55,55] 676),(zS [61,55,56] 680),(zS [61,55,57] 684),(zS [61,55,65] 688),(zS [61,55,66] 692),(zS [61,55,67] 696),(zS [61,55,68] 700),(zS [61,55,69] 704),(zS [61,55,70] 708),(zS [61,56,48] 712),(zS [61,56,49] 716),(zS [61,56,50] 720),(zS [61,56,51] 724),(zS [61,56,52] 728),(zS [61,56,53] 732),(zS [61,56,54] 736),(zS [61,56,55] 740),(zS [61,56,56] 744),(zS [61,56,57] 748),(zS [61,56,65] 752),(zS [61,56,66] 756),(zS [61,56,67] 760),(zS [61,56,68] 764),(zS [61,56,69] 768),(zS [61,56,70] 772),(zS [61,57,48] 776),(zS [61,57,49] 780),(zS [61,57,50] 784),(zS [61,57,51] 788),(zS [61,57,52] 792),(zS [61,57,53] 796),(zS [61,57,54] 800),(zS [61,57,55] 804),(zS [61,57,56] 808),(zS [61,57,57] 812),(zS [61,57,65] 816),(zS [61,57,66] 820),(zS [61,57,67] 824),(zS [61,57,68] 828),(zS [61,57,69] 832),(zS [61,57,70] 836),(zS [61,65,48] 840),(zS [61,65,49] 844),(zS [61,65,50] 848),(zS [61,65,51] 852),(zS [61,65,52] 856),(zS [61,65,53] 860),(zS [61,65,54] 864),(zS [61,65,55] 868),(zS [61,65,56] 872),(zS [61,65,57] 876),(zS [61,65,65] 880),(zS [61,65,66] 884),(zS [61,65,67] 888),(zS [61,65,68] 892),(zS [61,65,69] 896),(zS [61,65,70] 900),(zS [61,66,48] 904),(zS [61,66,49] 908),(zS [61,66,50] 912),(zS [61,66,51] 916),(zS [61,66,52] 920),(zS [61,66,53] 924),(zS [61,66,54] 928),(zS [61,66,55] 932),(zS [61,66,56] 936),(zS [61,66,57] 940),(zS [61,66,65] 944),(zS [61,66,66] 948),(zS [61,66,67] 952),(zS [61,66,68] 956),(zS [61,66,69] 960),(zS [61,66,70] 964),(zS [61,67,48] 968),(zS [61,67,49] 972),(zS [61,67,50] 976),(zS [61,67,51] 980),(zS [61,67,52] 984),(zS [61,67,53] 988),(zS [61,67,54] 992),(zS [61,67,55] 996),(zS [61,67,56] 1000),(zS [61,67,57] 1004),(zS [61,67,65] 1008),(zS [61,67,66] 1012),(zS [61,67,67] 1016),(zS [61,67,68] 1020),(zS [61,67,69] 1024),(zS [61,67,70] 1028),(zS [61,68,48] 1032),(zS [61,68,49] 1036),(zS [61,68,50] 1040),(zS [61,68,51] 1044),(zS [61,68,52] 1048),(zS [61,68,53] 1052),(zS [61,68,54] 1056),(zS [61,68,55] 1060),(zS [61,68,56] 1064),(zS [61,68,57] 1068),(zS [61,68,65] 1072),(zS [61,68,66] 1076),(zS [61,68,67] 1080),(zS [61,68,68] 1084),(zS [61,68,69] 1088),(zS [61,68,70] 1092),(zS [61,69,48] 1096),(zS [61,69,49] 1100),(zS [61,69,50] 1104),(zS [61,69,51] 1108),(zS [61,69,52] 1112),(zS [61,69,53] 1116),(zS [61,69,54] 1120),(zS [61,69,55] 1124),(zS [61,69,56] 1128),(zS [61,69,57] 1132),(zS [61,69,65] 1136),(zS [61,69,66] 1140),(zS [61,69,67] 1144),(zS [61,69,68] 1148),(zS [61,69,69] 1152),(zS [61,69,70] 1156),(zS [61,70,48] 1160),(zS [61,70,49] 1164),(zS [61,70,50] 1168),(zS [61,70,51] 1172),(zS [61,70,52] 1176),(zS [61,70,53] 1180),(zS [61,70,54] 1184),(zS [61,70,55] 1188),(zS [61,70,56] 1192),(zS [61,70,57] 1196),(zS [61,70,65] 1200),(zS [61,70,66] 1204),(zS [61,70,67] 1208),(zS [61,70,68] 1212),(zS [61,70,69] 1216),(zS [61,70,70] 1220)]⟩ 0),⟨[]⟩⟩
noncomputable def x3v9 (p : Program) (P : Params) : Obj := ⟨(.type "dict"),none,(.dict ⟨[zE P [95,95,110,97,109,101,95,95] 165 (z4 1232),zE P [95,95,100,111,99,95,95] 166 .none,zE P [95,95,112,97,99,107,97,103,101,95,95] 167 .none,zE P [95,95,108,111,97,100,101,114,95,95] 168 (.builtin "__main__.__loader__#opaque"),zE P [95,95,115,112,101,99,95,95] 169 .none,zE P [95,95,97,110,110,111,116,97,116,105,111,110,115,95,95] 170 (.ref 6),zE P [95,95,98,117,105,108,116,105,110,115,95,95] 171 (.ref 4),zE P [95,95,102,105,108,101,95,95] 173 (z0 172),zE P [95,95,99,97,99,104,101,100,95,95] 174 .none,zE P [95,119,97,108,108] 193 (.ref 21),zE P [95,81,85,79,80,82,73,95,77,65,80] 1221 (.ref 24),zE P [95,81,85,79,80,82,73,95,72,69,65,68,69,82,95,77,65,80] 1222 (.ref 29),zE P [95,81,85,79,80,82,73,95,66,79,68,89,95,77,65,80] 1223 (.ref 31),zE P [97,115,99,105,105,95,108,111,119,101,114,99,97,115,101] 1225 (z5 1224),zE P [97,115,99,105,105,95,117,112,112,101,114,99,97,115,101] 1227 (z6 1226),zE P [97,115,99,105,105,95,108,101,116,116,101,114,115] 1229 (z7 1228),zE P [100,105,103,105,116,115] 1231 (zS [48,49,50,51,52,53,54,55,56,57] 1230),zE P [99] 1242 (.int 57 1439)]⟩ 18),⟨[]⟩⟩
noncomputable def x29v9 (p : Program) (P : Params) : Obj := ⟨(.type "list"),none,(.seq ⟨[(zS [61,48,48] 200),(zS [61,48,49] 204),(zS [61,48,50] 208),(zS [61,48,51] 212),(zS [61,48,52] 216),(zS [61,48,53] 220),(zS [61,48,54] 224),(zS [61,48,55] 228),(zS [61,48,56] 232),(zS [61,48,57] 236),(zS [61,48,65] 240),(zS [61,48,66] 244),(zS [61,48,67] 248),(zS [61,48,68] 252),(zS [61,48,69] 256),(zS [61,48,70] 260),(zS [61,49,48] 264),(zS [61,49,49] 268),(zS [61,49,50] 272),(zS [61,49,51] 276),(zS [61,49,52] 280),(zS [61,49,53] 284),(zS [61,49,54] 288),(zS [61,49,55] 292),(zS [61,49,56] 296),(zS [61,49,57] 300),(zS [61,49,65] 304),(zS [61,49,66] 308),(zS [61,49,67] 312),(zS [61,49,68] 316),(zS [61,49,69] 320),(zS [61,49,70] 324),(zS [61,50,48] 328),(zS [33] 1246),(zS [61,50,50] 336),(zS [61,50,51] 340),(zS [61,50,52] 344),(zS [61,50,53] 348),(zS [61,50,54] 352),(zS [61,50,55] 356),(zS [61,50,56] 360),(zS [61,50,57] 364),(zS [42] 1249),(zS [43] 1252),(zS [61,50,67] 376),(zS [45] 1243),(zS [61,50,69] 384),(zS [47] 1255),(zS [48] 1414),(zS [49] 1417),(zS [50] 1420),(zS [51] 1423),(zS [52] 1426),(zS [53] 1429),(zS [54] 1432),(zS [55] 1435),(zS [56] 1438),(zS [57] 1441),(zS [61,51,65] 432),(zS [61,51,66] 436),(zS [61,51,67] 440),(zS [61,51,68] 444),(zS [61,51,69] 448),(zS [61,51,70] 452),(zS [61,52,48] 456),(zS [65] 1336),(zS [66] 1339),(zS [67] 1342),(zS [68] 1345),(zS [69] 1348),(zS [70] 1351),(zS [71] 1354),(zS [72] 1357),(zS [73] 1360),(zS [74] 1363),(zS [75] 1366),(zS [76] 1369),(zS [77] 1372),(zS [78] 1375),(zS [79] 1378),(zS [80] 1381),(zS [81] 1384),(zS [82] 1387),(zS [83] 1390),(zS [84] 1393),(zS [85] 1396),(zS [86] 1399),(zS [87] 1402),(zS [88] 1405),(zS [89] 1408),(zS [90] 1411),(zS [61,53,66] 564),(zS [61,53,67] 568),(zS [61,53,68] 572),(zS [61,53,69] 576),(zS [61,53,70] 580),(zS [61,54,48] 584),(zS [97] 1258),(zS [98] 1261),(zS [99] 1264),(zS [100] 1267),(zS [101] 1270),(zS [102] 1273),(zS [103] 1276),(zS [104] 1279),(zS [105] 1282),(zS [106] 1285),(zS [107] 1288),(zS [108] 1291),(zS [109] 1294),(zS [110] 1297),(zS [111] 1300),(zS [112] 1303),(zS [113] 1306),(zS [114] 1309),(zS [115] 1312),(zS [116] 1315),(zS [117] 1318),(zS [118] 1321),(zS [119] 1324),(zS [120] 1327),(zS [121] 1330),(zS [122] 1333),(zS [61,55,66] 692),(zS [61,55,67] 696),(zS [61,55,68] 700),(zS [61,55,69] 704),(zS [61,55,70] 708),(zS [61,56,48] 712),(zS [61,56,49] 716),(zS [61,56,50] 720),(zS [61,56,51] 724),(zS [61,56,52] 728),(zS [61,56,53] 732),(zS [61,56,54] 736),(zS [61,56,55] 740),(zS [61,56,56] 744),(zS [61,56,57] 748),(zS [61,56,65] 752),(zS [61,56,66] 756),(zS [61,56,67] 760),(zS [61,56,68] 764),(zS [61,56,69] 768),(zS [61,56,70] 772),(zS [61,57,48] 776),(zS [61,57,49] 780),(zS [61,57,50] 784),(zS [61,57,51] 788),(zS [61,57,52] 792),(zS [61,57,53] 796),(zS [61,57,54] 800),(zS [61,57,55] 804),(zS [61,57,56] 808),(zS [61,57,57] 812),(zS [61,57,65] 816),(zS [61,57,66] 820),(zS [61,57,67] 824),(zS [61,57,68] 828),(zS [61,57,69] 832),(zS [61,57,70] 836),(zS [61,65,48] 840),(zS [61,65,49] 844),(zS [61,65,50] 848),(zS [61,65,51] 852),(zS [61,65,52] 856),(zS [61,65,53] 860),(zS [61,65,54] 864),(zS [61,65,55] 868),(zS [61,65,56] 872),(zS [61,65,57] 876),(zS [61,65,65] 880),(zS [61,65,66] 884),(zS [61,65,67] 888),(zS [61,65,68] 892),(zS [61,65,69] 896),(zS [61,65,70] 900),(zS [61,66,48] 904),(zS [61,66,49] 908),(zS [61,66,50] 912),(zS [61,66,51] 916),(zS [61,66,52] 920),(zS [61,66,53] 924),(zS [61,66,54] 928),(zS [61,66,55] 932),(zS [61,66,56] 936),(zS [61,66,57] 940),(zS [61,66,65] 944),(zS [61,66,66] 948),(zS [61,66,67] 952),(zS [61,66,68] 956),(zS [61,66,69] 960),(zS [61,66,70] 964),(zS [61,67,48] 968),(zS [61,67,49] 972),(zS [61,67,50] 976),(zS [61,67,51] 980),(zS [61,67,52] 984),(zS [61,67,53] 988),(zS [61,67,54] 992),(zS [61,67,55] 996),(zS [61,67,56] 1000),(zS [61,67,57] 1004),(zS [61,67,65] 1008),(zS [61,67,66] 1012),(zS [61,67,67] 1016),(zS [61,67,68] 1020),(zS [61,67,69] 1024),(zS [61,67,70] 1028),(zS [61,68,48] 1032),(zS [61,68,49] 1036),(zS [61,68,50] 1040),(zS [61,68,51] 1044),(zS [61,68,52] 1048),(zS [61,68,53] 1052),(zS [61,68,54] 1056),(zS [61,68,55] 1060),(zS [61,68,56] 1064),(zS [61,68,57] 1068),(zS [61,68,65] 1072),(zS [61,68,66] 1076),(zS [61,68,67] 1080),(zS [61,68,68] 1084),(zS [61,68,69] 1088),(zS [61,68,70] 1092),(zS [61,69,48] 1096),(zS [61,69,49] 1100),(zS [61,69,50] 1104),(zS [61,69,51] 1108),(zS [61,69,52] 1112),(zS [61,69,53] 1116),(zS [61,69,54] 1120),(zS [61,69,55] 1124),(zS [61,69,56] 1128),(zS [61,69,57] 1132),(zS [61,69,65] 1136),(zS [61,69,66] 1140),(zS [61,69,67] 1144),(zS [61,69,68] 1148),(zS [61,69,69] 1152),(zS [61,69,70] 1156),(zS [61,70,48] 1160),(zS [61,70,49] 1164),(zS [61,70,50] 1168),(zS [61,70,51] 1172),(zS [61,70,52] 1176),(zS [61,70,53] 1180),(zS [61,70,54] 1184),(zS [61,70,55] 1188),(zS [61,70,56] 1192),(zS [61,70,57] 1196),(zS [61,70,65] 1200),(zS [61,70,66] 1204),(zS [61,70,67] 1208),(zS [61,70,68] 1212),(zS [61,70,69] 1216),(zS [61,70,70] 1220)]⟩ 0),⟨[]⟩⟩
noncomputable def x32 (p : Program) (P : Params) : Obj := ⟨(.type "bytes_iterator"),none,(.fields ⟨[.none,(.int 67 0)]⟩),⟨[]⟩⟩
noncomputable def x33 (p : Program) (P : Params) : Obj := ⟨(.type "tuple"),none,(.seq ⟨[]⟩ 0),⟨[]⟩⟩
noncomputable def x34 (p : Program) (P : Params) : Obj := ⟨(.type "StopIteration"),none,(.fields ⟨[(.ref 33),.none,.none,.none,(.bool false),.none]⟩),⟨[]⟩⟩
noncomputable def tree9 (p : Program) (P : Params) : BT := (.node (boot_o_0 P) (.node (boot_o_1 P) (.node (x3v9 p P) (.node (boot_o_7 P) (.node (x15 p P) (.node (x31 p P) .nil .nil) .nil) (.node (x23 p P) .nil .nil)) (.node (x11 p P) (.node (x19 p P) .nil .nil) (.node (x27 p P) .nil .nil))) (.node (boot_o_5 P) (.node (boot_o_9 P) (.node (x17 p P) (.node (x33 p P) .nil .nil) .nil) (.node (x25 p P) .nil .nil)) (.node (x13 p P) (.node (x21 p P) .nil .nil) (.node (x29v9 p P) .nil .nil)))) (.node (boot_o_2 P) (.node (boot_o_4 P) (.node (boot_o_8 P) (.node (x16 p P) (.node (x32 p P) .nil .nil) .nil) (.node (x24 p P) .nil .nil)) (.node (x12v0 p P) (.node (x20 p P) .nil .nil) (.node (x28 p P) .nil .nil))) (.node (boot_o_6 P) (.node (boot_o_10 P) (.node (x18 p P) (.node (x34 p P) .nil .nil) .nil) (.node (x26 p P) .nil .nil)) (.node (x14 p P) (.node (x22 p P) .nil .nil) (.node (x30 p P) .nil .nil)))))
noncomputable def x3v11 (p : Program) (P : Params) : Obj := ⟨(.type "dict"),none,(.dict ⟨[zE P [95,95,110,97,109,101,95,95] 165 (z4 1232),zE P [95,95,100,111,99,95,95] 166 .none,zE P [95,95,112,97,99,107,97,103,101,95,95] 167 .none,zE P [95,95,108,111,97,100,101,114,95,95] 168 (.builtin "__main__.__loader__#opaque"),zE P [95,95,115,112,101,99,95,95] 169 .none,zE P [95,95,97,110,110,111,116,97,116,105,111,110,115,95,95] 170 (.ref 6),zE P [95,95,98,117,105,108,116,105,110,115,95,95] 171 (.ref 4),zE P [95,95,102,105,108,101,95,95] 173 (z0 172),zE P [95,95,99,97,99,104,101,100,95,95] 174 .none,zE P [95,119,97,108,108] 193 (.ref 21),zE P [95,81,85,79,80,82,73,95,77,65,80] 1221 (.ref 24),zE P [95,81,85,79,80,82,73,95,72,69,65,68,69,82,95,77,65,80] 1222 (.ref 29),zE P [95,81,85,79,80,82,73,95,66,79,68,89,95,77,65,80] 1223 (.ref 31),zE P [97,115,99,105,105,95,108,111,119,101,114,99,97,115,101] 1225 (z5 1224),zE P [97,115,99,105,105,95,117,112,112,101,114,99,97,115,101] 1227 (z6 1226),zE P [97,115,99,105,105,95,108,101,116,116,101,114,115] 1229 (z7 1228),zE P [100,105,103,105,116,115] 1231 (zS [48,49,50,51,52,53,54,55,56,57] 1230),zE P [99] 1242 (.int 9 1728)]⟩ 18),⟨[]⟩⟩
noncomputable def x29v11 (p : Program) (P : Params) : Obj := ⟨(.type "list"),none,(.seq ⟨[(zS [61,48,48] 200),(zS [61,48,49] 204),(zS [61,48,50] 208),(zS [61,48,51] 212),(zS [61,48,52] 216),(zS [61,48,53] 220),(zS [61,48,54] 224),(zS [61,48,55] 228),(zS [61,48,56] 232),(zS [61,48,57] 236),(zS [61,48,65] 240),(zS [61,48,66] 244),(zS [61,48,67] 248),(zS [61,48,68] 252),(zS [61,48,69] 256),(zS [61,48,70] 260),(zS [61,49,48] 264),(zS [61,49,49] 268),(zS [61,49,50] 272),(zS [61,49,51] 276),(zS [61,49,52] 280),(zS [61,49,53] 284),(zS [61,49,54] 288),(zS [61,49,55] 292),(zS [61,49,56] 296),(zS [61,49,57] 300),(zS [61,49,65] 304),(zS [61,49,66] 308),(zS [61,49,67] 312),(zS [61,49,68] 316),(zS [61,49,69] 320),(zS [61,49,70] 324),(zS [95] 1442),(zS [33] 1246),(zS [61,50,50] 336),(zS [61,50,51] 340),(zS [61,50,52] 344),(zS [61,50,53] 348),(zS [61,50,54] 352),(zS [61,50,55] 356),(zS [61,50,56] 360),(zS [61,50,57] 364),(zS [42] 1249),(zS [43] 1252),(zS [61,50,67] 376),(zS [45] 1243),(zS [61,50,69] 384),(zS [47] 1255),(zS [48] 1414),(zS [49] 1417),(zS [50] 1420),(zS [51] 1423),(zS [52] 1426),(zS [53] 1429),(zS [54] 1432),(zS [55] 1435),(zS [56] 1438),(zS [57] 1441),(zS [61,51,65] 432),(zS [61,51,66] 436),(zS [61,51,67] 440),(zS [61,51,68] 444),(zS [61,51,69] 448),(zS [61,51,70] 452),(zS [61,52,48] 456),(zS [65] 1336),(zS [66] 1339),(zS [67] 1342),(zS [68] 1345),(zS [69] 1348),(zS [70] 1351),(zS [71] 1354),(zS [72] 1357),(zS [73] 1360),(zS [74] 1363),(zS [75] 1366),(zS [76] 1369),(zS [77] 1372),(zS [78] 1375),(zS [79] 1378),(zS [80] 1381),(zS [81] 1384),(zS [82] 1387),(zS [83] 1390),(zS [84] 1393),(zS [85] 1396),(zS [86] 1399),(zS [87] 1402),(zS [88] 1405),(zS [89] 1408),(zS [90] 1411),(zS [61,53,66] 564),(zS [61,53,67] 568),(zS [61,53,68] 572),(zS [61,53,69] 576),(zS [61,53,70] 580),(zS [61,54,48] 584),(zS [97] 1258),(zS [98] 1261),(zS [99] 1264),(zS [100] 1267),(zS [101] 1270),(zS [102] 1273),(zS [103] 1276),(zS [104] 1279),(zS [105] 1282),(zS [106] 1285),(zS [107] 1288),(zS [108] 1291),(zS [109] 1294),(zS [110] 1297),(zS [111] 1300),(zS [112] 1303),(zS [113] 1306),(zS [114] 1309),(zS [115] 1312),(zS [116] 1315),(zS [117] 1318),(zS [118] 1321),(zS [119] 1324),(zS [120] 1327),(zS [121] 1330),(zS [122] 1333),(zS [61,55,66] 692),(zS [61,55,67] 696),(zS [61,55,68] 700),(zS [61,55,69] 704),(zS [61,55,70] 708),(zS [61,56,48] 712),(zS [61,56,49] 716),(zS [61,56,50] 720),(zS [61,56,51] 724),(zS [61,56,52] 728),(zS [61,56,53] 732),(zS [61,56,54] 736),(zS [61,56,55] 740),(zS [61,56,56] 744),(zS [61,56,57] 748),(zS [61,56,65] 752),(zS [61,56,66] 756),(zS [61,56,67] 760),(zS [61,56,68] 764),(zS [61,56,69] 768),(zS [61,56,70] 772),(zS [61,57,48] 776),(zS [61,57,49] 780),(zS [61,57,50] 784),(zS [61,57,51] 788),(zS [61,57,52] 792),(zS [61,57,53] 796),(zS [61,57,54] 800),(zS [61,57,55] 804),(zS [61,57,56] 808),(zS [61,57,57] 812),(zS [61,57,65] 816),(zS [61,57,66] 820),(zS [61,57,67] 824),(zS [61,57,68] 828),(zS [61,57,69] 832),(zS [61,57,70] 836),(zS [61,65,48] 840),(zS [61,65,49] 844),(zS [61,65,50] 848),(zS [61,65,51] 852),(zS [61,65,52] 856),(zS [61,65,53] 860),(zS [61,65,54] 864),(zS [61,65,55] 868),(zS [61,65,56] 872),(zS [61,65,57] 876),(zS [61,65,65] 880),(zS [61,65,66] 884),(zS [61,65,67] 888),(zS [61,65,68] 892),(zS [61,65,69] 896),(zS [61,65,70] 900),(zS [61,66,48] 904),(zS [61,66,49] 908),(zS [61,66,50] 912),(zS [61,66,51] 916),(zS [61,66,52] 920),(zS [61,66,53] 924),(zS [61,66,54] 928),(zS [61,66,55] 932),(zS [61,66,56] 936),(zS [61,66,57] 940),(zS [61,66,65] 944),(zS [61,66,66] 948),(zS [61,66,67] 952),(zS [61,66,68] 956),(zS [61,66,69] 960),(zS [61,66,70] 964),(zS [61,67,48] 968),(zS [61,67,49] 972),(zS [61,67,50] 976),(zS [61,67,51] 980),(zS [61,67,52] 984),(zS [61,67,53] 988),(zS [61,67,54] 992),(zS [61,67,55] 996),(zS [61,67,56] 1000),(zS [61,67,57] 1004),(zS [61,67,65] 1008),(zS [61,67,66] 1012),(zS [61,67,67] 1016),(zS [61,67,68] 1020),(zS [61,67,69] 1024),(zS [61,67,70] 1028),(zS [61,68,48] 1032),(zS [61,68,49] 1036),(zS [61,68,50] 1040),(zS [61,68,51] 1044),(zS [61,68,52] 1048),(zS [61,68,53] 1052),(zS [61,68,54] 1056),(zS [61,68,55] 1060),(zS [61,68,56] 1064),(zS [61,68,57] 1068),(zS [61,68,65] 1072),(zS [61,68,66] 1076),(zS [61,68,67] 1080),(zS [61,68,68] 1084),(zS [61,68,69] 1088),(zS [61,68,70] 1092),(zS [61,69,48] 1096),(zS [61,69,49] 1100),(zS [61,69,50] 1104),(zS [61,69,51] 1108),(zS [61,69,52] 1112),(zS [61,69,53] 1116),(zS [61,69,54] 1120),(zS [61,69,55] 1124),(zS [61,69,56] 1128),(zS [61,69,57] 1132),(zS [61,69,65] 1136),(zS [61,69,66] 1140),(zS [61,69,67] 1144),(zS [61,69,68] 1148),(zS [61,69,69] 1152),(zS [61,69,70] 1156),(zS [61,70,48] 1160),(zS [61,70,49] 1164),(zS [61,70,50] 1168),(zS [61,70,51] 1172),(zS [61,70,52] 1176),(zS [61,70,53] 1180),(zS [61,70,54] 1184),(zS [61,70,55] 1188),(zS [61,70,56] 1192),(zS [61,70,57] 1196),(zS [61,70,65] 1200),(zS [61,70,66] 1204),(zS [61,70,67] 1208),(zS [61,70,68] 1212),(zS [61,70,69] 1216),(zS [61,70,70] 1220)]⟩ 0),⟨[]⟩⟩
noncomputable def x31v11 (p : Program) (P : Params) : Obj := ⟨(.type "list"),none,(.seq ⟨[(zS [61,48,48] 200),(zS [61,48,49] 204),(zS [61,48,50] 208),(zS [61,48,51] 212),(zS [61,48,52] 216),(zS [61,48,53] 220),(zS [61,48,54] 224),(zS [61,48,55] 228),(zS [61,48,56] 232),(zS [9] 1730),(zS [61,48,65] 240),(zS [61,48,66] 244),(zS [61,48,67] 248),(zS [61,48,68] 252),(zS [61,48,69] 256),(zS [61,48,70] 260),(zS [61,49,48] 264),(zS [61,49,49] 268),(zS [61,49,50] 272),(zS [61,49,51] 276),(zS [61,49,52] 280),(zS [61,49,53] 284),(zS [61,49,54] 288),(zS [61,49,55] 292),(zS [61,49,56] 296),(zS [61,49,57] 300),(zS [61,49,65] 304),(zS [61,49,66] 308),(zS [61,49,67] 312),(zS [61,49,68] 316),(zS [61,49,69] 320),(zS [61,49,70] 324),(zS [32] 1448),(zS [33] 1451),(zS [34] 1454),(zS [35] 1457),(zS [36] 1460),(zS [37] 1463),(zS [38] 1466),(zS [39] 1469),(zS [40] 1472),(zS [41] 1475),(zS [42] 1478),(zS [43] 1481),(zS [44] 1484),(zS [45] 1487),(zS [46] 1490),(zS [47] 1493),(zS [48] 1496),(zS [49] 1499),(zS [50] 1502),(zS [51] 1505),(zS [52] 1508),(zS [53] 1511),(zS [54] 1514),(zS [55] 1517),(zS [56] 1520),(zS [57] 1523),(zS [58] 1526),(zS [59] 1529),(zS [60] 1532),(zS [61,51,68] 444),(zS [62] 1535),(zS [63] 1538),(zS [64] 1541),(zS [65] 1544),(zS [66] 1547),(zS [67] 1550),(zS [68] 1553),(zS [69] 1556),(zS [70] 1559),(zS [71] 1562),(zS [72] 1565),(zS [73] 1568),(zS [74] 1571),(zS [75] 1574),(zS [76] 1577),(zS [77] 1580),(zS [78] 1583),(zS [79] 1586),(zS [80] 1589),(zS [81] 1592),(zS [82] 1595),(zS [83] 1598),(zS [84] 1601),(zS [85] 1604),(zS [86] 1607),(zS [87] 1610),(zS [88] 1613),(zS [89] 1616),(zS [90] 1619),(zS [91] 1622),(zS [92] 1625),(zS [93] 1628),(zS [94] 1631),(zS [95] 1634),(zS [96] 1637),(zS [97] 1640),(zS [98] 1643),(zS [99] 1646),(zS [100] 1649),(zS [101] 1652),(zS [102] 1655),(zS [103] 1658),(zS [104] 1661),(zS [105] 1664),(zS [106] 1667),(zS [107] 1670),(zS [108] 1673),(zS [109] 1676),(zS [110] 1679),(zS [111] 1682),(zS [112] 1685),(zS [113] 1688),(zS [114] 1691),(zS [115] 1694),(zS [116] 1697),(zS [117] 1700),(zS [118] 1703),(zS [119] 1706),(zS [120] 1709),(zS [121] 1712),(zS [122] 1715),(zS [123] 1718),(zS [124] 1721),(zS [125] 1724),(zS [126] 1727),(zS [61,55,70] 708),(zS [61,56,48] 712),(zS [61,56,49] 716),(zS [61,56,50] 720),(zS [61,56,51] 724),(zS [61,56,52] 728),(zS [61,56,53] 732),(zS [61,56,54] 736),(zS [61,56,55] 740),(zS [61,56,56] 744),(zS [61,56,57] 748),(zS [61,56,65] 752),(zS [61,56,66] 756),(zS [61,56,67] 760),(zS [61,56,68] 764),(zS [61,56,69] 768),(zS [61,56,70] 772),(zS [61,57,48] 776),(zS [61,57,49] 780),(zS [61,57,50] 784),(zS [61,57,51] 788),(zS [61,57,52] 792),(zS [61,57,53] 796),(zS [61,57,54] 800),(zS [61,57,55] 804),(zS [61,57,56] 808),(zS [61,57,57] 812),(zS [61,57,65] 816),(zS [61,57,66] 820),(zS [61,57,67] 824),(zS [61,57,68] 828),(zS [61,57,69] 832),(zS [61,57,70] 836),(zS [61,65,48] 840),(zS [61,65,49] 844),(zS [61,65,50] 848),(zS [61,65,51] 852),(zS [61,65,52] 856),(zS [61,65,53] 860),(zS [61,65,54] 864),(zS [61,65,55] 868),(zS [61,65,56] 872),(zS [61,65,57] 876),(zS [61,65,65] 880),(zS [61,65,66] 884),(zS [61,65,67] 888),(zS [61,65,68] 892),(zS [61,65,69] 896),(zS [61,65,70] 900),(zS [61,66,48] 904),(zS [61,66,49] 908),(zS [61,66,50] 912),(zS [61,66,51] 916),(zS [61,66,52] 920),(zS [61,66,53] 924),(zS [61,66,54] 928),(zS [61,66,55] 932),(zS [61,66,56] 936),(zS [61,66,57] 940),(zS [61,66,65] 944),(zS [61,66,66] 948),(zS [61,66,67] 952),(zS [61,66,68] 956),(zS [61,66,69] 960),(zS [61,66,70] 964),(zS [61,67,48] 968),(zS [61,67,49] 972),(zS [61,67,50] 976),(zS [61,67,51] 980),(zS [61,67,52] 984),(zS [61,67,53] 988),(zS [61,67,54] 992),(zS [61,67,55] 996),(zS [61,67,56] 1000),(zS [61,67,57] 1004),(zS [61,67,65] 1008),(zS [61,67,66] 1012),(zS [61,67,67] 1016),(zS [61,67,68] 1020),(zS [61,67,69] 1024),(zS [61,67,70] 1028),(zS [61,68,48] 1032),(zS [61,68,49] 1036),(zS [61,68,50] 1040),(zS [61,68,51] 1044),(zS [61,68,52] 1048),(zS [61,68,53] 1052),(zS [61,68,54] 1056),(zS [61,68,55] 1060),(zS [61,68,56] 1064),(zS [61,68,57] 1068),(zS [61,68,65] 1072),(zS [61,68,66] 1076),(zS [61,68,67] 1080),(zS [61,68,68] 1084),(zS [61,68,69] 1088),(zS [61,68,70] 1092),(zS [61,69,48] 1096),(zS [61,69,49] 1100),(zS [61,69,50] 1104),(zS [61,69,51] 1108),(zS [61,69,52] 1112),(zS [61,69,53] 1116),(zS [61,69,54] 1120),(zS [61,69,55] 1124),(zS [61,69,56] 1128),(zS [61,69,57] 1132),(zS [61,69,65] 1136),(zS [61,69,66] 1140),(zS [61,69,67] 1144),(zS [61,69,68] 1148),(zS [61,69,69] 1152),(zS [61,69,70] 1156),(zS [61,70,48] 1160),(zS [61,70,49] 1164),(zS [61,70,50] 1168),(zS [61,70,51] 1172),(zS [61,70,52] 1176),(zS [61,70,53] 1180),(zS [61,70,54] 1184),(zS [61,70,55] 1188),(zS [61,70,56] 1192),(zS [61,70,57] 1196),(zS [61,70,65] 1200),(zS [61,70,66] 1204),(zS [61,70,67] 1208),(zS [61,70,68] 1212),(zS [61,70,69] 1216),(zS [61,70,70] 1220)]⟩ 0),⟨[]⟩⟩
noncomputable def x35 (p : Program) (P : Params) : Obj := ⟨(.type "bytes_iterator"),none,(.fields ⟨[.none,(.int 95 0)]⟩),⟨[]⟩⟩
noncomputable def x36 (p : Program) (P : Params) : Obj := ⟨(.type "tuple"),none,(.seq ⟨[]⟩ 0),⟨[]⟩⟩
noncomputable def x37 (p : Program) (P : Params) : Obj := ⟨(.type "StopIteration"),none,(.fields ⟨[(.ref 36),.none,.none,.none,(.bool false),.none]⟩),⟨[]⟩⟩
noncomputable def tree11 (p : Program) (P : Params) : BT := (.node (boot_o_0 P) (.node (boot_o_1 P) (.node (x3v11 p P) (.node (boot_o_7 P) (.node (x15 p P) (.node (x31v11 p P) .nil .nil) .nil) (.node (x23 p P) .nil .nil)) (.node (x11 p P) (.node (x19 p P) (.node (x35 p P) .nil .nil) .nil) (.node (x27 p P) .nil .nil))) (.node (boot_o_5 P) (.node (boot_o_9 P) (.node (x17 p P) (.node (x33 p P) .nil .nil) .nil) (.node (x25 p P) .nil .nil)) (.node (x13 p P) (.node (x21 p P) (.node (x37 p P) .nil .nil) .nil) (.node (x29v11 p P) .nil .nil)))) (.node (boot_o_2 P) (.node (boot_o_4 P) (.node (boot_o_8 P) (.node (x16 p P) (.node (x32 p P) .nil .nil) .nil) (.node (x24 p P) .nil .nil)) (.node (x12v0 p P) (.node (x20 p P) (.node (x36 p P) .nil .nil) .nil) (.node (x28 p P) .nil .nil))) (.node (boot_o_6 P) (.node (boot_o_10 P) (.node (x18 p P) (.node (x34 p P) .nil .nil) .nil) (.node (x26 p P) .nil .nil)) (.node (x14 p P) (.node (x22 p P) .nil .nil) (.node (x30 p P) .nil .nil)))))
noncomputable def x38 (p : Program) (P : Params) : Obj := ⟨(.type "tuple"),none,(.seq ⟨[(zS [105,115,111,45,56,56,53,57,45,49] 1731)]⟩ 0),⟨[]⟩⟩
noncomputable def x39 (p : Program) (P : Params) : Obj := ⟨(.type "tuple"),none,(.seq ⟨[]⟩ 0),⟨[]⟩⟩
noncomputable def x40 (p : Program) (P : Params) : Obj := ⟨.none,none,(.fields ⟨[]⟩),⟨[]⟩⟩
noncomputable def x41 (p : Program) (P : Params) : Obj := ⟨(.type "tuple"),none,(.seq ⟨[(zS [104,101,97,100,101,114,95,98,121,116,101,115] 1735),(zS [99,104,97,114,115,101,116] 1736),(zS [101,110,99,111,100,101,100] 1737)]⟩ 0),⟨[]⟩⟩
noncomputable def x42 (p : Program) (P : Params) : Obj := ⟨(.type "tuple"),none,(.seq ⟨[]⟩ 0),⟨[]⟩⟩
noncomputable def x43 (p : Program) (P : Params) : Obj := ⟨.none,none,(.func { name := ⟨⟨[104,101,97,100,101,114,95,101,110,99,111,100,101]⟩⟩,qualname := ⟨⟨[104,101,97,100,101,114,95,101,110,99,111,100,101]⟩⟩,params := (fnA (stA p 12)),body := (.stmts (fnB (stA p 12))),scope := fnS (stA p 12),globals := 0,closure := [],defaults := .none,kwdefaults := .none,doc := .none,pyModule := .none,annotations := none,code := .none,closureTuple := .none,builtins := 0 }),⟨[]⟩⟩
noncomputable def x44 (p : Program) (P : Params) : Obj := ⟨(.type "code"),none,(.fields ⟨[(zS [104,101,97,100,101,114,95,101,110,99,111,100,101] 1732),(zS [104,101,97,100,101,114,95,101,110,99,111,100,101] 1733),(z0 1734),(.int 17 0),(.int 2 0),(.int 0 0),(.int 0 0),(.int 3 0),(.ref 39),(.bool true),(.int 181 0),(.ref 40),.none,(.ref 41),(.ref 42),(.ref 43),(.int 1738 0),(.int 17 0),(z0 1739)]⟩),⟨[]⟩⟩
noncomputable def x45 (p : Program) (P : Params) : Obj := ⟨(.type "function"),none,(.func { name := ⟨⟨[104,101,97,100,101,114,95,101,110,99,111,100,101]⟩⟩,qualname := ⟨⟨[104,101,97,100,101,114,95,101,110,99,111,100,101]⟩⟩,params := (fnA (stA p 12)),body := (.stmts (fnB (stA p 12))),scope := fnS (stA p 12),globals := 3,closure := [],defaults := (.ref 38),kwdefaults := .none,doc := .none,pyModule := (z4 1232),annotations := none,code := (.ref 44),closureTuple := .none,builtins := 0 }),⟨[]⟩⟩
noncomputable def x46 (p : Program) (P : Params) : Obj := ⟨(.type "slice"),none,(.fields ⟨[.none,.none,.none]⟩),⟨[]⟩⟩
noncomputable def x47 (p : Program) (P : Params) : Obj := ⟨(.type "list"),none,(.seq ⟨[(zS [61,48,48] 200),(zS [61,48,49] 204),(zS [61,48,50] 208),(zS [61,48,51] 212),(zS [61,48,52] 216),(zS [61,48,53] 220),(zS [61,48,54] 224),(zS [61,48,55] 228),(zS [61,48,56] 232),(zS [9] 1730),(zS [10] 1748),(zS [61,48,66] 244),(zS [61,48,67] 248),(zS [13] 1745),(zS [61,48,69] 256),(zS [61,48,70] 260),(zS [61,49,48] 264),(zS [61,49,49] 268),(zS [61,49,50] 272),(zS [61,49,51] 276),(zS [61,49,52] 280),(zS [61,49,53] 284),(zS [61,49,54] 288),(zS [61,49,55] 292),(zS [61,49,56] 296),(zS [61,49,57] 300),(zS [61,49,65] 304),(zS [61,49,66] 308),(zS [61,49,67] 312),(zS [61,49,68] 316),(zS [61,49,69] 320),(zS [61,49,70] 324),(zS [32] 1448),(zS [33] 1451),(zS [34] 1454),(zS [35] 1457),(zS [36] 1460),(zS [37] 1463),(zS [38] 1466),(zS [39] 1469),(zS [40] 1472),(zS [41] 1475),(zS [42] 1478),(zS [43] 1481),(zS [44] 1484),(zS [45] 1487),(zS [46] 1490),(zS [47] 1493),(zS [48] 1496),(zS [49] 1499),(zS [50] 1502),(zS [51] 1505),(zS [52] 1508),(zS [53] 1511),(zS [54] 1514),(zS [55] 1517),(zS [56] 1520),(zS [57] 1523),(zS [58] 1526),(zS [59] 1529),(zS [60] 1532),(zS [61,51,68] 444),(zS [62] 1535),(zS [63] 1538),(zS [64] 1541),(zS [65] 1544),(zS [66] 1547),(zS [67] 1550),(zS [68] 1553),(zS [69] 1556),(zS [70] 1559),(zS [71] 1562),(zS [72] 1565),(zS [73] 1568),(zS [74] 1571),(zS [75] 1574),(zS [76] 1577),(zS [77] 1580),(zS [78] 1583),(zS [79] 1586),(zS [80] 1589),(zS [81] 1592),(zS [82] 1595),(zS [83] 1598),(zS [84] 1601),(zS [85] 1604),(zS [86] 1607),(zS [87] 1610),(zS [88] 1613),(zS [89] 1616),(zS [90] 1619),(zS [91] 1622),(zS [92] 1625),(zS [93] 1628),(zS [94] 1631),(zS [95] 1634),(zS [96] 1637),(zS [97] 1640),(zS [98] 1643),(zS [99] 1646),(zS [100] 1649),(zS [101] 1652),(zS [102] 1655),(zS [103] 1658),(zS [104] 1661),(zS [105] 1664),(zS [106] 1667),(zS [107] 1670),(zS [108] 1673),(zS [109] 1676),(zS [110] 1679),(zS [111] 1682),(zS [112] 1685),(zS [113] 1688),(zS [114] 1691),(zS [115] 1694),(zS [116] 1697),(zS [117] 1700),(zS [118] 1703),(zS [119] 1706),(zS [120] 1709),(zS [121] 1712),(zS [122] 1715),(zS [123] 1718),(zS [124] 1721),(zS [125] 1724),(zS [126] 1727),(zS [61,55,70] 708),(zS [61,56,48] 712),(zS [61,56,49] 716),(zS [61,56,50] 720),(zS [61,56,51] 724),(zS [61,56,52] 728),(zS [61,56,53] 732),(zS [61,56,54] 736),(zS [61,56,55] 740),(zS [61,56,56] 744),(zS [61,56,57] 748),(zS [61,56,65] 752),(zS [61,56,66] 756),(zS [61,56,67] 760),(zS [61,56,68] 764),(zS [61,56,69] 768),(zS [61,56,70] 772),(zS [61,57,48] 776),(zS [61,57,49] 780),(zS [61,57,50] 784),(zS [61,57,51] 788),(zS [61,57,52] 792),(zS [61,57,53] 796),(zS [61,57,54] 800),(zS [61,57,55] 804),(zS [61,57,56] 808),(zS [61,57,57] 812),(zS [61,57,65] 816),(zS [61,57,66] 820),(zS [61,57,67] 824),(zS [61,57,68] 828),(zS [61,57,69] 832),(zS [61,57,70] 836),(zS [61,65,48] 840),(zS [61,65,49] 844),(zS [61,65,50] 848),(zS [61,65,51] 852),(zS [61,65,52] 856),(zS [61,65,53] 860),(zS [61,65,54] 864),(zS [61,65,55] 868),(zS [61,65,56] 872),(zS [61,65,57] 876),(zS [61,65,65] 880),(zS [61,65,66] 884),(zS [61,65,67] 888),(zS [61,65,68] 892),(zS [61,65,69] 896),(zS [61,65,70] 900),(zS [61,66,48] 904),(zS [61,66,49] 908),(zS [61,66,50] 912),(zS [61,66,51] 916),(zS [61,66,52] 920),(zS [61,66,53] 924),(zS [61,66,54] 928),(zS [61,66,55] 932),(zS [61,66,56] 936),(zS [61,66,57] 940),(zS [61,66,65] 944),(zS [61,66,66] 948),(zS [61,66,67] 952),(zS [61,66,68] 956),(zS [61,66,69] 960),(zS [61,66,70] 964),(zS [61,67,48] 968),(zS [61,67,49] 972),(zS [61,67,50] 976),(zS [61,67,51] 980),(zS [61,67,52] 984),(zS [61,67,53] 988),(zS [61,67,54] 992),(zS [61,67,55] 996),(zS [61,67,56] 1000),(zS [61,67,57] 1004),(zS [61,67,65] 1008),(zS [61,67,66] 1012),(zS [61,67,67] 1016),(zS [61,67,68] 1020),(zS [61,67,69] 1024),(zS [61,67,70] 1028),(zS [61,68,48] 1032),(zS [61,68,49] 1036),(zS [61,68,50] 1040),(zS [61,68,51] 1044),(zS [61,68,52] 1048),(zS [61,68,53] 1052),(zS [61,68,54] 1056),(zS [61,68,55] 1060),(zS [61,68,56] 1064),(zS [61,68,57] 1068),(zS [61,68,65] 1072),(zS [61,68,66] 1076),(zS [61,68,67] 1080),(zS [61,68,68] 1084),(zS [61,68,69] 1088),(zS [61,68,70] 1092),(zS [61,69,48] 1096),(zS [61,69,49] 1100),(zS [61,69,50] 1104),(zS [61,69,51] 1108),(zS [61,69,52] 1112),(zS [61,69,53] 1116),(zS [61,69,54] 1120),(zS [61,69,55] 1124),(zS [61,69,56] 1128),(zS [61,69,57] 1132),(zS [61,69,65] 1136),(zS [61,69,66] 1140),(zS [61,69,67] 1144),(zS [61,69,68] 1148),(zS [61,69,69] 1152),(zS [61,69,70] 1156),(zS [61,70,48] 1160),(zS [61,70,49] 1164),(zS [61,70,50] 1168),(zS [61,70,51] 1172),(zS [61,70,52] 1176),(zS [61,70,53] 1180),(zS [61,70,54] 1184),(zS [61,70,55] 1188),(zS [61,70,56] 1192),(zS [61,70,57] 1196),(zS [61,70,65] 1200),(zS [61,70,66] 1204),(zS [61,70,67] 1208),(zS [61,70,68] 1212),(zS [61,70,69] 1216),(zS [61,70,70] 1220)]⟩ 0),⟨[]⟩⟩
noncomputable def x48 (p : Program) (P : Params) : Obj := ⟨(.type "bytes_iterator"),none,(.fields ⟨[.none,(.int 2 0)]⟩),⟨[]⟩⟩
noncomputable def x49 (p : Program) (P : Params) : Obj := ⟨(.type "tuple"),none,(.seq ⟨[]⟩ 0),⟨[]⟩⟩
noncomputable def x50 (p : Program) (P : Params) : Obj := ⟨(.type "StopIteration"),none,(.fields ⟨[(.ref 49),.none,.none,.none,(.bool false),.none]⟩),⟨[]⟩⟩
noncomputable def x51 (p : Program) (P : Params) : Obj := ⟨(.type "tuple"),none,(.seq ⟨[]⟩ 0),⟨[]⟩⟩
noncomputable def x52 (p : Program) (P : Params) : Obj := ⟨(.type "builtin_function_or_method"),none,(.fields ⟨[(.builtin "type.__prepare__"),(.type "type")]⟩),⟨[]⟩⟩
noncomputable def x53 (p : Program) (P : Params) : Obj := ⟨(.type "dict"),none,(.dict ⟨[zE P [95,95,109,111,100,117,108,101,95,95] 1764 (z1 1749),zE P [95,95,113,117,97,108,110,97,109,101,95,95] 1766 (zS [95,78,111,100,101,73,110,102,111] 1765),z8 P 1768 (.int 29 1767),zE P [95,95,115,108,111,116,115,95,95] 1772 (.ref 58),zE P [95,95,105,110,105,116,95,95] 1780 (.ref 65),z9 P 1784 (.ref 66)]⟩ 6),⟨[]⟩⟩
noncomputable def x54 (p : Program) (P : Params) : Obj := ⟨(.type "tuple"),none,(.seq ⟨[]⟩ 0),⟨[]⟩⟩
noncomputable def x55 (p : Program) (P : Params) : Obj := ⟨.none,none,(.fields ⟨[(.int 32 0),(.int 4 0),(.ref 64)]⟩),⟨[]⟩⟩
noncomputable def x56 (p : Program) (P : Params) : Obj := ⟨(.type "code"),none,(.fields ⟨[(zS [95,78,111,100,101,73,110,102,111] 1759),(zS [95,78,111,100,101,73,110,102,111] 1760),(z0 1761),(.int 29 0),(.int 0 0),(.int 0 0),(.int 0 0),(.int 0 0),(.ref 54),(.bool false),(.int 181 0),(.ref 55),.none,.none,.none,.none,(.int 1762 0),(.int 29 0),(z0 1763)]⟩),⟨[]⟩⟩
noncomputable def x57 (p : Program) (P : Params) : Obj := ⟨(.type "frame"),none,.plain,⟨[some (.ref 56),some (.ref 3),some (.ref 53),none,some (z1 1749),none,some (.ref 0)]⟩⟩
noncomputable def x58 (p : Program) (P : Params) : Obj := ⟨(.type "tuple"),none,(.seq ⟨[(zS [110,111,100,101] 1769),(zS [110,112,114,101,100,101,99,101,115,115,111,114,115] 1770),(zS [115,117,99,99,101,115,115,111,114,115] 1771)]⟩ 0),⟨[]⟩⟩
noncomputable def x59 (p : Program) (P : Params) : Obj := ⟨(.type "tuple"),none,(.seq ⟨[]⟩ 0),⟨[]⟩⟩
noncomputable def x60 (p : Program) (P : Params) : Obj := ⟨.none,none,(.fields ⟨[]⟩),⟨[]⟩⟩
noncomputable def x61 (p : Program) (P : Params) : Obj := ⟨(.type "tuple"),none,(.seq ⟨[(zS [115,101,108,102] 1776),(zS [110,111,100,101] 1777)]⟩ 0),⟨[]⟩⟩
noncomputable def x62 (p : Program) (P : Params) : Obj := ⟨(.type "tuple"),none,(.seq ⟨[]⟩ 0),⟨[]⟩⟩
noncomputable def x63 (p : Program) (P : Params) : Obj := ⟨.none,none,(.func { name := ⟨⟨[95,95,105,110,105,116,95,95]⟩⟩,qualname := ⟨⟨[95,78,111,100,101,73,110,102,111,46,95,95,105,110,105,116,95,95]⟩⟩,params := (fnA (stB p 19 1)),body := (.stmts (fnB (stB p 19 1))),scope := fnS (stB p 19 1),globals := 0,closure := [],defaults := .none,kwdefaults := .none,doc := .none,pyModule := .none,annotations := none,code := .none,closureTuple := .none,builtins := 0 }),⟨[]⟩⟩
noncomputable def x64 (p : Program) (P : Params) : Obj := ⟨(.type "code"),none,(.fields ⟨[(zS [95,95,105,110,105,116,95,95] 1773),(zS [95,78,111,100,101,73,110,102,111,46,95,95,105,110,105,116,95,95] 1774),(z0 1775),(.int 32 0),(.int 2 0),(.int 0 0),(.int 0 0),(.int 3 0),(.ref 59),(.bool true),(.int 181 0),(.ref 60),.none,(.ref 61),(.ref 62),(.ref 63),(.int 1778 0),(.int 32 0),(z0 1779)]⟩),⟨[]⟩⟩
noncomputable def x65 (p : Program) (P : Params) : Obj := ⟨(.type "function"),none,(.func { name := ⟨⟨[95,95,105,110,105,116,95,95]⟩⟩,qualname := ⟨⟨[95,78,111,100,101,73,110,102,111,46,95,95,105,110,105,116,95,95]⟩⟩,params := (fnA (stB p 19 1)),body := (.stmts (fnB (stB p 19 1))),scope := fnS (stB p 19 1),globals := 3,closure := [],defaults := .none,kwdefaults := .none,doc := .none,pyModule := (z1 1749),annotations := none,code := (.ref 64),closureTuple := .none,builtins := 0 }),⟨[]⟩⟩
noncomputable def x66 (p : Program) (P : Params) : Obj := ⟨(.type "tuple"),none,(.seq ⟨[(zS [110,111,100,101] 1781),(zS [110,112,114,101,100,101,99,101,115,115,111,114,115] 1782),(zS [115,117,99,99,101,115,115,111,114,115] 1783)]⟩ 0),⟨[]⟩⟩
noncomputable def x67 (p : Program) (P : Params) : Obj := ⟨(.type "list"),none,(.seq ⟨[(zS [110,111,100,101] 1769),(zS [110,112,114,101,100,101,99,101,115,115,111,114,115] 1770),(zS [115,117,99,99,101,115,115,111,114,115] 1771)]⟩ 1),⟨[]⟩⟩
noncomputable def x68 (p : Program) (P : Params) : Obj := ⟨(.type "dict"),none,(.dict ⟨[zE P [95,95,109,111,100,117,108,101,95,95] 1764 (z1 1749),z8 P 1768 (.int 29 1767),zE P [95,95,115,108,111,116,115,95,95] 1772 (.ref 58),zE P [95,95,105,110,105,116,95,95] 1780 (.ref 65),z9 P 1784 (.ref 66),zE P [110,111,100,101] 1786 (.ref 70),zE P [110,112,114,101,100,101,99,101,115,115,111,114,115] 1788 (.ref 71),zE P [115,117,99,99,101,115,115,111,114,115] 1790 (.ref 72),zE P [95,95,100,111,99,95,95] 1791 .none]⟩ 5),⟨[]⟩⟩
noncomputable def x69 (p : Program) (P : Params) : Obj := ⟨(.type "type"),none,(.cls { name := ⟨⟨[95,78,111,100,101,73,110,102,111]⟩⟩,bases := [(.type "object")],mro := [(.ref 69),(.type "object")],ns := 68,qualname := ⟨⟨[95,78,111,100,101,73,110,102,111]⟩⟩,hasDict := false,slotNames := [⟨⟨[110,111,100,101]⟩⟩,⟨⟨[110,112,114,101,100,101,99,101,115,115,111,114,115]⟩⟩,⟨⟨[115,117,99,99,101,115,115,111,114,115]⟩⟩],subclasses := [],abstract := false,collection := none,hasDel := false }),⟨[none,none,some (zS [95,78,111,100,101,73,110,102,111] 1757),some (zS [95,78,111,100,101,73,110,102,111] 1765),some (.builtin "object.__new__"),some (.bool false)]⟩⟩
noncomputable def x70 (p : Program) (P : Params) : Obj := ⟨(.type "member_descriptor"),none,(.fields ⟨[(zS [110,111,100,101] 1785),(.ref 69),(.builtin "proto.slot"),(.builtin "proto.slot#set"),(.int 2 0)]⟩),⟨[]⟩⟩
noncomputable def x71 (p : Program) (P : Params) : Obj := ⟨(.type "member_descriptor"),none,(.fields ⟨[(zS [110,112,114,101,100,101,99,101,115,115,111,114,115] 1787),(.ref 69),(.builtin "proto.slot"),(.builtin "proto.slot#set"),(.int 1 0)]⟩),⟨[]⟩⟩
noncomputable def x72 (p : Program) (P : Params) : Obj := ⟨(.type "member_descriptor"),none,(.fields ⟨[(zS [115,117,99,99,101,115,115,111,114,115] 1789),(.ref 69),(.builtin "proto.slot"),(.builtin "proto.slot#set"),(.int 0 0)]⟩),⟨[]⟩⟩
noncomputable def x73 (p : Program) (P : Params) : Obj := ⟨(.type "super"),none,(.fields ⟨[(.ref 69),(.ref 69),(.ref 69)]⟩),⟨[]⟩⟩
noncomputable def x74 (p : Program) (P : Params) : Obj := ⟨(.type "builtin_function_or_method"),none,(.fields ⟨[(.builtin "object.__init_subclass__"),(.ref 69)]⟩),⟨[]⟩⟩
noncomputable def x75 (p : Program) (P : Params) : Obj := ⟨(.type "tuple"),none,(.seq ⟨[(.type "ValueError")]⟩ 0),⟨[]⟩⟩
noncomputable def x76 (p : Program) (P : Params) : Obj := ⟨(.type "builtin_function_or_method"),none,(.fields ⟨[(.builtin "type.__prepare__"),(.type "type")]⟩),⟨[]⟩⟩
noncomputable def x77 (p : Program) (P : Params) : Obj := ⟨(.type "dict"),none,(.dict ⟨[zE P [95,95,109,111,100,117,108,101,95,95] 1801 (z1 1749),zE P [95,95,113,117,97,108,110,97,109,101,95,95] 1803 (zS [67,121,99,108,101,69,114,114,111,114] 1802),z8 P 1805 (.int 36 1804),z9 P 1806 (.ref 82)]⟩ 4),⟨[]⟩⟩
noncomputable def x78 (p : Program) (P : Params) : Obj := ⟨(.type "tuple"),none,(.seq ⟨[]⟩ 0),⟨[]⟩⟩
noncomputable def x79 (p : Program) (P : Params) : Obj := ⟨.none,none,(.fields ⟨[]⟩),⟨[]⟩⟩
noncomputable def x80 (p : Program) (P : Params) : Obj := ⟨(.type "code"),none,(.fields ⟨[(zS [67,121,99,108,101,69,114,114,111,114] 1796),(zS [67,121,99,108,101,69,114,114,111,114] 1797),(z0 1798),(.int 36 0),(.int 0 0),(.int 0 0),(.int 0 0),(.int 0 0),(.ref 78),(.bool false),(.int 181 0),(.ref 79),.none,.none,.none,.none,(.int 1799 0),(.int 36 0),(z0 1800)]⟩),⟨[]⟩⟩
noncomputable def x81 (p : Program) (P : Params) : Obj := ⟨(.type "frame"),none,.plain,⟨[some (.ref 80),some (.ref 3),some (.ref 77),none,some (z1 1749),none,some (.ref 0)]⟩⟩
noncomputable def x82 (p : Program) (P : Params) : Obj := ⟨(.type "tuple"),none,(.seq ⟨[]⟩ 0),⟨[]⟩⟩
noncomputable def x83 (p : Program) (P : Params) : Obj := ⟨(.type "dict"),none,(.dict ⟨[zE P [95,95,109,111,100,117,108,101,95,95] 1801 (z1 1749),z8 P 1805 (.int 36 1804),z9 P 1806 (.ref 82),zE P [95,95,119,101,97,107,114,101,102,95,95] 1808 (.ref 85),zE P [95,95,100,111,99,95,95] 1809 .none]⟩ 3),⟨[]⟩⟩
noncomputable def x84 (p : Program) (P : Params) : Obj := ⟨(.type "type"),none,(.cls { name := ⟨⟨[67,121,99,108,101,69,114,114,111,114]⟩⟩,bases := [(.type "ValueError")],mro := [(.ref 84),(.type "ValueError"),(.type "Exception"),(.type "BaseException"),(.type "object")],ns := 83,qualname := ⟨⟨[67,121,99,108,101,69,114,114,111,114]⟩⟩,hasDict := true,slotNames := [],subclasses := [],abstract := false,collection := none,hasDel := false }),⟨[some (.ref 75),none,some (zS [67,121,99,108,101,69,114,114,111,114] 1794),some (zS [67,121,99,108,101,69,114,114,111,114] 1802),some (.builtin "ValueError.__new__"),some (.bool true)]⟩⟩
noncomputable def x85 (p : Program) (P : Params) : Obj := ⟨(.type "getset_descriptor"),none,(.fields ⟨[(zS [95,95,119,101,97,107,114,101,102,95,95] 1807),(.ref 84),(.builtin "ExceptionGroup.__weakref__"),.none]⟩),⟨[]⟩⟩
noncomputable def x86 (p : Program) (P : Params) : Obj := ⟨(.type "super"),none,(.fields ⟨[(.ref 84),(.ref 84),(.ref 84)]⟩),⟨[]⟩⟩
noncomputable def x87 (p : Program) (P : Params) : Obj := ⟨(.type "builtin_function_or_method"),none,(.fields ⟨[(.builtin "object.__init_subclass__"),(.ref 84)]⟩),⟨[]⟩⟩
noncomputable def x88 (p : Program) (P : Params) : Obj := ⟨(.type "tuple"),none,(.seq ⟨[]⟩ 0),⟨[]⟩⟩
noncomputable def x89 (p : Program) (P : Params) : Obj := ⟨(.type "builtin_function_or_method"),none,(.fields ⟨[(.builtin "type.__prepare__"),(.type "type")]⟩),⟨[]⟩⟩
noncomputable def x90 (p : Program) (P : Params) : Obj := ⟨(.type "dict"),none,(.dict ⟨[zE P [95,95,109,111,100,117,108,101,95,95] 1819 (z1 1749),zE P [95,95,113,117,97,108,110,97,109,101,95,95] 1821 (z3 1820),z8 P 1823 (.int 38 1822),zE P [95,95,105,110,105,116,95,95] 1833 (.ref 102),zE P [95,103,101,116,95,110,111,100,101,105,110,102,111] 1842 (.ref 109),zE P [97,100,100] 1854 (.ref 116),zE P [112,114,101,112,97,114,101] 1860 (.ref 121),zE P [103,101,116,95,114,101,97,100,121] 1870 (.ref 128),zE P [105,115,95,97,99,116,105,118,101] 1877 (.ref 135),zE P [95,95,98,111,111,108,95,95] 1884 (.ref 142),zE P [100,111,110,101] 1898 (.ref 149),zE P [95,102,105,110,100,95,99,121,99,108,101] 1911 (.ref 156),zE P [115,116,97,116,105,99,95,111,114,100,101,114] 1918 (.ref 163),z9 P 1923 (.ref 164)]⟩ 14),⟨[]⟩⟩
noncomputable def x91 (p : Program) (P : Params) : Obj := ⟨(.type "tuple"),none,(.seq ⟨[]⟩ 0),⟨[]⟩⟩
noncomputable def x92 (p : Program) (P : Params) : Obj := ⟨.none,none,(.fields ⟨[(.int 40 0),(.int 4 0),(.ref 101),(.int 49 0),(.int 4 0),(.ref 108),(.int 54 0),(.int 4 0),(.ref 115),(.int 63 0),(.int 4 0),(.ref 120),(.int 71 0),(.int 4 0),(.ref 127),(.int 82 0),(.int 4 0),(.ref 134),(.int 87 0),(.int 4 0),(.ref 141),(.int 90 0),(.int 4 0),(.ref 148),(.int 113 0),(.int 4 0),(.ref 155),(.int 142 0),(.int 4 0),(.ref 162)]⟩),⟨[]⟩⟩
noncomputable def x93 (p : Program) (P : Params) : Obj := ⟨(.type "code"),none,(.fields ⟨[(z3 1814),(z3 1815),(z0 1816),(.int 38 0),(.int 0 0),(.int 0 0),(.int 0 0),(.int 0 0),(.ref 91),(.bool false),(.int 181 0),(.ref 92),.none,.none,.none,.none,(.int 1817 0),(.int 38 0),(z0 1818)]⟩),⟨[]⟩⟩
noncomputable def x94 (p : Program) (P : Params) : Obj := ⟨(.type "frame"),none,.plain,⟨[some (.ref 93),some (.ref 3),some (.ref 90),none,some (z1 1749),none,some (.ref 0)]⟩⟩
noncomputable def x95 (p : Program) (P : Params) : Obj := ⟨(.type "tuple"),none,(.seq ⟨[.none]⟩ 0),⟨[]⟩⟩
noncomputable def x96 (p : Program) (P : Params) : Obj := ⟨(.type "tuple"),none,(.seq ⟨[]⟩ 0),⟨[]⟩⟩
noncomputable def x97 (p : Program) (P : Params) : Obj := ⟨.none,none,(.fields ⟨[]⟩),⟨[]⟩⟩
noncomputable def x98 (p : Program) (P : Params) : Obj := ⟨(.type "tuple"),none,(.seq ⟨[(zS [115,101,108,102] 1827),(zS [103,114,97,112,104] 1828),(zS [110,111,100,101] 1829),(zS [112,114,101,100,101,99,101,115,115,111,114,115] 1830)]⟩ 0),⟨[]⟩⟩
noncomputable def x99 (p : Program) (P : Params) : Obj := ⟨(.type "tuple"),none,(.seq ⟨[]⟩ 0),⟨[]⟩⟩
noncomputable def x100 (p : Program) (P : Params) : Obj := ⟨.none,none,(.func { name := ⟨⟨[95,95,105,110,105,116,95,95]⟩⟩,qualname := ⟨⟨[84,111,112,111,108,111,103,105,99,97,108,83,111,114,116,101,114,46,95,95,105,110,105,116,95,95]⟩⟩,params := (fnA (stB p 21 0)),body := (.stmts (fnB (stB p 21 0))),scope := fnS (stB p 21 0),globals := 0,closure := [],defaults := .none,kwdefaults := .none,doc := .none,pyModule := .none,annotations := none,code := .none,closureTuple := .none,builtins := 0 }),⟨[]⟩⟩
noncomputable def x101 (p : Program) (P : Params) : Obj := ⟨(.type "code"),none,(.fields ⟨[(zS [95,95,105,110,105,116,95,95] 1824),(zS [84,111,112,111,108,111,103,105,99,97,108,83,111,114,116,101,114,46,95,95,105,110,105,116,95,95] 1825),(z0 1826),(.int 40 0),(.int 2 0),(.int 0 0),(.int 0 0),(.int 3 0),(.ref 96),(.bool true),(.int 181 0),(.ref 97),.none,(.ref 98),(.ref 99),(.ref 100),(.int 1831 0),(.int 40 0),(z0 1832)]⟩),⟨[]⟩⟩
noncomputable def x102 (p : Program) (P : Params) : Obj := ⟨(.type "function"),none,(.func { name := ⟨⟨[95,95,105,110,105,116,95,95]⟩⟩,qualname := ⟨⟨[84,111,112,111,108,111,103,105,99,97,108,83,111,114,116,101,114,46,95,95,105,110,105,116,95,95]⟩⟩,params := (fnA (stB p 21 0)),body := (.stmts (fnB (stB p 21 0))),scope := fnS (stB p 21 0),globals := 3,closure := [],defaults := (.ref 95),kwdefaults := .none,doc := .none,pyModule := (z1 1749),annotations := none,code := (.ref 101),closureTuple := .none,builtins := 0 }),⟨[]⟩⟩
noncomputable def x103 (p : Program) (P : Params) : Obj := ⟨(.type "tuple"),none,(.seq ⟨[]⟩ 0),⟨[]⟩⟩
noncomputable def x104 (p : Program) (P : Params) : Obj := ⟨.none,none,(.fields ⟨[]⟩),⟨[]⟩⟩
noncomputable def x105 (p : Program) (P : Params) : Obj := ⟨(.type "tuple"),none,(.seq ⟨[(zS [115,101,108,102] 1837),(zS [110,111,100,101] 1838),(zS [114,101,115,117,108,116] 1839)]⟩ 0),⟨[]⟩⟩
noncomputable def x106 (p : Program) (P : Params) : Obj := ⟨(.type "tuple"),none,(.seq ⟨[]⟩ 0),⟨[]⟩⟩
noncomputable def x107 (p : Program) (P : Params) : Obj := ⟨.none,none,(.func { name := ⟨⟨[95,103,101,116,95,110,111,100,101,105,110,102,111]⟩⟩,qualname := ⟨⟨[84,111,112,111,108,111,103,105,99,97,108,83,111,114,116,101,114,46,95,103,101,116,95,110,111,100,101,105,110,102,111]⟩⟩,params := (fnA (stB p 21 1)),body := (.stmts (fnB (stB p 21 1))),scope := fnS (stB p 21 1),globals := 0,closure := [],defaults := .none,kwdefaults := .none,doc := .none,pyModule := .none,annotations := none,code := .none,closureTuple := .none,builtins := 0 }),⟨[]⟩⟩
noncomputable def x108 (p : Program) (P : Params) : Obj := ⟨(.type "code"),none,(.fields ⟨[(zS [95,103,101,116,95,110,111,100,101,105,110,102,111] 1834),(zS [84,111,112,111,108,111,103,105,99,97,108,83,111,114,116,101,114,46,95,103,101,116,95,110,111,100,101,105,110,102,111] 1835),(z0 1836),(.int 49 0),(.int 2 0),(.int 0 0),(.int 0 0),(.int 3 0),(.ref 103),(.bool true),(.int 181 0),(.ref 104),.none,(.ref 105),(.ref 106),(.ref 107),(.int 1840 0),(.int 49 0),(z0 1841)]⟩),⟨[]⟩⟩
noncomputable def x109 (p : Program) (P : Params) : Obj := ⟨(.type "function"),none,(.func { name := ⟨⟨[95,103,101,116,95,110,111,100,101,105,110,102,111]⟩⟩,qualname := ⟨⟨[84,111,112,111,108,111,103,105,99,97,108,83,111,114,116,101,114,46,95,103,101,116,95,110,111,100,101,105,110,102,111]⟩⟩,params := (fnA (stB p 21 1)),body := (.stmts (fnB (stB p 21 1))),scope := fnS (stB p 21 1),globals := 3,closure := [],defaults := .none,kwdefaults := .none,doc := .none,pyModule := (z1 1749),annotations := none,code := (.ref 108),closureTuple := .none,builtins := 0 }),⟨[]⟩⟩
noncomputable def x110 (p : Program) (P : Params) : Obj := ⟨(.type "tuple"),none,(.seq ⟨[]⟩ 0),⟨[]⟩⟩
noncomputable def x111 (p : Program) (P : Params) : Obj := ⟨.none,none,(.fields ⟨[]⟩),⟨[]⟩⟩
noncomputable def x112 (p : Program) (P : Params) : Obj := ⟨(.type "tuple"),none,(.seq ⟨[(zS [115,101,108,102] 1846),(zS [110,111,100,101] 1847),(zS [112,114,101,100,101,99,101,115,115,111,114,115] 1848),(zS [110,111,100,101,105,110,102,111] 1849),(zS [112,114,101,100] 1850),(zS [112,114,101,100,95,105,110,102,111] 1851)]⟩ 0),⟨[]⟩⟩
noncomputable def x113 (p : Program) (P : Params) : Obj := ⟨(.type "tuple"),none,(.seq ⟨[]⟩ 0),⟨[]⟩⟩
noncomputable def x114 (p : Program) (P : Params) : Obj := ⟨.none,none,(.func { name := ⟨⟨[97,100,100]⟩⟩,qualname := ⟨⟨[84,111,112,111,108,111,103,105,99,97,108,83,111,114,116,101,114,46,97,100,100]⟩⟩,params := (fnA (stB p 21 2)),body := (.stmts (fnB (stB p 21 2))),scope := fnS (stB p 21 2),globals := 0,closure := [],defaults := .none,kwdefaults := .none,doc := .none,pyModule := .none,annotations := none,code := .none,closureTuple := .none,builtins := 0 }),⟨[]⟩⟩
noncomputable def x115 (p : Program) (P : Params) : Obj := ⟨(.type "code"),none,(.fields ⟨[(zS [97,100,100] 1843),(zS [84,111,112,111,108,111,103,105,99,97,108,83,111,114,116,101,114,46,97,100,100] 1844),(z0 1845),(.int 54 0),(.int 2 0),(.int 0 0),(.int 0 0),(.int 7 0),(.ref 110),(.bool true),(.int 181 0),(.ref 111),.none,(.ref 112),(.ref 113),(.ref 114),(.int 1852 0),(.int 54 0),(z0 1853)]⟩),⟨[]⟩⟩
noncomputable def x116 (p : Program) (P : Params) : Obj := ⟨(.type "function"),none,(.func { name := ⟨⟨[97,100,100]⟩⟩,qualname := ⟨⟨[84,111,112,111,108,111,103,105,99,97,108,83,111,114,116,101,114,46,97,100,100]⟩⟩,params := (fnA (stB p 21 2)),body := (.stmts (fnB (stB p 21 2))),scope := fnS (stB p 21 2),globals := 3,closure := [],defaults := .none,kwdefaults := .none,doc := .none,pyModule := (z1 1749),annotations := none,code := (.ref 115),closureTuple := .none,builtins := 0 }),⟨[]⟩⟩
noncomputable def x117 (p : Program) (P : Params) : Obj := ⟨(.type "tuple"),none,(.seq ⟨[]⟩ 0),⟨[]⟩⟩
noncomputable def x118 (p : Program) (P : Params) : Obj := ⟨.none,none,(.fields ⟨[]⟩),⟨[]⟩⟩
noncomputable def x119 (p : Program) (P : Params) : Obj := ⟨.none,none,(.func { name := ⟨⟨[112,114,101,112,97,114,101]⟩⟩,qualname := ⟨⟨[84,111,112,111,108,111,103,105,99,97,108,83,111,114,116,101,114,46,112,114,101,112,97,114,101]⟩⟩,params := (fnA (stB p 21 3)),body := (.stmts (fnB (stB p 21 3))),scope := fnS (stB p 21 3),globals := 0,closure := [],defaults := .none,kwdefaults := .none,doc := .none,pyModule := .none,annotations := none,code := .none,closureTuple := .none,builtins := 0 }),⟨[]⟩⟩
noncomputable def x120 (p : Program) (P : Params) : Obj := ⟨(.type "code"),none,(.fields ⟨[(zS [112,114,101,112,97,114,101] 1855),(zS [84,111,112,111,108,111,103,105,99,97,108,83,111,114,116,101,114,46,112,114,101,112,97,114,101] 1856),(z0 1857),(.int 63 0),(.int 1 0),(.int 0 0),(.int 0 0),(.int 3 0),(.ref 117),(.bool true),(.int 181 0),(.ref 118),.none,.none,.none,(.ref 119),(.int 1858 0),(.int 63 0),(z0 1859)]⟩),⟨[]⟩⟩
noncomputable def x121 (p : Program) (P : Params) : Obj := ⟨(.type "function"),none,(.func { name := ⟨⟨[112,114,101,112,97,114,101]⟩⟩,qualname := ⟨⟨[84,111,112,111,108,111,103,105,99,97,108,83,111,114,116,101,114,46,112,114,101,112,97,114,101]⟩⟩,params := (fnA (stB p 21 3)),body := (.stmts (fnB (stB p 21 3))),scope := fnS (stB p 21 3),globals := 3,closure := [],defaults := .none,kwdefaults := .none,doc := .none,pyModule := (z1 1749),annotations := none,code := (.ref 120),closureTuple := .none,builtins := 0 }),⟨[]⟩⟩
noncomputable def x122 (p : Program) (P : Params) : Obj := ⟨(.type "tuple"),none,(.seq ⟨[]⟩ 0),⟨[]⟩⟩
noncomputable def x123 (p : Program) (P : Params) : Obj := ⟨.none,none,(.fields ⟨[]⟩),⟨[]⟩⟩
noncomputable def x124 (p : Program) (P : Params) : Obj := ⟨(.type "tuple"),none,(.seq ⟨[(zS [115,101,108,102] 1864),(zS [114,101,115,117,108,116] 1865),(zS [110,50,105] 1866),(zS [110,111,100,101] 1867)]⟩ 0),⟨[]⟩⟩
noncomputable def x125 (p : Program) (P : Params) : Obj := ⟨(.type "tuple"),none,(.seq ⟨[]⟩ 0),⟨[]⟩⟩
noncomputable def x126 (p : Program) (P : Params) : Obj := ⟨.none,none,(.func { name := ⟨⟨[103,101,116,95,114,101,97,100,121]⟩⟩,qualname := ⟨⟨[84,111,112,111,108,111,103,105,99,97,108,83,111,114,116,101,114,46,103,101,116,95,114,101,97,100,121]⟩⟩,params := (fnA (stB p 21 4)),body := (.stmts (fnB (stB p 21 4))),scope := fnS (stB p 21 4),globals := 0,closure := [],defaults := .none,kwdefaults := .none,doc := .none,pyModule := .none,annotations := none,code := .none,closureTuple := .none,builtins := 0 }),⟨[]⟩⟩
noncomputable def x127 (p : Program) (P : Params) : Obj := ⟨(.type "code"),none,(.fields ⟨[(zS [103,101,116,95,114,101,97,100,121] 1861),(zS [84,111,112,111,108,111,103,105,99,97,108,83,111,114,116,101,114,46,103,101,116,95,114,101,97,100,121] 1862),(z0 1863),(.int 71 0),(.int 1 0),(.int 0 0),(.int 0 0),(.int 3 0),(.ref 122),(.bool true),(.int 181 0),(.ref 123),.none,(.ref 124),(.ref 125),(.ref 126),(.int 1868 0),(.int 71 0),(z0 1869)]⟩),⟨[]⟩⟩
noncomputable def x128 (p : Program) (P : Params) : Obj := ⟨(.type "function"),none,(.func { name := ⟨⟨[103,101,116,95,114,101,97,100,121]⟩⟩,qualname := ⟨⟨[84,111,112,111,108,111,103,105,99,97,108,83,111,114,116,101,114,46,103,101,116,95,114,101,97,100,121]⟩⟩,params := (fnA (stB p 21 4)),body := (.stmts (fnB (stB p 21 4))),scope := fnS (stB p 21 4),globals := 3,closure := [],defaults := .none,kwdefaults := .none,doc := .none,pyModule := (z1 1749),annotations := none,code := (.ref 127),closureTuple := .none,builtins := 0 }),⟨[]⟩⟩
noncomputable def x129 (p : Program) (P : Params) : Obj := ⟨(.type "tuple"),none,(.seq ⟨[]⟩ 0),⟨[]⟩⟩
noncomputable def x130 (p : Program) (P : Params) : Obj := ⟨.none,none,(.fields ⟨[]⟩),⟨[]⟩⟩
noncomputable def x131 (p : Program) (P : Params) : Obj := ⟨(.type "tuple"),none,(.seq ⟨[(zS [115,101,108,102] 1874)]⟩ 0),⟨[]⟩⟩
noncomputable def x132 (p : Program) (P : Params) : Obj := ⟨(.type "tuple"),none,(.seq ⟨[]⟩ 0),⟨[]⟩⟩
noncomputable def x133 (p : Program) (P : Params) : Obj := ⟨.none,none,(.func { name := ⟨⟨[105,115,95,97,99,116,105,118,101]⟩⟩,qualname := ⟨⟨[84,111,112,111,108,111,103,105,99,97,108,83,111,114,116,101,114,46,105,115,95,97,99,116,105,118,101]⟩⟩,params := (fnA (stB p 21 5)),body := (.stmts (fnB (stB p 21 5))),scope := fnS (stB p 21 5),globals := 0,closure := [],defaults := .none,kwdefaults := .none,doc := .none,pyModule := .none,annotations := none,code := .none,closureTuple := .none,builtins := 0 }),⟨[]⟩⟩
noncomputable def x134 (p : Program) (P : Params) : Obj := ⟨(.type "code"),none,(.fields ⟨[(zS [105,115,95,97,99,116,105,118,101] 1871),(zS [84,111,112,111,108,111,103,105,99,97,108,83,111,114,116,101,114,46,105,115,95,97,99,116,105,118,101] 1872),(z0 1873),(.int 82 0),(.int 1 0),(.int 0 0),(.int 0 0),(.int 3 0),(.ref 129),(.bool true),(.int 181 0),(.ref 130),.none,(.ref 131),(.ref 132),(.ref 133),(.int 1875 0),(.int 82 0),(z0 1876)]⟩),⟨[]⟩⟩
noncomputable def x135 (p : Program) (P : Params) : Obj := ⟨(.type "function"),none,(.func { name := ⟨⟨[105,115,95,97,99,116,105,118,101]⟩⟩,qualname := ⟨⟨[84,111,112,111,108,111,103,105,99,97,108,83,111,114,116,101,114,46,105,115,95,97,99,116,105,118,101]⟩⟩,params := (fnA (stB p 21 5)),body := (.stmts (fnB (stB p 21 5))),scope := fnS (stB p 21 5),globals := 3,closure := [],defaults := .none,kwdefaults := .none,doc := .none,pyModule := (z1 1749),annotations := none,code := (.ref 134),closureTuple := .none,builtins := 0 }),⟨[]⟩⟩
noncomputable def x136 (p : Program) (P : Params) : Obj := ⟨(.type "tuple"),none,(.seq ⟨[]⟩ 0),⟨[]⟩⟩
noncomputable def x137 (p : Program) (P : Params) : Obj := ⟨.none,none,(.fields ⟨[]⟩),⟨[]⟩⟩
noncomputable def x138 (p : Program) (P : Params) : Obj := ⟨(.type "tuple"),none,(.seq ⟨[(zS [115,101,108,102] 1881)]⟩ 0),⟨[]⟩⟩
noncomputable def x139 (p : Program) (P : Params) : Obj := ⟨(.type "tuple"),none,(.seq ⟨[]⟩ 0),⟨[]⟩⟩
noncomputable def x140 (p : Program) (P : Params) : Obj := ⟨.none,none,(.func { name := ⟨⟨[95,95,98,111,111,108,95,95]⟩⟩,qualname := ⟨⟨[84,111,112,111,108,111,103,105,99,97,108,83,111,114,116,101,114,46,95,95,98,111,111,108,95,95]⟩⟩,params := (fnA (stB p 21 6)),body := (.stmts (fnB (stB p 21 6))),scope := fnS (stB p 21 6),globals := 0,closure := [],defaults := .none,kwdefaults := .none,doc := .none,pyModule := .none,annotations := none,code := .none,closureTuple := .none,builtins := 0 }),⟨[]⟩⟩
noncomputable def x141 (p : Program) (P : Params) : Obj := ⟨(.type "code"),none,(.fields ⟨[(zS [95,95,98,111,111,108,95,95] 1878),(zS [84,111,112,111,108,111,103,105,99,97,108,83,111,114,116,101,114,46,95,95,98,111,111,108,95,95] 1879),(z0 1880),(.int 87 0),(.int 1 0),(.int 0 0),(.int 0 0),(.int 3 0),(.ref 136),(.bool true),(.int 181 0),(.ref 137),.none,(.ref 138),(.ref 139),(.ref 140),(.int 1882 0),(.int 87 0),(z0 1883)]⟩),⟨[]⟩⟩
noncomputable def x142 (p : Program) (P : Params) : Obj := ⟨(.type "function"),none,(.func { name := ⟨⟨[95,95,98,111,111,108,95,95]⟩⟩,qualname := ⟨⟨[84,111,112,111,108,111,103,105,99,97,108,83,111,114,116,101,114,46,95,95,98,111,111,108,95,95]⟩⟩,params := (fnA (stB p 21 6)),body := (.stmts (fnB (stB p 21 6))),scope := fnS (stB p 21 6),globals := 3,closure := [],defaults := .none,kwdefaults := .none,doc := .none,pyModule := (z1 1749),annotations := none,code := (.ref 141),closureTuple := .none,builtins := 0 }),⟨[]⟩⟩
noncomputable def x143 (p : Program) (P : Params) : Obj := ⟨(.type "tuple"),none,(.seq ⟨[]⟩ 0),⟨[]⟩⟩
noncomputable def x144 (p : Program) (P : Params) : Obj := ⟨.none,none,(.fields ⟨[]⟩),⟨[]⟩⟩
noncomputable def x145 (p : Program) (P : Params) : Obj := ⟨(.type "tuple"),none,(.seq ⟨[(zS [115,101,108,102] 1888),(zS [110,111,100,101,115] 1889),(zS [110,50,105] 1890),(zS [110,111,100,101] 1891),(zS [110,111,100,101,105,110,102,111] 1892),(zS [115,116,97,116] 1893),(zS [115,117,99,99,101,115,115,111,114] 1894),(zS [115,117,99,99,101,115,115,111,114,95,105,110,102,111] 1895)]⟩ 0),⟨[]⟩⟩
noncomputable def x146 (p : Program) (P : Params) : Obj := ⟨(.type "tuple"),none,(.seq ⟨[]⟩ 0),⟨[]⟩⟩
noncomputable def x147 (p : Program) (P : Params) : Obj := ⟨.none,none,(.func { name := ⟨⟨[100,111,110,101]⟩⟩,qualname := ⟨⟨[84,111,112,111,108,111,103,105,99,97,108,83,111,114,116,101,114,46,100,111,110,101]⟩⟩,params := (fnA (stB p 21 7)),body := (.stmts (fnB (stB p 21 7))),scope := fnS (stB p 21 7),globals := 0,closure := [],defaults := .none,kwdefaults := .none,doc := .none,pyModule := .none,annotations := none,code := .none,closureTuple := .none,builtins := 0 }),⟨[]⟩⟩
noncomputable def x148 (p : Program) (P : Params) : Obj := ⟨(.type "code"),none,(.fields ⟨[(zS [100,111,110,101] 1885),(zS [84,111,112,111,108,111,103,105,99,97,108,83,111,114,116,101,114,46,100,111,110,101] 1886),(z0 1887),(.int 90 0),(.int 1 0),(.int 0 0),(.int 0 0),(.int 7 0),(.ref 143),(.bool true),(.int 181 0),(.ref 144),.none,(.ref 145),(.ref 146),(.ref 147),(.int 1896 0),(.int 90 0),(z0 1897)]⟩),⟨[]⟩⟩
noncomputable def x149 (p : Program) (P : Params) : Obj := ⟨(.type "function"),none,(.func { name := ⟨⟨[100,111,110,101]⟩⟩,qualname := ⟨⟨[84,111,112,111,108,111,103,105,99,97,108,83,111,114,116,101,114,46,100,111,110,101]⟩⟩,params := (fnA (stB p 21 7)),body := (.stmts (fnB (stB p 21 7))),scope := fnS (stB p 21 7),globals := 3,closure := [],defaults := .none,kwdefaults := .none,doc := .none,pyModule := (z1 1749),annotations := none,code := (.ref 148),closureTuple := .none,builtins := 0 }),⟨[]⟩⟩
noncomputable def x150 (p : Program) (P : Params) : Obj := ⟨(.type "tuple"),none,(.seq ⟨[]⟩ 0),⟨[]⟩⟩
noncomputable def x151 (p : Program) (P : Params) : Obj := ⟨.none,none,(.fields ⟨[]⟩),⟨[]⟩⟩
noncomputable def x152 (p : Program) (P : Params) : Obj := ⟨(.type "tuple"),none,(.seq ⟨[(zS [115,101,108,102] 1902),(zS [110,50,105] 1903),(zS [115,116,97,99,107] 1904),(zS [105,116,115,116,97,99,107] 1905),(zS [115,101,101,110] 1906),(zS [110,111,100,101,50,115,116,97,99,107,105] 1907),(zS [110,111,100,101] 1908)]⟩ 0),⟨[]⟩⟩
noncomputable def x153 (p : Program) (P : Params) : Obj := ⟨(.type "tuple"),none,(.seq ⟨[]⟩ 0),⟨[]⟩⟩
noncomputable def x154 (p : Program) (P : Params) : Obj := ⟨.none,none,(.func { name := ⟨⟨[95,102,105,110,100,95,99,121,99,108,101]⟩⟩,qualname := ⟨⟨[84,111,112,111,108,111,103,105,99,97,108,83,111,114,116,101,114,46,95,102,105,110,100,95,99,121,99,108,101]⟩⟩,params := (fnA (stB p 21 8)),body := (.stmts (fnB (stB p 21 8))),scope := fnS (stB p 21 8),globals := 0,closure := [],defaults := .none,kwdefaults := .none,doc := .none,pyModule := .none,annotations := none,code := .none,closureTuple := .none,builtins := 0 }),⟨[]⟩⟩
noncomputable def x155 (p : Program) (P : Params) : Obj := ⟨(.type "code"),none,(.fields ⟨[(zS [95,102,105,110,100,95,99,121,99,108,101] 1899),(zS [84,111,112,111,108,111,103,105,99,97,108,83,111,114,116,101,114,46,95,102,105,110,100,95,99,121,99,108,101] 1900),(z0 1901),(.int 113 0),(.int 1 0),(.int 0 0),(.int 0 0),(.int 3 0),(.ref 150),(.bool true),(.int 181 0),(.ref 151),.none,(.ref 152),(.ref 153),(.ref 154),(.int 1909 0),(.int 113 0),(z0 1910)]⟩),⟨[]⟩⟩
noncomputable def x156 (p : Program) (P : Params) : Obj := ⟨(.type "function"),none,(.func { name := ⟨⟨[95,102,105,110,100,95,99,121,99,108,101]⟩⟩,qualname := ⟨⟨[84,111,112,111,108,111,103,105,99,97,108,83,111,114,116,101,114,46,95,102,105,110,100,95,99,121,99,108,101]⟩⟩,params := (fnA (stB p 21 8)),body := (.stmts (fnB (stB p 21 8))),scope := fnS (stB p 21 8),globals := 3,closure := [],defaults := .none,kwdefaults := .none,doc := .none,pyModule := (z1 1749),annotations := none,code := (.ref 155),closureTuple := .none,builtins := 0 }),⟨[]⟩⟩
noncomputable def x157 (p : Program) (P : Params) : Obj := ⟨(.type "tuple"),none,(.seq ⟨[]⟩ 0),⟨[]⟩⟩
noncomputable def x158 (p : Program) (P : Params) : Obj := ⟨.none,none,(.fields ⟨[]⟩),⟨[]⟩⟩
noncomputable def x159 (p : Program) (P : Params) : Obj := ⟨(.type "tuple"),none,(.seq ⟨[(zS [115,101,108,102] 1915)]⟩ 0),⟨[]⟩⟩
noncomputable def x160 (p : Program) (P : Params) : Obj := ⟨(.type "tuple"),none,(.seq ⟨[]⟩ 0),⟨[]⟩⟩
noncomputable def x161 (p : Program) (P : Params) : Obj := ⟨.none,none,(.func { name := ⟨⟨[115,116,97,116,105,99,95,111,114,100,101,114]⟩⟩,qualname := ⟨⟨[84,111,112,111,108,111,103,105,99,97,108,83,111,114,116,101,114,46,115,116,97,116,105,99,95,111,114,100,101,114]⟩⟩,params := (fnA (stB p 21 9)),body := (.stmts (fnB (stB p 21 9))),scope := fnS (stB p 21 9),globals := 0,closure := [],defaults := .none,kwdefaults := .none,doc := .none,pyModule := .none,annotations := none,code := .none,closureTuple := .none,builtins := 0 }),⟨[]⟩⟩
noncomputable def x162 (p : Program) (P : Params) : Obj := ⟨(.type "code"),none,(.fields ⟨[(zS [115,116,97,116,105,99,95,111,114,100,101,114] 1912),(zS [84,111,112,111,108,111,103,105,99,97,108,83,111,114,116,101,114,46,115,116,97,116,105,99,95,111,114,100,101,114] 1913),(z0 1914),(.int 142 0),(.int 1 0),(.int 0 0),(.int 0 0),(.int 3 0),(.ref 157),(.bool true),(.int 181 0),(.ref 158),.none,(.ref 159),(.ref 160),(.ref 161),(.int 1916 0),(.int 142 0),(z0 1917)]⟩),⟨[]⟩⟩
noncomputable def x163 (p : Program) (P : Params) : Obj := ⟨(.type "function"),none,(.func { name := ⟨⟨[115,116,97,116,105,99,95,111,114,100,101,114]⟩⟩,qualname := ⟨⟨[84,111,112,111,108,111,103,105,99,97,108,83,111,114,116,101,114,46,115,116,97,116,105,99,95,111,114,100,101,114]⟩⟩,params := (fnA (stB p 21 9)),body := (.stmts (fnB (stB p 21 9))),scope := fnS (stB p 21 9),globals := 3,closure := [],defaults := .none,kwdefaults := .none,doc := .none,pyModule := (z1 1749),annotations := none,code := (.ref 162),closureTuple := .none,builtins := 0 }),⟨[]⟩⟩
noncomputable def x164 (p : Program) (P : Params) : Obj := ⟨(.type "tuple"),none,(.seq ⟨[(zS [95,110,102,105,110,105,115,104,101,100] 1919),(zS [95,110,111,100,101,50,105,110,102,111] 1920),(zS [95,110,112,97,115,115,101,100,111,117,116] 1921),(zS [95,114,101,97,100,121,95,110,111,100,101,115] 1922)]⟩ 0),⟨[]⟩⟩
noncomputable def x165 (p : Program) (P : Params) : Obj := ⟨(.type "dict"),none,(.dict ⟨[zE P [95,95,109,111,100,117,108,101,95,95] 1819 (z1 1749),z8 P 1823 (.int 38 1822),zE P [95,95,105,110,105,116,95,95] 1833 (.ref 102),zE P [95,103,101,116,95,110,111,100,101,105,110,102,111] 1842 (.ref 109),zE P [97,100,100] 1854 (.ref 116),zE P [112,114,101,112,97,114,101] 1860 (.ref 121),zE P [103,101,116,95,114,101,97,100,121] 1870 (.ref 128),zE P [105,115,95,97,99,116,105,118,101] 1877 (.ref 135),zE P [95,95,98,111,111,108,95,95] 1884 (.ref 142),zE P [100,111,110,101] 1898 (.ref 149),zE P [95,102,105,110,100,95,99,121,99,108,101] 1911 (.ref 156),zE P [115,116,97,116,105,99,95,111,114,100,101,114] 1918 (.ref 163),z9 P 1923 (.ref 164),zE P [95,95,100,105,99,116,95,95] 1925 (.ref 167),zE P [95,95,119,101,97,107,114,101,102,95,95] 1927 (.ref 168),zE P [95,95,100,111,99,95,95] 1928 .none]⟩ 4),⟨[]⟩⟩
noncomputable def x166 (p : Program) (P : Params) : Obj := ⟨(.type "type"),none,(.cls { name := ⟨⟨[84,111,112,111,108,111,103,105,99,97,108,83,111,114,116,101,114]⟩⟩,bases := [(.type "object")],mro := [(.ref 166),(.type "object")],ns := 165,qualname := ⟨⟨[84,111,112,111,108,111,103,105,99,97,108,83,111,114,116,101,114]⟩⟩,hasDict := true,slotNames := [],subclasses := [],abstract := false,collection := none,hasDel := false }),⟨[none,none,some (z3 1812),some (z3 1820),some (.builtin "object.__new__"),some (.bool true)]⟩⟩
noncomputable def x167 (p : Program) (P : Params) : Obj := ⟨(.type "getset_descriptor"),none,(.fields ⟨[(zS [95,95,100,105,99,116,95,95] 1924),(.ref 166),(.builtin "function.__dict__"),(.builtin "function.__dict__#set")]⟩),⟨[]⟩⟩
noncomputable def x168 (p : Program) (P : Params) : Obj := ⟨(.type "getset_descriptor"),none,(.fields ⟨[(zS [95,95,119,101,97,107,114,101,102,95,95] 1926),(.ref 166),(.builtin "ExceptionGroup.__weakref__"),.none]⟩),⟨[]⟩⟩
noncomputable def x169 (p : Program) (P : Params) : Obj := ⟨(.type "super"),none,(.fields ⟨[(.ref 166),(.ref 166),(.ref 166)]⟩),⟨[]⟩⟩
noncomputable def x170 (p : Program) (P : Params) : Obj := ⟨(.type "builtin_function_or_method"),none,(.fields ⟨[(.builtin "object.__init_subclass__"),(.ref 166)]⟩),⟨[]⟩⟩
noncomputable def x3v35 (p : Program) (P : Params) : Obj := ⟨(.type "dict"),none,(.dict ⟨[zE P [95,95,110,97,109,101,95,95] 165 (z2 1975),zE P [95,95,100,111,99,95,95] 166 .none,zE P [95,95,112,97,99,107,97,103,101,95,95] 167 .none,zE P [95,95,108,111,97,100,101,114,95,95] 168 (.builtin "__main__.__loader__#opaque"),zE P [95,95,115,112,101,99,95,95] 169 .none,zE P [95,95,97,110,110,111,116,97,116,105,111,110,115,95,95] 170 (.ref 6),zE P [95,95,98,117,105,108,116,105,110,115,95,95] 171 (.ref 4),zE P [95,95,102,105,108,101,95,95] 173 (z0 172),zE P [95,95,99,97,99,104,101,100,95,95] 174 .none,zE P [95,119,97,108,108] 193 (.ref 21),zE P [95,81,85,79,80,82,73,95,77,65,80] 1221 (.ref 24),zE P [95,81,85,79,80,82,73,95,72,69,65,68,69,82,95,77,65,80] 1222 (.ref 29),zE P [95,81,85,79,80,82,73,95,66,79,68,89,95,77,65,80] 1223 (.ref 31),zE P [97,115,99,105,105,95,108,111,119,101,114,99,97,115,101] 1225 (z5 1224),zE P [97,115,99,105,105,95,117,112,112,101,114,99,97,115,101] 1227 (z6 1226),zE P [97,115,99,105,105,95,108,101,116,116,101,114,115] 1229 (z7 1228),zE P [100,105,103,105,116,115] 1231 (zS [48,49,50,51,52,53,54,55,56,57] 1230),zE P [104,101,97,100,101,114,95,101,110,99,111,100,101] 1740 (.ref 45),zE P [95,81,85,79,80,82,73,95,66,79,68,89,95,69,78,67,79,68,69,95,77,65,80] 1741 (.ref 47),zE P [95,78,79,68,69,95,79,85,84] 1753 (.int (-1) 1752),zE P [95,78,79,68,69,95,68,79,78,69] 1756 (.int (-2) 1755),zE P [95,78,111,100,101,73,110,102,111] 1793 (.ref 69),zE P [67,121,99,108,101,69,114,114,111,114] 1811 (.ref 84),zE P [84,111,112,111,108,111,103,105,99,97,108,83,111,114,116,101,114] 1930 (.ref 166),zE P [104,101,97,112,112,117,115,104] 1940 (.ref 177),zE P [104,101,97,112,112,111,112] 1949 (.ref 184),zE P [95,115,105,102,116,100,111,119,110] 1961 (.ref 191),zE P [95,115,105,102,116,117,112] 1974 (.ref 198),zE P [95,108,97,119,95,114,111,119,115] 1988 (.ref 205),zE P [95,108,97,119,95,112,108,97,99,101] 1997 (.ref 212),zE P [95,108,97,119,95,105,110,95,111,114,100,101,114] 2003 (.ref 217),zE P [95,108,97,119,95,114,111,117,110,100,115] 2009 (.ref 222),zE P [95,108,97,119,95,112,105,108,101,115] 2015 (.ref 227),zE P [95,108,97,119,95,108,101,115,115,101,114,95,121,101,116] 2025 (.ref 234),zE P [95,108,97,119,95,99,111,109,101,115,95,115,111] 2031 (.ref 239),zE P [108,97,119] 2037 (.ref 244)]⟩ 38),⟨[]⟩⟩
noncomputable def x12v35 (p : Program) (P : Params) : Obj := ⟨.none,none,(.fields ⟨[(.int 1 0),(.int 0 0),(.ref 20),(.int 17 0),(.int 0 0),(.ref 44),(.int 29 0),(.int 0 0),(.ref 56),(.int 36 0),(.int 0 0),(.ref 80),(.int 38 0),(.int 0 0),(.ref 93),(.int 145 0),(.int 0 0),(.ref 176),(.int 148 0),(.int 0 0),(.ref 183),(.int 156 0),(.int 0 0),(.ref 190),(.int 167 0),(.int 0 0),(.ref 197),(.int 182 0),(.int 0 0),(.ref 204),(.int 191 0),(.int 0 0),(.ref 211),(.int 201 0),(.int 0 0),(.ref 216),(.int 203 0),(.int 0 0),(.ref 221),(.int 213 0),(.int 0 0),(.ref 226),(.int 222 0),(.int 0 0),(.ref 233),(.int 228 0),(.int 0 0),(.ref 238),(.int 242 0),(.int 0 0),(.ref 243)]⟩),⟨[]⟩⟩
noncomputable def x171 (p : Program) (P : Params) : Obj := ⟨(.type "tuple"),none,(.seq ⟨[]⟩ 0),⟨[]⟩⟩
noncomputable def x172 (p : Program) (P : Params) : Obj := ⟨.none,none,(.fields ⟨[]⟩),⟨[]⟩⟩
noncomputable def x173 (p : Program) (P : Params) : Obj := ⟨(.type "tuple"),none,(.seq ⟨[(zS [104,101,97,112] 1936),(zS [105,116,101,109] 1937)]⟩ 0),⟨[]⟩⟩
noncomputable def x174 (p : Program) (P : Params) : Obj := ⟨(.type "tuple"),none,(.seq ⟨[]⟩ 0),⟨[]⟩⟩
noncomputable def x175 (p : Program) (P : Params) : Obj := ⟨.none,none,(.func { name := ⟨⟨[104,101,97,112,112,117,115,104]⟩⟩,qualname := ⟨⟨[104,101,97,112,112,117,115,104]⟩⟩,params := (fnA (stA p 23)),body := (.stmts (fnB (stA p 23))),scope := fnS (stA p 23),globals := 0,closure := [],defaults := .none,kwdefaults := .none,doc := .none,pyModule := .none,annotations := none,code := .none,closureTuple := .none,builtins := 0 }),⟨[]⟩⟩
noncomputable def x176 (p : Program) (P : Params) : Obj := ⟨(.type "code"),none,(.fields ⟨[(zS [104,101,97,112,112,117,115,104] 1933),(zS [104,101,97,112,112,117,115,104] 1934),(z0 1935),(.int 145 0),(.int 2 0),(.int 0 0),(.int 0 0),(.int 3 0),(.ref 171),(.bool true),(.int 181 0),(.ref 172),.none,(.ref 173),(.ref 174),(.ref 175),(.int 1938 0),(.int 145 0),(z0 1939)]⟩),⟨[]⟩⟩
noncomputable def x177 (p : Program) (P : Params) : Obj := ⟨(.type "function"),none,(.func { name := ⟨⟨[104,101,97,112,112,117,115,104]⟩⟩,qualname := ⟨⟨[104,101,97,112,112,117,115,104]⟩⟩,params := (fnA (stA p 23)),body := (.stmts (fnB (stA p 23))),scope := fnS (stA p 23),globals := 3,closure := [],defaults := .none,kwdefaults := .none,doc := .none,pyModule := (zS [99,112,121,51,49,51,46,104,101,97,112,113] 1931),annotations := none,code := (.ref 176),closureTuple := .none,builtins := 0 }),⟨[]⟩⟩
noncomputable def x178 (p : Program) (P : Params) : Obj := ⟨(.type "tuple"),none,(.seq ⟨[]⟩ 0),⟨[]⟩⟩
noncomputable def x179 (p : Program) (P : Params) : Obj := ⟨.none,none,(.fields ⟨[]⟩),⟨[]⟩⟩
noncomputable def x180 (p : Program) (P : Params) : Obj := ⟨(.type "tuple"),none,(.seq ⟨[(zS [104,101,97,112] 1944),(zS [108,97,115,116,101,108,116] 1945),(zS [114,101,116,117,114,110,105,116,101,109] 1946)]⟩ 0),⟨[]⟩⟩
noncomputable def x181 (p : Program) (P : Params) : Obj := ⟨(.type "tuple"),none,(.seq ⟨[]⟩ 0),⟨[]⟩⟩
noncomputable def x182 (p : Program) (P : Params) : Obj := ⟨.none,none,(.func { name := ⟨⟨[104,101,97,112,112,111,112]⟩⟩,qualname := ⟨⟨[104,101,97,112,112,111,112]⟩⟩,params := (fnA (stA p 24)),body := (.stmts (fnB (stA p 24))),scope := fnS (stA p 24),globals := 0,closure := [],defaults := .none,kwdefaults := .none,doc := .none,pyModule := .none,annotations := none,code := .none,closureTuple := .none,builtins := 0 }),⟨[]⟩⟩
noncomputable def x183 (p : Program) (P : Params) : Obj := ⟨(.type "code"),none,(.fields ⟨[(zS [104,101,97,112,112,111,112] 1941),(zS [104,101,97,112,112,111,112] 1942),(z0 1943),(.int 148 0),(.int 1 0),(.int 0 0),(.int 0 0),(.int 3 0),(.ref 178),(.bool true),(.int 181 0),(.ref 179),.none,(.ref 180),(.ref 181),(.ref 182),(.int 1947 0),(.int 148 0),(z0 1948)]⟩),⟨[]⟩⟩
noncomputable def x184 (p : Program) (P : Params) : Obj := ⟨(.type "function"),none,(.func { name := ⟨⟨[104,101,97,112,112,111,112]⟩⟩,qualname := ⟨⟨[104,101,97,112,112,111,112]⟩⟩,params := (fnA (stA p 24)),body := (.stmts (fnB (stA p 24))),scope := fnS (stA p 24),globals := 3,closure := [],defaults := .none,kwdefaults := .none,doc := .none,pyModule := (zS [99,112,121,51,49,51,46,104,101,97,112,113] 1931),annotations := none,code := (.ref 183),closureTuple := .none,builtins := 0 }),⟨[]⟩⟩
noncomputable def x185 (p : Program) (P : Params) : Obj := ⟨(.type "tuple"),none,(.seq ⟨[]⟩ 0),⟨[]⟩⟩
noncomputable def x186 (p : Program) (P : Params) : Obj := ⟨.none,none,(.fields ⟨[]⟩),⟨[]⟩⟩
noncomputable def x187 (p : Program) (P : Params) : Obj := ⟨(.type "tuple"),none,(.seq ⟨[(zS [104,101,97,112] 1953),(zS [115,116,97,114,116,112,111,115] 1954),(zS [112,111,115] 1955),(zS [110,101,119,105,116,101,109] 1956),(zS [112,97,114,101,110,116,112,111,115] 1957),(zS [112,97,114,101,110,116] 1958)]⟩ 0),⟨[]⟩⟩
noncomputable def x188 (p : Program) (P : Params) : Obj := ⟨(.type "tuple"),none,(.seq ⟨[]⟩ 0),⟨[]⟩⟩
noncomputable def x189 (p : Program) (P : Params) : Obj := ⟨.none,none,(.func { name := ⟨⟨[95,115,105,102,116,100,111,119,110]⟩⟩,qualname := ⟨⟨[95,115,105,102,116,100,111,119,110]⟩⟩,params := (fnA (stA p 25)),body := (.stmts (fnB (stA p 25))),scope := fnS (stA p 25),globals := 0,closure := [],defaults := .none,kwdefaults := .none,doc := .none,pyModule := .none,annotations := none,code := .none,closureTuple := .none,builtins := 0 }),⟨[]⟩⟩
noncomputable def x190 (p : Program) (P : Params) : Obj := ⟨(.type "code"),none,(.fields ⟨[(zS [95,115,105,102,116,100,111,119,110] 1950),(zS [95,115,105,102,116,100,111,119,110] 1951),(z0 1952),(.int 156 0),(.int 3 0),(.int 0 0),(.int 0 0),(.int 3 0),(.ref 185),(.bool true),(.int 181 0),(.ref 186),.none,(.ref 187),(.ref 188),(.ref 189),(.int 1959 0),(.int 156 0),(z0 1960)]⟩),⟨[]⟩⟩
noncomputable def x191 (p : Program) (P : Params) : Obj := ⟨(.type "function"),none,(.func { name := ⟨⟨[95,115,105,102,116,100,111,119,110]⟩⟩,qualname := ⟨⟨[95,115,105,102,116,100,111,119,110]⟩⟩,params := (fnA (stA p 25)),body := (.stmts (fnB (stA p 25))),scope := fnS (stA p 25),globals := 3,closure := [],defaults := .none,kwdefaults := .none,doc := .none,pyModule := (zS [99,112,121,51,49,51,46,104,101,97,112,113] 1931),annotations := none,code := (.ref 190),closureTuple := .none,builtins := 0 }),⟨[]⟩⟩
noncomputable def x192 (p : Program) (P : Params) : Obj := ⟨(.type "tuple"),none,(.seq ⟨[]⟩ 0),⟨[]⟩⟩
noncomputable def x193 (p : Program) (P : Params) : Obj := ⟨.none,none,(.fields ⟨[]⟩),⟨[]⟩⟩
noncomputable def x194 (p : Program) (P : Params) : Obj := ⟨(.type "tuple"),none,(.seq ⟨[(zS [104,101,97,112] 1965),(zS [112,111,115] 1966),(zS [101,110,100,112,111,115] 1967),(zS [115,116,97,114,116,112,111,115] 1968),(zS [110,101,119,105,116,101,109] 1969),(zS [99,104,105,108,100,112,111,115] 1970),(zS [114,105,103,104,116,112,111,115] 1971)]⟩ 0),⟨[]⟩⟩
noncomputable def x195 (p : Program) (P : Params) : Obj := ⟨(.type "tuple"),none,(.seq ⟨[]⟩ 0),⟨[]⟩⟩
noncomputable def x196 (p : Program) (P : Params) : Obj := ⟨.none,none,(.func { name := ⟨⟨[95,115,105,102,116,117,112]⟩⟩,qualname := ⟨⟨[95,115,105,102,116,117,112]⟩⟩,params := (fnA (stA p 26)),body := (.stmts (fnB (stA p 26))),scope := fnS (stA p 26),globals := 0,closure := [],defaults := .none,kwdefaults := .none,doc := .none,pyModule := .none,annotations := none,code := .none,closureTuple := .none,builtins := 0 }),⟨[]⟩⟩
noncomputable def x197 (p : Program) (P : Params) : Obj := ⟨(.type "code"),none,(.fields ⟨[(zS [95,115,105,102,116,117,112] 1962),(zS [95,115,105,102,116,117,112] 1963),(z0 1964),(.int 167 0),(.int 2 0),(.int 0 0),(.int 0 0),(.int 3 0),(.ref 192),(.bool true),(.int 181 0),(.ref 193),.none,(.ref 194),(.ref 195),(.ref 196),(.int 1972 0),(.int 167 0),(z0 1973)]⟩),⟨[]⟩⟩
noncomputable def x198 (p : Program) (P : Params) : Obj := ⟨(.type "function"),none,(.func { name := ⟨⟨[95,115,105,102,116,117,112]⟩⟩,qualname := ⟨⟨[95,115,105,102,116,117,112]⟩⟩,params := (fnA (stA p 26)),body := (.stmts (fnB (stA p 26))),scope := fnS (stA p 26),globals := 3,closure := [],defaults := .none,kwdefaults := .none,doc := .none,pyModule := (zS [99,112,121,51,49,51,46,104,101,97,112,113] 1931),annotations := none,code := (.ref 197),closureTuple := .none,builtins := 0 }),⟨[]⟩⟩
noncomputable def x199 (p : Program) (P : Params) : Obj := ⟨(.type "tuple"),none,(.seq ⟨[]⟩ 0),⟨[]⟩⟩
noncomputable def x200 (p : Program) (P : Params) : Obj := ⟨.none,none,(.fields ⟨[]⟩),⟨[]⟩⟩
noncomputable def x201 (p : Program) (P : Params) : Obj := ⟨(.type "tuple"),none,(.seq ⟨[(zS [100,114,97,119,115] 1980),(zS [115,105,103,110,115] 1981),(zS [114,111,119,115] 1982),(zS [120] 1983),(zS [121] 1984),(zS [114,111,119] 1985)]⟩ 0),⟨[]⟩⟩
noncomputable def x202 (p : Program) (P : Params) : Obj := ⟨(.type "tuple"),none,(.seq ⟨[]⟩ 0),⟨[]⟩⟩
noncomputable def x203 (p : Program) (P : Params) : Obj := ⟨.none,none,(.func { name := ⟨⟨[95,108,97,119,95,114,111,119,115]⟩⟩,qualname := ⟨⟨[95,108,97,119,95,114,111,119,115]⟩⟩,params := (fnA (stA p 28)),body := (.stmts (fnB (stA p 28))),scope := fnS (stA p 28),globals := 0,closure := [],defaults := .none,kwdefaults := .none,doc := .none,pyModule := .none,annotations := none,code := .none,closureTuple := .none,builtins := 0 }),⟨[]⟩⟩
noncomputable def x204 (p : Program) (P : Params) : Obj := ⟨(.type "code"),none,(.fields ⟨[(zS [95,108,97,119,95,114,111,119,115] 1977),(zS [95,108,97,119,95,114,111,119,115] 1978),(z0 1979),(.int 182 0),(.int 1 0),(.int 0 0),(.int 0 0),(.int 3 0),(.ref 199),(.bool true),(.int 181 0),(.ref 200),.none,(.ref 201),(.ref 202),(.ref 203),(.int 1986 0),(.int 182 0),(z0 1987)]⟩),⟨[]⟩⟩
noncomputable def x205 (p : Program) (P : Params) : Obj := ⟨(.type "function"),none,(.func { name := ⟨⟨[95,108,97,119,95,114,111,119,115]⟩⟩,qualname := ⟨⟨[95,108,97,119,95,114,111,119,115]⟩⟩,params := (fnA (stA p 28)),body := (.stmts (fnB (stA p 28))),scope := fnS (stA p 28),globals := 3,closure := [],defaults := .none,kwdefaults := .none,doc := .none,pyModule := (z2 1975),annotations := none,code := (.ref 204),closureTuple := .none,builtins := 0 }),⟨[]⟩⟩
noncomputable def x206 (p : Program) (P : Params) : Obj := ⟨(.type "tuple"),none,(.seq ⟨[]⟩ 0),⟨[]⟩⟩
noncomputable def x207 (p : Program) (P : Params) : Obj := ⟨.none,none,(.fields ⟨[]⟩),⟨[]⟩⟩
noncomputable def x208 (p : Program) (P : Params) : Obj := ⟨(.type "tuple"),none,(.seq ⟨[(zS [114,111,119] 1992),(zS [116,111,108,100] 1993),(zS [111,99,116,101,116] 1994)]⟩ 0),⟨[]⟩⟩
noncomputable def x209 (p : Program) (P : Params) : Obj := ⟨(.type "tuple"),none,(.seq ⟨[]⟩ 0),⟨[]⟩⟩
noncomputable def x210 (p : Program) (P : Params) : Obj := ⟨.none,none,(.func { name := ⟨⟨[95,108,97,119,95,112,108,97,99,101]⟩⟩,qualname := ⟨⟨[95,108,97,119,95,112,108,97,99,101]⟩⟩,params := (fnA (stA p 29)),body := (.stmts (fnB (stA p 29))),scope := fnS (stA p 29),globals := 0,closure := [],defaults := .none,kwdefaults := .none,doc := .none,pyModule := .none,annotations := none,code := .none,closureTuple := .none,builtins := 0 }),⟨[]⟩⟩
noncomputable def x211 (p : Program) (P : Params) : Obj := ⟨(.type "code"),none,(.fields ⟨[(zS [95,108,97,119,95,112,108,97,99,101] 1989),(zS [95,108,97,119,95,112,108,97,99,101] 1990),(z0 1991),(.int 191 0),(.int 1 0),(.int 0 0),(.int 0 0),(.int 3 0),(.ref 206),(.bool true),(.int 181 0),(.ref 207),.none,(.ref 208),(.ref 209),(.ref 210),(.int 1995 0),(.int 191 0),(z0 1996)]⟩),⟨[]⟩⟩
noncomputable def x212 (p : Program) (P : Params) : Obj := ⟨(.type "function"),none,(.func { name := ⟨⟨[95,108,97,119,95,112,108,97,99,101]⟩⟩,qualname := ⟨⟨[95,108,97,119,95,112,108,97,99,101]⟩⟩,params := (fnA (stA p 29)),body := (.stmts (fnB (stA p 29))),scope := fnS (stA p 29),globals := 3,closure := [],defaults := .none,kwdefaults := .none,doc := .none,pyModule := (z2 1975),annotations := none,code := (.ref 211),closureTuple := .none,builtins := 0 }),⟨[]⟩⟩
noncomputable def x213 (p : Program) (P : Params) : Obj := ⟨(.type "tuple"),none,(.seq ⟨[]⟩ 0),⟨[]⟩⟩
noncomputable def x214 (p : Program) (P : Params) : Obj := ⟨.none,none,(.fields ⟨[]⟩),⟨[]⟩⟩
noncomputable def x215 (p : Program) (P : Params) : Obj := ⟨.none,none,(.func { name := ⟨⟨[95,108,97,119,95,105,110,95,111,114,100,101,114]⟩⟩,qualname := ⟨⟨[95,108,97,119,95,105,110,95,111,114,100,101,114]⟩⟩,params := (fnA (stA p 30)),body := (.stmts (fnB (stA p 30))),scope := fnS (stA p 30),globals := 0,closure := [],defaults := .none,kwdefaults := .none,doc := .none,pyModule := .none,annotations := none,code := .none,closureTuple := .none,builtins := 0 }),⟨[]⟩⟩
noncomputable def x216 (p : Program) (P : Params) : Obj := ⟨(.type "code"),none,(.fields ⟨[(zS [95,108,97,119,95,105,110,95,111,114,100,101,114] 1998),(zS [95,108,97,119,95,105,110,95,111,114,100,101,114] 1999),(z0 2000),(.int 201 0),(.int 1 0),(.int 0 0),(.int 0 0),(.int 3 0),(.ref 213),(.bool true),(.int 181 0),(.ref 214),.none,.none,.none,(.ref 215),(.int 2001 0),(.int 201 0),(z0 2002)]⟩),⟨[]⟩⟩
noncomputable def x217 (p : Program) (P : Params) : Obj := ⟨(.type "function"),none,(.func { name := ⟨⟨[95,108,97,119,95,105,110,95,111,114,100,101,114]⟩⟩,qualname := ⟨⟨[95,108,97,119,95,105,110,95,111,114,100,101,114]⟩⟩,params := (fnA (stA p 30)),body := (.stmts (fnB (stA p 30))),scope := fnS (stA p 30),globals := 3,closure := [],defaults := .none,kwdefaults := .none,doc := .none,pyModule := (z2 1975),annotations := none,code := (.ref 216),closureTuple := .none,builtins := 0 }),⟨[]⟩⟩
noncomputable def x218 (p : Program) (P : Params) : Obj := ⟨(.type "tuple"),none,(.seq ⟨[]⟩ 0),⟨[]⟩⟩
noncomputable def x219 (p : Program) (P : Params) : Obj := ⟨.none,none,(.fields ⟨[]⟩),⟨[]⟩⟩
noncomputable def x220 (p : Program) (P : Params) : Obj := ⟨.none,none,(.func { name := ⟨⟨[95,108,97,119,95,114,111,117,110,100,115]⟩⟩,qualname := ⟨⟨[95,108,97,119,95,114,111,117,110,100,115]⟩⟩,params := (fnA (stA p 31)),body := (.stmts (fnB (stA p 31))),scope := fnS (stA p 31),globals := 0,closure := [],defaults := .none,kwdefaults := .none,doc := .none,pyModule := .none,annotations := none,code := .none,closureTuple := .none,builtins := 0 }),⟨[]⟩⟩
noncomputable def x221 (p : Program) (P : Params) : Obj := ⟨(.type "code"),none,(.fields ⟨[(zS [95,108,97,119,95,114,111,117,110,100,115] 2004),(zS [95,108,97,119,95,114,111,117,110,100,115] 2005),(z0 2006),(.int 203 0),(.int 1 0),(.int 0 0),(.int 0 0),(.int 3 0),(.ref 218),(.bool true),(.int 181 0),(.ref 219),.none,.none,.none,(.ref 220),(.int 2007 0),(.int 203 0),(z0 2008)]⟩),⟨[]⟩⟩
noncomputable def x222 (p : Program) (P : Params) : Obj := ⟨(.type "function"),none,(.func { name := ⟨⟨[95,108,97,119,95,114,111,117,110,100,115]⟩⟩,qualname := ⟨⟨[95,108,97,119,95,114,111,117,110,100,115]⟩⟩,params := (fnA (stA p 31)),body := (.stmts (fnB (stA p 31))),scope := fnS (stA p 31),globals := 3,closure := [],defaults := .none,kwdefaults := .none,doc := .none,pyModule := (z2 1975),annotations := none,code := (.ref 221),closureTuple := .none,builtins := 0 }),⟨[]⟩⟩
noncomputable def x223 (p : Program) (P : Params) : Obj := ⟨(.type "tuple"),none,(.seq ⟨[]⟩ 0),⟨[]⟩⟩
noncomputable def x224 (p : Program) (P : Params) : Obj := ⟨.none,none,(.fields ⟨[]⟩),⟨[]⟩⟩
noncomputable def x225 (p : Program) (P : Params) : Obj := ⟨.none,none,(.func { name := ⟨⟨[95,108,97,119,95,112,105,108,101,115]⟩⟩,qualname := ⟨⟨[95,108,97,119,95,112,105,108,101,115]⟩⟩,params := (fnA (stA p 32)),body := (.stmts (fnB (stA p 32))),scope := fnS (stA p 32),globals := 0,closure := [],defaults := .none,kwdefaults := .none,doc := .none,pyModule := .none,annotations := none,code := .none,closureTuple := .none,builtins := 0 }),⟨[]⟩⟩
noncomputable def x226 (p : Program) (P : Params) : Obj := ⟨(.type "code"),none,(.fields ⟨[(zS [95,108,97,119,95,112,105,108,101,115] 2010),(zS [95,108,97,119,95,112,105,108,101,115] 2011),(z0 2012),(.int 213 0),(.int 2 0),(.int 0 0),(.int 0 0),(.int 3 0),(.ref 223),(.bool true),(.int 181 0),(.ref 224),.none,.none,.none,(.ref 225),(.int 2013 0),(.int 213 0),(z0 2014)]⟩),⟨[]⟩⟩
noncomputable def x227 (p : Program) (P : Params) : Obj := ⟨(.type "function"),none,(.func { name := ⟨⟨[95,108,97,119,95,112,105,108,101,115]⟩⟩,qualname := ⟨⟨[95,108,97,119,95,112,105,108,101,115]⟩⟩,params := (fnA (stA p 32)),body := (.stmts (fnB (stA p 32))),scope := fnS (stA p 32),globals := 3,closure := [],defaults := .none,kwdefaults := .none,doc := .none,pyModule := (z2 1975),annotations := none,code := (.ref 226),closureTuple := .none,builtins := 0 }),⟨[]⟩⟩
noncomputable def x228 (p : Program) (P : Params) : Obj := ⟨(.type "tuple"),none,(.seq ⟨[]⟩ 0),⟨[]⟩⟩
noncomputable def x229 (p : Program) (P : Params) : Obj := ⟨.none,none,(.fields ⟨[]⟩),⟨[]⟩⟩
noncomputable def x230 (p : Program) (P : Params) : Obj := ⟨(.type "tuple"),none,(.seq ⟨[(zS [114,111,119] 2019),(zS [111,116,104,101,114] 2020),(zS [107,101,112,116] 2021),(zS [107] 2022)]⟩ 0),⟨[]⟩⟩
noncomputable def x231 (p : Program) (P : Params) : Obj := ⟨(.type "tuple"),none,(.seq ⟨[]⟩ 0),⟨[]⟩⟩
noncomputable def x232 (p : Program) (P : Params) : Obj := ⟨.none,none,(.func { name := ⟨⟨[95,108,97,119,95,108,101,115,115,101,114,95,121,101,116]⟩⟩,qualname := ⟨⟨[95,108,97,119,95,108,101,115,115,101,114,95,121,101,116]⟩⟩,params := (fnA (stA p 33)),body := (.stmts (fnB (stA p 33))),scope := fnS (stA p 33),globals := 0,closure := [],defaults := .none,kwdefaults := .none,doc := .none,pyModule := .none,annotations := none,code := .none,closureTuple := .none,builtins := 0 }),⟨[]⟩⟩
noncomputable def x233 (p : Program) (P : Params) : Obj := ⟨(.type "code"),none,(.fields ⟨[(zS [95,108,97,119,95,108,101,115,115,101,114,95,121,101,116] 2016),(zS [95,108,97,119,95,108,101,115,115,101,114,95,121,101,116] 2017),(z0 2018),(.int 222 0),(.int 2 0),(.int 0 0),(.int 0 0),(.int 3 0),(.ref 228),(.bool true),(.int 181 0),(.ref 229),.none,(.ref 230),(.ref 231),(.ref 232),(.int 2023 0),(.int 222 0),(z0 2024)]⟩),⟨[]⟩⟩
noncomputable def x234 (p : Program) (P : Params) : Obj := ⟨(.type "function"),none,(.func { name := ⟨⟨[95,108,97,119,95,108,101,115,115,101,114,95,121,101,116]⟩⟩,qualname := ⟨⟨[95,108,97,119,95,108,101,115,115,101,114,95,121,101,116]⟩⟩,params := (fnA (stA p 33)),body := (.stmts (fnB (stA p 33))),scope := fnS (stA p 33),globals := 3,closure := [],defaults := .none,kwdefaults := .none,doc := .none,pyModule := (z2 1975),annotations := none,code := (.ref 233),closureTuple := .none,builtins := 0 }),⟨[]⟩⟩
noncomputable def x235 (p : Program) (P : Params) : Obj := ⟨(.type "tuple"),none,(.seq ⟨[]⟩ 0),⟨[]⟩⟩
noncomputable def x236 (p : Program) (P : Params) : Obj := ⟨.none,none,(.fields ⟨[]⟩),⟨[]⟩⟩
noncomputable def x237 (p : Program) (P : Params) : Obj := ⟨.none,none,(.func { name := ⟨⟨[95,108,97,119,95,99,111,109,101,115,95,115,111]⟩⟩,qualname := ⟨⟨[95,108,97,119,95,99,111,109,101,115,95,115,111]⟩⟩,params := (fnA (stA p 34)),body := (.stmts (fnB (stA p 34))),scope := fnS (stA p 34),globals := 0,closure := [],defaults := .none,kwdefaults := .none,doc := .none,pyModule := .none,annotations := none,code := .none,closureTuple := .none,builtins := 0 }),⟨[]⟩⟩
noncomputable def x238 (p : Program) (P : Params) : Obj := ⟨(.type "code"),none,(.fields ⟨[(zS [95,108,97,119,95,99,111,109,101,115,95,115,111] 2026),(zS [95,108,97,119,95,99,111,109,101,115,95,115,111] 2027),(z0 2028),(.int 228 0),(.int 4 0),(.int 0 0),(.int 0 0),(.int 3 0),(.ref 235),(.bool true),(.int 181 0),(.ref 236),.none,.none,.none,(.ref 237),(.int 2029 0),(.int 228 0),(z0 2030)]⟩),⟨[]⟩⟩
noncomputable def x239 (p : Program) (P : Params) : Obj := ⟨(.type "function"),none,(.func { name := ⟨⟨[95,108,97,119,95,99,111,109,101,115,95,115,111]⟩⟩,qualname := ⟨⟨[95,108,97,119,95,99,111,109,101,115,95,115,111]⟩⟩,params := (fnA (stA p 34)),body := (.stmts (fnB (stA p 34))),scope := fnS (stA p 34),globals := 3,closure := [],defaults := .none,kwdefaults := .none,doc := .none,pyModule := (z2 1975),annotations := none,code := (.ref 238),closureTuple := .none,builtins := 0 }),⟨[]⟩⟩
noncomputable def x240 (p : Program) (P : Params) : Obj := ⟨(.type "tuple"),none,(.seq ⟨[]⟩ 0),⟨[]⟩⟩
noncomputable def x241 (p : Program) (P : Params) : Obj := ⟨.none,none,(.fields ⟨[]⟩),⟨[]⟩⟩
noncomputable def x242 (p : Program) (P : Params) : Obj := ⟨.none,none,(.func { name := ⟨⟨[108,97,119]⟩⟩,qualname := ⟨⟨[108,97,119]⟩⟩,params := (fnA (stA p 35)),body := (.stmts (fnB (stA p 35))),scope := fnS (stA p 35),globals := 0,closure := [],defaults := .none,kwdefaults := .none,doc := .none,pyModule := .none,annotations := none,code := .none,closureTuple := .none,builtins := 0 }),⟨[]⟩⟩
noncomputable def x243 (p : Program) (P : Params) : Obj := ⟨(.type "code"),none,(.fields ⟨[(zS [108,97,119] 2032),(zS [108,97,119] 2033),(z0 2034),(.int 242 0),(.int 1 0),(.int 0 0),(.int 0 0),(.int 3 0),(.ref 240),(.bool true),(.int 181 0),(.ref 241),.none,.none,.none,(.ref 242),(.int 2035 0),(.int 242 0),(z0 2036)]⟩),⟨[]⟩⟩
noncomputable def x244 (p : Program) (P : Params) : Obj := ⟨(.type "function"),none,(.func { name := ⟨⟨[108,97,119]⟩⟩,qualname := ⟨⟨[108,97,119]⟩⟩,params := (fnA (stA p 35)),body := (.stmts (fnB (stA p 35))),scope := fnS (stA p 35),globals := 3,closure := [],defaults := .none,kwdefaults := .none,doc := .none,pyModule := (z2 1975),annotations := none,code := (.ref 243),closureTuple := .none,builtins := 0 }),⟨[]⟩⟩
noncomputable def kky (p : Program) (P : Params) : BT := (.node (boot_o_0 P) (.node (boot_o_1 P) (.node (x3v35 p P) (.node (boot_o_7 P) (.node (x15 p P) (.node (x31v11 p P) (.node (x63 p P) (.node (x127 p P) .nil .nil) (.node (x191 p P) .nil .nil)) (.node (x95 p P) (.node (x159 p P) .nil .nil) (.node (x223 p P) .nil .nil))) (.node (x47 p P) (.node (x79 p P) (.node (x143 p P) .nil .nil) (.node (x207 p P) .nil .nil)) (.node (x111 p P) (.node (x175 p P) .nil .nil) (.node (x239 p P) .nil .nil)))) (.node (x23 p P) (.node (x39 p P) (.node (x71 p P) (.node (x135 p P) .nil .nil) (.node (x199 p P) .nil .nil)) (.node (x103 p P) (.node (x167 p P) .nil .nil) (.node (x231 p P) .nil .nil))) (.node (x55 p P) (.node (x87 p P) (.node (x151 p P) .nil .nil) (.node (x215 p P) .nil .nil)) (.node (x119 p P) (.node (x183 p P) .nil .nil) .nil)))) (.node (x11 p P) (.node (x19 p P) (.node (x35 p P) (.node (x67 p P) (.node (x131 p P) .nil .nil) (.node (x195 p P) .nil .nil)) (.node (x99 p P) (.node (x163 p P) .nil .nil) (.node (x227 p P) .nil .nil))) (.node (x51 p P) (.node (x83 p P) (.node (x147 p P) .nil .nil) (.node (x211 p P) .nil .nil)) (.node (x115 p P) (.node (x179 p P) .nil .nil) (.node (x243 p P) .nil .nil)))) (.node (x27 p P) (.node (x43 p P) (.node (x75 p P) (.node (x139 p P) .nil .nil) (.node (x203 p P) .nil .nil)) (.node (x107 p P) (.node (x171 p P) .nil .nil) (.node (x235 p P) .nil .nil))) (.node (x59 p P) (.node (x91 p P) (.node (x155 p P) .nil .nil) (.node (x219 p P) .nil .nil)) (.node (x123 p P) (.node (x187 p P) .nil .nil) .nil))))) (.node (boot_o_5 P) (.node (boot_o_9 P) (.node (x17 p P) (.node (x33 p P) (.node (x65 p P) (.node (x129 p P) .nil .nil) (.node (x193 p P) .nil .nil)) (.node (x97 p P) (.node (x161 p P) .nil .nil) (.node (x225 p P) .nil .nil))) (.node (x49 p P) (.node (x81 p P) (.node (x145 p P) .nil .nil) (.node (x209 p P) .nil .nil)) (.node (x113 p P) (.node (x177 p P) .nil .nil) (.node (x241 p P) .nil .nil)))) (.node (x25 p P) (.node (x41 p P) (.node (x73 p P) (.node (x137 p P) .nil .nil) (.node (x201 p P) .nil .nil)) (.node (x105 p P) (.node (x169 p P) .nil .nil) (.node (x233 p P) .nil .nil))) (.node (x57 p P) (.node (x89 p P) (.node (x153 p P) .nil .nil) (.node (x217 p P) .nil .nil)) (.node (x121 p P) (.node (x185 p P) .nil .nil) .nil)))) (.node (x13 p P) (.node (x21 p P) (.node (x37 p P) (.node (x69 p P) (.node (x133 p P) .nil .nil) (.node (x197 p P) .nil .nil)) (.node (x101 p P) (.node (x165 p P) .nil .nil) (.node (x229 p P) .nil .nil))) (.node (x53 p P) (.node (x85 p P) (.node (x149 p P) .nil .nil) (.node (x213 p P) .nil .nil)) (.node (x117 p P) (.node (x181 p P) .nil .nil) .nil))) (.node (x29v11 p P) (.node (x45 p P) (.node (x77 p P) (.node (x141 p P) .nil .nil) (.node (x205 p P) .nil .nil)) (.node (x109 p P) (.node (x173 p P) .nil .nil) (.node (x237 p P) .nil .nil))) (.node (x61 p P) (.node (x93 p P) (.node (x157 p P) .nil .nil) (.node (x221 p P) .nil .nil)) (.node (x125 p P) (.node (x189 p P) .nil .nil) .nil)))))) (.node (boot_o_2 P) (.node (boot_o_4 P) (.node (boot_o_8 P) (.node (x16 p P) (.node (x32 p P) (.node (x64 p P) (.node (x128 p P) .nil .nil) (.node (x192 p P) .nil .nil)) (.node (x96 p P) (.node (x160 p P) .nil .nil) (.node (x224 p P) .nil .nil))) (.node (x48 p P) (.node (x80 p P) (.node (x144 p P) .nil .nil) (.node (x208 p P) .nil .nil)) (.node (x112 p P) (.node (x176 p P) .nil .nil) (.node (x240 p P) .nil .nil)))) (.node (x24 p P) (.node (x40 p P) (.node (x72 p P) (.node (x136 p P) .nil .nil) (.node (x200 p P) .nil .nil)) (.node (x104 p P) (.node (x168 p P) .nil .nil) (.node (x232 p P) .nil .nil))) (.node (x56 p P) (.node (x88 p P) (.node (x152 p P) .nil .nil) (.node (x216 p P) .nil .nil)) (.node (x120 p P) (.node (x184 p P) .nil .nil) .nil)))) (.node (x12v35 p P) (.node (x20 p P) (.node (x36 p P) (.node (x68 p P) (.node (x132 p P) .nil .nil) (.node (x196 p P) .nil .nil)) (.node (x100 p P) (.node (x164 p P) .nil .nil) (.node (x228 p P) .nil .nil))) (.node (x52 p P) (.node (x84 p P) (.node (x148 p P) .nil .nil) (.node (x212 p P) .nil .nil)) (.node (x116 p P) (.node (x180 p P) .nil .nil) (.node (x244 p P) .nil .nil)))) (.node (x28 p P) (.node (x44 p P) (.node (x76 p P) (.node (x140 p P) .nil .nil) (.node (x204 p P) .nil .nil)) (.node (x108 p P) (.node (x172 p P) .nil .nil) (.node (x236 p P) .nil .nil))) (.node (x60 p P) (.node (x92 p P) (.node (x156 p P) .nil .nil) (.node (x220 p P) .nil .nil)) (.node (x124 p P) (.node (x188 p P) .nil .nil) .nil))))) (.node (boot_o_6 P) (.node (boot_o_10 P) (.node (x18 p P) (.node (x34 p P) (.node (x66 p P) (.node (x130 p P) .nil .nil) (.node (x194 p P) .nil .nil)) (.node (x98 p P) (.node (x162 p P) .nil .nil) (.node (x226 p P) .nil .nil))) (.node (x50 p P) (.node (x82 p P) (.node (x146 p P) .nil .nil) (.node (x210 p P) .nil .nil)) (.node (x114 p P) (.node (x178 p P) .nil .nil) (.node (x242 p P) .nil .nil)))) (.node (x26 p P) (.node (x42 p P) (.node (x74 p P) (.node (x138 p P) .nil .nil) (.node (x202 p P) .nil .nil)) (.node (x106 p P) (.node (x170 p P) .nil .nil) (.node (x234 p P) .nil .nil))) (.node (x58 p P) (.node (x90 p P) (.node (x154 p P) .nil .nil) (.node (x218 p P) .nil .nil)) (.node (x122 p P) (.node (x186 p P) .nil .nil) .nil)))) (.node (x14 p P) (.node (x22 p P) (.node (x38 p P) (.node (x70 p P) (.node (x134 p P) .nil .nil) (.node (x198 p P) .nil .nil)) (.node (x102 p P) (.node (x166 p P) .nil .nil) (.node (x230 p P) .nil .nil))) (.node (x54 p P) (.node (x86 p P) (.node (x150 p P) .nil .nil) (.node (x214 p P) .nil .nil)) (.node (x118 p P) (.node (x182 p P) .nil .nil) .nil))) (.node (x30 p P) (.node (x46 p P) (.node (x78 p P) (.node (x142 p P) .nil .nil) (.node (x206 p P) .nil .nil)) (.node (x110 p P) (.node (x174 p P) .nil .nil) (.node (x238 p P) .nil .nil))) (.node (x62 p P) (.node (x94 p P) (.node (x158 p P) .nil .nil) (.node (x222 p P) .nil .nil)) (.node (x126 p P) (.node (x190 p P) .nil .nil) .nil)))))))
noncomputable def heap35 (p : Program) (P : Params) : Heap := ⟨⟨[(boot_o_0 P),(boot_o_1 P),(boot_o_2 P),(x3v35 p P),(boot_o_4 P),(boot_o_5 P),(boot_o_6 P),(boot_o_7 P),(boot_o_8 P),(boot_o_9 P),(boot_o_10 P),(x11 p P),(x12v35 p P),(x13 p P),(x14 p P),(x15 p P),(x16 p P),(x17 p P),(x18 p P),(x19 p P),(x20 p P),(x21 p P),(x22 p P),(x23 p P),(x24 p P),(x25 p P),(x26 p P),(x27 p P),(x28 p P),(x29v11 p P),(x30 p P),(x31v11 p P),(x32 p P),(x33 p P),(x34 p P),(x35 p P),(x36 p P),(x37 p P),(x38 p P),(x39 p P),(x40 p P),(x41 p P),(x42 p P),(x43 p P),(x44 p P),(x45 p P),(x46 p P),(x47 p P),(x48 p P),(x49 p P),(x50 p P),(x51 p P),(x52 p P),(x53 p P),(x54 p P),(x55 p P),(x56 p P),(x57 p P),(x58 p P),(x59 p P),(x60 p P),(x61 p P),(x62 p P),(x63 p P),(x64 p P),(x65 p P),(x66 p P),(x67 p P),(x68 p P),(x69 p P),(x70 p P),(x71 p P),(x72 p P),(x73 p P),(x74 p P),(x75 p P),(x76 p P),(x77 p P),(x78 p P),(x79 p P),(x80 p P),(x81 p P),(x82 p P),(x83 p P),(x84 p P),(x85 p P),(x86 p P),(x87 p P),(x88 p P),(x89 p P),(x90 p P),(x91 p P),(x92 p P),(x93 p P),(x94 p P),(x95 p P),(x96 p P),(x97 p P),(x98 p P),(x99 p P),(x100 p P),(x101 p P),(x102 p P),(x103 p P),(x104 p P),(x105 p P),(x106 p P),(x107 p P),(x108 p P),(x109 p P),(x110 p P),(x111 p P),(x112 p P),(x113 p P),(x114 p P),(x115 p P),(x116 p P),(x117 p P),(x118 p P),(x119 p P),(x120 p P),(x121 p P),(x122 p P),(x123 p P),(x124 p P),(x125 p P),(x126 p P),(x127 p P),(x128 p P),(x129 p P),(x130 p P),(x131 p P),(x132 p P),(x133 p P),(x134 p P),(x135 p P),(x136 p P),(x137 p P),(x138 p P),(x139 p P),(x140 p P),(x141 p P),(x142 p P),(x143 p P),(x144 p P),(x145 p P),(x146 p P),(x147 p P),(x148 p P),(x149 p P),(x150 p P),(x151 p P),(x152 p P),(x153 p P),(x154 p P),(x155 p P),(x156 p P),(x157 p P),(x158 p P),(x159 p P),(x160 p P),(x161 p P),(x162 p P),(x163 p P),(x164 p P),(x165 p P),(x166 p P),(x167 p P),(x168 p P),(x169 p P),(x170 p P),(x171 p P),(x172 p P),(x173 p P),(x174 p P),(x175 p P),(x176 p P),(x177 p P),(x178 p P),(x179 p P),(x180 p P),(x181 p P),(x182 p P),(x183 p P),(x184 p P),(x185 p P),(x186 p P),(x187 p P),(x188 p P),(x189 p P),(x190 p P),(x191 p P),(x192 p P),(x193 p P),(x194 p P),(x195 p P),(x196 p P),(x197 p P),(x198 p P),(x199 p P),(x200 p P),(x201 p P),(x202 p P),(x203 p P),(x204 p P),(x205 p P),(x206 p P),(x207 p P),(x208 p P),(x209 p P),(x210 p P),(x211 p P),(x212 p P),(x213 p P),(x214 p P),(x215 p P),(x216 p P),(x217 p P),(x218 p P),(x219 p P),(x220 p P),(x221 p P),(x222 p P),(x223 p P),(x224 p P),(x225 p P),(x226 p P),(x227 p P),(x228 p P),(x229 p P),(x230 p P),(x231 p P),(x232 p P),(x233 p P),(x234 p P),(x235 p P),(x236 p P),(x237 p P),(x238 p P),(x239 p P),(x240 p P),(x241 p P),(x242 p P),(x243 p P),(x244 p P)]⟩,life0⟩
end
end Mine
namespace Mine
open PySem PySem.W PySem.Calls PyProof.Rows
noncomputable def zipF : Nat → List Obj → Frag
  | _,[] => []
  | n,o :: r => (n,o) :: zipF (n + 1) r
noncomputable def KF (P : Params) : Frag := zipF 0 (heap35 pw P).objs.toList
theorem tabAll {α β : Type} {f g : α → β} {l : List α} (h : l.map f = l.map g) : ∀ x ∈ l,f x = g x := List.map_inj_left.mp h
theorem lookAll {α : Type} {P : Str → α → Prop} {l : List (Str × α)} (h : ∀ e ∈ l,P e.1 e.2) (x : Str) (a : α) (e : l.lookup x = some a) : P x a := h (x,a) (PySem.mem_of_lookup e)
noncomputable def methB (K : Frag) (x : Str) (fa : Addr) : Bool := findIn K (.ref kdd) x == some (some (.ref fa)) && isFn K (.ref fa) && keepIn K (.ref fa) && fnIn K fa && !instNames.contains x && specialIn K (.ref fa) "__get__" == some (some (.builtin "function.__get__")) && takesIn K (.ref fa) == some false && !copiedNames.contains x
theorem methOf {K : Frag} {x : Str} {fa : Addr} (h : methB K x fa = true) : Meth K x fa := by
  unfold methB at h
  simp only [Bool.and_eq_true,beq_iff_eq,Bool.not_eq_true',List.contains_eq_mem,decide_eq_false_iff_not] at h
  obtain ⟨⟨⟨⟨⟨⟨⟨h1,h2⟩,h3⟩,h4⟩,h5⟩,h6⟩,h7⟩,h8⟩ := h
  exact ⟨h1,h2,h3,h4,h5,h6,h7,by simpa using h8⟩
noncomputable def hmB (items : Array Value) : Nat → Bool
  | 0 => true
  | n + 1 => (match items[n]? with | some (.str s _) => s == kek n | _ => false) && hmB items n
theorem hmOf {items : Array Value} : ∀ {n : Nat},hmB items n = true → ∀ c,c < n → ∃ tk,items[c]? = some (.str (kek c) tk)
  | n + 1,h,c,hc => by
    obtain ⟨h1,h2⟩ := Bool.and_eq_true_iff.mp (show ((match items[n]? with | some (.str s _) => s == kek n | _ => false) && hmB items n) = true from h)
    by_cases e : c = n
    · subst e
      split at h1
      · rename_i s tk q; rw [q,eq_of_beq h1]; exact ⟨tk,rfl⟩
      · cases h1
    · exact hmOf h2 c (by omega)
section
variable (P : Params)
theorem kf_fn : fnTab.map (fun e => gval (KF P) e.1) = fnTab.map fun e => some (Value.ref e.2) := by kernel_rfl
theorem kf_kp : fnTab.map (fun e => keepIn (KF P) (.ref e.2)) = fnTab.map fun _ => true := by kernel_rfl
theorem kf_bi : biTab.map (fun e => gval (KF P) e.1) = biTab.map fun e => some e.2 := by kernel_rfl
theorem kf_me : meTab.map (fun e => methB (KF P) e.1 e.2) = meTab.map fun _ => true := by kernel_rfl
theorem kf_out : gval (KF P) "_NODE_OUT" = some (.int (-1) 1752) := by kernel_rfl
theorem kf_dn : gval (KF P) "_NODE_DONE" = some (.int (-2) 1755) := by kernel_rfl
theorem kf_s : Mk (KF P) 166 102 := ⟨by kernel_rfl,by kernel_rfl,by kernel_rfl,by kernel_rfl⟩
theorem kf_n : Mk (KF P) 69 65 := ⟨by kernel_rfl,by kernel_rfl,by kernel_rfl,by kernel_rfl⟩
end
end Mine
namespace Mine
open PySem PySem.W PySem.Calls PyProof.Rows
section
variable (P : Params)
noncomputable def slotB (K : Frag) (x : Str) (i : Nat) (p : Addr) : Bool := findIn K (.ref kha) x == some (some (.ref p)) && specialIn K (.ref p) "__get__" == some (some (.builtin "member_descriptor.__get__")) && takesIn K (.ref p) == some true && slotIn K p kha == some i && typeIn K (.ref p) == some (.type "member_descriptor")
theorem slotOf {K : Frag} {x : Str} {i : Nat} {p : Addr} (h : slotB K x i p = true) : ∃ p,findIn K (.ref kha) x = some (some (.ref p)) ∧ specialIn K (.ref p) "__get__" = some (some (.builtin "member_descriptor.__get__")) ∧ takesIn K (.ref p) = some true ∧ slotIn K p kha = some i ∧ typeIn K (.ref p) = some (.type "member_descriptor") := by
  unfold slotB at h
  simp only [Bool.and_eq_true,beq_iff_eq] at h
  exact ⟨p,h.1.1.1.1,h.1.1.1.2,h.1.1.2,h.1.2,h.2⟩
theorem k_slots : ([(nSu,2,72),(nNp,1,71),(kl0,0,70)] : List (Str × Nat × Addr)).map (fun e => slotB (KF P) e.1 e.2.1 e.2.2) = [true,true,true] := by kernel_rfl
theorem k_inst : instNames.map (findIn (KF P) (.ref kdd)) = instNames.map fun _ => some none := by kernel_rfl
theorem k_cls : Cls (KF P) := by
  refine ⟨by kernel_rfl,by kernel_rfl,by kernel_rfl,by kernel_rfl,tabAll (k_inst P),by kernel_rfl,by kernel_rfl,by kernel_rfl,by kernel_rfl,fun x i h => ?_⟩
  obtain ⟨h1,h2⟩ := List.cons.inj (k_slots P)
  obtain ⟨h2,h3⟩ := List.cons.inj h2
  obtain ⟨h3,_⟩ := List.cons.inj h3
  rcases List.mem_cons.mp h with e | h
  · obtain ⟨rfl,rfl⟩ := Prod.mk.inj e; exact slotOf h1
  · rcases List.mem_cons.mp h with e | h
    · obtain ⟨rfl,rfl⟩ := Prod.mk.inj e; exact slotOf h2
    · obtain ⟨rfl,rfl⟩ := Prod.mk.inj (List.mem_singleton.mp h); exact slotOf h3
noncomputable def hmObj : Option Obj → Bool
  | some ⟨.type "list",none,.seq items _,⟨[]⟩⟩ => hmB items 256
  | _ => false
theorem k_hm : hmObj ((KF P).lookup 29) = true := by kernel_rfl
theorem k_hg : gval (KF P) "_QUOPRI_HEADER_MAP" = some (.ref 29) := by kernel_rfl
theorem hm_ok : HM (KF P) 29 := by
  refine ⟨?_,k_hg P⟩
  have h := k_hm P
  unfold hmObj at h
  split at h
  · rename_i items n e
    exact ⟨items,n,e,hmOf h⟩
  · cases h
theorem ke5 : Kf (KF P) := ⟨fun x a h => tabAll (kf_fn P) (x,a) (PySem.mem_of_lookup h),fun a h => by
    obtain ⟨e,he,q⟩ := List.any_eq_true.mp h
    have := tabAll (kf_kp P) e he
    rw [eq_of_beq q] at this; exact this,fun x v h => tabAll (kf_bi P) (x,v) (PySem.mem_of_lookup h),kf_out P,kf_dn P,fun x a h => methOf (tabAll (kf_me P) (x,a) (PySem.mem_of_lookup h)),kf_s P,kf_n P,hm_ok P⟩
end
end Mine
namespace Mine
open PySem PySem.W PySem.Calls PyProof.Rows
noncomputable def fnOf (K : Frag) (a : Addr) : Option FuncData := match K.lookup a with
  | some o => (match o.data with | .func f => some f | _ => none)
  | none => none
theorem fnOf_at {K : Frag} {a : Addr} {fd : FuncData} (h : fnOf K a = some fd) : ∃ o,K.lookup a = some o ∧ o.data = .func fd := by
  unfold fnOf at h
  cases e : K.lookup a with
  | none => rw [e] at h; cases h
  | some o =>
    replace h : (match o.data with | .func f => some f | _ => none) = some fd := by rw [e] at h; exact h
    cases q : o.data with
    | func f => rw [q] at h; cases h; exact ⟨o,rfl,q⟩
    | _ => rw [q] at h; cases h
noncomputable def codeB (K : Frag) (fd : FuncData) : Bool := match fd.code with
  | .ref c => (match K.lookup c with
    | some o => (match o.data with
      | .fields vs => (match (vs[1]? : Option Value) with
        | some (.str s _) => s == fd.qualname
        | _ => false)
      | _ => false)
    | none => false)
  | _ => false
theorem codeB_at {K : Frag} {fd : FuncData} (h : codeB K fd = true) : ∃ c o vs t,fd.code = .ref c ∧ K.lookup c = some o ∧ o.data = .fields vs ∧ vs[1]? = some (.str fd.qualname t) := by
  unfold codeB at h
  split at h
  · rename_i c ec
    split at h
    · rename_i o eo
      split at h
      · rename_i vs ev
        split at h
        · rename_i s t es
          rw [eq_of_beq h] at es
          exact ⟨c,o,vs,t,ec,eo,ev,es⟩
        · cases h
      · cases h
    · cases h
  · cases h
noncomputable def fdAt (K : Frag) (a : Addr) : FuncData := (fnOf K a).getD default
noncomputable def flagB (K : Frag) (a : Addr) (fd : FuncData) : Bool := (fnOf K a).isSome && codeB K fd && fd.scope.kind == .function && fd.closure.isEmpty && fd.globals == mainGlobals && fd.builtins == builtinsNs && !fd.scope.isCoroutine && !fd.scope.isGenerator
theorem ke9 {K : Frag} {a : Addr} {body : List Stmt} {sc : Sc} (h : flagB K a (fdAt K a) = true) (hb : (fdAt K a).body = .stmts body) (hn : (fdAt K a).scope.names = sc.names) : FnAt K a (fdAt K a) body sc := by
  unfold flagB at h
  simp only [Bool.and_eq_true,beq_iff_eq,List.isEmpty_iff,Bool.not_eq_true'] at h
  obtain ⟨⟨⟨⟨⟨⟨⟨h1,h2⟩,h3⟩,h4⟩,h5⟩,h6⟩,h7⟩,h8⟩ := h
  have e : fnOf K a = some (fdAt K a) := by
    unfold fdAt
    cases q : fnOf K a with
    | none => rw [q] at h1; cases h1
    | some f => rfl
  exact ⟨fnOf_at e,codeB_at h2,hb,hn,h3,h4,h5,h6,h7,h8⟩
noncomputable def scB (sc : Sc) (n k : Nat) : Bool := sc.names.length == n && Nat.ble k n && (sc.names.take k).all fun x => x.2 == .local || x.2 == .cell
noncomputable def psOf (sc : Sc) (k : Nat) : List Str := (sc.names.take k).map (·.1)
theorem kcm {g : Gl} {a : Addr} {body : List Stmt} {sc : Sc} {n k : Nat} (F : FnAt g.K a (fdAt g.K a) body sc) (nd : (sc.names.map (·.1)).Nodup) (h : scB sc n k = true) : Fn1 g sc a (fdAt g.K a) body n (psOf sc k) ∧ (psOf sc k).length = k := by
  unfold scB at h
  simp only [Bool.and_eq_true,beq_iff_eq,List.all_eq_true,Bool.or_eq_true] at h
  obtain ⟨⟨h1,h2⟩,h3⟩ := h
  have h2 := Nat.le_of_ble_eq_true h2
  have hl : (psOf sc k).length = k := by unfold psOf; rw [List.length_map,List.length_take]; omega
  exact ⟨⟨F,nd,h1,by rw [hl]; rfl,by rw [hl]; exact fun x hx => h3 x hx,by rw [hl]; exact h2⟩,hl⟩
theorem valsS {p : List Value → Prop} {k : Nat} (h : ∀ a (l : List Value),l.length = k → p (a :: l)) (l : List Value) (e : l.length = k + 1) : p l := by
  cases l with
  | nil => exact absurd e (Nat.succ_ne_zero k).symm
  | cons a l => exact h a l (Nat.succ.inj e)
theorem ki5 {p : List Value → Prop} (h : ∀ a,p [a]) : ∀ l : List Value,l.length = 1 → p l := valsS fun a l e => by cases List.eq_nil_of_length_eq_zero e; exact h a
theorem vals2 {p : List Value → Prop} (h : ∀ a b,p [a,b]) : ∀ l : List Value,l.length = 2 → p l := valsS fun a => ki5 (h a)
theorem vals3 {p : List Value → Prop} (h : ∀ a b c,p [a,b,c]) : ∀ l : List Value,l.length = 3 → p l := valsS fun a => vals2 (h a)
theorem vals4 {p : List Value → Prop} (h : ∀ a b c d,p [a,b,c,d]) : ∀ l : List Value,l.length = 4 → p l := valsS fun a => vals3 (h a)
noncomputable def gl (w : World) {h₀ : Heap} {mg mb : Str → Option Value} (bs : Bs h₀ (KF w.params) mg mb) : Gl := ⟨pw,w,h₀,KF w.params,mg,mb,bs,k_cls w.params⟩
theorem binds_k {g : Gl} {fd : FuncData} {ps : List Str} {k : Nat} (e : ps.length = k) (hb : ∀ vals : List Value,vals.length = k → bindArgs fd ⟨vals,[]⟩ = pure (ps.zip vals)) : Binds g fd ps (· = k) some := by
  subst e; exact kj9 hb
theorem kej {g : Gl} {sc : Sc} {q : Bool} {d n k : Nat} {a : Addr} {fd : FuncData} {body : List Stmt} {m : M AF} (F : Fn1 g sc a fd body n (psOf sc k) ∧ (psOf sc k).length = k) (hb : ∀ vals : List Value,vals.length = k → bindArgs fd ⟨vals,[]⟩ = pure ((psOf sc k).zip vals)) (hbody : RB g sc q d body m) :
    CallOk g q (d + 1) (.ref a) k (call n m) := (kf0 (np := (· = k)) (G := some) F.1 (binds_k F.2 hb) hbody).ok rfl
theorem hd_rel (ρ : RM) (h : Heap) (vs vs' : List V) (vals : List Value) (hl : vs.length = 1) (r : VsR ρ h vs vals) (e : gHdr vs = some vs') : VsR ρ h vs' (vals ++ [.str "iso-8859-1" 1731]) := by
  cases r with
  | nil => cases hl
  | cons r0 r => cases r with
    | nil => cases e; exact .cons r0 (.cons ⟨1731,rfl⟩ .nil)
    | cons _ _ => cases hl
section
variable (P : Params)
theorem i4 (a b : Value) : ∃ kf : Option (Array Value) → Sem (List (Str × Value)),bindArgs (fdAt (KF P) 102) ⟨[a,b],[]⟩ = (seqItems? (fdAt (KF P) 102).defaults >>= kf) ∧ kf (some [Value.none].toArray) = pure ((psOf sc_TopologicalSorter_init 2).zip [a,b]) := ⟨_,by with_unfolding_all rfl,by kernel_rfl⟩
theorem i5 : (KF P).lookup 95 = some (ki6 [.none]) := by kernel_rfl
theorem s40 (v0 v1 : Value) : bindArgs (fdAt (KF P) 116) ⟨v0 :: v1 :: [],[]⟩ = (newTuple [] >>= fun t => pure ((psOf sc_TopologicalSorter_add 3).zip [v0,v1,t])) := by kernel_rfl
theorem s41 (v0 v1 r : Value) (rest : List Value) : bindArgs (fdAt (KF P) 116) ⟨v0 :: v1 :: r :: rest,[]⟩ = (newTuple (r :: rest) >>= fun t => pure ((psOf sc_TopologicalSorter_add 3).zip [v0,v1,t])) := by kernel_rfl
theorem v4 (v0 v1 : Value) : bindArgs (fdAt (KF P) 149) ⟨[v0,v1],[]⟩ = (newTuple [v1] >>= fun t => pure ((psOf sc_TopologicalSorter_done 2).zip [v0,t])) := by kernel_rfl
theorem kgb : FnAt (KF P) 45 (fdAt (KF P) 45) (fnB (stA pw 12)) sc_header_encode := ke9 (by kernel_rfl) (by kernel_rfl) (by kernel_rfl)
theorem kf7 : scB sc_header_encode 4 2 = true := by kernel_rfl
theorem kgc : FnAt (KF P) 65 (fdAt (KF P) 65) (fnB (stB pw 19 1)) sc_NodeInfo_init := ke9 (by kernel_rfl) (by kernel_rfl) (by kernel_rfl)
theorem kf8 : scB sc_NodeInfo_init 2 2 = true := by kernel_rfl
theorem khq (a b : Value) : bindArgs (fdAt (KF P) 65) ⟨[a,b],[]⟩ = pure ((psOf sc_NodeInfo_init 2).zip [a,b]) := by kernel_rfl
theorem kdu : FnAt (KF P) 109 (fdAt (KF P) 109) (fnB (stB pw 21 1)) sc_TopologicalSorter_get_nodeinfo := ke9 (by kernel_rfl) (by kernel_rfl) (by kernel_rfl)
theorem kdr : scB sc_TopologicalSorter_get_nodeinfo 4 2 = true := by kernel_rfl
theorem kdc (a b : Value) : bindArgs (fdAt (KF P) 109) ⟨[a,b],[]⟩ = pure ((psOf sc_TopologicalSorter_get_nodeinfo 2).zip [a,b]) := by kernel_rfl
theorem kdk : FnAt (KF P) 116 (fdAt (KF P) 116) (fnB (stB pw 21 2)) sc_TopologicalSorter_add := ke9 (by kernel_rfl) (by kernel_rfl) (by kernel_rfl)
theorem kdj : scB sc_TopologicalSorter_add 8 3 = true := by kernel_rfl
theorem kdh : FnAt (KF P) 102 (fdAt (KF P) 102) (fnB (stB pw 21 0)) sc_TopologicalSorter_init := ke9 (by kernel_rfl) (by kernel_rfl) (by kernel_rfl)
theorem kde : scB sc_TopologicalSorter_init 4 2 = true := by kernel_rfl
theorem kd9 : FnAt (KF P) 156 (fdAt (KF P) 156) (fnB (stB pw 21 8)) sc_TopologicalSorter_find_cycle := ke9 (by kernel_rfl) (by kernel_rfl) (by kernel_rfl)
theorem kd7 : scB sc_TopologicalSorter_find_cycle 11 1 = true := by kernel_rfl
theorem kdo (a : Value) : bindArgs (fdAt (KF P) 156) ⟨[a],[]⟩ = pure ((psOf sc_TopologicalSorter_find_cycle 1).zip [a]) := by kernel_rfl
theorem kex : FnAt (KF P) 121 (fdAt (KF P) 121) (fnB (stB pw 21 3)) sc_TopologicalSorter_prepare := ke9 (by kernel_rfl) (by kernel_rfl) (by kernel_rfl)
theorem keq : scB sc_TopologicalSorter_prepare 4 1 = true := by kernel_rfl
theorem keb (a : Value) : bindArgs (fdAt (KF P) 121) ⟨[a],[]⟩ = pure ((psOf sc_TopologicalSorter_prepare 1).zip [a]) := by kernel_rfl
theorem keh : FnAt (KF P) 128 (fdAt (KF P) 128) (fnB (stB pw 21 4)) sc_TopologicalSorter_get_ready := ke9 (by kernel_rfl) (by kernel_rfl) (by kernel_rfl)
theorem ked : scB sc_TopologicalSorter_get_ready 8 1 = true := by kernel_rfl
theorem kdx (a : Value) : bindArgs (fdAt (KF P) 128) ⟨[a],[]⟩ = pure ((psOf sc_TopologicalSorter_get_ready 1).zip [a]) := by kernel_rfl
theorem keg : FnAt (KF P) 135 (fdAt (KF P) 135) (fnB (stB pw 21 5)) sc_TopologicalSorter_is_active := ke9 (by kernel_rfl) (by kernel_rfl) (by kernel_rfl)
theorem kec : scB sc_TopologicalSorter_is_active 3 1 = true := by kernel_rfl
theorem kdw (a : Value) : bindArgs (fdAt (KF P) 135) ⟨[a],[]⟩ = pure ((psOf sc_TopologicalSorter_is_active 1).zip [a]) := by kernel_rfl
theorem kdi : FnAt (KF P) 149 (fdAt (KF P) 149) (fnB (stB pw 21 7)) sc_TopologicalSorter_done := ke9 (by kernel_rfl) (by kernel_rfl) (by kernel_rfl)
theorem kdf : scB sc_TopologicalSorter_done 11 2 = true := by kernel_rfl
theorem q_siftdown : FnAt (KF P) 191 (fdAt (KF P) 191) (fnB (stA pw 25)) sc_siftdown := ke9 (by kernel_rfl) (by kernel_rfl) (by kernel_rfl)
theorem z_siftdown : scB sc_siftdown 6 3 = true := by kernel_rfl
theorem kmh (a b c : Value) : bindArgs (fdAt (KF P) 191) ⟨[a,b,c],[]⟩ = pure ((psOf sc_siftdown 3).zip [a,b,c]) := by kernel_rfl
theorem q_heappush : FnAt (KF P) 177 (fdAt (KF P) 177) (fnB (stA pw 23)) sc_heappush := ke9 (by kernel_rfl) (by kernel_rfl) (by kernel_rfl)
theorem z_heappush : scB sc_heappush 4 2 = true := by kernel_rfl
theorem kmj (a b : Value) : bindArgs (fdAt (KF P) 177) ⟨[a,b],[]⟩ = pure ((psOf sc_heappush 2).zip [a,b]) := by kernel_rfl
theorem q_siftup : FnAt (KF P) 198 (fdAt (KF P) 198) (fnB (stA pw 26)) sc_siftup := ke9 (by kernel_rfl) (by kernel_rfl) (by kernel_rfl)
theorem z_siftup : scB sc_siftup 9 2 = true := by kernel_rfl
theorem b_in_siftup (a b : Value) : bindArgs (fdAt (KF P) 198) ⟨[a,b],[]⟩ = pure ((psOf sc_siftup 2).zip [a,b]) := by kernel_rfl
theorem q_heappop : FnAt (KF P) 184 (fdAt (KF P) 184) (fnB (stA pw 24)) sc_heappop := ke9 (by kernel_rfl) (by kernel_rfl) (by kernel_rfl)
theorem z_heappop : scB sc_heappop 4 1 = true := by kernel_rfl
theorem b_in_heappop (a : Value) : bindArgs (fdAt (KF P) 184) ⟨[a],[]⟩ = pure ((psOf sc_heappop 1).zip [a]) := by kernel_rfl
theorem q_law_rows : FnAt (KF P) 205 (fdAt (KF P) 205) (fnB (stA pw 28)) sc_law_rows := ke9 (by kernel_rfl) (by kernel_rfl) (by kernel_rfl)
theorem z_law_rows : scB sc_law_rows 6 1 = true := by kernel_rfl
theorem kmi (a : Value) : bindArgs (fdAt (KF P) 205) ⟨[a],[]⟩ = pure ((psOf sc_law_rows 1).zip [a]) := by kernel_rfl
theorem q_law_place : FnAt (KF P) 212 (fdAt (KF P) 212) (fnB (stA pw 29)) sc_law_place := ke9 (by kernel_rfl) (by kernel_rfl) (by kernel_rfl)
theorem z_law_place : scB sc_law_place 3 1 = true := by kernel_rfl
theorem kku (a : Value) : bindArgs (fdAt (KF P) 212) ⟨[a],[]⟩ = pure ((psOf sc_law_place 1).zip [a]) := by kernel_rfl
theorem kkp : FnAt (KF P) 217 (fdAt (KF P) 217) (fnB (stA pw 30)) sc_law_in_order := ke9 (by kernel_rfl) (by kernel_rfl) (by kernel_rfl)
theorem kki : scB sc_law_in_order 4 1 = true := by kernel_rfl
theorem kh9 (a : Value) : bindArgs (fdAt (KF P) 217) ⟨[a],[]⟩ = pure ((psOf sc_law_in_order 1).zip [a]) := by kernel_rfl
theorem q_law_rounds : FnAt (KF P) 222 (fdAt (KF P) 222) (fnB (stA pw 31)) sc_law_rounds := ke9 (by kernel_rfl) (by kernel_rfl) (by kernel_rfl)
theorem z_law_rounds : scB sc_law_rounds 9 1 = true := by kernel_rfl
theorem kkc (a : Value) : bindArgs (fdAt (KF P) 222) ⟨[a],[]⟩ = pure ((psOf sc_law_rounds 1).zip [a]) := by kernel_rfl
theorem q_law_piles : FnAt (KF P) 227 (fdAt (KF P) 227) (fnB (stA pw 32)) sc_law_piles := ke9 (by kernel_rfl) (by kernel_rfl) (by kernel_rfl)
theorem z_law_piles : scB sc_law_piles 6 2 = true := by kernel_rfl
theorem kkv (a b : Value) : bindArgs (fdAt (KF P) 227) ⟨[a,b],[]⟩ = pure ((psOf sc_law_piles 2).zip [a,b]) := by kernel_rfl
theorem kim : FnAt (KF P) 234 (fdAt (KF P) 234) (fnB (stA pw 33)) sc_law_lesser_yet := ke9 (by kernel_rfl) (by kernel_rfl) (by kernel_rfl)
theorem kik : scB sc_law_lesser_yet 4 2 = true := by kernel_rfl
theorem kg9 (a b : Value) : bindArgs (fdAt (KF P) 234) ⟨[a,b],[]⟩ = pure ((psOf sc_law_lesser_yet 2).zip [a,b]) := by kernel_rfl
theorem kkq : FnAt (KF P) 239 (fdAt (KF P) 239) (fnB (stA pw 34)) sc_law_comes_so := ke9 (by kernel_rfl) (by kernel_rfl) (by kernel_rfl)
theorem kkj : scB sc_law_comes_so 16 4 = true := by kernel_rfl
theorem kia (a b c d : Value) : bindArgs (fdAt (KF P) 239) ⟨[a,b,c,d],[]⟩ = pure ((psOf sc_law_comes_so 4).zip [a,b,c,d]) := by kernel_rfl
theorem hd4 (a : Value) : ∃ kf : Option (Array Value) → Sem (List (Str × Value)),bindArgs (fdAt (KF P) 45) ⟨[a],[]⟩ = (seqItems? (fdAt (KF P) 45).defaults >>= kf) ∧ kf (some [Value.str "iso-8859-1" 1731].toArray) = pure ((psOf sc_header_encode 2).zip [a,.str "iso-8859-1" 1731]) := ⟨_,by with_unfolding_all rfl,by kernel_rfl⟩
theorem hd5 : (KF P).lookup 38 = some (ki6 [.str "iso-8859-1" 1731]) := by kernel_rfl
theorem hd6 : (fdAt (KF P) 45).defaults = .ref 38 := by kernel_rfl
theorem i6 : (fdAt (KF P) 102).defaults = .ref 95 := by kernel_rfl
end
section
variable {w : World} {h₀ : Heap} {mg mb : Str → Option Value} (bs : Bs h₀ (KF w.params) mg mb)
theorem c_header_encode : kgm (gl w bs) := (kf0 (kcm (g := gl w bs) (kgb w.params) kb1 kf7).1 (klf (g := gl w bs) (T := 38) (hd5 w.params) (hd6 w.params) (gv := fun l => l ++ [.str "iso-8859-1" 1731]) (ki5 (hd4 w.params)) (fun vals h => by rw [List.length_append,h]; exact (kcm (g := gl w bs) (kgb w.params) kb1 kf7).2.symm) hd_rel) (ki3 (ke5 w.params))).ok rfl
theorem c_NodeInfo_init : kgn (gl w bs) := ok_make (kf_n w.params) (.inr ⟨rfl,rfl⟩) (kf0 (kcm (g := gl w bs) (kgc w.params) kcb kf8).1 (binds_k (kcm (g := gl w bs) (kgc w.params) kcb kf8).2 (vals2 (khq w.params))) (ki4 (ke5 w.params)))
theorem c_TopologicalSorter_get_nodeinfo : kce (gl w bs) := kej (kcm (g := gl w bs) (kdu w.params) kal kdr) (vals2 (kdc w.params)) (kds (ke5 w.params) (c_NodeInfo_init bs))
theorem c_TopologicalSorter_add : kdq (gl w bs) := kf0 (kcm (g := gl w bs) (kdk w.params) kak kdj).1 (binds_star (kcm (g := gl w bs) (kdk w.params) kak kdj).2 fun v0 v1 rest => by cases rest; exact s40 w.params v0 v1; exact s41 w.params v0 v1 _ _) (kfs (ke5 w.params) (c_TopologicalSorter_get_nodeinfo bs))
theorem c_TopologicalSorter_init : kci (gl w bs) := ok_make (kf_s w.params) (.inl ⟨rfl,rfl⟩) (kf0 (kcm (g := gl w bs) (kdh w.params) kap kde).1 (klf (g := gl w bs) (T := 95) (i5 w.params) (i6 w.params) (gv := id) (vals2 (i4 w.params)) (fun vals h => h.trans (kcm (g := gl w bs) (kdh w.params) kap kde).2.symm) fun ρ h vs vs' vals _ r e => by cases e; exact r) (kfl (ke5 w.params) (c_TopologicalSorter_add bs)))
theorem c_TopologicalSorter_find_cycle : kcn (gl w bs) := kej (kcm (g := gl w bs) (kd9 w.params) kaa kd7) (ki5 (kdo w.params)) (kd8 (ke5 w.params))
theorem c_TopologicalSorter_prepare : kb9 (gl w bs) := kej (kcm (g := gl w bs) (kex w.params) kay keq) (ki5 (keb w.params)) (kes (ke5 w.params) (c_TopologicalSorter_find_cycle bs))
theorem c_TopologicalSorter_get_ready : kb3 (gl w bs) := kej (kcm (g := gl w bs) (keh w.params) kaf ked) (ki5 (kdx w.params)) (kef (ke5 w.params))
theorem c_TopologicalSorter_is_active : kb2 (gl w bs) := kej (kcm (g := gl w bs) (keg w.params) kbd kec) (ki5 (kdw w.params)) (kee (ke5 w.params))
theorem c_TopologicalSorter_done : kcj (gl w bs) := (kf0 (kcm (g := gl w bs) (kdi w.params) kad kdf).1 (binds_var (kcm (g := gl w bs) (kdi w.params) kad kdf).2 (v4 w.params)) (kfm (ke5 w.params))).ok rfl
theorem c_siftdown : kib (gl w bs) := kej (kcm (g := gl w bs) (q_siftdown w.params) ka5 z_siftdown) (vals3 (kmh w.params)) (w_siftdown (ke5 w.params))
theorem c_heappush : klh (gl w bs) := kej (kcm (g := gl w bs) (q_heappush w.params) ke3 z_heappush) (vals2 (kmj w.params)) (w_heappush (ke5 w.params) (c_siftdown bs))
theorem c_siftup : C_siftup (gl w bs) := kej (kcm (g := gl w bs) (q_siftup w.params) kav z_siftup) (vals2 (b_in_siftup w.params)) (w_siftup (ke5 w.params) (c_siftdown bs))
theorem c_heappop : C_heappop (gl w bs) := kej (kcm (g := gl w bs) (q_heappop w.params) kch z_heappop) (ki5 (b_in_heappop w.params)) (w_heappop (ke5 w.params) (c_siftup bs))
theorem c_law_rows : C_law_rows (gl w bs) := @kej (gl w bs) sc_law_rows true 0 6 1 205 (fdAt (KF w.params) 205) (fnB (stA pw 28)) kfr (kcm (g := gl w bs) (q_law_rows w.params) ka9 z_law_rows) (ki5 (kmi w.params)) (@w_law_rows (gl w bs) (ke5 w.params))
theorem c_law_place : kkg (gl w bs) := kej (kcm (g := gl w bs) (q_law_place w.params) kbj z_law_place) (ki5 (kku w.params)) (w_law_place (ke5 w.params))
theorem c_law_in_order : kg0 (gl w bs) := kej (kcm (g := gl w bs) (kkp w.params) kgg kki) (ki5 (kh9 w.params)) (kkl (ke5 w.params))
theorem c_law_rounds : kij (gl w bs) := kej (kcm (g := gl w bs) (q_law_rounds w.params) kbe z_law_rounds) (ki5 (kkc w.params)) (w_law_rounds (ke5 w.params) (c_TopologicalSorter_done bs) (c_TopologicalSorter_get_ready bs) (c_TopologicalSorter_init bs) (c_TopologicalSorter_is_active bs) (c_TopologicalSorter_prepare bs))
theorem c_law_piles : kkh (gl w bs) := kej (kcm (g := gl w bs) (q_law_piles w.params) kbl z_law_piles) (vals2 (kkv w.params)) (w_law_piles (ke5 w.params))
theorem c_law_lesser_yet : kf5 (gl w bs) := kej (kcm (g := gl w bs) (kim w.params) ka1 kik) (vals2 (kg9 w.params)) (kil (ke5 w.params))
theorem c_law_comes_so : kg1 (gl w bs) := kej (kcm (g := gl w bs) (kkq w.params) kai kkj) (vals4 (kia w.params)) (kkm (ke5 w.params) (c_TopologicalSorter_done bs) (c_TopologicalSorter_get_ready bs) (c_TopologicalSorter_init bs) (c_TopologicalSorter_is_active bs) (c_TopologicalSorter_prepare bs) (c_heappop bs) (c_heappush bs) (c_law_lesser_yet bs))
end
end Mine
namespace Mine.Q
open PySem
noncomputable abbrev nv (k : Nat) : V := .at (.int (Int.ofNat k))
noncomputable abbrev rv (a : Nat) : V := .at (.ref a)
def Ev {β : Type} (m : M β) (f : Fm) (H : Hp) (v : β) : Prop := m f H = some (v,f,H)
section
variable {α β : Type} {f f' : Fm} {H H' : Hp} {Φ : β → Fm → Hp → Prop}
theorem kaz {m : M α} {k : α → M β} (h : ok m f H fun a f' H' => ok (k a) f' H' Φ) : ok (bnd m k) f H Φ := by
  obtain ⟨a,f',H',e,b,f'',H'',e',q⟩ := h
  exact ⟨b,f'',H'',by unfold bnd; rw [e]; exact e',q⟩
theorem kbw {a : β} (h : Φ a f H) : ok (ret a) f H Φ := ⟨a,f,H,rfl,h⟩
theorem g_ev {m : M β} {v : β} (e : Ev m f H v) (h : Φ v f H) : ok m f H Φ := ⟨v,f,H,e,h⟩
theorem bnd_ev {m : M α} {k : α → M β} {a : α} (e : Ev m f H a) : bnd m k f H = k a f H := by unfold bnd; rw [show m f H = _ from e]
theorem kan {m : M α} {k : α → M β} {a : α} (e : Ev m f H a) (h : ok (k a) f H Φ) : ok (bnd m k) f H Φ := kaz (g_ev e h)
theorem kas {m : M α} {k : α → M β} {a : α} {b : β} (e : Ev m f H a) (h : Ev (k a) f H b) : Ev (bnd m k) f H b := (bnd_ev e).trans h
theorem ka7 {a : β} : Ev (ret a) f H a := rfl
theorem kcf {a : Nat} {o : O} (e : H[a]? = some o) : Ev (rd a) f H o := by unfold Ev rd; rw [e]
theorem ke8 {g : Hp → Option β} {v : β} (e : g H = some v) : Ev (kfp g) f H v := by unfold Ev kfp; rw [e]
theorem g_wr {a : Nat} {o o' : O} {Φ : Unit → Fm → Hp → Prop} (e : H[a]? = some o') (h : Φ () f (H.set a o)) : ok (wr a o) f H Φ := ⟨(),f,_,by unfold wr; rw [if_pos (List.getElem?_eq_some_iff.mp e).1],h⟩
theorem kfq {o : O} {Φ : V → Fm → Hp → Prop} (h : Φ (rv H.length) f (H ++ [o])) : ok (new o) f H Φ := ⟨_,_,_,rfl,h⟩
theorem kcd {i : Nat} {v : V} {Φ : Unit → Fm → Hp → Prop} (hi : i < f.length) (h : Φ () (f.set i (some v)) H) : ok (setl i v) f H Φ := ⟨_,_,_,if_pos hi,h⟩
theorem ev_lst {a : Nat} {k : Nat → List V → M β} {xs : List V} {b : β} (e : H[a]? = some (.list xs)) (h : Ev (k a xs) f H b) : Ev (lst (rv a) k) f H b := kas (kcf e) h
theorem kl9 {a : Nat} {k : Nat → List V → M β} {xs : List V} (e : H[a]? = some (.list xs)) (h : ok (k a xs) f H Φ) : ok (lst (rv a) k) f H Φ := kan (kcf e) h
theorem g_dct {a ep : Nat} {k : Nat → List (Int × At) → Nat → M β} {es : List (Int × At)} (e : H[a]? = some (.dict es ep)) (h : ok (k a es ep) f H Φ) : ok (dct (rv a) k) f H Φ := kan (kcf e) h
end
section
variable {f f' : Fm} {H H' : Hp}
theorem kaw {a : At} : Ev (cst a) f H (.at a) := rfl
theorem kab {i : Nat} {v : V} (e : f[i]? = some (some v)) : Ev (loc i) f H v := by unfold Ev loc; rw [e]
theorem kgl {α : Type} {g : V → M α} {a : M V} {x : V} {v : α} (e : Ev a f H x) (h : Ev (g x) f H v) : Ev (app1 g a) f H v := kas e h
theorem kbt {α : Type} {g : V → V → M α} {a b : M V} {x y : V} {v : α} (e : Ev a f H x) (e' : Ev b f H y) (h : Ev (g x y) f H v) : Ev (app2 g a b) f H v := kas e (kas e' h)
theorem getIdx_nat {α : Type} {xs : List α} {k : Nat} : khm xs (Int.ofNat k) = xs[k]? := by
  unfold khm; rw [if_pos (show 0 ≤ Int.ofNat k from Int.natCast_nonneg k)]; rfl
theorem getIdx_last {α : Type} {xs : List α} : khm xs (-1) = xs.getLast? := by
  unfold khm
  rw [if_neg (by decide)]
  cases xs with
  | nil => rfl
  | cons x r =>
    rw [if_pos (by rw [List.length_cons]; omega),List.getLast?_eq_getElem?]
    congr 1; rw [List.length_cons]; omega
theorem kca {a k : Nat} {xs : List V} {v : V} (e : H[a]? = some (.list xs)) (h : xs[k]? = some v) : Ev (get (rv a) (nv k)) f H v :=
  kas (kcf e) (by show Ev (orF (khm xs _) ret) f H v; rw [getIdx_nat,h]; exact ka7)
theorem ev_last {a : Nat} {xs : List V} {v : V} (e : H[a]? = some (.list xs)) (h : xs.getLast? = some v) : Ev (get (rv a) (.at (.int (-1)))) f H v :=
  kas (kcf e) (by show Ev (orF (khm xs _) ret) f H v; rw [getIdx_last,h]; exact ka7)
theorem ev_key {a ep : Nat} {i : Int} {es : List (Int × At)} {v : At} (e : H[a]? = some (.dict es ep)) (h : es.lookup i = some v) : Ev (get (rv a) (.at (.int i))) f H (.at v) :=
  kas (kcf e) (by show Ev (orF (es.lookup i) cst) f H _; rw [h]; exact kaw)
theorem kh7 {a : Nat} {fs : List (Str × At)} {x : Str} {v : At} (e : H[a]? = some (.inst fs)) (hx : x ∈ instNames) (h : fs.lookup x = some v) : Ev (attr (rv a) x) f H (.at v) :=
  kas (kcf e) (by show Ev (orF (if x ∈ instNames then fs.lookup x else none) cst) f H _; rw [if_pos hx,h]; exact kaw)
theorem ev_len {a : Nat} {xs : List V} (e : H[a]? = some (.list xs)) : Ev (kd2 (rv a)) f H (nv xs.length) := kas (kcf e) ka7
section
variable {Φ : AF → Fm → Hp → Prop}
theorem kam {a b : M AF} {l : List (M AF)} (h : ok a f H fun r f' H' => ok (seqK (kaq (b :: l)) r) f' H' Φ) : ok (kaq (a :: b :: l)) f H Φ := kaz h
theorem kbm {i : Nat} {a : M V} (h : ok a f H fun v f' H' => i < f'.length ∧ Φ .next (f'.set i (some v)) H') : ok (assign i a) f H Φ :=
  kaz (kcs h fun _ _ _ q => kaz (kcd q.1 (kbw q.2)))
theorem kbo {i : Nat} {a : M V} {v : V} (e : Ev a f H v) (hi : i < f.length) (h : Φ .next (f.set i (some v)) H) : ok (assign i a) f H Φ := kbm (g_ev e ⟨hi,h⟩)
theorem kc4 {a : M V} (h : ok a f H fun _ f' H' => Φ .next f' H') : ok (expr a) f H Φ := kaz (kcs h fun _ _ _ q => kbw q)
theorem kfx {a : M V} (h : ok a f H fun v f' H' => Φ (.ret v) f' H') : ok (kbz a) f H Φ := kaz (kcs h fun _ _ _ q => kbw q)
theorem kc6 {a : M V} {v : V} (e : Ev a f H v) (h : Φ (.ret v) f H) : ok (kbz a) f H Φ := kfx (g_ev e h)
theorem g_if {t : M Bool} {a b : M AF} {c : Bool} (e : Ev t f H c) (h : ok (if c then a else b) f H Φ) : ok (ifte t a b) f H Φ := kan e h
theorem g_ifT {t : M Bool} {a b : M AF} (e : Ev t f H true) (h : ok a f H Φ) : ok (ifte t a b) f H Φ := kan e h
theorem kjy {t : M Bool} {a b : M AF} (e : Ev t f H false) (h : ok b f H Φ) : ok (ifte t a b) f H Φ := kan e h
theorem ke7 (h : Φ .next f H) : ok (kaq []) f H Φ := kbw h
theorem g_put {a k : Nat} {xs : List V} {x : V} {o i v : M V} (ev : Ev v f H x) (eo : Ev o f H (rv a)) (ei : Ev i f H (nv k)) (e : H[a]? = some (.list xs)) (hk : k < xs.length) (h : Φ .next f (H.set a (.list (xs.set k x)))) : ok (putS o i v) f H Φ :=
  kan ev (kan eo (kan ei (kaz (kan (kcf e) (by
    show ok (if 0 ≤ Int.ofNat k ∧ _ then _ else _) f H _
    rw [if_pos ⟨Int.natCast_nonneg k,hk⟩]
    exact g_wr e (kbw h))))))
end
theorem kfc {a b : M V} {x : Nat} {xs : List V} {v : V} {Φ : V → Fm → Hp → Prop} (ea : Ev a f H (rv x)) (e : H[x]? = some (.list xs)) (eb : Ev b f H v) (hl : xs.length < lim) (h : ∀ r,Φ r f (H.set x (.list (xs ++ [v])))) : ok (appM a b) f H Φ :=
  kan ea (kan (show Ev (bnd (rd x) _) f H () from kas (kcf e) (if_pos rfl ▸ ka7)) (kan eb (kl9 e (by rw [if_pos hl]; exact kaz (g_wr e (kbw (h _)))))))
theorem kjz {a b : M V} {x : Nat} {xs : List V} {Φ : V → Fm → Hp → Prop} (ea : Ev a f H (rv x)) (e : H[x]? = some (.list xs)) (eb : ok b f H fun v f' H' => H'[x]? = some (.list xs) ∧ ∀ r,Φ r f' (H'.set x (.list (xs ++ [v])))) (hl : xs.length < lim) : ok (appM a b) f H Φ :=
  kan ea (kan (show Ev (bnd (rd x) _) f H () from kas (kcf e) (if_pos rfl ▸ ka7)) (kaz (kcs eb fun _ _ _ q => kl9 q.1 (by rw [if_pos hl]; exact kaz (g_wr q.1 (kbw (q.2 _)))))))
end
def Stay (g : Option (Nat × O)) (H : Hp) : Prop := match g with
  | none => True
  | some (a,o) => H[a]? = some o
theorem kgt {g : Option (Nat × O)} {f : Fm} {H : Hp} (h : Stay g H) : Ev (kf9 g) f H () := by
  unfold Ev kf9
  cases g with
  | none => rfl
  | some p => exact if_pos h
def LP (I : Fm → Hp → Prop) (Φ : AF → Fm → Hp → Prop) : AF → Fm → Hp → Prop
  | .next,f,H => I f H
  | .cont,f,H => I f H
  | .brk,f,H => Φ .next f H
  | .ret v,f,H => Φ (.ret v) f H
theorem g_loopK {k : M AF} {Φ : AF → Fm → Hp → Prop} {I : Fm → Hp → Prop} {r : AF} {f : Fm} {H : Hp} (h : LP I Φ r f H) (hI : I f H → ok k f H Φ) : ok (loopK k r) f H Φ := by
  cases r with
  | next => exact hI h
  | cont => exact hI h
  | brk => exact kbw h
  | ret v => exact kbw h
theorem g_forL {g : Option (Nat × O)} {bindT : V → M Unit} {b : M AF} {Φ : AF → Fm → Hp → Prop} (I : Nat → Fm → Hp → Prop) (xs : List V)
    (hs : ∀ i f H,i ≤ xs.length → I i f H → Stay g H)
    (step : ∀ i v f H,xs[i]? = some v → I i f H → ok (bindT v) f H fun _ f' H' => ok b f' H' (LP (I (i + 1)) Φ))
    (fin : ∀ f H,I xs.length f H → Φ .next f H) : ∀ (r : List V) (i : Nat) (f : Fm) (H : Hp),xs.drop i = r → i ≤ xs.length → I i f H → ok (forL g bindT b r) f H Φ
  | [],i,f,H,e,hi,h => by
    have : xs.length ≤ i := List.drop_eq_nil_iff.mp e
    exact kan (kgt (hs i f H hi h)) (kbw (fin f H (by rwa [Nat.le_antisymm hi this] at h)))
  | v :: r,i,f,H,e,hi,h => by
    have hlt : i < xs.length := Nat.lt_of_not_le fun q => by rw [List.drop_eq_nil_iff.mpr q] at e; cases e
    have hv : xs[i]? = some v := by rw [← List.head?_drop,e]; rfl
    refine kan (kgt (hs i f H hi h)) (kaz (kcs (step i v f H hv h) fun _ f' H' q => kaz (kcs q fun x f'' H'' q => g_loopK q fun hI => ?_)))
    exact g_forL I xs hs step fin r (i + 1) f'' H'' (by rw [← List.drop_drop,e]; rfl) hlt hI
theorem kio {src : M Src} {bindT : V → M Unit} {b : M AF} {f : Fm} {H : Hp} {Φ : AF → Fm → Hp → Prop} {s : Src} (I : Nat → Fm → Hp → Prop) (e : Ev src f H s)
    (hs : ∀ i f H,i ≤ s.items.length → I i f H → Stay s.guard H) (h0 : I 0 f H)
    (step : ∀ i v f H,s.items[i]? = some v → I i f H → ok (bindT v) f H fun _ f' H' => ok b f' H' (LP (I (i + 1)) Φ))
    (fin : ∀ f H,I s.items.length f H → Φ .next f H) : ok (for_ src bindT b) f H Φ := kan e (g_forL I _ hs step fin _ 0 f H rfl (Nat.zero_le _) h0)
theorem kh5 {t : M Bool} {b e : M AF} {Φ : AF → Fm → Hp → Prop} (I : Nat → Fm → Hp → Prop)
    (step : ∀ m f H,I m f H → ok t f H fun c f' H' => ok (if c then b else e) f' H' (if c then LP (fun f'' H'' => ∃ m',m' < m ∧ I m' f'' H'') Φ else Φ)) :
    ∀ n m f H,m < n → I m f H → ok (whileN n t b e) f H Φ
  | 0,m,f,H,hm,h => absurd hm (Nat.not_lt_zero _)
  | n + 1,m,f,H,hm,h => by
    refine kaz (kcs (step m f H h) fun c f' H' q => ?_)
    cases c with
    | false => exact q
    | true => exact kaz (kcs q fun x f'' H'' q => g_loopK q fun ⟨m',hl,hI⟩ => kh5 I step n m' f'' H'' (Nat.lt_of_lt_of_le hl (Nat.le_of_lt_succ hm)) hI)
theorem g_compL {g : Option (Nat × O)} {bindT : V → M Unit} {t : M Bool} {e : M V} {acc : Nat} {Φ : Unit → Fm → Hp → Prop} (I : Nat → List V → Fm → Hp → Prop) (xs : List V)
    (hs : ∀ i ys f H,I i ys f H → H[acc]? = some (.list ys) → Stay g H)
    (step : ∀ i v ys f H,xs[i]? = some v → I i ys f H → H[acc]? = some (.list ys) → ys.length < lim ∧ ok (bindT v) f H fun _ f' H' => ∃ c,Ev t f' H' c ∧
      if c = true then ok e f' H' fun x f'' H'' => H''[acc]? = some (.list ys) ∧ I (i + 1) (ys ++ [x]) f'' (H''.set acc (.list (ys ++ [x]))) else H'[acc]? = some (.list ys) ∧ I (i + 1) ys f' H')
    (fin : ∀ ys f H,I xs.length ys f H → H[acc]? = some (.list ys) → Φ () f H) : ∀ (r : List V) (i : Nat) (ys : List V) (f : Fm) (H : Hp),xs.drop i = r → i ≤ xs.length → I i ys f H → H[acc]? = some (.list ys) → ok (kme g bindT t e acc r) f H Φ
  | [],i,ys,f,H,e,hi,h,ha => by
    have : xs.length ≤ i := List.drop_eq_nil_iff.mp e
    exact g_ev (kgt (hs i ys f H h ha)) (fin ys f H (by rwa [Nat.le_antisymm hi this] at h) ha)
  | v :: r,i,ys,f,H,e,hi,h,ha => by
    have hlt : i < xs.length := Nat.lt_of_not_le fun q => by rw [List.drop_eq_nil_iff.mpr q] at e; cases e
    have hv : xs[i]? = some v := by rw [← List.head?_drop,e]; rfl
    obtain ⟨hl,st⟩ := step i v ys f H hv h ha
    refine kan (kgt (hs i ys f H h ha)) (kaz (kcs st fun _ f' H' ⟨c,et,q⟩ => kaz (kan et ?_)))
    have hd : xs.drop (i + 1) = r := by rw [← List.drop_drop,e]; rfl
    cases c with
    | true =>
      refine kaz (kcs q fun x f'' H'' ⟨q1,q2⟩ => kaz (kl9 q1 ?_))
      rw [if_pos hl]
      exact kaz (g_wr q1 (kbw (kbw (g_compL I xs hs step fin r (i + 1) _ f'' _ hd hlt q2 (List.getElem?_set_self (List.getElem?_eq_some_iff.mp q1).1)))))
    | false => exact kbw (g_compL I xs hs step fin r (i + 1) ys f' H' hd hlt q.2 q.1)
theorem g_within {α : Type} {fr : List (Option Nat)} {m : M α} {f : Fm} {H : Hp} {Φ : α → Fm → Hp → Prop} (h : ok m (kjv fr f) H fun a _ H' => Φ a f H') : ok (within fr m) f H Φ := by
  obtain ⟨a,f',H',e,q⟩ := h
  exact ⟨a,f,H',by unfold within; rw [e],q⟩
theorem kh6 {src : M Src} {fr : List (Option Nat)} {bindT : V → M Unit} {t : M Bool} {e : M V} {f : Fm} {H : Hp} {Φ : V → Fm → Hp → Prop} (I : Src → Hp → Nat → List V → Fm → Hp → Prop)
    (h : ok src f H fun s f₁ H₁ => f₁ = f ∧ I s H₁ 0 [] (kjv fr f) (H₁ ++ [.list []]) ∧
      (∀ i ys f H,I s H₁ i ys f H → H[H₁.length]? = some (.list ys) → Stay s.guard H) ∧
      (∀ i v ys f H,s.items[i]? = some v → I s H₁ i ys f H → H[H₁.length]? = some (.list ys) → ys.length < lim ∧ ok (bindT v) f H fun _ f' H' => ∃ c,Ev t f' H' c ∧
        if c = true then ok e f' H' fun x f'' H'' => H''[H₁.length]? = some (.list ys) ∧ I s H₁ (i + 1) (ys ++ [x]) f'' (H''.set H₁.length (.list (ys ++ [x]))) else H'[H₁.length]? = some (.list ys) ∧ I s H₁ (i + 1) ys f' H') ∧
      (∀ ys f₂ H,I s H₁ s.items.length ys f₂ H → H[H₁.length]? = some (.list ys) → Φ (rv H₁.length) f H)) : ok (kcc src fr bindT t e) f H Φ :=
  kaz (kcs h fun s f₁ H₁ ⟨e1,h0,hs,st,fin⟩ => kaz (kfq (kaz (g_within (by
    subst e1
    exact g_compL (I s H₁) s.items hs st (fun ys f H a b => kbw (fin ys f H a b)) _ 0 [] _ _ rfl (Nat.zero_le _) h0 (by simp))))))
theorem kc7 {n : Nat} {m : M AF} {vs : List V} {f : Fm} {H : Hp} {Φ : V → Fm → Hp → Prop} (h : ok m (vs.map some ++ List.replicate (n - vs.length) none) H fun r _ H' => ∃ v,retV r = some v ∧ Φ v f H') : ok (call n m vs) f H Φ := by
  obtain ⟨r,f',H',e,v,hv,q⟩ := h
  exact ⟨v,f,H',by unfold call; rw [e]; show (retV r).map _ = _; rw [hv]; rfl,q⟩
theorem kax {f : Fm} {H : Hp} : Ev (all []) f H [] := rfl
theorem kbu {m : M V} {r : List (M V)} {v : V} {vs : List V} {f : Fm} {H : Hp} (e : Ev m f H v) (h : Ev (all r) f H vs) : Ev (all (m :: r)) f H (v :: vs) := kas e (kas h ka7)
theorem kd3 {n : Nat} {m : M AF} {args : List (M V)} {vs : List V} {f : Fm} {H : Hp} {Φ : V → Fm → Hp → Prop} (e : Ev (all args) f H vs) (h : ok (call n m vs) f H Φ) : ok (kfk n m args) f H Φ := kan e h
end Mine.Q
namespace Mine.Q
open PySem
section
variable {α β : Type}
noncomputable def ins (lt : α → α → Bool) (x : α) : List α → List α
  | [] => [x]
  | y :: r => if lt x y then x :: y :: r else y :: ins lt x r
noncomputable def sby (lt : α → α → Bool) : List α → List α
  | [] => []
  | x :: r => ins lt x (sby lt r)
theorem ins_map {lt : V → V → Bool} {lt' : α → α → Bool} {f : α → V} {x : α} : ∀ {l : List α},(∀ y ∈ l,lt (f x) (f y) = lt' x y) → kc2 lt (f x) (l.map f) = (ins lt' x l).map f
  | [],_ => rfl
  | y :: r,h => by
    show (if lt (f x) (f y) then _ else f y :: kc2 lt (f x) (r.map f)) = _
    rw [ins_map fun z hz => h z (.tail _ hz),h y (.head _)]
    show _ = List.map f (if lt' x y then _ else _)
    cases lt' x y <;> rfl
theorem kl4 {lt : α → α → Bool} {x : α} : ∀ l : List α,List.Perm (ins lt x l) (x :: l)
  | [] => .refl _
  | y :: r => by
    show List.Perm (if lt x y then _ else _) _
    split
    · exact .refl _
    · exact ((kl4 r).cons y).trans (.swap ..)
theorem kfa {lt : α → α → Bool} : ∀ l : List α,List.Perm (sby lt l) l
  | [] => .refl _
  | x :: r => (kl4 _).trans ((kfa r).cons x)
theorem sby_map {lt : V → V → Bool} {lt' : α → α → Bool} {f : α → V} : ∀ {l : List α},(∀ x ∈ l,∀ y ∈ l,lt (f x) (f y) = lt' x y) → kfn lt (l.map f) = (sby lt' l).map f
  | [],_ => rfl
  | x :: r,h => by
    show kc2 lt (f x) (kfn lt (r.map f)) = _
    rw [sby_map fun y hy z hz => h y (.tail _ hy) z (.tail _ hz)]
    exact ins_map fun y hy => h x (.head _) y (.tail _ ((kfa r).mem_iff.mp hy))
theorem klb {lt : α → α → Bool} {x : α} : ∀ {l : List α},(∀ y ∈ l,∀ z ∈ l,lt x y = true → lt y z = true → lt x z = true) → (∀ y ∈ l,lt x y = true ∨ lt y x = true) →
    l.Pairwise (fun a b => lt a b = true) → (ins lt x l).Pairwise (fun a b => lt a b = true)
  | [],_,_,_ => List.pairwise_singleton ..
  | y :: r,tr,tot,h => by
    obtain ⟨h1,h2⟩ := List.pairwise_cons.mp h
    unfold ins
    split
    · rename_i hxy
      exact List.pairwise_cons.mpr ⟨fun z hz => (List.mem_cons.mp hz).elim (fun e => e ▸ hxy) fun hz => tr y (.head _) z (.tail _ hz) hxy (h1 z hz),h⟩
    · rename_i hxy
      refine List.pairwise_cons.mpr ⟨fun z hz => ?_,klb (fun a ha b hb => tr a (.tail _ ha) b (.tail _ hb)) (fun a ha => tot a (.tail _ ha)) h2⟩
      rcases List.mem_cons.mp ((kl4 r).mem_iff.mp hz) with rfl | hz
      · exact (tot y (.head _)).resolve_left hxy
      · exact h1 z hz
theorem kk1 {lt : α → α → Bool} : ∀ {l : List α},(∀ x ∈ l,∀ y ∈ l,∀ z ∈ l,lt x y = true → lt y z = true → lt x z = true) → (∀ x ∈ l,∀ y ∈ l,x ≠ y → lt x y = true ∨ lt y x = true) →
    l.Nodup → (sby lt l).Pairwise (fun a b => lt a b = true)
  | [],_,_,_ => .nil
  | x :: r,tr,tot,h => by
    obtain ⟨h1,h2⟩ := List.nodup_cons.mp h
    have m : ∀ {y},y ∈ sby lt r → y ∈ r := fun hy => (kfa r).mem_iff.mp hy
    exact klb (fun y hy z hz => tr x (.head _) y (.tail _ (m hy)) z (.tail _ (m hz))) (fun y hy => tot x (.head _) y (.tail _ (m hy)) fun e => h1 (e ▸ m hy))
      (kk1 (fun a ha b hb c hc => tr a (.tail _ ha) b (.tail _ hb) c (.tail _ hc)) (fun a ha b hb => tot a (.tail _ ha) b (.tail _ hb)) h2)
theorem kgo {R : α → α → Prop} (as : ∀ a b,R a b → R b a → False) : ∀ {l m : List α},l.Pairwise R → m.Pairwise R → (∀ x,x ∈ l ↔ x ∈ m) → l = m
  | [],[],_,_,_ => rfl
  | [],b :: m,_,_,h => nomatch (h b).mpr (.head _)
  | a :: l,[],_,_,h => nomatch (h a).mp (.head _)
  | a :: l,b :: m,hl,hm,h => by
    obtain ⟨l1,l2⟩ := List.pairwise_cons.mp hl
    obtain ⟨m1,m2⟩ := List.pairwise_cons.mp hm
    have e : a = b := by
      rcases List.mem_cons.mp ((h a).mp (.head _)) with e | ha
      · exact e
      · rcases List.mem_cons.mp ((h b).mpr (.head _)) with e | hb
        · exact e.symm
        · exact (as _ _ (m1 a ha) (l1 b hb)).elim
    subst e
    congr 1
    refine kgo as l2 m2 fun x => ⟨fun hx => ?_,fun hx => ?_⟩
    · rcases List.mem_cons.mp ((h x).mp (.tail _ hx)) with e | q
      · exact (as _ _ (e ▸ l1 x hx) (e ▸ l1 x hx)).elim
      · exact q
    · rcases List.mem_cons.mp ((h x).mpr (.tail _ hx)) with e | q
      · exact (as _ _ (e ▸ m1 x hx) (e ▸ m1 x hx)).elim
      · exact q
end
noncomputable def lk (r : Nat → Nat) (a b : Nat) : Bool := decide (r a < r b)
theorem kiq {r : Nat → Nat} {l : List Nat} (hi : ∀ a ∈ l,∀ b ∈ l,r a = r b → a = b) (hn : l.Nodup) : (sby (lk r) l).Pairwise (fun a b => r a < r b) :=
  (kk1 (lt := lk r) (fun x _ y _ z _ a b => by unfold lk at *; exact decide_eq_true (Nat.lt_trans (of_decide_eq_true a) (of_decide_eq_true b)))
    (fun x hx y hy ne => by
      rcases Nat.lt_trichotomy (r x) (r y) with q | q | q
      · exact .inl (decide_eq_true q)
      · exact (ne (hi x hx y hy q)).elim
      · exact .inr (decide_eq_true q)) hn).imp fun h => of_decide_eq_true h
theorem sby_same {l m : List Nat} (hl : l.Nodup) (hm : m.Nodup) (h : ∀ x,x ∈ l ↔ x ∈ m) : sby (lk id) l = sby (lk id) m :=
  kgo (fun a b p q => Nat.lt_asymm p q) (kiq (r := id) (fun _ _ _ _ e => e) hl) (kiq (r := id) (fun _ _ _ _ e => e) hm) fun x => by rw [(kfa l).mem_iff,(kfa m).mem_iff]; exact h x
theorem sby_range {l : List Nat} {n : Nat} {p : Nat → Bool} (hl : l.Nodup) (h : ∀ x,x ∈ l ↔ x < n ∧ p x = true) : sby (lk id) l = (List.range n).filter p :=
  kgo (fun a b p q => Nat.lt_asymm p q) (kiq (r := id) (fun _ _ _ _ e => e) hl) (List.pairwise_lt_range.filter _) fun x => by rw [(kfa l).mem_iff,h,List.mem_filter,List.mem_range]
theorem filter_le {p q : Nat → Bool} (h : ∀ x,p x = true → q x = true) : ∀ l : List Nat,(l.filter p).length ≤ (l.filter q).length
  | [] => Nat.le_refl _
  | x :: r => by
    have := filter_le h r
    rw [List.filter_cons,List.filter_cons]
    cases hp : p x
    · cases hq : q x
      · exact this
      · exact Nat.le_succ_of_le this
    · rw [h x hp]; exact Nat.succ_le_succ this
theorem filter_lt {p q : Nat → Bool} (h : ∀ x,p x = true → q x = true) {a : Nat} (h1 : p a = false) (h2 : q a = true) : ∀ {l : List Nat},a ∈ l → (l.filter p).length < (l.filter q).length
  | x :: r,hm => by
    rw [List.filter_cons,List.filter_cons]
    rcases List.mem_cons.mp hm with rfl | hm
    · rw [h1,h2]; exact Nat.lt_succ_of_le (filter_le h r)
    · have := filter_lt h h1 h2 hm
      cases hp : p x
      · cases hq : q x
        · exact this
        · exact Nat.lt_succ_of_lt this
      · rw [h x hp]; exact Nat.succ_lt_succ this
noncomputable def rank (n : Nat) (lt : Nat → Nat → Bool) (k : Nat) : Nat := ((List.range n).filter (lt · k)).length
theorem kls {n : Nat} {lt : Nat → Nat → Bool} (irr : ∀ a,lt a a = false) (tr : ∀ a b c,lt a b = true → lt b c = true → lt a c = true) {a b : Nat} (ha : a < n) (h : lt a b = true) : rank n lt a < rank n lt b :=
  filter_lt (fun x hx => tr x a b hx h) (irr a) h (List.mem_range.mpr ha)
theorem rank_iff {n : Nat} {lt : Nat → Nat → Bool} (irr : ∀ a,lt a a = false) (tr : ∀ a b c,lt a b = true → lt b c = true → lt a c = true) (tot : ∀ a b,a < n → b < n → a ≠ b → lt a b = true ∨ lt b a = true) {a b : Nat} (ha : a < n) (hb : b < n) :
    lt a b = lk (rank n lt) a b := by
  unfold lk
  by_cases e : a = b
  · subst e; rw [irr,decide_eq_false (Nat.lt_irrefl _)]
  · cases h : lt a b
    · have h' := (tot a b ha hb e).resolve_left (by rw [h]; exact Bool.false_ne_true)
      exact (decide_eq_false (Nat.lt_asymm (kls irr tr hb h'))).symm
    · exact (decide_eq_true (kls irr tr ha h)).symm
theorem rank_inj {n : Nat} {lt : Nat → Nat → Bool} (irr : ∀ a,lt a a = false) (tr : ∀ a b c,lt a b = true → lt b c = true → lt a c = true) (tot : ∀ a b,a < n → b < n → a ≠ b → lt a b = true ∨ lt b a = true) {a b : Nat} (ha : a < n) (hb : b < n)
    (h : rank n lt a = rank n lt b) : a = b := by
  by_cases e : a = b
  · exact e
  · rcases tot a b ha hb e with q | q
    · have := kls irr tr ha q; omega
    · have := kls irr tr hb q; omega
def VI (g : Nat → Nat) (m p : Nat) : Prop := (∀ i,0 < i → i < m → i ≠ p → g ((i - 1) / 2) ≤ g i) ∧ (0 < p → ∀ i,0 < i → i < m → (i - 1) / 2 = p → g ((p - 1) / 2) ≤ g i)
def HI (g : Nat → Nat) (m p : Nat) : Prop := (∀ i,0 < i → i < m → i ≠ p → (i - 1) / 2 ≠ p → g ((i - 1) / 2) ≤ g i) ∧ (0 < p → ∀ i,0 < i → i < m → (i - 1) / 2 = p → g ((p - 1) / 2) ≤ g i)
def HP (g : Nat → Nat) (m : Nat) : Prop := ∀ i,0 < i → i < m → g ((i - 1) / 2) ≤ g i
theorem vi_step {g g' : Nat → Nat} {m p q : Nat} (h : VI g m p) (hp : 0 < p) (hm : p < m) (hq : q = (p - 1) / 2) (hl : g p < g q) (e : ∀ i,g' i = if i = q then g p else if i = p then g q else g i) : VI g' m q := by
  obtain ⟨h1,h2⟩ := h
  have h2 := h2 hp
  have hqp : q < p := by omega
  refine ⟨fun i i0 im iq => ?_,fun q0 i i0 im ip => ?_⟩
  · rw [e,e,if_neg iq]
    by_cases a : i = p
    · subst a; rw [if_pos hq.symm,if_pos rfl]; omega
    · rw [if_neg a]
      have t := h1 i i0 im a
      by_cases b : (i - 1) / 2 = q
      · rw [if_pos b]; rw [b] at t; omega
      · rw [if_neg b]
        by_cases c : (i - 1) / 2 = p
        · rw [if_pos c]; have := h2 i i0 im c; rwa [← hq] at this
        · rw [if_neg c]; exact t
  · have t := h1 q q0 (by omega) (by omega)
    have n1 : (q - 1) / 2 ≠ q := by omega
    have n2 : (q - 1) / 2 ≠ p := by omega
    rw [e,e,if_neg n1,if_neg n2,if_neg (by omega)]
    by_cases a : i = p
    · rw [if_pos a]; exact t
    · rw [if_neg a]; have := h1 i i0 im a; rw [ip] at this; omega
theorem vi_end {g : Nat → Nat} {m p : Nat} (h : VI g m p) (hl : 0 < p → g ((p - 1) / 2) ≤ g p) : HP g m := fun i i0 im => by
  by_cases a : i = p
  · subst a; exact hl i0
  · exact h.1 i i0 im a
theorem hi_step {g g' : Nat → Nat} {m p c : Nat} (h : HI g m p) (hc : (c - 1) / 2 = p) (c0 : 0 < c) (cm : c < m) (hs : ∀ i,0 < i → i < m → (i - 1) / 2 = p → g c ≤ g i) (e : ∀ i,i ≠ c → g' i = if i = p then g c else g i) : HI g' m c := by
  obtain ⟨h1,h2⟩ := h
  have hpc : p < c := by omega
  refine ⟨fun i i0 im ic iq => ?_,fun _ i i0 im ip => ?_⟩
  · rw [e _ ic,e _ iq]
    by_cases a : i = p
    · subst a; rw [if_neg (by omega),if_pos rfl]; exact h2 i0 c c0 cm hc
    · rw [if_neg a]
      by_cases b : (i - 1) / 2 = p
      · rw [if_pos b]; exact hs i i0 im b
      · rw [if_neg b]; exact h1 i i0 im a b
  · rw [hc,e _ (by omega),e _ (by omega),if_pos rfl,if_neg (by omega)]
    have := h1 i i0 im (by omega) (by omega)
    rwa [ip] at this
theorem hi_end {g g' : Nat → Nat} {m p : Nat} (h : HI g m p) (hl : m ≤ 2 * p + 1) (e : ∀ i,i ≠ p → g' i = g i) : VI g' m p := by
  refine ⟨fun i i0 im ip => ?_,fun _ i i0 im ip => by omega⟩
  rw [e i ip,e _ (by omega)]
  exact h.1 i i0 im ip (by omega)
theorem hp_min {g : Nat → Nat} {m : Nat} (h : HP g m) : ∀ i,i < m → g 0 ≤ g i
  | 0,_ => Nat.le_refl _
  | i + 1,hi => Nat.le_trans (hp_min h ((i + 1 - 1) / 2) (by omega)) (h (i + 1) (Nat.succ_pos _) hi)
end Mine.Q
namespace Mine.Q
open PySem
def Ke (S : Nat → Prop) (H H' : Hp) : Prop := ∀ a o,H[a]? = some o → ¬ S a → H'[a]? = some o
theorem Ke.refl {S : Nat → Prop} {H : Hp} : Ke S H H := fun _ _ e _ => e
theorem ka0 {H l : Hp} {a : Nat} {o : O} (h : H[a]? = some o) : (H ++ l)[a]? = some o := by
  rw [List.getElem?_append_left (List.getElem?_eq_some_iff.mp h).1]; exact h
theorem kbv {H : Hp} {a : Nat} {o o' : O} (h : H[a]? = some o) : (H.set a o')[a]? = some o' := List.getElem?_set_self (List.getElem?_eq_some_iff.mp h).1
theorem ka6 {H : Hp} {a b : Nat} {o o' : O} (h : H[a]? = some o) (n : a ≠ b) : (H.set b o')[a]? = some o := by rw [List.getElem?_set_ne (Ne.symm n)]; exact h
theorem kbp {H : Hp} {o : O} : (H ++ [o])[H.length]? = some o := by simp
theorem ke2 {H : Hp} {a : Nat} {o : O} (h : H[a]? = some o) : a ≠ H.length := Nat.ne_of_lt (List.getElem?_eq_some_iff.mp h).1
theorem Ke.app {S : Nat → Prop} {H l : Hp} : Ke S H (H ++ l) := fun _ _ e _ => ka0 e
theorem Ke.set {S : Nat → Prop} {H : Hp} {a : Nat} {o : O} (h : S a) : Ke S H (H.set a o) := fun b _ e n => ka6 e fun q => n (q ▸ h)
theorem Ke.trans {S S' : Nat → Prop} {H H' H'' : Hp} (a : Ke S H H') (b : Ke S' H' H'') (hs : ∀ x o,H[x]? = some o → S' x → S x) : Ke S H H'' := fun x o e n => b x o (a x o e n) fun q => n (hs x o e q)
abbrev K0 : Nat → Prop := fun _ => False
theorem Ke.sub {S : Nat → Prop} {H H' : Hp} (a : Ke K0 H H') : Ke S H H' := fun x o e _ => a x o e id
noncomputable abbrev lst0 {α : Type} (f : α → V) (l : List α) : O := .list (l.map f)
noncomputable def it (nm : Nat → At) (k : Nat) : V := .tup [nm k,.int (Int.ofNat k)]
structure Nm (n : Nat) (nm : Nat → At) (key : Nat → D0) (r : Nat → Nat) : Prop where
  lt : ∀ a b,a < n → b < n → lt0 (key a) (key b) = some (lk r a b)
  inj : ∀ a b,a < n → b < n → key a = key b → a = b
  rk : ∀ a b,a < n → b < n → r a = r b → a = b
def NmAt (n : Nat) (nm : Nat → At) (key : Nat → D0) (H : Hp) : Prop := ∀ k,k < n → rd0 H (nm k) = some (key k)
theorem intsAt_keep {H H' : Hp} {a : Nat} {l : List Int} (k : ∀ o,H[a]? = some o → H'[a]? = some o) (h : kcq H a = some l) : kcq H' a = some l := by
  cases e : H[a]? with
  | none => unfold kcq kei at h; rw [e] at h; cases h
  | some o => have := k o e; unfold kcq kei at h ⊢; rw [e] at h; rw [this]; exact h
theorem rd0_keep {S : Nat → Prop} {H H' : Hp} {x : At} {d : D0} (k : Ke S H H') (hx : ∀ a,x = .ref a → ¬ S a) (h : rd0 H x = some d) : rd0 H' x = some d := by
  cases x with
  | ref a =>
    obtain ⟨l,e,q⟩ := Option.map_eq_some_iff.mp (show (kcq H a).map D0.ints = some d from h)
    show (kcq H' a).map D0.ints = some d
    rw [intsAt_keep (fun o e => k a o e (hx a rfl)) e,← q]; rfl
  | _ => exact h
theorem NmAt.keep {n : Nat} {nm : Nat → At} {key : Nat → D0} {S : Nat → Prop} {H H' : Hp} (h : NmAt n nm key H) (k : Ke S H H') (hx : ∀ i,i < n → ∀ a,nm i = .ref a → ¬ S a) : NmAt n nm key H' := fun i hi => rd0_keep k (hx i hi) (h i hi)
section
variable {n : Nat} {nm : Nat → At} {key : Nat → D0} {r : Nat → Nat} {f : Fm} {H : Hp}
theorem rdPr_it (h : NmAt n nm key H) {a : Nat} (ha : a < n) : rdPr H (it nm a) = some (key a,Int.ofNat a) := by
  show (rd0 H (nm a)).map _ = _
  rw [h a ha]; rfl
theorem rdV_it (h : NmAt n nm key H) {a : Nat} (ha : a < n) : rdV H (it nm a) = some (.pr (key a) (Int.ofNat a)) := by
  show (rdPr H (it nm a)).map _ = _
  rw [rdPr_it h ha]; rfl
theorem ltV_it (N : Nm n nm key r) (h : NmAt n nm key H) {a b : Nat} (ha : a < n) (hb : b < n) : ltV H (it nm a) (it nm b) = some (lk r a b) := by
  unfold ltV
  rw [rdV_it h ha,rdV_it h hb]
  show (match lt0 (key a) (key b) with | some c => some (if key a = key b then decide (Int.ofNat a < Int.ofNat b) else c) | none => none) = _
  rw [N.lt a b ha hb]
  show some (if _ then _ else _) = _
  by_cases e : key a = key b
  · have := N.inj a b ha hb e
    subst this
    rw [if_pos rfl]
    unfold lk
    rw [decide_eq_false (Int.lt_irrefl _),decide_eq_false (Nat.lt_irrefl _)]
  · rw [if_neg e]
end
section
variable {f : Fm} {H : Hp} {a b : M V}
theorem kfd {op : CmpOp} {x y : V} {c : Bool} (ea : Ev a f H x) (eb : Ev b f H y) (h : Ev (cmp op x y) f H c) : Ev (cmp_ op a b) f H c := kas ea (kas eb h)
theorem ev_gt {i j : Nat} (ea : Ev a f H (nv i)) (eb : Ev b f H (nv j)) : Ev (cmp_ .Gt a b) f H (decide (j < i)) := kfd ea eb (by
  show Ev (ret (decide (Int.ofNat j < Int.ofNat i))) f H _
  rw [show decide (Int.ofNat j < Int.ofNat i) = decide (j < i) from decide_eq_decide.mpr Int.ofNat_lt]; exact ka7)
theorem ltV_nv {i j : Nat} : ltV H (nv i) (nv j) = some (decide (i < j)) := by
  show some (decide (Int.ofNat i < Int.ofNat j)) = _
  rw [show decide (Int.ofNat i < Int.ofNat j) = decide (i < j) from decide_eq_decide.mpr Int.ofNat_lt]
theorem ev_ltn {i j : Nat} (ea : Ev a f H (nv i)) (eb : Ev b f H (nv j)) : Ev (cmp_ .Lt a b) f H (decide (i < j)) := kfd ea eb (show Ev (kfp fun h => ltV h _ _) f H _ from ke8 ltV_nv)
theorem kle {x y : V} {c : Bool} (ea : Ev a f H x) (eb : Ev b f H y) (h : ltV H x y = some c) : Ev (cmp_ .Lt a b) f H c := kfd ea eb (show Ev (kfp fun h => ltV h _ _) f H _ from ke8 h)
theorem kev {i : Nat} (h : i < 100000) : small (Int.ofNat i) = true := decide_eq_true (Nat.lt_trans h (by decide))
theorem small1 : small 1 = true := by decide
theorem ev_sub1 {i : Nat} (ea : Ev a f H (nv (i + 1))) (h : i < 99999) : Ev (bin_ .Sub a (cst (.int 1))) f H (nv i) := kas ea (kas kaw (by
  show Ev (if small (Int.ofNat (i + 1)) && small 1 then cst (.int (Int.ofNat (i + 1) - 1)) else fail) f H _
  rw [kev (Nat.succ_lt_succ h),small1,show Int.ofNat (i + 1) - 1 = Int.ofNat i from Int.add_sub_cancel (Int.ofNat i) 1]; exact kaw))
theorem ev_add1 {i : Nat} (ea : Ev a f H (nv i)) (h : i < 100000) : Ev (bin_ .Add a (cst (.int 1))) f H (nv (i + 1)) := kas ea (kas kaw (by
  show Ev (if small (Int.ofNat i) && small 1 then cst (.int (Int.ofNat i + 1)) else fail) f H _
  rw [kev h,small1]; exact kaw))
theorem ev_half {i : Nat} (ea : Ev a f H (nv i)) : Ev (bin_ .RShift a (cst (.int 1))) f H (nv (i / 2)) := kas ea (kas kaw (by
  show Ev (if 0 ≤ Int.ofNat i ∧ (1 : Int) = 1 then cst (.int (Int.ofNat i / 2)) else fail) f H _
  rw [if_pos ⟨Int.natCast_nonneg i,rfl⟩]; exact kaw))
theorem ev_twice {i : Nat} (ea : Ev a f H (nv i)) (h : i < 100000) : Ev (bin_ .Mult (cst (.int 2)) a) f H (nv (2 * i)) := kas kaw (kas ea (by
  show Ev (if decide ((2 : Int).natAbs < 1073741824) && decide ((Int.ofNat i).natAbs < 1073741824) then cst (.int (2 * Int.ofNat i)) else fail) f H _
  rw [decide_eq_true (show (2 : Int).natAbs < 1073741824 by decide),decide_eq_true (show (Int.ofNat i).natAbs < 1073741824 from Nat.lt_trans h (by decide))]; exact kaw))
end
theorem kfu {f : Nat → V} {l : List Nat} {i : Nat} (h : i < l.length) : (l.map f)[i]? = some (f (l.getD i 0)) := by
  rw [List.getElem?_map,List.getD_eq_getElem?_getD,List.getElem?_eq_getElem h]; rfl
theorem kcv {l : List Nat} {p x i : Nat} (hp : p < l.length) : (l.set p x).getD i 0 = if i = p then x else l.getD i 0 := by
  rw [List.getD_eq_getElem?_getD,List.getD_eq_getElem?_getD,List.getElem?_set]
  by_cases e : i = p
  · subst e; rw [if_pos rfl,if_pos rfl,if_pos hp]; rfl
  · rw [if_neg (Ne.symm e),if_neg e]
theorem swap_perm {l : List Nat} {p q x : Nat} (hp : p < l.length) (hq : q < l.length) (ne : p ≠ q) : List.Perm ((l.set p (l.getD q 0)).set q x) (l.set p x) := by
  have e1 : l.set p (l.getD q 0) = (l.set p x).set p ((l.set p x)[q]'(by rwa [List.length_set])) := by
    rw [List.set_set,List.getElem_set_ne ne,List.getD_eq_getElem?_getD,List.getElem?_eq_getElem hq]; rfl
  have e2 : x = (l.set p x)[p]'(by rwa [List.length_set]) := by rw [List.getElem_set_self]
  rw [e1]
  conv => lhs; rw [e2]
  have := List.set_set_perm (as := l.set p x) (i := p) (j := q) (by rwa [List.length_set]) (by rwa [List.length_set])
  rwa [List.getElem_set_self] at this ⊢
theorem kl7 {l : List Nat} {i : Nat} (h : i < l.length) : l.getD i 0 ∈ l := by
  rw [List.getD_eq_getElem?_getD,List.getElem?_eq_getElem h]; exact List.getElem_mem h
theorem kah {a b : Nat} (h : Nat.ble (a + 1) b = true) : a < b := Nat.le_of_ble_eq_true h
theorem klk {α : Type} {l : List α} {i : Nat} {a : α} (h : l[i]? = some a) : l.set i a = l := by
  apply List.ext_getElem?
  intro j
  rw [List.getElem?_set]
  split
  · rename_i e; subst e; rw [if_pos (List.getElem?_eq_some_iff.mp h).1,h]
  · rfl
theorem set_getD {l : List Nat} {p : Nat} (hp : p < l.length) : l.set p (l.getD p 0) = l := klk (by rw [List.getD_eq_getElem?_getD,List.getElem?_eq_getElem hp]; rfl)
section
variable {n : Nat} {nm : Nat → At} {key : Nat → D0} {r : Nat → Nat} {Φ : V → Fm → Hp → Prop} {f : Fm} {H : Hp} {t : Nat}
noncomputable abbrev rk (r : Nat → Nat) (l : List Nat) (i : Nat) : Nat := r (l.getD i 0)
structure SdI (n : Nat) (nm : Nat → At) (r : Nat → Nat) (H : Hp) (t : Nat) (ks : List Nat) (x q : Nat) (f' : Fm) (H' : Hp) : Prop where
  mk :: ex : ∃ l e4 e5,f' = [some (rv t),some (nv 0),some (nv q),some (it nm x),e4,e5] ∧ H' = H.set t (lst0 (it nm) l) ∧ q < l.length ∧ VI (rk r (l.set q x)) l.length q ∧ List.Perm (l.set q x) ks
theorem ki9 (N : Nm n nm key r) (ks : List Nat) (p x : Nat) (hN : ∀ l,NmAt n nm key (H.set t (lst0 (it nm) l))) (ht : H[t]? = some (lst0 (it nm) ks)) (hp : p < ks.length) (hx : ks.getD p 0 = x) (hm : ∀ k ∈ ks,k < n) (hl : ks.length < 100) (h : VI (rk r ks) ks.length p)
    (k : ∀ ks',List.Perm ks' ks → HP (rk r ks') ks'.length → Φ (.at .none) f (H.set t (lst0 (it nm) ks'))) : ok (call 6 keo [rv t,nv 0,nv p]) f H Φ := by
  refine kc7 (kam (kbo (kbt (kab rfl) (kab rfl) (kca ht (kfu hp))) (kah rfl) ?_))
  rw [hx]
  have hset : ks.set p x = ks := by rw [← hx,set_getD hp]
  refine kam (kh5 (fun m f' H' => SdI n nm r H t ks x m f' H') ?_ fuel p _ _ (Nat.lt_trans (Nat.lt_trans hp hl) (kah rfl)) ⟨ks,none,none,rfl,(klk ht).symm,hp,by rw [hset]; exact h,by rw [hset]⟩)
  rintro q f' H' ⟨l,e4,e5,rfl,rfl,hq,hv,hpm⟩
  have hat : (H.set t (lst0 (it nm) l))[t]? = some (lst0 (it nm) l) := kbv ht
  have hqm : q < (l.map (it nm)).length := by rw [List.length_map]; exact hq
  have done : ∀ e4 e5,HP (rk r (l.set q x)) l.length → ok (kaq [putS (loc 0) (loc 2) (loc 3)]) [some (rv t),some (nv 0),some (nv q),some (it nm x),e4,e5] (H.set t (lst0 (it nm) l)) fun r _ H' => ∃ v,retV r = some v ∧ Φ v f H' := fun e4 e5 hh => by
    refine g_put (kab rfl) (kab rfl) (kab rfl) hat hqm ⟨_,rfl,?_⟩
    rw [List.set_set,← List.map_set]
    exact k _ hpm (by rw [List.length_set]; exact hh)
  refine g_ev (ev_gt (kab rfl) (kab rfl)) ?_
  cases q with
  | zero => exact kbw (done _ _ (vi_end hv fun a => absurd a (Nat.lt_irrefl 0)))
  | succ q =>
    have hpar : q / 2 < l.length := by omega
    have hne : q / 2 ≠ q + 1 := by omega
    have hy : l.getD (q / 2) 0 < n := hm _ (hpm.mem_iff.mp (by have := kl7 (l := l.set (q + 1) x) (i := q / 2) (by rw [List.length_set]; exact hpar); rwa [kcv hq,if_neg hne] at this))
    have hxn : x < n := hm _ (hpm.mem_iff.mp (List.mem_set hq x))
    refine kam (kbo (ev_half (ev_sub1 (kab rfl) (Nat.lt_of_lt_of_le (show q < 100 from ?_) (by decide)))) (kah rfl) ?_)
    · have := hpm.length_eq; rw [List.length_set] at this; omega
    refine kam (kbo (kbt (kab rfl) (kab rfl) (kca hat (kfu hpar))) (kah rfl) ?_)
    refine kam (g_if (kle (kab rfl) (kab rfl) (ltV_it N (hN _) hxn hy)) ?_)
    cases hc : lk r x (l.getD (q / 2) 0) with
    | true =>
      refine kam (g_put (kab rfl) (kab rfl) (kab rfl) hat hqm (kam (kbo (kab rfl) (kah rfl) (kbw (kbw ⟨q / 2,by omega,l.set (q + 1) (l.getD (q / 2) 0),_,_,rfl,?_,?_,?_,?_⟩)))))
      · rw [List.set_set,← List.map_set]
      · rw [List.length_set]; exact hpar
      · rw [List.length_set]
        refine vi_step hv (Nat.succ_pos q) hq rfl ?_ fun i => ?_
        · show r ((l.set (q + 1) x).getD (q + 1) 0) < r ((l.set (q + 1) x).getD (q / 2) 0)
          rw [kcv hq,kcv hq,if_pos rfl,if_neg hne]
          exact of_decide_eq_true hc
        · show r _ = if i = q / 2 then r ((l.set (q + 1) x).getD (q + 1) 0) else if i = q + 1 then r ((l.set (q + 1) x).getD (q / 2) 0) else r ((l.set (q + 1) x).getD i 0)
          rw [kcv (by rw [List.length_set]; exact hpar),kcv hq,kcv hq,kcv hq,kcv hq,if_pos rfl,if_neg hne]
          split
          · rfl
          · split <;> rfl
      · exact (swap_perm hq hpar (Ne.symm hne)).trans hpm
    | false =>
      refine ke7 (kbw (done _ _ (vi_end hv fun _ => ?_)))
      show r ((l.set (q + 1) x).getD (q / 2) 0) ≤ r ((l.set (q + 1) x).getD (q + 1) 0)
      rw [kcv hq,kcv hq,if_pos rfl,if_neg hne]
      exact Nat.le_of_not_lt (of_decide_eq_false hc)
end
end Mine.Q
namespace Mine.Q
open PySem
section
variable {n : Nat} {nm : Nat → At} {key : Nat → D0} {r : Nat → Nat} {Φ : V → Fm → Hp → Prop} {f : Fm} {H : Hp} {t : Nat}
theorem kiu {l : List Nat} {x i : Nat} (h : i < l.length) : (l ++ [x]).getD i 0 = l.getD i 0 := by
  rw [List.getD_eq_getElem?_getD,List.getD_eq_getElem?_getD,List.getElem?_append_left h]
theorem getD_end {l : List Nat} {x : Nat} : (l ++ [x]).getD l.length 0 = x := by
  rw [List.getD_eq_getElem?_getD,List.getElem?_append_right (Nat.le_refl _),Nat.sub_self]; rfl
theorem kmc {α : Type} {g : α → V} {l : List α} {a : Nat} {f : Fm} {H : Hp} (e : H[a]? = some (lst0 g l)) : Ev (kd2 (rv a)) f H (nv l.length) := by
  have h := ev_len (f := f) e
  rwa [List.length_map] at h
theorem heappush_ok (N : Nm n nm key r) (ks : List Nat) (x : Nat) (hN : ∀ l,NmAt n nm key (H.set t (lst0 (it nm) l))) (ht : H[t]? = some (lst0 (it nm) ks)) (hm : ∀ k ∈ ks,k < n) (hx : x < n) (hl : ks.length < 90) (h : HP (rk r ks) ks.length)
    (k : ∀ ks',List.Perm ks' (x :: ks) → HP (rk r ks') ks'.length → Φ (.at .none) f (H.set t (lst0 (it nm) ks'))) : ok (call 4 kgv [rv t,it nm x]) f H Φ := by
  have hlen : (ks ++ [x]).length = ks.length + 1 := List.length_append
  refine kc7 (kam (kc4 (kfc (kab rfl) ht (kab rfl) (by rw [List.length_map]; exact Nat.lt_trans hl (kah rfl)) fun _ => ?_)))
  rw [show O.list (ks.map (it nm) ++ [it nm x]) = lst0 (it nm) (ks ++ [x]) by unfold lst0; rw [List.map_append]; rfl]
  have ht' : (H.set t (lst0 (it nm) (ks ++ [x])))[t]? = some (lst0 (it nm) (ks ++ [x])) := kbv ht
  refine kc4 (kd3 (vs := [rv t,nv 0,nv ks.length]) (kbu (kab rfl) (kbu kaw (kbu (ev_sub1 (kgl (kab rfl) (by rw [← hlen]; exact kmc ht')) (Nat.lt_trans hl (kah rfl))) kax))) ?_)
  refine ki9 N (ks ++ [x]) ks.length x (fun l => by rw [List.set_set]; exact hN l) ht' (by rw [hlen]; exact Nat.lt_succ_self _) getD_end (fun k hk => ?_) (by rw [hlen]; exact Nat.lt_trans (Nat.succ_lt_succ hl) (kah rfl)) ?_ fun ks' hp hh => ⟨_,rfl,?_⟩
  · rcases List.mem_append.mp hk with hk | hk
    · exact hm k hk
    · rw [List.mem_singleton.mp hk]; exact hx
  · rw [hlen]
    refine ⟨fun i i0 im ip => ?_,fun _ i i0 im ip => by omega⟩
    have hi : i < ks.length := by omega
    show r ((ks ++ [x]).getD _ 0) ≤ r ((ks ++ [x]).getD _ 0)
    rw [kiu hi,kiu (by omega)]
    exact h i i0 hi
  · rw [List.set_set]
    exact k ks' (hp.trans (List.perm_append_singleton x ks)) hh
structure SuI (nm : Nat → At) (r : Nat → Nat) (H : Hp) (t : Nat) (ks : List Nat) (x q : Nat) (f' : Fm) (H' : Hp) : Prop where
  mk :: ex : ∃ l e6,f' = [some (rv t),some (nv q),some (nv ks.length),some (nv 0),some (it nm x),some (nv (2 * q + 1)),e6,none,none] ∧ H' = H.set t (lst0 (it nm) l) ∧ l.length = ks.length ∧ q < l.length ∧ HI (rk r l) l.length q ∧ List.Perm (l.set q x) ks
theorem siftup_ok (N : Nm n nm key r) (ks : List Nat) (hN : ∀ l,NmAt n nm key (H.set t (lst0 (it nm) l))) (ht : H[t]? = some (lst0 (it nm) ks)) (hp : 0 < ks.length) (hm : ∀ k ∈ ks,k < n) (hl : ks.length < 90) (h : HI (rk r ks) ks.length 0)
    (k : ∀ ks',List.Perm ks' ks → HP (rk r ks') ks'.length → Φ (.at .none) f (H.set t (lst0 (it nm) ks'))) : ok (call 9 ki1 [rv t,nv 0]) f H Φ := by
  refine kc7 (kam (kbo (kgl (kab rfl) (kmc ht)) (kah rfl) (kam (kbo (kab rfl) (kah rfl) (kam (kbo (kbt (kab rfl) (kab rfl) (kca (k := 0) ht (kfu hp))) (kah rfl) (kam (kbo (ev_add1 (ev_twice (i := 0) (kab rfl) (kah rfl)) (kah rfl)) (kah rfl) ?_))))))))
  generalize hx : ks.getD 0 0 = x
  refine kam (kh5 (fun m f' H' => ∃ q,m = ks.length - q ∧ SuI nm r H t ks x q f' H') ?_ fuel ks.length _ _ (Nat.lt_trans hl (kah rfl)) ⟨0,rfl,ks,none,rfl,(klk ht).symm,rfl,hp,h,by rw [← hx,set_getD hp]⟩)
  rintro m f' H' ⟨q,rfl,l,e6,rfl,rfl,hll,hq,hv,hpm⟩
  have hat : (H.set t (lst0 (it nm) l))[t]? = some (lst0 (it nm) l) := kbv ht
  have hqm : q < (l.map (it nm)).length := by rw [List.length_map]; exact hq
  have memn : ∀ i,i < l.length → i ≠ q → l.getD i 0 < n := fun i hi ne => hm _ (hpm.mem_iff.mp (by have := kl7 (l := l.set q x) (i := i) (by rw [List.length_set]; exact hi); rwa [kcv hq,if_neg ne] at this))
  have hq90 : q < 90 := Nat.lt_trans hq (hll ▸ hl)
  refine g_ev (ev_ltn (kab rfl) (kab rfl)) ?_
  cases hlt : decide (2 * q + 1 < ks.length) with
  | false =>
    have hge : l.length ≤ 2 * q + 1 := by rw [hll]; exact Nat.le_of_not_lt (of_decide_eq_false hlt)
    refine kbw (kam (g_put (kab rfl) (kab rfl) (kab rfl) hat hqm ?_))
    rw [List.set_set,← List.map_set]
    have hset : (l.set q x).length = l.length := List.length_set
    refine kc4 (kd3 (vs := [rv t,nv 0,nv q]) (kbu (kab rfl) (kbu (kab rfl) (kbu (kab rfl) kax))) (ki9 N (l.set q x) q x (fun l => by rw [List.set_set]; exact hN l) (kbv ht) (by rw [hset]; exact hq) (by rw [kcv hq,if_pos rfl]) (fun k hk => hm k (hpm.mem_iff.mp hk)) (by rw [hset,hll]; exact Nat.lt_trans hl (kah rfl)) ?_ fun ks' hp' hh => ⟨_,rfl,?_⟩))
    · rw [hset]
      exact hi_end hv hge fun i ne => by show r ((l.set q x).getD i 0) = r (l.getD i 0); rw [kcv hq,if_neg ne]
    · rw [List.set_set]; exact k ks' (hp'.trans hpm) hh
  | true =>
    have hc : 2 * q + 1 < l.length := by rw [hll]; exact of_decide_eq_true hlt
    have go : ∀ c e6,(c - 1) / 2 = q → q < c → c < l.length → (∀ i,0 < i → i < l.length → (i - 1) / 2 = q → r (l.getD c 0) ≤ r (l.getD i 0)) →
        ok (kaq [putS (loc 0) (loc 1) (app2 get (loc 0) (loc 5)),assign 1 (loc 5),assign 5 (bin_ .Add (bin_ .Mult (cst (.int 2)) (loc 1)) (cst (.int 1)))]) [some (rv t),some (nv q),some (nv ks.length),some (nv 0),some (it nm x),some (nv c),e6,none,none] (H.set t (lst0 (it nm) l))
          (LP (fun f'' H'' => ∃ m',m' < ks.length - q ∧ ∃ q,m' = ks.length - q ∧ SuI nm r H t ks x q f'' H'') fun r f' H' => ok (seqK (kaq [putS (loc 0) (loc 1) (loc 4),expr (kfk 6 keo [loc 0,loc 3,loc 1])]) r) f' H' fun r _ H' => ∃ v,retV r = some v ∧ Φ v f H') := fun c e6 h1 h2 h3 h4 => by
      have hc90 : c < 100000 := Nat.lt_trans h3 (Nat.lt_trans (hll ▸ hl) (kah rfl))
      have ne : q ≠ c := Nat.ne_of_lt h2
      refine kam (g_put (kbt (kab rfl) (kab rfl) (kca hat (kfu h3))) (kab rfl) (kab rfl) hat hqm (kam (kbo (kab rfl) (kah rfl) (kbo (ev_add1 (ev_twice (kab rfl) hc90) ?_) (kah rfl) ?_))))
      · exact Nat.lt_of_lt_of_le (Nat.mul_lt_mul_of_pos_left (Nat.lt_trans h3 (hll ▸ hl)) (by decide)) (by decide)
      refine ⟨ks.length - c,by rw [← hll]; exact Nat.sub_lt_sub_left hq h2,c,rfl,l.set q (l.getD c 0),e6,rfl,?_,?_,?_,?_,?_⟩
      · rw [List.set_set,← List.map_set]
      · rw [List.length_set]; exact hll
      · rw [List.length_set]; exact h3
      · rw [List.length_set]
        refine hi_step hv h1 (Nat.lt_of_le_of_lt (Nat.zero_le _) h2) h3 h4 fun i ne' => ?_
        show r _ = if i = q then r (l.getD c 0) else r (l.getD i 0)
        rw [kcv hq]; split <;> rfl
      · exact (swap_perm hq h3 ne).trans hpm
    refine kam (kbo (ev_add1 (kab rfl) (Nat.lt_of_lt_of_le (Nat.lt_of_lt_of_le hc (hll ▸ Nat.le_of_lt hl)) (by decide))) (kah rfl) ?_)
    have e1 := ev_ltn (f := [some (rv t),some (nv q),some (nv ks.length),some (nv 0),some (it nm x),some (nv (2 * q + 1)),some (nv (2 * q + 1 + 1)),none,none]) (H := H.set t (lst0 (it nm) l)) (a := loc 6) (b := loc 2) (i := 2 * q + 1 + 1) (j := ks.length) (kab rfl) (kab rfl)
    cases hr : decide (2 * q + 1 + 1 < ks.length) with
    | false =>
      rw [hr] at e1
      refine kam (kjy (kas e1 ka7) (ke7 (go _ _ (by omega) (by omega) hc fun i i0 im ip => ?_)))
      have := of_decide_eq_false hr
      rw [show i = 2 * q + 1 by omega]; exact Nat.le_refl _
    | true =>
      rw [hr] at e1
      have hr' : 2 * q + 1 + 1 < l.length := by rw [hll]; exact of_decide_eq_true hr
      have e2 := kle (f := [some (rv t),some (nv q),some (nv ks.length),some (nv 0),some (it nm x),some (nv (2 * q + 1)),some (nv (2 * q + 1 + 1)),none,none]) (H := H.set t (lst0 (it nm) l)) (a := app2 get (loc 0) (loc 5)) (b := app2 get (loc 0) (loc 6)) (kbt (kab rfl) (kab rfl) (kca hat (kfu hc))) (kbt (kab rfl) (kab rfl) (kca hat (kfu hr'))) (ltV_it N (hN _) (memn _ hc (by omega)) (memn _ hr' (by omega)))
      refine kam (g_if (kas e1 (kas e2 ka7)) ?_)
      cases hlk : lk r (l.getD (2 * q + 1) 0) (l.getD (2 * q + 1 + 1) 0) with
      | true =>
        refine ke7 (go _ _ (by omega) (by omega) hc fun i i0 im ip => ?_)
        rcases (by omega : i = 2 * q + 1 ∨ i = 2 * q + 1 + 1) with rfl | rfl
        · exact Nat.le_refl _
        · exact Nat.le_of_lt (of_decide_eq_true hlk)
      | false =>
        refine kbo (kab rfl) (kah rfl) (go _ _ (by omega) (by omega) hr' fun i i0 im ip => ?_)
        rcases (by omega : i = 2 * q + 1 ∨ i = 2 * q + 1 + 1) with rfl | rfl
        · exact Nat.le_of_not_lt (of_decide_eq_false hlk)
        · exact Nat.le_refl _
end
end Mine.Q
namespace Mine.Q
open PySem
section
variable {n : Nat} {nm : Nat → At} {key : Nat → D0} {r : Nat → Nat} {Φ : V → Fm → Hp → Prop} {f : Fm} {H : Hp} {t : Nat}
theorem kjx {a : Nat} {xs : List V} {v : V} (e : H[a]? = some (.list xs)) (h : xs.getLast? = some v) (k : Φ v f (H.set a (.list xs.dropLast))) : ok (kez (rv a)) f H Φ :=
  kl9 e (by rw [h]; exact kaz (g_wr e (kbw k)))
theorem ev_testL {m : M V} {a : Nat} {xs : List V} (ea : Ev m f H (rv a)) (e : H[a]? = some (.list xs)) : Ev (test m) f H (!xs.isEmpty) := kas ea (kas (kcf e) ka7)
theorem heappop_ok (N : Nm n nm key r) (ks : List Nat) (hN : ∀ l,NmAt n nm key (H.set t (lst0 (it nm) l))) (ht : H[t]? = some (lst0 (it nm) ks)) (hp : ks ≠ []) (hm : ∀ k ∈ ks,k < n) (hl : ks.length < 90) (h : HP (rk r ks) ks.length)
    (k : ∀ m ks',List.Perm ks (m :: ks') → (∀ j ∈ ks,r m ≤ r j) → HP (rk r ks') ks'.length → Φ (it nm m) f (H.set t (lst0 (it nm) ks'))) : ok (call 4 khr [rv t]) f H Φ := by
  obtain ⟨l,y,rfl⟩ : ∃ l y,ks = l ++ [y] := ⟨_,_,(List.dropLast_concat_getLast hp).symm⟩
  have least : ∀ j ∈ l ++ [y],r ((l ++ [y]).getD 0 0) ≤ r j := fun j hj => by
    obtain ⟨i,hi,e⟩ := List.getElem_of_mem hj
    have := hp_min h i hi
    unfold rk at this
    rwa [List.getD_eq_getElem?_getD (i := i),List.getElem?_eq_getElem hi,e] at this
  have e0 : lst0 (it nm) (l ++ [y]) = .list (l.map (it nm) ++ [it nm y]) := by unfold lst0; rw [List.map_append]; rfl
  refine kc7 (kam (kbm (kan (kab rfl) (kjx (xs := l.map (it nm) ++ [it nm y]) (by rw [← e0]; exact ht) List.getLast?_concat ?_))))
  rw [List.dropLast_concat]
  refine ⟨kah rfl,?_⟩
  have ht' : (H.set t (lst0 (it nm) l))[t]? = some (lst0 (it nm) l) := kbv ht
  refine kam (g_if (ev_testL (kab rfl) ht') ?_)
  cases l with
  | nil =>
    refine ke7 (kc6 (kab rfl) ⟨_,rfl,k y [] (.refl _) (fun j hj => ?_) fun i _ hi => nomatch hi⟩)
    rw [List.mem_singleton.mp hj]; exact Nat.le_refl _
  | cons a l =>
    have pos : 0 < (a :: l).length := Nat.succ_pos _
    have hl' : (a :: l).length < 90 := Nat.lt_trans (Nat.lt_succ_self _) (by rw [List.length_append] at hl; exact hl)
    refine kam (kbo (kbt (kab rfl) kaw (kca (k := 0) ht' rfl)) (kah rfl) (kam (g_put (k := 0) (kab rfl) (kab rfl) kaw ht' (Nat.succ_pos _) ?_)))
    rw [List.set_set]
    refine kam (kc4 (kd3 (vs := [rv t,nv 0]) (kbu (kab rfl) (kbu kaw kax)) (siftup_ok (ks := y :: l) N (fun l => by rw [List.set_set]; exact hN l) (kbv ht) (Nat.succ_pos _) (fun k hk => ?_) hl' ?_ fun ks' hp' hh => ?_)))
    · rcases List.mem_cons.mp hk with rfl | hk
      · exact hm _ (List.mem_append_right _ (.head _))
      · exact hm _ (List.mem_append_left _ (.tail _ hk))
    · refine ⟨fun i i0 im ip iq => ?_,fun a => absurd a (Nat.lt_irrefl 0)⟩
      have t := h i i0 (by rw [List.length_append]; exact Nat.lt_succ_of_lt im)
      unfold rk at t ⊢
      have im' : i < (a :: l).length := im
      rw [kiu im',kiu (Nat.lt_of_le_of_lt (Nat.le_trans (Nat.div_le_self ..) (Nat.sub_le ..)) im')] at t
      obtain ⟨j,hj⟩ : ∃ j,(i - 1) / 2 = j + 1 := ⟨_,(Nat.succ_pred_eq_of_pos (Nat.pos_of_ne_zero iq)).symm⟩
      obtain ⟨j',rfl⟩ : ∃ j,i = j + 1 := ⟨_,(Nat.succ_pred_eq_of_pos i0).symm⟩
      rw [hj] at t ⊢; exact t
    · refine kc6 (kab rfl) (kbw ⟨_,rfl,?_⟩)
      rw [List.set_set]
      exact k a ks' ((List.Perm.cons a (List.perm_append_singleton y l)).trans (hp'.symm.cons a)) least hh
end
end Mine.Q
namespace Mine.Q
open PySem
structure SA where
  (s d r ep : Nat)
  (na sa : Nat → Nat)
  nodes : List Nat
noncomputable def fsOf (d : Nat) (r : At) (po nf : Nat) : List (Str × At) := [("_node2info",.ref d),("_ready_nodes",r),("_npassedout",.int (Int.ofNat po)),("_nfinished",.int (Int.ofNat nf))]
noncomputable def esOf (na : Nat → Nat) (l : List Nat) : List (Int × At) := l.map fun k => (Int.ofNat k,At.ref (na k))
noncomputable def ndO (sa : Nat → Nat) (np : Nat → Int) (k : Nat) : O := .node (some (.ref (sa k))) (some (.int (np k))) (some (.int (Int.ofNat k)))
structure Srt (n : Nat) (A : SA) (su : Nat → List Nat) (np : Nat → Int) (rl : List Nat) (po nf : Nat) (H : Hp) : Prop where
  inst : H[A.s]? = some (.inst (fsOf A.d (.ref A.r) po nf))
  dict : H[A.d]? = some (.dict (esOf A.na A.nodes) A.ep)
  node : ∀ k,k < n → H[A.na k]? = some (ndO A.sa np k)
  succ : ∀ k,k < n → H[A.sa k]? = some (lst0 nv (su k))
  ready : H[A.r]? = some (lst0 nv rl)
  mem : ∀ k,k ∈ A.nodes ↔ k < n
  ne : ∀ k,k < n → A.sa k ≠ A.r
def SW (n : Nat) (A : SA) (a : Nat) : Prop := a = A.s ∨ a = A.r ∨ ∃ k,k < n ∧ a = A.na k
theorem khn {na : Nat → Nat} {k : Nat} : ∀ {l : List Nat},k ∈ l → (esOf na l).lookup (Int.ofNat k) = some (.ref (na k))
  | j :: l,h => by
    show ((Int.ofNat j,At.ref (na j)) :: esOf na l).lookup _ = _
    rw [List.lookup_cons]
    by_cases e : k = j
    · subst e; rw [beq_self_eq_true]
    · rw [beq_eq_false_iff_ne.mpr fun q => e (Int.ofNat.inj q)]
      exact khn ((List.mem_cons.mp h).resolve_left e)
theorem es_none {na : Nat → Nat} {k : Nat} : ∀ {l : List Nat},k ∉ l → (esOf na l).lookup (Int.ofNat k) = none
  | [],_ => rfl
  | j :: l,h => by
    show ((Int.ofNat j,At.ref (na j)) :: esOf na l).lookup _ = _
    rw [List.lookup_cons,beq_eq_false_iff_ne.mpr fun q => h (by rw [Int.ofNat.inj q]; exact .head _)]
    exact es_none fun q => h (.tail _ q)
theorem kaj {H : Hp} {a b : Nat} {o o' : O} (h : H[a]? = some o) (h' : H[b]? = some o') (n : o ≠ o') : a ≠ b := fun e => n (by rw [e,h'] at h; exact (Option.some.inj h).symm)
section
variable {f : Fm} {H : Hp}
theorem kfz {m : M V} {x : Str} {a : Nat} {v : V} (e : Ev m f H (rv a)) (h : Ev (attr (rv a) x) f H v) : Ev (app1 (attr · x) m) f H v := kas e h
theorem ev_d {m : M V} {a d po nf : Nat} {r : At} (e : Ev m f H (rv a)) (h : H[a]? = some (.inst (fsOf d r po nf))) : Ev (app1 (attr · "_node2info") m) f H (rv d) := kfz e (kh7 h (by decide) (by rfl))
theorem ev_r {m : M V} {a d po nf : Nat} {r : At} (e : Ev m f H (rv a)) (h : H[a]? = some (.inst (fsOf d r po nf))) : Ev (app1 (attr · "_ready_nodes") m) f H (.at r) := kfz e (kh7 h (by decide) (by rfl))
theorem ev_po {m : M V} {a d po nf : Nat} {r : At} (e : Ev m f H (rv a)) (h : H[a]? = some (.inst (fsOf d r po nf))) : Ev (app1 (attr · "_npassedout") m) f H (nv po) := kfz e (kh7 h (by decide) (by rfl))
theorem ev_nf {m : M V} {a d po nf : Nat} {r : At} (e : Ev m f H (rv a)) (h : H[a]? = some (.inst (fsOf d r po nf))) : Ev (app1 (attr · "_nfinished") m) f H (nv nf) := kfz e (kh7 h (by decide) (by rfl))
theorem attr_su {su np nd : At} : attrO "successors" (.node (some su) (some np) (some nd)) = cst su := by unfold attrO; dsimp only; rw [if_pos (by decide)]; rfl
theorem attr_np {su np nd : At} : attrO "npredecessors" (.node (some su) (some np) (some nd)) = cst np := by unfold attrO; dsimp only; rw [if_neg (by decide),if_pos (by decide)]; rfl
theorem attr_nd {su np nd : At} : attrO "node" (.node (some su) (some np) (some nd)) = cst nd := by unfold attrO; dsimp only; rw [if_neg (by decide),if_neg (by decide),if_pos (by decide)]; rfl
theorem set_np {a : Nat} {su np nd : Option At} {v : At} : setO a "npredecessors" v (.node su np nd) = wr a (.node su (some v) nd) := by unfold setO; dsimp only; rw [if_neg (by decide),if_pos (by decide)]
theorem ev_su {m : M V} {a : Nat} {su np nd : At} (e : Ev m f H (rv a)) (h : H[a]? = some (.node (some su) (some np) (some nd))) : Ev (app1 (attr · "successors") m) f H (.at su) :=
  kfz e (kas (kcf h) (by rw [attr_su]; exact kaw))
theorem ev_np {m : M V} {a : Nat} {su np nd : At} (e : Ev m f H (rv a)) (h : H[a]? = some (.node (some su) (some np) (some nd))) : Ev (app1 (attr · "npredecessors") m) f H (.at np) :=
  kfz e (kas (kcf h) (by rw [attr_np]; exact kaw))
theorem ev_nd {m : M V} {a : Nat} {su np nd : At} (e : Ev m f H (rv a)) (h : H[a]? = some (.node (some su) (some np) (some nd))) : Ev (app1 (attr · "node") m) f H (.at nd) :=
  kfz e (kas (kcf h) (by rw [attr_nd]; exact kaw))
theorem ev_is {m : M V} {a : Nat} (e : Ev m f H (rv a)) : Ev (cmp_ .Is m (cst .none)) f H false := kfd e kaw ka7
theorem ev_isnt {m : M V} {a : Nat} (e : Ev m f H (rv a)) : Ev (cmp_ .IsNot m (cst .none)) f H true := kfd e kaw (kas ka7 ka7)
theorem ev_isntN {m : M V} (e : Ev m f H (.at .none)) : Ev (cmp_ .IsNot m (cst .none)) f H false := kfd e kaw (kas ka7 ka7)
theorem ev_isN {m : M V} (e : Ev m f H (.at .none)) : Ev (cmp_ .Is m (cst .none)) f H true := kfd e kaw ka7
variable {Φ : AF → Fm → Hp → Prop}
theorem kl8 {a : Nat} {su np nd : Option At} {v : At} {Φ : Unit → Fm → Hp → Prop} (h : H[a]? = some (.node su np nd)) (k : Φ () f (H.set a (.node su (some v) nd))) : ok (setAttr (rv a) "npredecessors" (.at v)) f H Φ :=
  kan (kcf h) (by rw [set_np]; exact g_wr h k)
theorem g_setNp {o v : M V} {a : Nat} {su np nd : Option At} {x : At} (ev : Ev v f H (.at x)) (eo : Ev o f H (rv a)) (h : H[a]? = some (.node su np nd)) (k : Φ .next f (H.set a (.node su (some x) nd))) : ok (kcu o "npredecessors" v) f H Φ :=
  kan ev (kan eo (kaz (kl8 h (kbw k))))
theorem g_setI {a : Nat} {fs : List (Str × At)} {x : Str} {v : At} {Φ : Unit → Fm → Hp → Prop} (h : H[a]? = some (.inst fs)) (hx : x ∈ instNames ∧ fs.length < 100) (k : Φ () f (H.set a (.inst (ke6 fs x v)))) : ok (setAttr (rv a) x (.at v)) f H Φ :=
  kan (kcf h) (by unfold setO; dsimp only; rw [if_pos hx]; exact g_wr h k)
theorem g_aug {o v : M V} {a : Nat} {x : Str} {op : Operator} {old y : V} {z : At} (eo : Ev o f H (rv a)) (ea : Ev (attr (rv a) x) f H old) (ev : Ev v f H y) (eb : Ev (binI op old y) f H (.at z)) (k : ok (setAttr (rv a) x (.at z)) f H fun _ f' H' => Φ .next f' H') : ok (kgw o x op v) f H Φ :=
  kan eo (kan ea (kan ev (kan eb (kaz (kcs k fun _ _ _ q => kbw q)))))
theorem ev_addn {i j : Nat} (hi : i < 100000) (hj : j < 100000) : Ev (binI .Add (nv i) (nv j)) f H (nv (i + j)) := by
  show Ev (if small (Int.ofNat i) && small (Int.ofNat j) then cst (.int (Int.ofNat i + Int.ofNat j)) else fail) f H _
  rw [kev hi,kev hj]; exact kaw
theorem ev_tuple {m : M V} {a : Nat} {l : List Nat} (e : Ev m f H (rv a)) (h : H[a]? = some (lst0 nv l)) : Ev (app1 tupleOf m) f H (.tup (l.map fun k => .int (Int.ofNat k))) := kas e (ev_lst h (by
  have : khs (l.map nv) = some (l.map fun k => .int (Int.ofNat k)) := by
    clear h
    induction l with
    | nil => rfl
    | cons x r ih => show (khs (r.map nv)).map _ = _; rw [ih]; rfl
  rw [this]; exact ka7))
theorem kgz {m : M V} {a : Nat} {l : List V} (e : Ev m f H (rv a)) (h : H[a]? = some (.list l)) : Ev (app1 ket m) f H ⟨l,some (a,.list l)⟩ := kas e (kas (kcf h) ka7)
theorem kmb {m : M V} {l : List At} (e : Ev m f H (.tup l)) : Ev (app1 ket m) f H ⟨l.map V.at,none⟩ := kas e ka7
theorem ev_lenT {m : M V} {l : List At} (e : Ev m f H (.tup l)) (h : l.length < 1000) : Ev (app1 kd2 m) f H (nv l.length) := kas e (by
  show Ev (if l.length ≤ lim then _ else _) f H _
  rw [if_pos (Nat.le_trans (Nat.le_of_lt h) (by decide))]; exact kaw)
end
section
variable {n : Nat} {A : SA} {su : Nat → List Nat} {np : Nat → Int} {rl : List Nat} {po nf : Nat} {H : Hp} {f : Fm} {Φ : V → Fm → Hp → Prop}
noncomputable def upd (np : Nat → Int) (k : Nat) (v : Int) : Nat → Int := fun j => if j = k then v else np j
theorem Srt.setNp (S : Srt n A su np rl po nf H) {k : Nat} (hk : k < n) (v : Int) : Srt n A su (upd np k v) rl po nf (H.set (A.na k) (ndO A.sa (upd np k v) k)) := by
  refine ⟨ka6 S.inst (kaj S.inst (S.node k hk) nofun),ka6 S.dict (kaj S.dict (S.node k hk) nofun),fun j hj => ?_,fun j hj => ka6 (S.succ j hj) (kaj (S.succ j hj) (S.node k hk) nofun),ka6 S.ready (kaj S.ready (S.node k hk) nofun),S.mem,S.ne⟩
  by_cases e : j = k
  · subst e; exact kbv (S.node j hj)
  · have : ndO A.sa (upd np k v) j = ndO A.sa np j := by unfold ndO upd; rw [if_neg e]
    rw [this]
    exact ka6 (S.node j hj) (kaj (S.node j hj) (S.node k hk) fun q => e (by unfold ndO at q; injection q with _ _ q; injection q with q; injection q with q; exact Int.ofNat.inj q))
theorem Srt.setReady (S : Srt n A su np rl po nf H) (l : List Nat) : Srt n A su np l po nf (H.set A.r (lst0 nv l)) :=
  ⟨ka6 S.inst (kaj S.inst S.ready nofun),ka6 S.dict (kaj S.dict S.ready nofun),fun j hj => ka6 (S.node j hj) (kaj (S.node j hj) S.ready nofun),fun j hj => ka6 (S.succ j hj) (S.ne j hj),kbv S.ready,S.mem,S.ne⟩
theorem Srt.setI (S : Srt n A su np rl po nf H) (po' nf' : Nat) : Srt n A su np rl po' nf' (H.set A.s (.inst (fsOf A.d (.ref A.r) po' nf'))) :=
  ⟨kbv S.inst,ka6 S.dict (kaj S.dict S.inst nofun),fun j hj => ka6 (S.node j hj) (kaj (S.node j hj) S.inst nofun),fun j hj => ka6 (S.succ j hj) (kaj (S.succ j hj) S.inst nofun),ka6 S.ready (kaj S.ready S.inst nofun),S.mem,S.ne⟩
theorem Srt.look (S : Srt n A su np rl po nf H) {k : Nat} (hk : k < n) : (esOf A.na A.nodes).lookup (Int.ofNat k) = some (.ref (A.na k)) := khn ((S.mem k).mpr hk)
theorem Srt.keep (S : Srt n A su np rl po nf H) {T : Nat → Prop} {H' : Hp} (k : Ke T H H') (h : ∀ a,T a → (∃ o,H[a]? = some o ∧ (a = A.s ∨ a = A.d ∨ a = A.r ∨ ∃ k,k < n ∧ (a = A.na k ∨ a = A.sa k))) → False) : Srt n A su np rl po nf H' :=
  ⟨k _ _ S.inst fun t => h _ t ⟨_,S.inst,.inl rfl⟩,k _ _ S.dict fun t => h _ t ⟨_,S.dict,.inr (.inl rfl)⟩,fun j hj => k _ _ (S.node j hj) fun t => h _ t ⟨_,S.node j hj,.inr (.inr (.inr ⟨j,hj,.inl rfl⟩))⟩,
    fun j hj => k _ _ (S.succ j hj) fun t => h _ t ⟨_,S.succ j hj,.inr (.inr (.inr ⟨j,hj,.inr rfl⟩))⟩,k _ _ S.ready fun t => h _ t ⟨_,S.ready,.inr (.inr (.inl rfl))⟩,S.mem,S.ne⟩
theorem SW.tr {H H' H'' : Hp} (a : Ke (SW n A) H H') (b : Ke (SW n A) H' H'') : Ke (SW n A) H H'' := a.trans b fun _ _ _ q => q
theorem is_active_ok (S : Srt n A su np rl po nf H) (k : Φ (.at (.bool (decide (nf < po) || !rl.isEmpty))) f H) : ok (call 3 ka2 [rv A.s]) f H Φ := by
  refine kc7 (kam (kjy (ev_is (ev_r (kab rfl) S.inst)) (ke7 (kfx (kan (a := .at (.bool (decide (nf < po)))) (kas (ev_ltn (ev_nf (kab rfl) S.inst) (ev_po (kab rfl) S.inst)) kaw) (kan (a := decide (nf < po)) ka7 ?_))))))
  cases h : decide (nf < po) with
  | true => rw [h] at k; exact kbw ⟨_,rfl,k⟩
  | false =>
    rw [h] at k
    refine g_ev (kas (ev_r (kab rfl) S.inst) (ev_lst S.ready kaw)) ⟨_,rfl,?_⟩
    rw [List.isEmpty_map]; exact k
noncomputable def grF (A : SA) (rl : List Nat) (e3 : Option V) : Fm := [some (rv A.s),some (.tup (rl.map fun k => .int (Int.ofNat k))),some (rv A.d),e3,none,none,none,none]
inductive GrI (H : Hp) (n : Nat) (A : SA) (su : Nat → List Nat) (np : Nat → Int) (rl : List Nat) (po nf i : Nat) (f' : Fm) (H' : Hp) : Prop
  | mk (e3 : Option V) (e : f' = grF A rl e3) (s : Srt n A su (fun j => if j ∈ rl.take i then -1 else np j) rl po nf H') (K : Ke (SW n A) H H')
theorem get_ready_ok (S : Srt n A su np rl po nf H) (hr : ∀ k ∈ rl,k < n) (hpo : po < 1000) (hl : rl.length < 1000)
    (k : ∀ H',Srt n A su (fun j => if j ∈ rl then -1 else np j) [] (po + rl.length) nf H' → Ke (SW n A) H H' → Φ (.tup (rl.map fun k => .int (Int.ofNat k))) f H') : ok (call 8 ka3 [rv A.s]) f H Φ := by
  refine kc7 (kam (kjy (ev_is (ev_r (kab rfl) S.inst)) (ke7 (kam (kbo (ev_tuple (ev_r (kab rfl) S.inst) S.ready) (kah rfl) (kam (kbo (ev_d (kab rfl) S.inst) (kah rfl) (kam ?_))))))))
  refine kio (GrI H n A su np rl po nf)
    (kmb (kab rfl)) (fun _ _ _ _ _ => trivial) ⟨_,rfl,by rw [List.take_zero]; exact S,.refl⟩ ?_ ?_
  · rintro i v f' H' hv ⟨e3,rfl,S',K⟩
    rw [List.map_map,List.getElem?_map] at hv
    obtain ⟨j,hj,rfl⟩ := Option.map_eq_some_iff.mp hv
    have hjn := hr j (List.mem_of_getElem? hj)
    refine kcd (kah rfl) (g_setNp kaw (kbt (kab rfl) (kab rfl) (ev_key S'.dict (S'.look hjn))) (S'.node j hjn) ⟨_,rfl,?_,SW.tr K (.set (.inr (.inr ⟨j,hjn,rfl⟩)))⟩)
    have e : (fun x => if x ∈ rl.take (i + 1) then -1 else np x) = upd (fun x => if x ∈ rl.take i then -1 else np x) j (-1) := by
      funext x
      show (if x ∈ rl.take (i + 1) then -1 else np x) = if x = j then -1 else if x ∈ rl.take i then -1 else np x
      rw [List.take_add_one,hj,Option.toList_some]
      by_cases q : x = j
      · rw [if_pos q,if_pos (List.mem_append_right _ (q ▸ .head _))]
      · rw [if_neg q]
        by_cases q' : x ∈ rl.take i
        · rw [if_pos q',if_pos (List.mem_append_left _ q')]
        · rw [if_neg q',if_neg fun m => (List.mem_append.mp m).elim q' fun m => q (List.mem_singleton.mp m)]
    have := S'.setNp hjn (-1)
    rw [← e] at this
    have e2 : ndO A.sa (fun x => if x ∈ rl.take (i + 1) then -1 else np x) j = .node (some (.ref (A.sa j))) (some (.int (-1))) (some (.int (Int.ofNat j))) := by
      rw [e]; unfold ndO upd; rw [if_pos rfl]
    rw [e2] at this; exact this
  · rintro f' H' ⟨e3,rfl,S',K⟩
    rw [List.length_map,List.length_map,List.take_length] at S'
    refine kam (kc4 (kan (ev_r (kab rfl) S'.inst) (kl9 S'.ready (kaz (g_wr S'.ready (kbw ?_))))))
    have S2 := S'.setReady []
    refine kam (g_aug (kab rfl) (kh7 S2.inst (by decide) (by rfl)) (ev_lenT (kab rfl) (by rw [List.length_map]; exact hl)) (ev_addn (Nat.lt_trans hpo (kah rfl)) (by rw [List.length_map]; exact Nat.lt_trans hl (kah rfl))) (g_setI S2.inst ⟨by decide,kah rfl⟩ (kc6 (kab rfl) ⟨_,rfl,?_⟩)))
    rw [List.length_map]
    exact k _ (S2.setI (po + rl.length) nf) (SW.tr K (SW.tr (.set (.inr (.inl rfl))) (.set (.inl rfl))))
end
end Mine.Q
namespace Mine.Q
open PySem
section
variable {f : Fm} {H : Hp}
theorem ev_getM {a b : M V} {d ep : Nat} {es : List (Int × At)} {i : Int} (ea : Ev a f H (rv d)) (e : H[d]? = some (.dict es ep)) (eb : Ev b f H (.at (.int i))) : Ev (getM a b) f H (.at ((es.lookup i).getD .none)) :=
  kas ea (kas (show Ev (bnd (rd d) _) f H () from kas (kcf e) (if_pos rfl ▸ ka7)) (kas eb (kas (kcf e) ka7)))
theorem eqV_int {i j : Int} : eqV H (.at (.int i)) (.at (.int j)) = some (decide (i = j)) := by
  show some (decide (Dt.int i = Dt.int j)) = _
  rw [show decide (Dt.int i = Dt.int j) = decide (i = j) from decide_eq_decide.mpr ⟨fun h => Dt.int.inj h,fun h => h ▸ rfl⟩]
theorem ev_eqi {a b : M V} {i j : Int} (ea : Ev a f H (.at (.int i))) (eb : Ev b f H (.at (.int j))) : Ev (cmp_ .Eq a b) f H (decide (i = j)) := kfd ea eb (show Ev (kfp fun h => eqV h _ _) f H _ from ke8 eqV_int)
theorem ev_nei {a b : M V} {i j : Int} (ea : Ev a f H (.at (.int i))) (eb : Ev b f H (.at (.int j))) : Ev (cmp_ .NotEq a b) f H (!decide (i = j)) := kfd ea eb (show Ev (kfp fun h => (eqV h (.at (.int i)) (.at (.int j))).map (!·)) f H _ from ke8 (by rw [eqV_int]; rfl))
theorem ev_dec {i : Int} (h1 : 1 ≤ i) (h2 : i ≤ 1000) : Ev (binI .Sub (.at (.int i)) (.at (.int 1))) f H (.at (.int (i - 1))) := by
  show Ev (if small i && small 1 then cst (.int (i - 1)) else fail) f H _
  rw [show small i = true from decide_eq_true (by omega),small1]; exact kaw
end
section
variable {n : Nat} {A : SA} {su : Nat → List Nat} {np : Nat → Int} {rl : List Nat} {po nf : Nat} {H : Hp} {f : Fm} {Φ : V → Fm → Hp → Prop}
noncomputable def dnp (np : Nat → Int) (k : Nat) (l : List Nat) (j : Nat) : Int := if j = k then -2 else if j ∈ l then np j - 1 else np j
theorem dnp_step {np : Nat → Int} {k j i : Nat} {l : List Nat} (hj : l[i]? = some j) (hk : j ≠ k) : dnp np k (l.take (i + 1)) = upd (dnp np k (l.take i)) j (np j - 1) := by
  funext x
  show (if x = k then -2 else if x ∈ l.take (i + 1) then np x - 1 else np x) = if x = j then np j - 1 else if x = k then -2 else if x ∈ l.take i then np x - 1 else np x
  rw [List.take_add_one,hj,Option.toList_some]
  by_cases q : x = j
  · rw [if_pos q,q,if_neg hk,if_pos (List.mem_append_right _ (.head _))]
  · rw [if_neg q]
    by_cases q' : x ∈ l.take i
    · rw [if_pos q',if_pos (List.mem_append_left _ q')]
    · rw [if_neg q',if_neg fun m => (List.mem_append.mp m).elim q' fun m => q (List.mem_singleton.mp m)]
theorem klz {l : List Nat} {i j : Nat} (hn : l.Nodup) (hj : l[i]? = some j) : j ∉ l.take i := fun m => by
  have h : l = l.take i ++ l.drop i := (List.take_append_drop i l).symm
  rw [h] at hn
  exact (List.nodup_append.mp hn).2.2 j m j (by have e : (l.drop i)[0]? = some j := by rw [List.getElem?_drop]; exact hj
                                                exact List.mem_of_getElem? e) rfl
noncomputable def doF (A : SA) (k : Nat) (v : Int) (e6 e7 : Option V) : Fm := [some (rv A.s),some (.tup [.int (Int.ofNat k)]),some (rv A.d),some (nv k),some (rv (A.na k)),some (.at (.int v)),e6,e7,none,none,none]
inductive DoI (H : Hp) (n : Nat) (A : SA) (su : Nat → List Nat) (np : Nat → Int) (rl : List Nat) (po nf k i : Nat) (f' : Fm) (H2 : Hp) : Prop
  | mk (e6 e7 : Option V) (e : f' = doF A k (np k) e6 e7) (s : Srt n A su (dnp np k ((su k).take i)) (rl ++ ((su k).take i).filter fun j => decide (np j = 1)) po nf H2) (K : Ke (SW n A) H H2)
theorem done_ok (S : Srt n A su np rl po nf H) {k : Nat} (hk : k < n) (hp : np k = -1) (hn : (su k).Nodup) (hs : ∀ j ∈ su k,j < n ∧ j ≠ k ∧ 1 ≤ np j ∧ np j ≤ 1000) (hnf : nf < 1000) (hl : rl.length + (su k).length < 1000)
    (kk : ∀ H',Srt n A su (dnp np k (su k)) (rl ++ (su k).filter fun j => decide (np j = 1)) po (nf + 1) H' → Ke (SW n A) H H' → Φ (.at .none) f H') : ok (call 11 kbc [rv A.s,.tup [.int (Int.ofNat k)]]) f H Φ := by
  refine kc7 (kam (kjy (ev_is (ev_r (kab rfl) S.inst)) (ke7 (kam (kbo (ev_d (kab rfl) S.inst) (kah rfl) ?_)))))
  refine kio (fun i f' H' => if i = 0 then f' = [some (rv A.s),some (.tup [.int (Int.ofNat k)]),some (rv A.d),none,none,none,none,none,none,none,none] ∧ H' = H else
    Srt n A su (dnp np k (su k)) (rl ++ (su k).filter fun j => decide (np j = 1)) po (nf + 1) H' ∧ Ke (SW n A) H H') (kmb (kab rfl)) (fun _ _ _ _ _ => trivial) ⟨rfl,rfl⟩ ?_ fun f' H' h => ⟨_,rfl,kk H' h.1 h.2⟩
  intro i v f' H' hv h
  cases i with
  | succ i => cases i <;> cases hv
  | zero =>
    obtain ⟨rfl,rfl⟩ := h
    cases hv
    refine kcd (kah rfl) (kam (kaz (kaz (kan (ev_getM (kab rfl) S.dict (kab rfl)) (kaz ?_)))))
    rw [S.look hk]
    refine kcd (kah rfl) (kbw (kan kaw (g_ev ka7 (ke7 (kam (kbo (ev_np (kab rfl) (S.node k hk)) (kah rfl) (kam (kjy ?_ (ke7 (kam (g_setNp kaw (kab rfl) (S.node k hk) ?_)))))))))))
    · have := ev_nei (f := [some (rv A.s),some (.tup [.int (Int.ofNat k)]),some (rv A.d),some (nv k),some (rv (A.na k)),some (.at (.int (np k))),none,none,none,none,none]) (H := H') (a := loc 5) (b := cst (.int (-1))) (i := np k) (j := -1) (kab rfl) kaw
      rw [decide_eq_true hp] at this; exact this
    have S1 := S.setNp hk (-2)
    have K1 : Ke (SW n A) H' (H'.set (A.na k) (ndO A.sa (upd np k (-2)) k)) := .set (.inr (.inr ⟨k,hk,rfl⟩))
    have e1 : ndO A.sa (upd np k (-2)) k = .node (some (.ref (A.sa k))) (some (.int (-2))) (some (.int (Int.ofNat k))) := by unfold ndO upd; rw [if_pos rfl]
    rw [← e1]
    generalize H'.set (A.na k) (ndO A.sa (upd np k (-2)) k) = H1 at S1 K1
    refine kam (kio (DoI H' n A su np rl po nf k) (kgz (ev_su (kab rfl) (S1.node k hk)) (S1.succ k hk)) (fun i f' H2 _ ⟨_,_,_,S2,_⟩ => S2.succ k hk) ⟨none,none,rfl,?_,K1⟩ ?_ ?_)
    · have : dnp np k ((su k).take 0) = upd np k (-2) := by funext x; show (if x = k then -2 else if x ∈ ([] : List Nat) then np x - 1 else np x) = if x = k then -2 else np x; rw [if_neg (c := x ∈ ([] : List Nat)) List.not_mem_nil]
      rw [this]; show Srt n A su _ (rl ++ []) po nf H1; rw [List.append_nil]; exact S1
    · rintro i v f2 H2 hv ⟨e6,e7,rfl,S2,K2⟩
      rw [List.getElem?_map] at hv
      obtain ⟨j,hj,rfl⟩ := Option.map_eq_some_iff.mp hv
      obtain ⟨hjn,hjk,h1,h2⟩ := hs j (List.mem_of_getElem? hj)
      have hlt : i < (su k).length := (List.getElem?_eq_some_iff.mp hj).1
      have ed : dnp np k ((su k).take i) j = np j := by unfold dnp; rw [if_neg hjk,if_neg (klz hn hj)]
      have e2 : ndO A.sa (dnp np k ((su k).take i)) j = .node (some (.ref (A.sa j))) (some (.int (np j))) (some (.int (Int.ofNat j))) := by unfold ndO; rw [ed]
      have N2 := S2.node j hjn
      rw [e2] at N2
      have S3 := S2.setNp hjn (np j - 1)
      rw [← dnp_step hj hjk] at S3
      have ed3 : dnp np k ((su k).take (i + 1)) j = np j - 1 := by rw [dnp_step hj hjk]; unfold upd; rw [if_pos rfl]
      have e3 : ndO A.sa (dnp np k ((su k).take (i + 1))) j = .node (some (.ref (A.sa j))) (some (.int (np j - 1))) (some (.int (Int.ofNat j))) := by unfold ndO; rw [ed3]
      have N3 := S3.node j hjn
      rw [e3] at S3 N3
      have K3 := SW.tr K2 (.set (H := H2) (o := .node (some (.ref (A.sa j))) (some (.int (np j - 1))) (some (.int (Int.ofNat j)))) (show SW n A (A.na j) from .inr (.inr ⟨j,hjn,rfl⟩)))
      have et : ((su k).take (i + 1)).filter (fun j => decide (np j = 1)) = ((su k).take i).filter (fun j => decide (np j = 1)) ++ if np j = 1 then [j] else [] := by
        rw [List.take_add_one,hj,Option.toList_some,List.filter_append,List.filter_cons]
        by_cases q : np j = 1
        · rw [decide_eq_true q,if_pos q]; rfl
        · rw [decide_eq_false q,if_neg q]; rfl
      refine kcd (kah rfl) (kam (kbo (kbt (kab rfl) (kab rfl) (ev_key S2.dict (S2.look hjn))) (kah rfl) (kam (g_aug (kab rfl) (kas (kcf N2) (by rw [attr_np]; exact kaw)) kaw (ev_dec h1 h2) (kl8 N2 ?_)))))
      refine g_if (ev_eqi (ev_np (kab rfl) N3) kaw) ?_
      by_cases q : np j = 1
      · rw [if_pos q] at et
        rw [decide_eq_true (show np j - 1 = 0 by rw [q]; rfl)]
        have hlen : (rl ++ ((su k).take i).filter fun j => decide (np j = 1)).length < lim := by
          rw [List.length_append]
          exact Nat.lt_of_le_of_lt (Nat.add_le_add_left (Nat.le_trans (List.length_filter_le ..) (List.length_take_le' ..)) _) (Nat.lt_trans hl (kah rfl))
        refine kc4 (kfc (ev_r (kab rfl) S3.inst) S3.ready (kab rfl) (by rw [List.length_map]; exact hlen) fun _ => ⟨_,_,rfl,?_,SW.tr K3 (.set (.inr (.inl rfl)))⟩)
        rw [et,← List.append_assoc]
        have := S3.setReady ((rl ++ ((su k).take i).filter fun j => decide (np j = 1)) ++ [j])
        unfold lst0 at this
        rw [List.map_append] at this
        exact this
      · rw [if_neg q,List.append_nil] at et
        rw [decide_eq_false (show ¬ np j - 1 = 0 by omega)]
        refine ke7 ⟨_,_,rfl,?_,K3⟩
        rw [et]; exact S3
    · rintro f2 H2 ⟨e6,e7,rfl,S2,K2⟩
      rw [List.length_map,List.take_length] at S2
      refine g_aug (kab rfl) (kh7 S2.inst (by decide) (by rfl)) kaw (ev_addn (j := 1) (Nat.lt_trans hnf (kah rfl)) (by decide)) (g_setI S2.inst ⟨by decide,kah rfl⟩ ⟨S2.setI po (nf + 1),SW.tr K2 (.set (.inl rfl))⟩)
end
end Mine.Q
namespace Mine.Q
open PySem
structure Bld (H0 : Hp) (s d : Nat) (nodes : List Nat) (su : Nat → List Nat) (np : Nat → Int) (na sa : Nat → Nat) (ep : Nat) (H : Hp) : Prop where
  keep : Ke K0 H0 H
  inst : H[s]? = some (.inst (fsOf d .none 0 0))
  dict : H[d]? = some (.dict (esOf na nodes) ep)
  node : ∀ k,k ∈ nodes → H[na k]? = some (ndO sa np k)
  succ : ∀ k,k ∈ nodes → H[sa k]? = some (lst0 nv (su k))
  sinj : ∀ j k,j ∈ nodes → k ∈ nodes → sa j = sa k → j = k
  nd : nodes.Nodup
  off : ∀ k,k ∉ nodes → su k = [] ∧ np k = 0
  fs : H0.length ≤ s
  fd : H0.length ≤ d
  fn : ∀ k,k ∈ nodes → H0.length ≤ na k
  fa : ∀ k,k ∈ nodes → H0.length ≤ sa k
theorem Ke.old {H0 H : Hp} {a : Nat} {o : O} (k : Ke K0 H0 H) (h : H0.length ≤ a) : Ke K0 H0 (H.set a o) := fun b ob e _ => ka6 (k b ob e id) fun q => by
  have := (List.getElem?_eq_some_iff.mp e).1; rw [q] at this; exact Nat.not_lt.mpr h this
theorem Ke.len {H0 H : Hp} (k : Ke K0 H0 H) : H0.length ≤ H.length := by
  cases h : H0.length with
  | zero => exact Nat.zero_le _
  | succ m =>
    have hm : m < H0.length := h ▸ Nat.lt_succ_self m
    exact (List.getElem?_eq_some_iff.mp (k m H0[m] (by simp [hm]) id)).1
theorem es_any {na : Nat → Nat} {k : Nat} {l : List Nat} : (esOf na l).any (fun e => e.1 == Int.ofNat k) = decide (k ∈ l) := by
  unfold esOf
  rw [List.any_map]
  by_cases h : k ∈ l
  · rw [decide_eq_true h]; exact List.any_eq_true.mpr ⟨k,h,beq_self_eq_true _⟩
  · rw [decide_eq_false h]
    exact List.any_eq_false.mpr fun x hx q => h (by have := Int.ofNat.inj (eq_of_beq q); rw [← this]; exact hx)
theorem es_put {na : Nat → Nat} {k a : Nat} {l : List Nat} (h : k ∉ l) : kd5 (esOf na l) (Int.ofNat k) (.ref a) = esOf (fun j => if j = k then a else na j) (l ++ [k]) := by
  unfold kd5
  rw [es_any,decide_eq_false h,if_neg Bool.false_ne_true]
  unfold esOf
  rw [List.map_append]
  congr 1
  · exact List.map_congr_left fun j hj => by dsimp only; rw [if_neg fun e => h (by rw [← e]; exact hj)]
  · show [(Int.ofNat k,At.ref a)] = [(Int.ofNat k,At.ref (if k = k then a else na k))]
    rw [if_pos rfl]
section
variable {f : Fm} {H : Hp}
theorem g_setO {o v : M V} {a : Nat} {ob ob' : O} {x : Str} {y : At} {Φ : AF → Fm → Hp → Prop} (ev : Ev v f H (.at y)) (eo : Ev o f H (rv a)) (h : H[a]? = some ob) (hs : setO a x y ob = wr a ob') (k : Φ .next f (H.set a ob')) : ok (kcu o x v) f H Φ :=
  kan ev (kan eo (kaz (kan (kcf h) (by rw [hs]; exact g_wr h (kbw k)))))
theorem set_su {a : Nat} {su np nd : Option At} {v : At} : setO a "successors" v (.node su np nd) = wr a (.node (some v) np nd) := by unfold setO; dsimp only; rw [if_pos (by decide)]
theorem set_nd {a : Nat} {su np nd : Option At} {v : At} : setO a "node" v (.node su np nd) = wr a (.node su np (some v)) := by unfold setO; dsimp only; rw [if_neg (by decide),if_neg (by decide),if_pos (by decide)]
theorem g_setO' {o v : M V} {x : Str} {Φ : AF → Fm → Hp → Prop} (h : ok v f H fun y f' H' => ∃ y0 a ob ob',y = .at y0 ∧ Ev o f' H' (rv a) ∧ H'[a]? = some ob ∧ setO a x y0 ob = wr a ob' ∧ Φ .next f' (H'.set a ob')) : ok (kcu o x v) f H Φ :=
  kaz (kcs h fun y f' H' ⟨y0,a,ob,ob',e,eo,hb,hs,k⟩ => e ▸ kan eo (kaz (kan (kcf hb) (by rw [hs]; exact g_wr hb (kbw k)))))
theorem kfy {Φ : V → Fm → Hp → Prop} (h : Φ (rv H.length) f (H ++ [.list []])) : ok (kd1 []) f H Φ := kan (a := ([] : List V)) rfl (kfq h)
noncomputable def nd0 (H : Hp) (k : Nat) : O := .node (some (.ref (H.length + 1))) (some (.int 0)) (some (.int (Int.ofNat k)))
theorem mkNode_ok {k : Nat} {Φ : V → Fm → Hp → Prop} {a : M V} (ea : Ev a f H (nv k)) (hk : Φ (rv H.length) f (H ++ [nd0 H k,.list []])) : ok (make (.node none none none) 2 kdp [a]) f H Φ := by
  refine kan (kbu ea kax) (kaz (kfq (kaz (kc7 (kam (g_setO (kab rfl) (kab rfl) kbp set_nd (kam (g_setO kaw (kab rfl) (kbv kbp) set_np ?_))))))))
  refine g_setO' (kfy ⟨_,_,_,_,rfl,kab rfl,ka0 (kbv (kbv kbp)),set_su,_,rfl,kbw ?_⟩)
  have e : ∀ o1 o2 o3 o4 : O,∀ l,((((H ++ [o1]).set H.length o2).set H.length o3) ++ l).set H.length o4 = H ++ o4 :: l := by intros; simp
  rw [e,List.length_set,List.length_set,List.length_append]; exact hk
end
section
variable {H0 : Hp} {s d : Nat} {nodes : List Nat} {su : Nat → List Nat} {np : Nat → Int} {na sa : Nat → Nat} {ep : Nat} {H : Hp} {f : Fm}
theorem Bld.node_new (B : Bld H0 s d nodes su np na sa ep H) {k : Nat} (hk : k ∉ nodes) : Bld H0 s d (nodes ++ [k]) su np (fun j => if j = k then H.length else na j) (fun j => if j = k then H.length + 1 else sa j) (ep + 1)
    ((H ++ [nd0 H k,.list []]).set d (.dict (esOf (fun j => if j = k then H.length else na j) (nodes ++ [k])) (ep + 1))) := by
  have L := B.keep.len
  have lt : ∀ {a o},H[a]? = some o → a < H.length := fun h => (List.getElem?_eq_some_iff.mp h).1
  have e0 : (H ++ [nd0 H k,O.list []])[H.length]? = some (nd0 H k) := by simp
  have e1 : (H ++ [nd0 H k,O.list []])[H.length + 1]? = some (O.list []) := by simp
  have ed : (H ++ [nd0 H k,O.list []])[d]? = some (.dict (esOf na nodes) ep) := ka0 B.dict
  have mem : ∀ {j},j ∈ nodes ++ [k] → j ≠ k → j ∈ nodes := fun h n => (List.mem_append.mp h).elim id fun h => (n (List.mem_singleton.mp h)).elim
  refine ⟨(show Ke K0 H0 _ from fun a o e x => ka0 (B.keep a o e x)).old B.fd,ka6 (ka0 B.inst) (kaj B.inst B.dict nofun),kbv ed,fun j hj => ?_,fun j hj => ?_,fun i j hi hj => ?_,?_,fun j hj => B.off j fun h => hj (List.mem_append_left _ h),B.fs,B.fd,fun j hj => ?_,fun j hj => ?_⟩
  · show (_ : List O)[if j = k then H.length else na j]? = some (O.node (some (.ref (if j = k then H.length + 1 else sa j))) (some (.int (np j))) (some (.int (Int.ofNat j))))
    by_cases q : j = k
    · rw [if_pos q,if_pos q,q,(B.off k hk).2]; exact ka6 e0 (kaj e0 ed nofun)
    · rw [if_neg q,if_neg q]; exact ka6 (ka0 (B.node j (mem hj q))) (kaj (B.node j (mem hj q)) B.dict nofun)
  · show (_ : List O)[if j = k then H.length + 1 else sa j]? = some (lst0 nv (su j))
    by_cases q : j = k
    · rw [if_pos q,q,(B.off k hk).1]; exact ka6 e1 (kaj e1 ed nofun)
    · rw [if_neg q]; exact ka6 (ka0 (B.succ j (mem hj q))) (kaj (B.succ j (mem hj q)) B.dict nofun)
  · show (if i = k then H.length + 1 else sa i) = (if j = k then H.length + 1 else sa j) → i = j
    by_cases q : i = k <;> by_cases q' : j = k
    · intro _; rw [q,q']
    · rw [if_pos q,if_neg q']; intro e; have := lt (B.succ j (mem hj q')); rw [← e] at this; exact absurd this (Nat.not_lt.mpr (Nat.le_succ _))
    · rw [if_neg q,if_pos q']; intro e; have := lt (B.succ i (mem hi q)); rw [e] at this; exact absurd this (Nat.not_lt.mpr (Nat.le_succ _))
    · rw [if_neg q,if_neg q']; exact B.sinj i j (mem hi q) (mem hj q')
  · exact List.nodup_append.mpr ⟨B.nd,List.pairwise_singleton _ _,fun a ha b hb e => hk (by rw [← List.mem_singleton.mp hb,← e]; exact ha)⟩
  · show H0.length ≤ if j = k then H.length else na j
    split
    · exact L
    · rename_i q; exact B.fn j (mem hj q)
  · show H0.length ≤ if j = k then H.length + 1 else sa j
    split
    · exact Nat.le_succ_of_le L
    · rename_i q; exact B.fa j (mem hj q)
theorem kgj {Φ : V → Fm → Hp → Prop} (B : Bld H0 s d nodes su np na sa ep H) (k : Nat) (hl : nodes.length < 1000)
    (h : ∀ nodes' na' sa' ep' H',Bld H0 s d nodes' su np na' sa' ep' H' → k ∈ nodes' → (∀ j,j ∈ nodes' ↔ j ∈ nodes ∨ j = k) → Φ (rv (na' k)) f H') : ok (call 4 ka8 [rv s,nv k]) f H Φ := by
  refine kc7 (kam (kaz (kaz (kan (ev_getM (ev_d (kab rfl) B.inst) B.dict (kab rfl)) (kaz ?_)))))
  by_cases hk : k ∈ nodes
  · rw [khn hk]
    exact kcd (kah rfl) (kbw (kan kaw (g_ev ka7 (ke7 (kc6 (kab rfl) ⟨_,rfl,h _ _ _ _ _ B hk fun j => ⟨.inl,fun q => q.elim id fun e => e ▸ hk⟩⟩)))))
  · rw [es_none hk]
    have hd : (H ++ [nd0 H k,O.list []])[d]? = some (.dict (esOf na nodes) ep) := ka0 B.dict
    have hi : (H ++ [nd0 H k,O.list []])[s]? = some (.inst (fsOf d .none 0 0)) := ka0 B.inst
    refine kcd (kah rfl) (kbw (kan kaw (g_ev ka7 (kaz (mkNode_ok (kab rfl) (kan (ev_d (kab rfl) hi) (kan (kab rfl) (kaz (kan (kcf hd) ?_)))))))))
    show ok (if (esOf na nodes).length < lim then wr d (.dict (kd5 (esOf na nodes) (Int.ofNat k) (.ref H.length)) (if (esOf na nodes).any (fun e => e.1 == Int.ofNat k) then ep else ep + 1)) else fail) _ _ _
    rw [es_put hk,es_any,decide_eq_false hk,if_neg Bool.false_ne_true,if_pos (by unfold esOf; rw [List.length_map]; exact Nat.lt_trans hl (kah rfl))]
    have B' := B.node_new hk
    refine g_wr hd (kaz (kcd (kah rfl) (kbw (kc6 (kab rfl) ⟨_,rfl,?_⟩))))
    have := h _ _ _ _ _ B' (List.mem_append_right _ (.head _)) fun j => by rw [List.mem_append,List.mem_singleton]
    rw [if_pos rfl] at this
    exact this
end
end Mine.Q
namespace Mine.Q
open PySem
theorem kbq : ∀ (n : Nat) (l : List Nat),l.Nodup → (∀ x ∈ l,x < n) → l.length ≤ n
  | 0,[],_,_ => Nat.le_refl _
  | 0,x :: _,_,h => absurd (h x (.head _)) (Nat.not_lt_zero _)
  | n + 1,l,hn,h => by
    have := kbq n (l.erase n) (hn.erase n) fun x hx => by
      have q := (List.Nodup.mem_erase_iff hn).mp hx
      exact Nat.lt_of_le_of_ne (Nat.le_of_lt_succ (h x q.2)) q.1
    rw [List.length_erase] at this
    split at this
    · exact Nat.le_succ_of_pred_le this
    · exact Nat.le_succ_of_le this
theorem kjp {d po nf : Nat} {r : At} : kk9 (.inst (fsOf d r po nf)) = true := by rfl
theorem kgk {n : Nat} {m : M AF} {o : M V} {args : List (M V)} {vs : List V} {s d po nf : Nat} {r : At} {f : Fm} {H : Hp} {Φ : V → Fm → Hp → Prop} (eo : Ev o f H (rv s)) (hs : H[s]? = some (.inst (fsOf d r po nf))) (ea : Ev (all args) f H vs) (h : ok (call n m (rv s :: vs)) f H Φ) : ok (kip n m o args) f H Φ :=
  kan eo (kan (show Ev (bnd (rd s) _) f H () from kas (kcf hs) (by rw [if_pos kjp]; exact ka7)) (kan ea h))
section
variable {H0 : Hp} {s d : Nat} {nodes : List Nat} {su : Nat → List Nat} {np : Nat → Int} {na sa : Nat → Nat} {ep : Nat} {H : Hp} {f : Fm} {n : Nat}
theorem Bld.setNp (B : Bld H0 s d nodes su np na sa ep H) {k : Nat} (hk : k ∈ nodes) (v : Int) : Bld H0 s d nodes su (upd np k v) na sa ep (H.set (na k) (ndO sa (upd np k v) k)) := by
  refine ⟨B.keep.old (B.fn k hk),ka6 B.inst (kaj B.inst (B.node k hk) nofun),ka6 B.dict (kaj B.dict (B.node k hk) nofun),fun j hj => ?_,fun j hj => ka6 (B.succ j hj) (kaj (B.succ j hj) (B.node k hk) nofun),B.sinj,B.nd,fun j hj => ⟨(B.off j hj).1,?_⟩,B.fs,B.fd,B.fn,B.fa⟩
  · by_cases e : j = k
    · subst e; exact kbv (B.node j hj)
    · have : ndO sa (upd np k v) j = ndO sa np j := by unfold ndO upd; rw [if_neg e]
      rw [this]
      exact ka6 (B.node j hj) (kaj (B.node j hj) (B.node k hk) fun q => e (by unfold ndO at q; injection q with _ _ q; injection q with q; injection q with q; exact Int.ofNat.inj q))
  · unfold upd; rw [if_neg fun e => hj (by rw [e]; exact hk)]; exact (B.off j hj).2
theorem Bld.setSu (B : Bld H0 s d nodes su np na sa ep H) {k : Nat} (hk : k ∈ nodes) (l : List Nat) : Bld H0 s d nodes (fun j => if j = k then l else su j) np na sa ep (H.set (sa k) (lst0 nv l)) := by
  refine ⟨B.keep.old (B.fa k hk),ka6 B.inst (kaj B.inst (B.succ k hk) nofun),ka6 B.dict (kaj B.dict (B.succ k hk) nofun),fun j hj => ka6 (B.node j hj) (kaj (B.node j hj) (B.succ k hk) nofun),fun j hj => ?_,B.sinj,B.nd,fun j hj => ⟨?_,(B.off j hj).2⟩,B.fs,B.fd,B.fn,B.fa⟩
  · show (_ : List O)[sa j]? = some (lst0 nv (if j = k then l else su j))
    by_cases e : j = k
    · rw [if_pos e,e]; exact kbv (B.succ k hk)
    · rw [if_neg e]; exact ka6 (B.succ j hj) fun q => e (B.sinj j k hj hk q)
  · show (if j = k then l else su j) = []
    rw [if_neg fun e => hj (by rw [e]; exact hk)]; exact (B.off j hj).1
noncomputable def kkw (su : Nat → List Nat) (i : Nat) (ps : List Nat) (j : Nat) : List Nat := if j ∈ ps then su j ++ [i] else su j
theorem addSu_step {su : Nat → List Nat} {i t p : Nat} {ps : List Nat} (hp : ps[t]? = some p) (hn : ps.Nodup) : kkw su i (ps.take (t + 1)) = fun j => if j = p then kkw su i (ps.take t) p ++ [i] else kkw su i (ps.take t) j := by
  funext x
  show (if x ∈ ps.take (t + 1) then su x ++ [i] else su x) = if x = p then (if p ∈ ps.take t then su p ++ [i] else su p) ++ [i] else if x ∈ ps.take t then su x ++ [i] else su x
  rw [List.take_add_one,hp,Option.toList_some,if_neg (klz hn hp)]
  by_cases q : x = p
  · rw [if_pos q,q,if_pos (List.mem_append_right _ (.head _))]
  · rw [if_neg q]
    by_cases q' : x ∈ ps.take t
    · rw [if_pos q',if_pos (List.mem_append_left _ q')]
    · rw [if_neg q',if_neg fun m => (List.mem_append.mp m).elim q' fun m => q (List.mem_singleton.mp m)]
noncomputable def adF (s i : Nat) (ps : List Nat) (a : Nat) (e4 e5 : Option V) : Fm := [some (rv s),some (nv i),some (.tup (ps.map fun p => .int (Int.ofNat p))),some (rv a),e4,e5,none,none]
inductive AdI (H0 : Hp) (s d : Nat) (nodes ps : List Nat) (su : Nat → List Nat) (np : Nat → Int) (i a t : Nat) (f' : Fm) (H' : Hp) : Prop
  | mk (nodes' : List Nat) (na' sa' : Nat → Nat) (ep' : Nat) (e4 e5 : Option V) (e : f' = adF s i ps a e4 e5) (b : Bld H0 s d nodes' (kkw su i (ps.take t)) (upd np i (Int.ofNat ps.length)) na' sa' ep' H') (m : ∀ j,j ∈ nodes' ↔ j ∈ nodes ∨ j = i ∨ j ∈ ps.take t)
theorem add_ok {Φ : V → Fm → Hp → Prop} (B : Bld H0 s d nodes su np na sa ep H) (i : Nat) (ps : List Nat) (hps : ps.Nodup) (hnp : np i = 0) (hb : n < 100) (hn : ∀ j ∈ nodes,j < n) (hi : i < n) (hpn : ∀ p ∈ ps,p < n) (hsl : ∀ j,(su j).length < 500)
    (k : ∀ nodes' na' sa' ep' H',Bld H0 s d nodes' (kkw su i ps) (upd np i (Int.ofNat ps.length)) na' sa' ep' H' → (∀ j,j ∈ nodes' ↔ j ∈ nodes ∨ j = i ∨ j ∈ ps) → Φ (.at .none) f H') :
    ok (call 8 kb6 [rv s,nv i,.tup (ps.map fun p => .int (Int.ofNat p))]) f H Φ := by
  have le : ∀ {l : List Nat},l.Nodup → (∀ j ∈ l,j < n) → l.length < 1000 := fun h1 h2 => Nat.lt_of_le_of_lt (kbq n _ h1 h2) (Nat.lt_trans hb (kah rfl))
  refine kc7 (kam (kjy (ev_isntN (ev_r (kab rfl) B.inst)) (ke7 (kam (kbm (kgk (kab rfl) B.inst (kbu (kab rfl) kax) (kgj B i (le B.nd hn) fun nodes1 na1 sa1 ep1 H1 B1 hi1 hm1 => ⟨kah rfl,?_⟩)))))))
  have N1 := B1.node i hi1
  unfold ndO at N1
  have B2 := B1.setNp hi1 (Int.ofNat ps.length)
  refine kam (g_aug (kab rfl) (kas (kcf N1) (by rw [attr_np]; exact kaw)) (ev_lenT (kab rfl) (by rw [List.length_map]; exact le hps hpn)) (z := .int (Int.ofNat ps.length)) ?_ (kl8 N1 ?_))
  · rw [hnp,List.length_map]
    have := ev_addn (f := [some (rv s),some (nv i),some (.tup (ps.map fun p => .int (Int.ofNat p))),some (rv (na1 i)),none,none,none,none]) (H := H1) (i := 0) (j := ps.length) (by decide) (Nat.lt_trans (le hps hpn) (kah rfl))
    rw [Nat.zero_add] at this; exact this
  have e1 : O.node (some (.ref (sa1 i))) (some (.int (Int.ofNat ps.length))) (some (.int (Int.ofNat i))) = ndO sa1 (upd np i (Int.ofNat ps.length)) i := by unfold ndO upd; rw [if_pos rfl]
  rw [e1]
  refine kio (AdI H0 s d nodes ps su np i (na1 i))
    (kmb (kab rfl)) (fun _ _ _ _ _ => trivial) ⟨nodes1,na1,sa1,ep1,none,none,rfl,?_,fun j => ?_⟩ ?_ ?_
  · have : kkw su i (ps.take 0) = su := by funext j; exact if_neg List.not_mem_nil
    rw [this]; exact B2
  · rw [hm1 j,List.take_zero]; exact ⟨fun q => q.elim .inl fun q => .inr (.inl q),fun q => q.elim .inl fun q => q.elim .inr fun q => nomatch q⟩
  · rintro t v f' H' hv ⟨nodes2,na2,sa2,ep2,e4,e5,rfl,B3,hm3⟩
    rw [List.map_map,List.getElem?_map] at hv
    obtain ⟨p,hp,rfl⟩ := Option.map_eq_some_iff.mp hv
    have hpm := List.mem_of_getElem? hp
    have h3n : ∀ j ∈ nodes2,j < n := fun j hj => by
      rcases (hm3 j).mp hj with q | q | q
      · exact hn j q
      · exact q ▸ hi
      · exact hpn j (List.take_subset t ps q)
    refine kcd (kah rfl) (kam (kbm (kgk (kab rfl) B3.inst (kbu (kab rfl) kax) (kgj B3 p (le B3.nd h3n) fun nodes4 na4 sa4 ep4 H4 B4 hp4 hm4 => ⟨kah rfl,?_⟩))))
    have N4 := B4.node p hp4
    unfold ndO at N4
    have hl : (kkw su i (ps.take t) p).length < lim := by
      unfold kkw; rw [if_neg (klz hps hp)]; exact Nat.lt_trans (hsl p) (kah rfl)
    refine kc4 (kfc (ev_su (kab rfl) N4) (B4.succ p hp4) (kab rfl) (by rw [List.length_map]; exact hl) fun _ => ⟨nodes4,na4,sa4,ep4,_,_,rfl,?_,fun j => ?_⟩)
    · have B5 := B4.setSu hp4 (kkw su i (ps.take t) p ++ [i])
      rw [← addSu_step hp hps] at B5
      unfold lst0 at B5
      rw [List.map_append] at B5
      exact B5
    · rw [hm4 j,hm3 j,List.take_add_one,hp,Option.toList_some,List.mem_append,List.mem_singleton,or_assoc,or_assoc]
  · rintro f' H' ⟨nodes2,na2,sa2,ep2,e4,e5,rfl,B3,hm3⟩
    rw [List.length_map,List.length_map,List.take_length] at B3 hm3
    exact ⟨_,rfl,k _ _ _ _ _ B3 hm3⟩
end
end Mine.Q
namespace Mine.Q
open PySem
theorem atsOf_nv : ∀ l : List Nat,khs (l.map nv) = some (l.map fun k => .int (Int.ofNat k))
  | [] => rfl
  | x :: r => by show (khs (r.map nv)).map _ = _; rw [atsOf_nv r]; rfl
section
variable {f : Fm} {H : Hp}
theorem range_nat {n : Nat} (h : n < 1000) : kct (nv n) = ret ⟨(List.range n).map nv,none⟩ := by
  unfold kct int1
  dsimp only
  rw [if_pos]
  · rfl
  · exact ⟨Int.natCast_nonneg n,Int.lt_trans (Int.ofNat_lt.mpr h) (by decide)⟩
theorem kix {m : M V} {a n : Nat} {l : List V} (e : Ev m f H (rv a)) (h : H[a]? = some (.list l)) (hl : l.length < 1000) : Ev (app1 kct (app1 kd2 m)) f H ⟨(List.range l.length).map nv,none⟩ :=
  kas (kas e (ev_len h)) (by rw [range_nat hl]; exact ka7)
theorem range_drop {n i : Nat} {r : List Nat} {x : Nat} (h : (List.range n).drop i = x :: r) : x = i ∧ i < n ∧ (List.range n).drop (i + 1) = r := by
  have e : (List.range n)[i]? = some x := by rw [← List.head?_drop,h]; rfl
  obtain ⟨hi,q⟩ := List.getElem?_eq_some_iff.mp e
  rw [List.length_range] at hi
  rw [List.getElem_range] at q
  exact ⟨q.symm,hi,by rw [← List.drop_drop,h]; rfl⟩
theorem klc {n x : Nat} {wa : Nat → Nat} (hx : H[x]? = some (.list ((List.range n).map fun k => rv (wa k)))) (hn : n < 1000) {Φ : Unit → Fm → Hp → Prop} (hk : ∀ f',Φ () f' (H ++ [.dict (esOf wa (List.range n)) n])) :
    ∀ (r : List Nat) (i : Nat) (y : Option V),(List.range n).drop i = r → i ≤ n → ok (compD none (kdn 1) (loc 1) (app2 get (loc 2) (loc 1)) H.length (r.map nv)) [none,y,some (rv x)] (H ++ [.dict (esOf wa (List.range i)) i]) Φ
  | [],i,y,e,hi => by
    have : n ≤ i := by have := List.drop_eq_nil_iff.mp e; rwa [List.length_range] at this
    have hin : i = n := Nat.le_antisymm hi this
    subst hin
    exact g_ev (kgt trivial) (hk _)
  | j :: r,i,y,e,hi => by
    obtain ⟨rfl,hlt,e'⟩ := range_drop e
    refine kan (kgt trivial) (kaz (kcd (kah rfl) (kan (kab rfl) (kan (kbt (kab rfl) (kab rfl) (kca (ka0 hx) (k := j) (v := rv (wa j)) ?_)) (kaz (g_dct (a := H.length) kbp ?_))))))
    · rw [List.getElem?_map,List.getElem?_range hlt]; rfl
    · show ok (if (esOf wa (List.range j)).length < lim then wr H.length (.dict (kd5 (esOf wa (List.range j)) (Int.ofNat j) (.ref (wa j))) (if (esOf wa (List.range j)).any (fun e => e.1 == Int.ofNat j) then j else j + 1)) else fail) _ _ _
      have hj : j ∉ List.range j := fun m => Nat.lt_irrefl _ (List.mem_range.mp m)
      have ee : esOf (fun i => if i = j then wa j else wa i) (List.range j ++ [j]) = esOf wa (List.range (j + 1)) := by
        rw [← List.range_succ]; unfold esOf
        refine List.map_congr_left fun i _ => ?_
        dsimp only
        by_cases q : i = j
        · rw [if_pos q,q]
        · rw [if_neg q]
      rw [es_put hj,ee,es_any,decide_eq_false hj,if_neg Bool.false_ne_true,if_pos (by unfold esOf; rw [List.length_map,List.length_range]; exact Nat.lt_trans hlt (Nat.lt_trans hn (kah rfl)))]
      refine g_wr kbp ?_
      rw [show (H ++ [O.dict (esOf wa (List.range j)) j]).set H.length (.dict (esOf wa (List.range (j + 1))) (j + 1)) = H ++ [O.dict (esOf wa (List.range (j + 1))) (j + 1)] by simp]
      exact klc hx hn hk r (j + 1) _ e' hlt
theorem graph_ok {n x : Nat} {wa : Nat → Nat} (hf : f[0]? = some (some (rv x))) (hx : H[x]? = some (.list ((List.range n).map fun k => rv (wa k)))) (hn : n < 1000) {Φ : V → Fm → Hp → Prop} (hk : Φ (rv H.length) f (H ++ [.dict (esOf wa (List.range n)) n])) :
    ok (kgu (app1 kct (app1 kd2 (loc 0))) [none,none,some 0] (kdn 1) (loc 1) (app2 get (loc 2) (loc 1))) f H Φ := by
  have e := kix (n := n) (f := f) (kab hf) hx (by rw [List.length_map,List.length_range]; exact hn)
  rw [List.length_map,List.length_range] at e
  refine kan e (kaz (kfq (kaz (g_within ?_))))
  show ok _ [none,none,(f[0]?).join] _ _
  rw [hf]
  exact klc hx hn (fun _ => kbw hk) _ 0 none rfl (Nat.zero_le _)
end
section
variable {H : Hp} {f : Fm} {n : Nat} {wa : Nat → Nat} {W : Nat → List Nat}
noncomputable def suW (W : Nat → List Nat) (i j : Nat) : List Nat := (List.range i).filter fun k => decide (j ∈ W k)
noncomputable def npW (W : Nat → List Nat) (i j : Nat) : Int := if j < i then Int.ofNat (W j).length else 0
theorem suW_step {i : Nat} : kkw (suW W i) i (W i) = suW W (i + 1) := by
  funext j
  show (if j ∈ W i then (List.range i).filter _ ++ [i] else (List.range i).filter _) = (List.range (i + 1)).filter _
  rw [List.range_succ,List.filter_append,List.filter_cons]
  by_cases h : j ∈ W i
  · rw [if_pos h,if_pos (decide_eq_true h)]; rfl
  · rw [if_neg h,if_neg (by rw [decide_eq_false h]; exact Bool.false_ne_true)]; exact (List.append_nil _).symm
theorem npW_step {i : Nat} : upd (npW W i) i (Int.ofNat (W i).length) = npW W (i + 1) := by
  funext j
  show (if j = i then Int.ofNat (W i).length else if j < i then Int.ofNat (W j).length else 0) = if j < i + 1 then Int.ofNat (W j).length else 0
  by_cases h : j = i
  · rw [if_pos h,h,if_pos (Nat.lt_succ_self i)]
  · rw [if_neg h]
    by_cases h' : j < i
    · rw [if_pos h',if_pos (Nat.lt_succ_of_lt h')]
    · rw [if_neg h',if_neg fun q => (Nat.lt_succ_iff_lt_or_eq.mp q).elim h' h]
noncomputable def inF (s g : Nat) (e2 e3 : Option V) : Fm := [some (rv s),some (rv g),e2,e3]
inductive InI (H0 : Hp) (W : Nat → List Nat) (s d g i : Nat) (f' : Fm) (H' : Hp) : Prop
  | mk (nodes : List Nat) (na sa : Nat → Nat) (ep : Nat) (e2 e3 : Option V) (e : f' = inF s g e2 e3) (b : Bld H0 s d nodes (suW W i) (npW W i) na sa ep H') (m : ∀ j,j ∈ nodes ↔ j < i ∨ ∃ k,k < i ∧ j ∈ W k)
theorem init_ok {s g epg : Nat} {Φ : V → Fm → Hp → Prop} (hg : H[g]? = some (.dict (esOf wa (List.range n)) epg)) (hs : H[s]? = some (.inst [])) (hsl : s + 1 = H.length) (hW : ∀ k,k < n → H[wa k]? = some (lst0 nv (W k))) (hd : ∀ k,k < n → (W k).Nodup) (hm : ∀ k,k < n → ∀ j ∈ W k,j < n) (hn : n < 100)
    (kk : ∀ d nodes na sa ep H',Bld (H.take s) s d nodes (suW W n) (npW W n) na sa ep H' → (∀ j,j ∈ nodes ↔ j < n) → Φ (.at .none) f H') : ok (call 4 kbb [rv s,rv g]) f H Φ := by
  have old : ∀ {a} {o : O},H[a]? = some o → o ≠ .inst [] → (H.take s)[a]? = some o := fun {a o} h hne => by
    rw [List.getElem?_take_of_lt]; · exact h
    have := (List.getElem?_eq_some_iff.mp h).1
    have ne := kaj h hs hne
    omega
  have tl : (H.take s).length = s := by rw [List.length_take]; omega
  have K : Ke K0 (H.take s) (H ++ [O.dict [] 0]) := fun a o e _ => by
    have := (List.getElem?_eq_some_iff.mp e).1
    rw [tl] at this
    rw [List.getElem?_take_of_lt this] at e
    exact ka0 e
  refine kc7 (kam (g_setO' (kfq ⟨_,_,_,_,rfl,kab rfl,ka0 hs,by unfold setO; dsimp only; rw [if_pos ⟨by decide,kah rfl⟩],?_⟩)))
  refine kam (g_setO kaw (kab rfl) (kbv (ka0 hs)) (by unfold setO; dsimp only; rw [if_pos ⟨by decide,kah rfl⟩]) ?_)
  refine kam (g_setO kaw (kab rfl) (kbv (kbv (ka0 hs))) (by unfold setO; dsimp only; rw [if_pos ⟨by decide,kah rfl⟩]) ?_)
  refine kam (g_setO kaw (kab rfl) (kbv (kbv (kbv (ka0 hs)))) (by unfold setO; dsimp only; rw [if_pos ⟨by decide,kah rfl⟩]) ?_)
  rw [List.set_set,List.set_set,List.set_set]
  rw [show ke6 (ke6 (ke6 (ke6 [] "_node2info" (.ref H.length)) "_ready_nodes" .none) "_npassedout" (.int 0)) "_nfinished" (.int 0) = fsOf H.length .none 0 0 by rfl]
  have B0 : Bld (H.take s) s H.length [] (suW W 0) (npW W 0) id id 0 ((H ++ [O.dict [] 0]).set s (.inst (fsOf H.length .none 0 0))) :=
    ⟨K.old (Nat.le_of_eq tl),kbv (ka0 hs),ka6 kbp (fun q => by omega),fun _ h => (nomatch h),fun _ h => (nomatch h),fun _ _ h => (nomatch h),.nil,fun k _ => ⟨rfl,if_neg (Nat.not_lt_zero _)⟩,Nat.le_of_eq tl,by rw [tl]; omega,fun _ h => (nomatch h),fun _ h => (nomatch h)⟩
  generalize (H ++ [O.dict [] 0]).set s (.inst (fsOf H.length .none 0 0)) = H1 at B0
  generalize H.length = d at B0
  refine g_ifT (ev_isnt (kab rfl)) ?_
  have gk : ∀ {nodes su np na sa ep H'},Bld (H.take s) s d nodes su np na sa ep H' → H'[g]? = some (.dict (esOf wa (List.range n)) epg) := fun B => B.keep _ _ (old hg nofun) id
  refine kio (InI (H.take s) W s d g)
    (kas (kab rfl) (kas (kcf (gk B0)) ka7)) (fun i f' H' hi ⟨_,_,_,_,_,_,_,B,_⟩ => gk B) ⟨[],id,id,0,none,none,rfl,B0,fun j => ⟨nofun,fun q => q.elim (fun q => absurd q (Nat.not_lt_zero _)) fun ⟨_,q,_⟩ => absurd q (Nat.not_lt_zero _)⟩⟩ ?_ ?_
  · rintro i v f' H' hv ⟨nodes,na,sa,ep,e2,e3,rfl,B,hmem⟩
    have hi : i < n := by
      have := (List.getElem?_eq_some_iff.mp hv).1
      unfold esOf at this
      rwa [List.length_map,List.length_map,List.length_range] at this
    unfold esOf at hv
    rw [List.map_map,List.getElem?_map,List.getElem?_range hi] at hv
    cases hv
    have hw : H'[wa i]? = some (lst0 nv (W i)) := B.keep _ _ (old (hW i hi) nofun) id
    have hlen : ∀ {l : List Nat},l.Nodup → (∀ j ∈ l,j < n) → l.length < 500 := fun h1 h2 => Nat.lt_of_le_of_lt (kbq n _ h1 h2) (Nat.lt_trans hn (kah rfl))
    refine kaz (kcd (kah rfl) (kcd (kah rfl) (kc4 (kan (kab rfl) (kan (show Ev (bnd (rd s) _) _ _ () from kas (kcf B.inst) (by rw [if_pos kjp]; exact ka7)) (kan (kab rfl) (kan (kab rfl) (kan (a := (⟨(W i).map nv,some (wa i,lst0 nv (W i))⟩ : Src)) (ev_lst hw ka7) ?_))))))))
    show ok (orF (khs ((W i).map nv)) _) _ _ _
    rw [atsOf_nv]
    show ok (if ((W i).map fun k => At.int (Int.ofNat k)).length < 1000 then _ else _) _ _ _
    rw [if_pos (by rw [List.length_map]; exact Nat.lt_trans (hlen (hd i hi) (hm i hi)) (kah rfl))]
    refine add_ok B i (W i) (hd i hi) (if_neg (Nat.lt_irrefl i)) hn (fun j hj => ?_) hi (hm i hi) (fun j => ?_) fun nodes' na' sa' ep' H2 B2 hm2 => ⟨nodes',na',sa',ep',_,_,rfl,?_,fun j => ?_⟩
    · rcases (hmem j).mp hj with q | ⟨k,q,q'⟩
      · exact Nat.lt_trans q hi
      · exact hm k (Nat.lt_trans q hi) j q'
    · exact Nat.lt_of_le_of_lt (Nat.le_trans (List.length_filter_le ..) (by rw [List.length_range]; exact Nat.le_of_lt hi)) (Nat.lt_trans hn (kah rfl))
    · rw [suW_step,npW_step] at B2; exact B2
    · rw [hm2 j,hmem j]
      constructor
      · rintro ((q | ⟨k,q,q'⟩) | q | q)
        · exact .inl (Nat.lt_succ_of_lt q)
        · exact .inr ⟨k,Nat.lt_succ_of_lt q,q'⟩
        · exact .inl (q ▸ Nat.lt_succ_self _)
        · exact .inr ⟨i,Nat.lt_succ_self i,q⟩
      · rintro (q | ⟨k,q,q'⟩)
        · exact (Nat.lt_succ_iff_lt_or_eq.mp q).elim (fun q => .inl (.inl q)) fun q => .inr (.inl q)
        · rcases Nat.lt_succ_iff_lt_or_eq.mp q with q | q
          · exact .inl (.inr ⟨k,q,q'⟩)
          · exact .inr (.inr (q ▸ q'))
  · rintro f' H' ⟨nodes,na,sa,ep,e2,e3,rfl,B,hmem⟩
    have e : ((esOf wa (List.range n)).map fun e => V.tup [.int e.1,e.2]).length = n := by unfold esOf; rw [List.length_map,List.length_map,List.length_range]
    rw [e] at B hmem
    exact ⟨_,rfl,kk _ _ _ _ _ _ B fun j => by rw [hmem j]; exact ⟨fun q => q.elim id fun ⟨k,q,q'⟩ => hm k q j q',.inl⟩⟩
theorem make_ok {x : Nat} {Φ : V → Fm → Hp → Prop} (hf : f[0]? = some (some (rv x))) (hx : H[x]? = some (.list ((List.range n).map fun k => rv (wa k)))) (hW : ∀ k,k < n → H[wa k]? = some (lst0 nv (W k))) (hd : ∀ k,k < n → (W k).Nodup) (hm : ∀ k,k < n → ∀ j ∈ W k,j < n) (hn : n < 100)
    (kk : ∀ s d nodes na sa ep H',Bld H s d nodes (suW W n) (npW W n) na sa ep H' → (∀ j,j ∈ nodes ↔ j < n) → Φ (rv s) f H') :
    ok (make (.inst []) 4 kbb [kgu (app1 kct (app1 kd2 (loc 0))) [none,none,some 0] (kdn 1) (loc 1) (app2 get (loc 2) (loc 1))]) f H Φ := by
  refine kaz (kaz (graph_ok hf hx (Nat.lt_trans hn (kah rfl)) (kan kax (kbw (kaz (kfq (kaz ?_)))))))
  refine init_ok (n := n) (wa := wa) (W := W) (ka0 kbp) kbp (by rw [List.length_append (bs := [O.inst []])]; rfl) (fun k hk => ka0 (ka0 (hW k hk))) hd hm hn fun d nodes na sa ep H' B hmem => kbw (kk _ d nodes na sa ep H' ?_ hmem)
  rw [List.take_left'] at B
  · have L : H.length ≤ (H ++ [O.dict (esOf wa (List.range n)) n]).length := by rw [List.length_append]; exact Nat.le_add_right _ _
    exact ⟨(show Ke K0 H _ from .app).trans B.keep fun _ _ _ q => q,B.inst,B.dict,B.node,B.succ,B.sinj,B.nd,B.off,Nat.le_trans L B.fs,Nat.le_trans L B.fd,fun k hk => Nat.le_trans L (B.fn k hk),fun k hk => Nat.le_trans L (B.fa k hk)⟩
  · rfl
end
end Mine.Q
namespace Mine.Q
open PySem
noncomputable def tot (p : Nat → Nat) : Nat → Nat
  | 0 => 0
  | n + 1 => tot p n + p n
theorem tot_same {p q : Nat → Nat} : ∀ {n : Nat},(∀ j,j < n → p j = q j) → tot p n = tot q n
  | 0,_ => rfl
  | n + 1,h => by unfold tot; rw [tot_same fun j hj => h j (Nat.lt_succ_of_lt hj),h n (Nat.lt_succ_self n)]
noncomputable def updN (p : Nat → Nat) (k v : Nat) : Nat → Nat := fun j => if j = k then v else p j
theorem tot_up {p : Nat → Nat} {k : Nat} : ∀ {n : Nat},k < n → tot (updN p k (p k + 1)) n = tot p n + 1
  | n + 1,h => by
    unfold tot
    by_cases e : k = n
    · subst e
      rw [tot_same (p := updN p k (p k + 1)) (q := p) fun j hj => if_neg (Nat.ne_of_lt hj),show updN p k (p k + 1) k = p k + 1 from if_pos rfl]; rfl
    · rw [tot_up (Nat.lt_of_le_of_ne (Nat.le_of_lt_succ h) e),show updN p k (p k + 1) n = p n from if_neg (Ne.symm e)]; exact Nat.add_right_comm ..
theorem tot_le {p : Nat → Nat} {b : Nat} : ∀ {n : Nat},(∀ j,j < n → p j ≤ b) → tot p n ≤ n * b
  | 0,_ => Nat.zero_le _
  | n + 1,h => by unfold tot; rw [Nat.succ_mul]; exact Nat.add_le_add (tot_le fun j hj => h j (Nat.lt_succ_of_lt hj)) (h n (Nat.lt_succ_self n))
structure Gr (n : Nat) (d ep : Nat) (na sa : Nat → Nat) (nodes : List Nat) (su : Nat → List Nat) (np : Nat → Int) (r : Nat → Nat) (H : Hp) : Prop where
  dict : H[d]? = some (.dict (esOf na nodes) ep)
  node : ∀ k,k < n → H[na k]? = some (ndO sa np k)
  succ : ∀ k,k < n → H[sa k]? = some (lst0 nv (su k))
  sinj : ∀ j k,j < n → k < n → sa j = sa k → j = k
  mem : ∀ k,k ∈ nodes ↔ k < n
  up : ∀ k,k < n → ∀ j ∈ su k,j < n ∧ r k < r j
  len : ∀ k,k < n → (su k).length ≤ n
theorem Gr.keep {n d ep : Nat} {na sa : Nat → Nat} {nodes : List Nat} {su : Nat → List Nat} {np : Nat → Int} {r : Nat → Nat} {H H' : Hp} (G : Gr n d ep na sa nodes su np r H) (k : Ke K0 H H') : Gr n d ep na sa nodes su np r H' :=
  ⟨k _ _ G.dict id,fun i h => k _ _ (G.node i h) id,fun i h => k _ _ (G.succ i h) id,G.sinj,G.mem,G.up,G.len⟩
structure FS (H0 : Hp) (n : Nat) (sa : Nat → Nat) (su : Nat → List Nat) (r : Nat → Nat) (st iS se nd : Nat) (stk seen : List Nat) (pp : Nat → Nat) (g : Nat → Int) (ep : Nat) (ix nx : Nat → Nat) (H : Hp) : Prop where
  keep : Ke K0 H0 H
  hst : H[st]? = some (lst0 nv stk)
  his : H[iS]? = some (lst0 (fun v => rv (nx v)) stk)
  hse : H[se]? = some (.set (seen.map Int.ofNat))
  hnd : H[nd]? = some (.dict (stk.map fun v => (Int.ofNat v,At.int (g v))) ep)
  hnx : ∀ v ∈ stk,H[nx v]? = some (.nxt (ix v))
  hix : ∀ v ∈ stk,H[ix v]? = some (.iter (sa v) (some (pp v)))
  up : stk.Pairwise (fun a b => r a < r b)
  sub : ∀ v ∈ stk,v ∈ seen
  bnd : ∀ v ∈ seen,v < n
  dis : seen.Nodup
  zero : ∀ v,v ∉ seen → pp v = 0
  le : ∀ v,v < n → pp v ≤ (su v).length
  ne : st ≠ iS
  f1 : H0.length ≤ st
  f2 : H0.length ≤ iS
  f3 : H0.length ≤ se
  f4 : H0.length ≤ nd
  f5 : ∀ v ∈ stk,H0.length ≤ ix v
section
variable {H0 : Hp} {n : Nat} {sa : Nat → Nat} {su : Nat → List Nat} {r : Nat → Nat} {st iS se nd : Nat} {stk seen : List Nat} {pp : Nat → Nat} {g : Nat → Int} {ep : Nat} {ix nx : Nat → Nat} {H : Hp}
theorem FS.nodup (F : FS H0 n sa su r st iS se nd stk seen pp g ep ix nx H) : stk.Nodup := F.up.imp fun h e => by rw [e] at h; exact Nat.lt_irrefl _ h
theorem FS.push {H' : Hp} {x y : Nat} (F : FS H0 n sa su r st iS se nd stk seen pp g ep ix nx H) {v : Nat} (hv : v ∉ seen) (hn : v < n) (hr : ∀ w ∈ stk,r w < r v) {m : Int}
    (K : ∀ a o,H[a]? = some o → a ≠ st → a ≠ iS → a ≠ se → a ≠ nd → H'[a]? = some o) (hx : H'[x]? = some (.iter (sa v) (some 0))) (hy : H'[y]? = some (.nxt x)) (fx : H0.length ≤ x)
    (h1 : H'[st]? = some (lst0 nv (stk ++ [v]))) (h2 : H'[iS]? = some (lst0 (fun w => rv (if w = v then y else nx w)) (stk ++ [v]))) (h3 : H'[se]? = some (.set ((seen ++ [v]).map Int.ofNat)))
    (h4 : H'[nd]? = some (.dict ((stk ++ [v]).map fun w => (Int.ofNat w,At.int (if w = v then m else g w))) (ep + 1))) :
    FS H0 n sa su r st iS se nd (stk ++ [v]) (seen ++ [v]) pp (fun w => if w = v then m else g w) (ep + 1) (fun w => if w = v then x else ix w) (fun w => if w = v then y else nx w) H' := by
  have up : ∀ {w},w ∈ stk ++ [v] → w ≠ v → w ∈ stk := fun h q => (List.mem_append.mp h).elim id fun h => (q (List.mem_singleton.mp h)).elim
  have old : ∀ {a o},H0.length ≤ a → H0[a]? = some o → False := fun h e => Nat.not_lt.mpr h (List.getElem?_eq_some_iff.mp e).1
  refine ⟨fun a o e _ => K a o (F.keep a o e id) (fun q => old F.f1 (q ▸ e)) (fun q => old F.f2 (q ▸ e)) (fun q => old F.f3 (q ▸ e)) (fun q => old F.f4 (q ▸ e)),h1,h2,h3,h4,fun w hw => ?_,fun w hw => ?_,?_,fun w hw => ?_,fun w hw => ?_,?_,fun w hw => F.zero w fun q => hw (List.mem_append_left _ q),F.le,F.ne,F.f1,F.f2,F.f3,F.f4,fun w hw => ?_⟩
  · show (_ : List O)[if w = v then y else nx w]? = some (.nxt (if w = v then x else ix w))
    by_cases q : w = v
    · rw [if_pos q,if_pos q]; exact hy
    · rw [if_neg q,if_neg q]
      have h := F.hnx w (up hw q)
      exact K _ _ h (kaj h F.hst nofun) (kaj h F.his nofun) (kaj h F.hse nofun) (kaj h F.hnd nofun)
  · show (_ : List O)[if w = v then x else ix w]? = some (.iter (sa w) (some (pp w)))
    by_cases q : w = v
    · rw [if_pos q,q,F.zero v hv]; exact hx
    · rw [if_neg q]
      have h := F.hix w (up hw q)
      exact K _ _ h (kaj h F.hst nofun) (kaj h F.his nofun) (kaj h F.hse nofun) (kaj h F.hnd nofun)
  · exact List.pairwise_append.mpr ⟨F.up,List.pairwise_singleton _ _,fun a ha b hb => by rw [List.mem_singleton.mp hb]; exact hr a ha⟩
  · exact (List.mem_append.mp hw).elim (fun h => List.mem_append_left _ (F.sub w h)) fun h => List.mem_append_right _ h
  · exact (List.mem_append.mp hw).elim (F.bnd w) fun h => List.mem_singleton.mp h ▸ hn
  · exact List.nodup_append.mpr ⟨F.dis,List.pairwise_singleton _ _,fun a ha b hb e => hv (by rw [← List.mem_singleton.mp hb,← e]; exact ha)⟩
  · show H0.length ≤ if w = v then x else ix w
    split
    · exact fx
    · rename_i q; exact F.f5 w (up hw q)
theorem FS.next (F : FS H0 n sa su r st iS se nd stk seen pp g ep ix nx H) (sinj : ∀ j k,j < n → k < n → sa j = sa k → j = k) {v : Nat} (hv : v ∈ stk) (hl : pp v < (su v).length) :
    FS H0 n sa su r st iS se nd stk seen (updN pp v (pp v + 1)) g ep ix nx (H.set (ix v) (.iter (sa v) (some (pp v + 1)))) := by
  have hx := F.hix v hv
  refine ⟨F.keep.old (F.f5 v hv),ka6 F.hst (kaj F.hst hx nofun),ka6 F.his (kaj F.his hx nofun),ka6 F.hse (kaj F.hse hx nofun),ka6 F.hnd (kaj F.hnd hx nofun),fun w hw => ka6 (F.hnx w hw) (kaj (F.hnx w hw) hx nofun),fun w hw => ?_,F.up,F.sub,F.bnd,F.dis,fun w hw => ?_,fun w hw => ?_,F.ne,F.f1,F.f2,F.f3,F.f4,F.f5⟩
  · show (_ : List O)[ix w]? = some (.iter (sa w) (some (if w = v then pp v + 1 else pp w)))
    by_cases q : w = v
    · rw [if_pos q,q]; exact kbv hx
    · rw [if_neg q]; exact ka6 (F.hix w hw) (kaj (F.hix w hw) hx fun e => q (by injection e with e; exact sinj w v (F.bnd w (F.sub w hw)) (F.bnd v (F.sub v hv)) e))
  · show (if w = v then pp v + 1 else pp w) = 0
    rw [if_neg fun e => hw (by rw [e]; exact F.sub v hv)]; exact F.zero w hw
  · show (if w = v then pp v + 1 else pp w) ≤ _
    by_cases q : w = v
    · rw [if_pos q,q]; exact hl
    · rw [if_neg q]; exact F.le w hw
theorem FS.pop {H' : Hp} {v : Nat} {stk : List Nat} (F : FS H0 n sa su r st iS se nd (stk ++ [v]) seen pp g ep ix nx H) (sinj : ∀ j k,j < n → k < n → sa j = sa k → j = k)
    (K : ∀ a o,H[a]? = some o → a ≠ st → a ≠ iS → a ≠ nd → a ≠ ix v → H'[a]? = some o)
    (h1 : H'[st]? = some (lst0 nv stk)) (h2 : H'[iS]? = some (lst0 (fun w => rv (nx w)) stk)) (h4 : H'[nd]? = some (.dict (stk.map fun w => (Int.ofNat w,At.int (g w))) (ep + 1))) :
    FS H0 n sa su r st iS se nd stk seen pp g (ep + 1) ix nx H' := by
  have hv : v ∈ stk ++ [v] := List.mem_append_right _ (.head _)
  have hx := F.hix v hv
  have up : ∀ {w},w ∈ stk → w ∈ stk ++ [v] := fun h => List.mem_append_left _ h
  have nev : ∀ w ∈ stk,w ≠ v := fun w hw e => (List.nodup_append.mp F.nodup).2.2 w hw v (.head _) e
  have old : ∀ {a o},H0.length ≤ a → H0[a]? = some o → False := fun h e => Nat.not_lt.mpr h (List.getElem?_eq_some_iff.mp e).1
  refine ⟨fun a o e _ => K a o (F.keep a o e id) (fun q => old F.f1 (q ▸ e)) (fun q => old F.f2 (q ▸ e)) (fun q => old F.f4 (q ▸ e)) (fun q => old (F.f5 v hv) (q ▸ e)),h1,h2,K _ _ F.hse (kaj F.hse F.hst nofun) (kaj F.hse F.his nofun) (kaj F.hse F.hnd nofun) (kaj F.hse hx nofun),h4,fun w hw => ?_,fun w hw => ?_,(List.pairwise_append.mp F.up).1,fun w hw => F.sub w (up hw),F.bnd,F.dis,F.zero,F.le,F.ne,F.f1,F.f2,F.f3,F.f4,fun w hw => F.f5 w (up hw)⟩
  · have h := F.hnx w (up hw)
    exact K _ _ h (kaj h F.hst nofun) (kaj h F.his nofun) (kaj h F.hnd nofun) (kaj h hx nofun)
  · have h := F.hix w (up hw)
    exact K _ _ h (kaj h F.hst nofun) (kaj h F.his nofun) (kaj h F.hnd nofun) (kaj h hx fun e => nev w hw (by injection e with e; exact sinj w v (F.bnd w (F.sub w (up hw))) (F.bnd v (F.sub v hv)) e))
end
end Mine.Q
namespace Mine.Q
open PySem
theorem kl1 {g : Nat → At} {k : Nat} {l : List Nat} : (l.map fun w => (Int.ofNat w,g w)).any (fun e => e.1 == Int.ofNat k) = decide (k ∈ l) := by
  rw [List.any_map]
  by_cases h : k ∈ l
  · rw [decide_eq_true h]; exact List.any_eq_true.mpr ⟨k,h,beq_self_eq_true _⟩
  · rw [decide_eq_false h]
    exact List.any_eq_false.mpr fun x hx q => h (by have := Int.ofNat.inj (eq_of_beq q); rw [← this]; exact hx)
theorem key_cut {g : Nat → At} {v : Nat} {l : List Nat} (h : v ∉ l) : ((l ++ [v]).map fun w => (Int.ofNat w,g w)).filter (fun e => e.1 != Int.ofNat v) = l.map fun w => (Int.ofNat w,g w) := by
  rw [List.map_append,List.filter_append,List.filter_eq_self.mpr,List.filter_eq_nil_iff.mpr,List.append_nil]
  · intro e he; rw [List.mem_singleton.mp he,bne_self_eq_false]; exact Bool.false_ne_true
  · intro e he
    obtain ⟨w,hw,rfl⟩ := List.mem_map.mp he
    exact bne_iff_ne.mpr fun q => h (by rw [← Int.ofNat.inj q]; exact hw)
theorem int_mem {k : Nat} {l : List Nat} : (l.map Int.ofNat).contains (Int.ofNat k) = decide (k ∈ l) := by
  by_cases h : k ∈ l
  · rw [decide_eq_true h]; exact List.contains_iff_mem.mpr (List.mem_map.mpr ⟨k,h,rfl⟩)
  · rw [decide_eq_false h,Bool.eq_false_iff]
    intro q
    obtain ⟨j,hj,e⟩ := List.mem_map.mp (List.contains_iff_mem.mp q)
    exact h (by rw [← Int.ofNat.inj e]; exact hj)
section
variable {H0 : Hp} {n : Nat} {na sa : Nat → Nat} {nodes : List Nat} {su : Nat → List Nat} {np : Nat → Int} {r : Nat → Nat} {d dep s st iS se nd : Nat}
noncomputable def fcF (s d st iS se nd : Nat) (w : Option V) : Fm := [some (rv s),some (rv d),some (rv st),some (rv iS),some (rv se),some (rv nd),w,none,none,none,none]
inductive FX (H0 : Hp) (n : Nat) (sa : Nat → Nat) (su : Nat → List Nat) (r : Nat → Nat) (st iS se nd : Nat) (stk : List Nat) (pp : Nat → Nat) (H : Hp) : Prop
  | mk (seen : _) (g ep ix nx : _) (F : FS H0 n sa su r st iS se nd stk seen pp g ep ix nx H)
inductive FxI (H0 : Hp) (n : Nat) (sa : Nat → Nat) (su : Nat → List Nat) (r : Nat → Nat) (s d st iS se nd : Nat) (pp : Nat → Nat) (m : Nat) (f' : Fm) (H' : Hp) : Prop
  | mk (w : Option V) (stk : List Nat) (q : m = stk.length) (e : f' = fcF s d st iS se nd w) (F : FX H0 n sa su r st iS se nd stk pp H')
inductive FxJ (H0 : Hp) (n : Nat) (sa : Nat → Nat) (su : Nat → List Nat) (r : Nat → Nat) (s d st iS se nd m : Nat) (f' : Fm) (H' : Hp) : Prop
  | mk (k : Nat) (stk : List Nat) (pp : Nat → Nat) (q : m = n * n - tot pp n) (e : f' = fcF s d st iS se nd (some (nv k))) (hk : k < n) (hw : ∀ w ∈ stk,r w < r k) (F : FX H0 n sa su r st iS se nd stk pp H')
inductive FxK (H0 : Hp) (n : Nat) (sa : Nat → Nat) (su : Nat → List Nat) (r : Nat → Nat) (s d st iS se nd : Nat) (f' : Fm) (H' : Hp) : Prop
  | mk (w : Option V) (pp : Nat → Nat) (e : f' = fcF s d st iS se nd w) (F : FX H0 n sa su r st iS se nd [] pp H')
theorem fc_inner (G : Gr n d dep na sa nodes su np r H0) (hn : n < 100) {Ψ : AF → Fm → Hp → Prop} {pp : Nat → Nat}
    (k1 : ∀ stk v j H,FX H0 n sa su r st iS se nd stk (updN pp v (pp v + 1)) H → v < n → j < n → (∀ w ∈ stk,r w < r j) → Ψ .next (fcF s d st iS se nd (some (nv j))) H)
    (k2 : ∀ w H,FX H0 n sa su r st iS se nd [] pp H → Ψ .brk (fcF s d st iS se nd w) H) (stk : List Nat) (w : Option V) (H : Hp) (h : FX H0 n sa su r st iS se nd stk pp H) :
    ok (kgx (test (loc 2)) (kaq [(ki7 6 (app2 get (loc 3) (cst (.int (-1)))) (kaq [(delS (loc 5) (app1 kez (loc 2))),(expr (app1 kez (loc 3)))]))]) (kaq [(ret .brk)])) (fcF s d st iS se nd w) H Ψ := by
  refine kh5 (FxI H0 n sa su r s d st iS se nd pp) ?_ fuel stk.length _ _ ?_ ⟨w,stk,rfl,rfl,h⟩
  · rintro m f' H' ⟨w,stk,rfl,rfl,seen,g,ep,ix,nx,F⟩
    refine g_ev (ev_testL (kab rfl) F.hst) ?_
    rw [List.isEmpty_map]
    rcases List.eq_nil_or_concat stk with rfl | ⟨l,v,rfl⟩
    · exact kbw (k2 w H' ⟨seen,g,ep,ix,nx,F⟩)
    · rw [List.concat_eq_append] at F ⊢
      have hv : v ∈ l ++ [v] := List.mem_append_right _ (.head _)
      have hvn := F.bnd v (F.sub v hv)
      have hsu := F.keep _ _ (G.succ v hvn) id
      rw [show (l ++ [v]).isEmpty = false by cases l <;> rfl]
      refine kan (kbt (kab rfl) kaw (ev_last (v := rv (nx v)) F.his (by rw [List.map_append]; exact List.getLast?_concat))) (kaz (kan (kcf (F.hnx v hv)) (kan (kcf (F.hix v hv)) (kan (kcf hsu) ?_))))
      show ok (nextAt (ix v) (sa v) (pp v) ((su v).map nv)[pp v]?) _ _ _
      rw [List.getElem?_map]
      cases hj : (su v)[pp v]? with
      | some j =>
        have hjm := List.mem_of_getElem? hj
        obtain ⟨hjn,hrj⟩ := G.up v hvn j hjm
        refine kaz (g_wr (F.hix v hv) (kbw (kaz (kcd (kah rfl) (kbw ?_)))))
        refine k1 _ v j _ ⟨seen,g,ep,ix,nx,F.next G.sinj hv (List.getElem?_eq_some_iff.mp hj).1⟩ hvn hjn fun w hw => ?_
        rcases List.mem_append.mp hw with q | q
        · exact Nat.lt_trans ((List.pairwise_append.mp F.up).2.2 w q v (.head _)) hrj
        · rw [List.mem_singleton.mp q]; exact hrj
      | none =>
        have hx := F.hix v hv
        have hnv : v ∉ l := fun q => (List.nodup_append.mp F.nodup).2.2 v q v (.head _) rfl
        have st1 := ka6 (o' := .iter (sa v) none) F.hst (kaj F.hst hx nofun)
        have is1 := ka6 (o' := .iter (sa v) none) F.his (kaj F.his hx nofun)
        have nd1 := ka6 (o' := .iter (sa v) none) F.hnd (kaj F.hnd hx nofun)
        unfold lst0 at st1 is1
        rw [List.map_append,List.map_singleton] at st1 is1
        refine kaz (g_wr hx (kbw (kam (kan (kab rfl) (kaz (kan (kab rfl) (kjx st1 List.getLast?_concat (kaz (g_dct (ka6 nd1 (kaj nd1 st1 nofun)) ?_)))))))))
        unfold int1
        dsimp only
        rw [kl1,decide_eq_true hv,if_pos rfl,key_cut hnv,List.dropLast_concat]
        refine g_wr (ka6 nd1 (kaj nd1 st1 nofun)) (kbw (kc4 (kan (kab rfl) (kjx (ka6 (ka6 is1 (Ne.symm F.ne)) (kaj is1 nd1 nofun)) List.getLast?_concat ?_))))
        rw [List.dropLast_concat]
        refine ⟨l.length,by rw [List.length_append]; exact Nat.lt_succ_self _,w,l,rfl,rfl,seen,g,ep + 1,ix,nx,F.pop G.sinj (fun a o e q1 q2 q3 q4 => ka6 (ka6 (ka6 (ka6 e q4) q1) q3) q2) ?_ (kbv (ka6 (ka6 is1 (Ne.symm F.ne)) (kaj is1 nd1 nofun))) ?_⟩
        · exact ka6 (ka6 (kbv st1) (kaj st1 nd1 nofun)) F.ne
        · exact ka6 (kbv (ka6 nd1 (kaj nd1 st1 nofun))) (kaj nd1 is1 nofun)
  · obtain ⟨seen,g,ep,ix,nx,F⟩ := h
    exact Nat.lt_of_le_of_lt (kbq n stk F.nodup fun v hv => F.bnd v (F.sub v hv)) (Nat.lt_trans hn (kah rfl))
theorem fc_outer (G : Gr n d dep na sa nodes su np r H0) (hn : n < 30) {Ψ : AF → Fm → Hp → Prop}
    (k : ∀ w pp H,FX H0 n sa su r st iS se nd [] pp H → Ψ .next (fcF s d st iS se nd w) H) (kn : Nat) (hkn : kn < n) (pp : Nat → Nat) (H : Hp) (h : FX H0 n sa su r st iS se nd [] pp H) :
    ok (kgx (ret true) (kaq [(ifte (cmp_ .In (loc 6) (loc 4)) (kaq [(ifte (cmp_ .In (loc 6) (loc 5)) (kaq [fail]) (kaq []))]) (kaq [(expr (addM (loc 4) (loc 6))),
      (expr (appM (loc 3) (app1 nextOf (app1 iterOf (app1 (attr · "successors") (app2 get (loc 1) (loc 6))))))),
      (putS (loc 5) (loc 6) (app1 kd2 (loc 2))),
      (expr (appM (loc 2) (loc 6)))])),
      (kgx (test (loc 2)) (kaq [(ki7 6 (app2 get (loc 3) (cst (.int (-1)))) (kaq [(delS (loc 5) (app1 kez (loc 2))),(expr (app1 kez (loc 3)))]))]) (kaq [(ret .brk)]))]) (kaq [])) (fcF s d st iS se nd (some (nv kn))) H Ψ := by
  have bound : ∀ {stk pp H},FX H0 n sa su r st iS se nd stk pp H → tot pp n ≤ n * n := fun ⟨_,_,_,_,_,F⟩ => tot_le fun j hj => Nat.le_trans (F.le j hj) (G.len j hj)
  refine kh5 (FxJ H0 n sa su r s d st iS se nd) ?_ fuel _ _ _ ?_ ⟨kn,[],pp,rfl,rfl,hkn,nofun,h⟩
  · rintro m f' H' ⟨k0,stk,pp,rfl,rfl,hk0,hr,seen,g,ep,ix,nx,F⟩
    refine g_ev ka7 ?_
    have rest : ∀ stk H,FX H0 n sa su r st iS se nd stk pp H → ok (kgx (test (loc 2)) (kaq [(ki7 6 (app2 get (loc 3) (cst (.int (-1)))) (kaq [(delS (loc 5) (app1 kez (loc 2))),(expr (app1 kez (loc 3)))]))]) (kaq [(ret .brk)])) (fcF s d st iS se nd (some (nv k0))) H
        (LP (fun f'' H'' => ∃ m',m' < n * n - tot pp n ∧ FxJ H0 n sa su r s d st iS se nd m' f'' H'') Ψ) := fun stk H hX =>
      fc_inner G (Nat.lt_trans hn (by decide)) (fun stk' v j H2 X hv hj hr => ⟨_,by have := bound X; rw [tot_up hv] at this ⊢; omega,j,stk',_,rfl,rfl,hj,hr,X⟩) (fun w H2 X => k w pp H2 X) stk _ H hX
    have hin : Ev (cmp_ .In (loc 6) (loc 4)) (fcF s d st iS se nd (some (nv k0))) H' (decide (k0 ∈ seen)) := kfd (kab rfl) (kab rfl) (kas (kcf F.hse) (by
      show Ev (ret ((seen.map Int.ofNat).contains (Int.ofNat k0))) _ _ _
      rw [int_mem]; exact ka7))
    have hns : k0 ∉ stk := fun q => Nat.lt_irrefl _ (hr k0 q)
    refine kam (g_if hin ?_)
    by_cases hk : k0 ∈ seen
    · rw [decide_eq_true hk]
      refine kjy (kfd (kab rfl) (kab rfl) (kas (kcf F.hnd) (show Ev (ret _) _ _ _ from ?_))) (ke7 (rest stk H' ⟨seen,g,ep,ix,nx,F⟩))
      rw [kl1,decide_eq_false hns]; exact ka7
    · rw [decide_eq_false hk]
      have hlt : ∀ {l : List Nat},l.Nodup → (∀ w ∈ l,w < n) → l.length < 1000 := fun h1 h2 => Nat.lt_of_le_of_lt (kbq n _ h1 h2) (Nat.lt_trans hn (kah rfl))
      have hsl := hlt F.dis F.bnd
      have hkl := hlt F.nodup fun v hv => F.bnd v (F.sub v hv)
      have G' := G.keep F.keep
      have hseC : (if (seen.map Int.ofNat).contains (Int.ofNat k0) then seen.map Int.ofNat else seen.map Int.ofNat ++ [Int.ofNat k0]) = (seen ++ [k0]).map Int.ofNat := by
        rw [int_mem,decide_eq_false hk,if_neg Bool.false_ne_true,List.map_append]; rfl
      refine kam (kc4 (kan (kab rfl) (kan (show Ev (bnd (rd se) _) _ _ () from kas (kcf F.hse) (if_pos rfl ▸ ka7)) (kan (kab rfl) (kan (kcf F.hse) ?_)))))
      show ok (if (seen.map Int.ofNat).length < 4000 then bnd (wr se (.set (if (seen.map Int.ofNat).contains (Int.ofNat k0) then seen.map Int.ofNat else seen.map Int.ofNat ++ [Int.ofNat k0]))) fun _ => cst .none else fail) _ _ _
      rw [hseC,if_pos (by rw [List.length_map]; exact Nat.lt_trans hsl (kah rfl))]
      refine kaz (g_wr F.hse (kbw ?_))
      have s1 : ∀ {a o},H'[a]? = some o → a ≠ se → (H'.set se (.set ((seen ++ [k0]).map Int.ofNat)))[a]? = some o := fun e q => ka6 e q
      have e_set := kbv (o' := .set ((seen ++ [k0]).map Int.ofNat)) F.hse
      have hlen : (H'.set se (.set ((seen ++ [k0]).map Int.ofNat))).length = H'.length := List.length_set
      generalize hH1 : H'.set se (.set ((seen ++ [k0]).map Int.ofNat)) = H1 at s1 e_set hlen
      have is1 := s1 F.his (kaj F.his F.hse nofun)
      have st1 := s1 F.hst (kaj F.hst F.hse nofun)
      have nd1 := s1 F.hnd (kaj F.hnd F.hse nofun)
      have d1 := s1 G'.dict (kaj G'.dict F.hse nofun)
      have n1 := s1 (G'.node k0 hk0) (kaj (G'.node k0 hk0) F.hse nofun)
      have sa1 := s1 (G'.succ k0 hk0) (kaj (G'.succ k0 hk0) F.hse nofun)
      refine kam (kc4 (kjz (x := iS) (xs := stk.map fun v => rv (nx v)) (kab rfl) is1 (kaz (kaz (g_ev (ev_su (kbt (kab rfl) (kab rfl) (ev_key d1 (khn ((G.mem k0).mpr hk0)))) n1) (kl9 sa1 (kfq (kan (kcf kbp) (show ok (if (0 : Nat) = 0 then new (.nxt H1.length) else fail) _ _ _ from ?_))))))) (by rw [List.length_map]; exact Nat.lt_trans hkl (kah rfl))))
      rw [if_pos rfl]
      refine kfq ⟨ka0 (ka0 is1),fun _ => ?_⟩
      have x2 : (H1 ++ [O.iter (sa k0) (some 0)] ++ [O.nxt H1.length])[H1.length]? = some (.iter (sa k0) (some 0)) := ka0 kbp
      have y2 := kbp (H := H1 ++ [O.iter (sa k0) (some 0)]) (o := .nxt H1.length)
      have s2 : ∀ {a o},H1[a]? = some o → (H1 ++ [O.iter (sa k0) (some 0)] ++ [O.nxt H1.length])[a]? = some o := fun e => ka0 (ka0 e)
      generalize hH2 : H1 ++ [O.iter (sa k0) (some 0)] ++ [O.nxt H1.length] = H2 at x2 y2 s2
      generalize (H1 ++ [O.iter (sa k0) (some 0)]).length = y at y2
      have is2 := s2 is1
      have st2 := s2 st1
      have nd2 := s2 nd1
      have e2 := s2 e_set
      have nd3 := ka6 (o' := .list (stk.map (fun v => rv (nx v)) ++ [rv y])) nd2 (kaj nd2 is2 nofun)
      have st3 := ka6 (o' := .list (stk.map (fun v => rv (nx v)) ++ [rv y])) st2 F.ne
      refine kam (kan (kgl (kab rfl) (ev_len st3)) (kan (kab rfl) (kan (kab rfl) (kaz (kan (kcf nd3) ?_)))))
      have hnew : kd5 (stk.map fun v => (Int.ofNat v,At.int (g v))) (Int.ofNat k0) (.int (Int.ofNat (stk.map nv).length)) = (stk ++ [k0]).map fun w => (Int.ofNat w,At.int (if w = k0 then Int.ofNat (stk.map nv).length else g w)) := by
        unfold kd5
        rw [kl1,decide_eq_false hns,if_neg Bool.false_ne_true,List.map_append]
        congr 1
        · exact List.map_congr_left fun w hw => by rw [if_neg fun e => hns (by rw [← e]; exact hw)]
        · show _ = [(Int.ofNat k0,At.int (if k0 = k0 then Int.ofNat (stk.map nv).length else g k0))]
          rw [if_pos rfl]
      show ok (if (stk.map fun v => (Int.ofNat v,At.int (g v))).length < lim then wr nd (.dict (kd5 (stk.map fun v => (Int.ofNat v,At.int (g v))) (Int.ofNat k0) (.int (Int.ofNat (stk.map nv).length))) (if (stk.map fun v => (Int.ofNat v,At.int (g v))).any (fun e => e.1 == Int.ofNat k0) then ep else ep + 1)) else fail) _ _ _
      rw [hnew,kl1,decide_eq_false hns,if_neg Bool.false_ne_true,if_pos (by rw [List.length_map]; exact Nat.lt_trans hkl (kah rfl))]
      have st4 := ka6 (o' := .dict ((stk ++ [k0]).map fun w => (Int.ofNat w,At.int (if w = k0 then Int.ofNat (stk.map nv).length else g w))) (ep + 1)) st3 (kaj st3 nd3 nofun)
      refine g_wr nd3 (kbw (kc4 (kfc (kab rfl) st4 (kab rfl) (by rw [List.length_map]; exact Nat.lt_trans hkl (kah rfl)) fun _ => rest (stk ++ [k0]) _ ⟨seen ++ [k0],_,ep + 1,_,_,F.push (x := H1.length) (y := y) hk hk0 hr (m := Int.ofNat (stk.map nv).length) (fun a o e q1 q2 q3 q4 => ?_) ?_ ?_ ?_ ?_ ?_ ?_ ?_⟩)))
      · exact ka6 (ka6 (ka6 (s2 (s1 e q3)) q2) q4) q1
      · exact ka6 (ka6 (ka6 x2 (kaj x2 is2 nofun)) (kaj x2 nd2 nofun)) (kaj x2 st2 nofun)
      · exact ka6 (ka6 (ka6 y2 (kaj y2 is2 nofun)) (kaj y2 nd2 nofun)) (kaj y2 st2 nofun)
      · rw [hlen]; exact F.keep.len
      · rw [show lst0 nv (stk ++ [k0]) = .list (stk.map nv ++ [nv k0]) by unfold lst0; rw [List.map_append]; rfl]; exact kbv st4
      · have e : (stk ++ [k0]).map (fun w => rv (if w = k0 then y else nx w)) = stk.map (fun v => rv (nx v)) ++ [rv y] := by
          rw [List.map_append]
          congr 1
          · exact List.map_congr_left fun w hw => by rw [if_neg fun e => hns (by rw [← e]; exact hw)]
          · show [rv (if k0 = k0 then y else nx k0)] = _
            rw [if_pos rfl]
        unfold lst0
        rw [e]
        have i3 := kbv (o' := .list (stk.map (fun v => rv (nx v)) ++ [rv y])) is2
        exact ka6 (ka6 i3 (kaj i3 nd3 nofun)) (Ne.symm F.ne)
      · exact ka6 (ka6 (ka6 e2 (kaj e2 is2 nofun)) (kaj e2 nd2 nofun)) (kaj e2 st2 nofun)
      · exact ka6 (kbv nd3) (kaj nd3 st3 nofun)
  · exact Nat.lt_of_le_of_lt (Nat.sub_le ..) (Nat.lt_of_le_of_lt (Nat.mul_le_mul (Nat.le_of_lt hn) (Nat.le_of_lt hn)) (kah rfl))
theorem kma {f : Fm} {H : Hp} {Φ : V → Fm → Hp → Prop} {rr : At} {po nf : Nat} (G : Gr n d dep na sa nodes su np r H) (hn : n < 30) (hs : H[s]? = some (.inst (fsOf d rr po nf))) (hnd : nodes.length < 1000) (k : ∀ H',Ke K0 H H' → Φ (.at .none) f H') : ok (call 11 kbn [rv s]) f H Φ := by
  refine kc7 (kam (kbo (ev_d (kab rfl) hs) (kah rfl) (kam (kbm (kfy ⟨kah rfl,kam (kbm (kfy ⟨kah rfl,kam (kbm (kfq ⟨kah rfl,kam (kbm (kfq ⟨kah rfl,kam ?_⟩))⟩))⟩))⟩)))))
  have e1 : (H ++ [O.list []]).length = H.length + 1 := by rw [List.length_append]; rfl
  have e2 : (H ++ [O.list []] ++ [O.list []]).length = H.length + 2 := by rw [List.length_append,e1]; rfl
  have e3 : (H ++ [O.list []] ++ [O.list []] ++ [O.set []]).length = H.length + 3 := by rw [List.length_append,e2]; rfl
  rw [e1,e2,e3]
  have K : Ke K0 H (H ++ [O.list []] ++ [O.list []] ++ [O.set []] ++ [O.dict [] 0]) := fun a o e _ => ka0 (ka0 (ka0 (ka0 e)))
  have F0 : FX H n sa su r H.length (H.length + 1) (H.length + 2) (H.length + 3) [] (fun _ => 0) (H ++ [O.list []] ++ [O.list []] ++ [O.set []] ++ [O.dict [] 0]) :=
    ⟨[],fun _ => 0,0,id,id,K,ka0 (ka0 (ka0 kbp)),ka0 (ka0 (by rw [← e1]; exact kbp)),ka0 (by rw [← e2]; exact kbp),by rw [← e3]; exact kbp,nofun,nofun,.nil,nofun,nofun,.nil,fun _ _ => rfl,fun _ _ => Nat.zero_le _,Nat.ne_of_lt (Nat.lt_succ_self _),Nat.le_refl _,Nat.le_succ _,Nat.le_add_right _ 2,Nat.le_add_right _ 3,nofun⟩
  generalize H ++ [O.list []] ++ [O.list []] ++ [O.set []] ++ [O.dict [] 0] = H1 at F0 K
  refine kio (fun _ => FxK H n sa su r s d H.length (H.length + 1) (H.length + 2) (H.length + 3)) (kas (kab rfl) (kas (kcf (K _ _ G.dict id)) ka7)) (fun i f' H' _ ⟨w,pp,_,⟨_,_,_,_,_,F⟩⟩ => F.keep _ _ G.dict id) ⟨none,_,rfl,F0⟩ ?_ ?_
  · rintro i v f' H' hv ⟨w,pp,rfl,X⟩
    unfold esOf at hv
    rw [List.map_map,List.getElem?_map] at hv
    obtain ⟨j,hj,rfl⟩ := Option.map_eq_some_iff.mp hv
    have hjn := (G.mem j).mp (List.mem_of_getElem? hj)
    refine kcd (kah rfl) ?_
    obtain ⟨seen,g,ep,ix,nx,F⟩ := id X
    have hin : Ev (cmp_ .In (loc 6) (loc 4)) (fcF s d H.length (H.length + 1) (H.length + 2) (H.length + 3) (some (nv j))) H' (decide (j ∈ seen)) := kfd (kab rfl) (kab rfl) (kas (kcf F.hse) (by
      show Ev (ret ((seen.map Int.ofNat).contains (Int.ofNat j))) _ _ _
      rw [int_mem]; exact ka7))
    refine kam (g_if hin ?_)
    by_cases hk : j ∈ seen
    · rw [decide_eq_true hk]
      exact kbw (kbw ⟨_,pp,rfl,X⟩)
    · rw [decide_eq_false hk]
      exact ke7 (fc_outer G hn (fun w pp H2 X => ⟨w,pp,rfl,X⟩) j hjn pp H' X)
  · rintro f' H' ⟨w,pp,rfl,seen,g,ep,ix,nx,F⟩
    exact kc6 kaw ⟨_,rfl,k H' F.keep⟩
end
end Mine.Q
namespace Mine.Q
open PySem
section
variable {H0 : Hp} {s d : Nat} {nodes : List Nat} {su : Nat → List Nat} {np : Nat → Int} {na sa : Nat → Nat} {ep : Nat} {H : Hp} {f : Fm} {n : Nat} {r : Nat → Nat}
theorem prepare_ok {Φ : V → Fm → Hp → Prop} (B : Bld H0 s d nodes su np na sa ep H) (hmem : ∀ j,j ∈ nodes ↔ j < n) (hn : n < 30) (hup : ∀ k,k < n → ∀ j ∈ su k,j < n ∧ r k < r j) (hlen : ∀ k,k < n → (su k).length ≤ n)
    (k : ∀ rr H',Srt n ⟨s,d,rr,ep,na,sa,nodes⟩ su np (nodes.filter fun j => decide (np j = 0)) 0 0 H' → Ke K0 H0 H' → (∀ j,j < n → H0.length ≤ na j) → H0.length ≤ s → H0.length ≤ rr → Φ (.at .none) f H') :
    ok (call 4 kba [rv s]) f H Φ := by
  have hl : nodes.length < 1000 := Nat.lt_of_le_of_lt (kbq n _ B.nd fun j hj => (hmem j).mp hj) (Nat.lt_trans hn (kah rfl))
  refine kc7 (kam (kjy (ev_isntN (ev_r (kab rfl) B.inst)) (ke7 (kam (g_setO' (kh6 (fun _ _ i ys (f : Fm) (H' : Hp) => (∃ w,f = [none,w]) ∧ ys = ((nodes.take i).filter fun j => decide (np j = 0)).map nv ∧ ∀ (a : Nat) (o : O),H[a]? = some o → H'[a]? = some o) ?_))))))
  refine kan (ev_d (kab rfl) B.inst) (g_dct B.dict (kbw ⟨rfl,⟨⟨none,rfl⟩,rfl,fun a o e => ka0 e⟩,fun i ys f H' ⟨_,_,K⟩ _ => K _ _ B.dict,?_,?_⟩))
  · rintro i v ys f H' hv ⟨⟨w,rfl⟩,rfl,K⟩ hacc
    unfold esOf at hv
    rw [List.map_map,List.getElem?_map] at hv
    obtain ⟨j,hj,rfl⟩ := Option.map_eq_some_iff.mp hv
    have hjm := List.mem_of_getElem? hj
    have N := K _ _ (B.node j hjm)
    have et : (nodes.take (i + 1)).filter (fun j => decide (np j = 0)) = (nodes.take i).filter (fun j => decide (np j = 0)) ++ if np j = 0 then [j] else [] := by
      rw [List.take_add_one,hj,Option.toList_some,List.filter_append,List.filter_cons]
      by_cases q : np j = 0
      · rw [decide_eq_true q,if_pos q]; rfl
      · rw [decide_eq_false q,if_neg q]; rfl
    refine ⟨by rw [List.length_map]; exact Nat.lt_of_le_of_lt (Nat.le_trans (List.length_filter_le ..) (List.length_take_le' ..)) (Nat.lt_trans hl (kah rfl)),kcd (kah rfl) ⟨_,ev_eqi (ev_np (kab rfl) N) kaw,?_⟩⟩
    rw [et]
    by_cases q : np j = 0
    · rw [decide_eq_true q,if_pos rfl,if_pos q]
      refine g_ev (ev_nd (kab rfl) N) ⟨hacc,⟨_,rfl⟩,by rw [List.map_append]; rfl,fun a o e => ka6 (K a o e) (ke2 e)⟩
    · rw [decide_eq_false q,if_neg Bool.false_ne_true,if_neg q,List.append_nil]
      exact ⟨hacc,⟨_,rfl⟩,rfl,K⟩
  · rintro ys f2 H1 ⟨_,rfl,K⟩ hacc
    have e : ((esOf na nodes).map fun e => V.at e.2).length = nodes.length := by unfold esOf; rw [List.length_map,List.length_map]
    rw [e,List.take_length] at hacc
    have i1 := K _ _ B.inst
    refine ⟨_,_,_,.inst (fsOf d (.ref H.length) 0 0),rfl,kab rfl,i1,by unfold setO; dsimp only; rw [if_pos ⟨by decide,kah rfl⟩]; rfl,?_⟩
    have i2 := kbv (o' := .inst (fsOf d (.ref H.length) 0 0)) i1
    have S : Srt n ⟨s,d,H.length,ep,na,sa,nodes⟩ su np (nodes.filter fun j => decide (np j = 0)) 0 0 (H1.set s (.inst (fsOf d (.ref H.length) 0 0))) :=
      ⟨i2,ka6 (K _ _ B.dict) (kaj B.dict B.inst nofun),fun j hj => ka6 (K _ _ (B.node j ((hmem j).mpr hj))) (kaj (B.node j ((hmem j).mpr hj)) B.inst nofun),fun j hj => ka6 (K _ _ (B.succ j ((hmem j).mpr hj))) (kaj (B.succ j ((hmem j).mpr hj)) B.inst nofun),ka6 hacc (kaj hacc i1 nofun),hmem,fun j hj => ke2 (B.succ j ((hmem j).mpr hj))⟩
    have K1 : Ke K0 H0 (H1.set s (.inst (fsOf d (.ref H.length) 0 0))) := (show Ke K0 H0 H1 from fun a o e _ => K a o (B.keep a o e id)).old B.fs
    refine kam (kbm (kgk (kab rfl) i2 kax (kma (n := n) (r := r) ⟨S.dict,S.node,S.succ,fun j k hj hk => B.sinj j k ((hmem j).mpr hj) ((hmem k).mpr hk),hmem,hup,hlen⟩ hn i2 hl fun H2 K2 => ⟨kah rfl,?_⟩)))
    refine kjy (show Ev (bnd (loc 1) truthy) _ _ _ from kas (kab rfl) ka7) (ke7 ⟨_,rfl,k _ H2 (S.keep K2 fun _ q => q.elim) (K1.trans K2 fun _ _ _ q => q) (fun j hj => B.fn j ((hmem j).mpr hj)) B.fs B.keep.len⟩)
end
section
variable {n : Nat} {A : SA} {W : Nat → List Nat} {P D rl : List Nat} {H : Hp}
noncomputable def cnt (W : Nat → List Nat) (D : List Nat) (k : Nat) : Nat := ((W k).filter fun j => decide (j ∉ D)).length
theorem cnt_cons {k : Nat} {D : List Nat} (hk : k ∉ D) : ∀ {l : List Nat},l.Nodup → k ∈ l → (l.filter fun j => decide (j ∉ k :: D)).length + 1 = (l.filter fun j => decide (j ∉ D)).length
  | x :: r,hn,hm => by
    obtain ⟨h1,h2⟩ := List.nodup_cons.mp hn
    rw [List.filter_cons,List.filter_cons]
    by_cases e : x = k
    · subst e
      rw [decide_eq_false (fun q => q (.head _)),decide_eq_true hk,if_neg Bool.false_ne_true,if_pos rfl,List.length_cons]
      congr 2
      refine List.filter_congr fun y hy => decide_eq_decide.mpr ⟨fun q q' => q (.tail _ q'),fun q q' => ?_⟩
      rcases List.mem_cons.mp q' with q' | q'
      · exact h1 (q' ▸ hy)
      · exact q q'
    · have ih := cnt_cons hk h2 ((List.mem_cons.mp hm).resolve_left (Ne.symm e))
      have : decide (x ∉ k :: D) = decide (x ∉ D) := decide_eq_decide.mpr ⟨fun q q' => q (.tail _ q'),fun q q' => (List.mem_cons.mp q').elim e q⟩
      rw [this]
      cases decide (x ∉ D)
      · exact ih
      · exact congrArg (· + 1) ih
theorem cnt_same {k j : Nat} {D : List Nat} (h : k ∉ W j) : cnt W (k :: D) j = cnt W D j := congrArg List.length (List.filter_congr fun x hx => decide_eq_decide.mpr ⟨fun q q' => q (.tail _ q'),fun q q' => (List.mem_cons.mp q').elim (fun e => h (e ▸ hx)) q⟩)
theorem cnt_zero {k : Nat} {D : List Nat} : cnt W D k = 0 ↔ ∀ j ∈ W k,j ∈ D := by
  unfold cnt
  rw [List.length_eq_zero_iff,List.filter_eq_nil_iff]
  exact ⟨fun h j hj => Decidable.not_not.mp fun q => h j hj (decide_eq_true q),fun h j hj q => of_decide_eq_true q (h j hj)⟩
noncomputable def npOf (W : Nat → List Nat) (P D : List Nat) (k : Nat) : Int := if k ∈ D then -2 else if k ∈ P then -1 else Int.ofNat (cnt W D k)
structure SI (n : Nat) (A : SA) (W : Nat → List Nat) (P D rl : List Nat) (H : Hp) : Prop where
  srt : Srt n A (suW W n) (npOf W P D) rl (D.length + P.length) D.length H
  pn : P.Nodup
  dn : D.Nodup
  rn : rl.Nodup
  pm : ∀ k ∈ P,k < n ∧ k ∉ D ∧ ∀ j ∈ W k,j ∈ D
  dm : ∀ k ∈ D,k < n ∧ ∀ j ∈ W k,j ∈ D
  rm : ∀ k,k ∈ rl ↔ k < n ∧ k ∉ P ∧ k ∉ D ∧ ∀ j ∈ W k,j ∈ D
theorem Srt.np {su : Nat → List Nat} {np np' : Nat → Int} {rl : List Nat} {po nf : Nat} (S : Srt n A su np rl po nf H) (h : ∀ k,k < n → np k = np' k) : Srt n A su np' rl po nf H :=
  ⟨S.inst,S.dict,fun k hk => by rw [S.node k hk]; unfold ndO; rw [h k hk],S.succ,S.ready,S.mem,S.ne⟩
theorem suW_mem {k j : Nat} : j ∈ suW W n k ↔ j < n ∧ k ∈ W j := by unfold suW; rw [List.mem_filter,List.mem_range,decide_eq_true_iff]
theorem SI.start {nodes : List Nat} (S : Srt n A (suW W n) (npW W n) (nodes.filter fun j => decide (npW W n j = 0)) 0 0 H) (hm : ∀ j,j ∈ nodes ↔ j < n) (hn : nodes.Nodup) : SI n A W [] [] (nodes.filter fun j => decide (npW W n j = 0)) H := by
  have e : ∀ k,k < n → npW W n k = npOf W [] [] k := fun k hk => by
    unfold npW npOf cnt
    rw [if_pos hk,if_neg List.not_mem_nil,if_neg List.not_mem_nil,List.filter_eq_self.mpr fun _ _ => decide_eq_true List.not_mem_nil]
  refine ⟨S.np e,.nil,.nil,hn.filter _,nofun,nofun,fun k => ?_⟩
  rw [List.mem_filter,hm,decide_eq_true_iff]
  refine and_congr_right fun hk => ?_
  rw [e k hk]
  unfold npOf
  rw [if_neg List.not_mem_nil,if_neg List.not_mem_nil,← cnt_zero]
  exact ⟨fun h => ⟨List.not_mem_nil,List.not_mem_nil,Int.ofNat.inj h⟩,fun h => congrArg Int.ofNat h.2.2⟩
theorem SI.keep {T : Nat → Prop} {H' : Hp} (S : SI n A W P D rl H) (k : Ke T H H') (h : ∀ a,T a → (∃ o,H[a]? = some o ∧ (a = A.s ∨ a = A.d ∨ a = A.r ∨ ∃ k,k < n ∧ (a = A.na k ∨ a = A.sa k))) → False) : SI n A W P D rl H' :=
  ⟨S.srt.keep k h,S.pn,S.dn,S.rn,S.pm,S.dm,S.rm⟩
theorem active_ok (S : SI n A W P D rl H) {f : Fm} {Φ : V → Fm → Hp → Prop} (k : Φ (.at (.bool (!P.isEmpty || !rl.isEmpty))) f H) : ok (call 3 ka2 [rv A.s]) f H Φ := by
  refine is_active_ok S.srt ?_
  have : decide (D.length < D.length + P.length) = !P.isEmpty := by
    cases P with
    | nil => exact decide_eq_false (Nat.lt_irrefl _)
    | cons x r => exact decide_eq_true (Nat.lt_add_of_pos_right (Nat.succ_pos _))
  rw [this]; exact k
theorem ready_ok (S : SI n A W P D rl H) (hn : n < 100) {f : Fm} {Φ : V → Fm → Hp → Prop} (k : ∀ H',SI n A W (P ++ rl) D [] H' → Ke (SW n A) H H' → Φ (.tup (rl.map fun k => .int (Int.ofNat k))) f H') : ok (call 8 ka3 [rv A.s]) f H Φ := by
  have b1 := kbq n P S.pn fun k hk => (S.pm k hk).1
  have b2 := kbq n D S.dn fun k hk => (S.dm k hk).1
  have b3 := kbq n rl S.rn fun k hk => ((S.rm k).mp hk).1
  refine get_ready_ok S.srt (fun k hk => ((S.rm k).mp hk).1) (by omega) (Nat.lt_of_le_of_lt b3 (Nat.lt_trans hn (kah rfl))) fun H' S' K => k H' ⟨?_,?_,S.dn,.nil,fun j hj => ?_,S.dm,fun j => ⟨nofun,fun h => ?_⟩⟩ K
  · rw [List.length_append,← Nat.add_assoc]
    refine S'.np fun j hj => ?_
    unfold npOf
    by_cases q : j ∈ rl
    · rw [if_pos q,if_neg ((S.rm j).mp q).2.2.1,if_pos (List.mem_append_right _ q)]
    · rw [if_neg q]
      by_cases q1 : j ∈ D
      · rw [if_pos q1,if_pos q1]
      · rw [if_neg q1,if_neg q1]
        by_cases q2 : j ∈ P
        · rw [if_pos q2,if_pos (List.mem_append_left _ q2)]
        · rw [if_neg q2,if_neg fun m => (List.mem_append.mp m).elim q2 q]
  · exact List.nodup_append.mpr ⟨S.pn,S.rn,fun a ha b hb e => ((S.rm b).mp hb).2.1 (e ▸ ha)⟩
  · rcases List.mem_append.mp hj with q | q
    · exact S.pm j q
    · have := (S.rm j).mp q; exact ⟨this.1,this.2.2.1,this.2.2.2⟩
  · exact absurd (List.mem_append_right P ((S.rm j).mpr ⟨h.1,fun q => h.2.1 (List.mem_append_left _ q),h.2.2⟩)) h.2.1
theorem done1_ok (S : SI n A W P D rl H) (hn : n < 100) (hW : ∀ k,k < n → (W k).Nodup) (hself : ∀ k,k < n → k ∉ W k) (hm : ∀ k,k < n → ∀ j ∈ W k,j < n) {k : Nat} (hk : k ∈ P) {f : Fm} {Φ : V → Fm → Hp → Prop} (kk : ∀ rl' H',SI n A W (P.erase k) (k :: D) rl' H' → Ke (SW n A) H H' → Φ (.at .none) f H') :
    ok (call 11 kbc [rv A.s,.tup [.int (Int.ofNat k)]]) f H Φ := by
  have b2 := kbq n D S.dn fun k hk => (S.dm k hk).1
  have b3 := kbq n rl S.rn fun k hk => ((S.rm k).mp hk).1
  obtain ⟨hkn,hkD,hkW⟩ := S.pm k hk
  have wait : ∀ j,j < n → k ∈ W j → j ∉ D ∧ j ∉ P ∧ npOf W P D j = Int.ofNat (cnt W D j) ∧ cnt W D j = cnt W (k :: D) j + 1 := fun j hj hm => by
    have h1 : j ∉ D := fun q => hkD ((S.dm j q).2 k hm)
    have h2 : j ∉ P := fun q => hkD ((S.pm j q).2.2 k hm)
    exact ⟨h1,h2,by unfold npOf; rw [if_neg h1,if_neg h2],(cnt_cons hkD (hW j hj) hm).symm⟩
  have hlen : (suW W n k).length ≤ n := by unfold suW; exact Nat.le_trans (List.length_filter_le ..) (Nat.le_of_eq List.length_range)
  have hsn : (suW W n k).Nodup := by unfold suW; exact List.nodup_range.filter _
  refine done_ok S.srt hkn (by unfold npOf; rw [if_neg hkD,if_pos hk]) hsn (fun j hj => ?_) (Nat.lt_of_le_of_lt b2 (Nat.lt_trans hn (kah rfl))) (by omega) fun H' S' K => kk (rl ++ (suW W n k).filter fun j => decide (npOf W P D j = 1)) H' ⟨?_,S.pn.erase k,List.nodup_cons.mpr ⟨hkD,S.dn⟩,?_,fun j hj => ?_,fun j hj => ?_,fun j => ?_⟩ K
  · obtain ⟨h1,h2⟩ := suW_mem.mp hj
    obtain ⟨_,_,e1,e2⟩ := wait j h1 h2
    refine ⟨h1,fun e => hself k hkn (e ▸ h2),?_,?_⟩
    · rw [e1,e2]; exact Int.ofNat_le.mpr (Nat.le_add_left 1 _)
    · rw [e1]
      exact Int.le_trans (Int.ofNat_le.mpr (Nat.le_trans (List.length_filter_le ..) (Nat.le_trans (kbq n _ (hW j h1) (hm j h1)) (Nat.le_of_lt hn)))) (by decide)
  · rw [show (k :: D).length + (P.erase k).length = D.length + P.length by
      rw [List.length_cons,List.length_erase_of_mem hk]; have := List.length_pos_of_mem hk; omega]
    refine S'.np fun j hj => ?_
    unfold dnp
    by_cases e : j = k
    · rw [if_pos e,e]; unfold npOf; rw [if_pos (show k ∈ k :: D from .head _)]
    · have n1 : j ∉ k :: D ↔ j ∉ D := ⟨fun q q' => q (.tail _ q'),fun q q' => (List.mem_cons.mp q').elim e q⟩
      rw [if_neg e]
      by_cases q : k ∈ W j
      · obtain ⟨h1,h2,e1,e2⟩ := wait j hj q
        rw [if_pos (suW_mem.mpr ⟨hj,q⟩),e1,e2]
        unfold npOf
        rw [if_neg (n1.mpr h1),if_neg fun m => h2 (List.mem_of_mem_erase m)]
        exact Int.add_sub_cancel (Int.ofNat _) 1
      · rw [if_neg fun m => q (suW_mem.mp m).2]
        unfold npOf
        rw [cnt_same q]
        by_cases a : j ∈ D
        · rw [if_pos a,if_pos (List.mem_cons_of_mem k a)]
        · rw [if_neg a,if_neg (n1.mpr a)]
          by_cases b : j ∈ P
          · rw [if_pos b,if_pos ((List.mem_erase_of_ne e).mpr b)]
          · rw [if_neg b,if_neg fun m => b (List.mem_of_mem_erase m)]
  · exact List.nodup_append.mpr ⟨S.rn,hsn.filter _,fun a ha b hb e => hkD (((S.rm a).mp ha).2.2.2 k (e ▸ (suW_mem.mp (List.mem_filter.mp hb).1).2))⟩
  · obtain ⟨q1,q2⟩ := (List.Nodup.mem_erase_iff S.pn).mp hj
    obtain ⟨p1,p2,p3⟩ := S.pm j q2
    exact ⟨p1,fun m => (List.mem_cons.mp m).elim q1 p2,fun i hi => .tail _ (p3 i hi)⟩
  · rcases List.mem_cons.mp hj with e | q
    · rw [e]; exact ⟨hkn,fun i hi => .tail _ (hkW i hi)⟩
    · exact ⟨(S.dm j q).1,fun i hi => .tail _ ((S.dm j q).2 i hi)⟩
  · constructor
    · intro hj
      rcases List.mem_append.mp hj with q | q
      · obtain ⟨p1,p2,p3,p4⟩ := (S.rm j).mp q
        exact ⟨p1,fun m => p2 (List.mem_of_mem_erase m),fun m => (List.mem_cons.mp m).elim (fun e => p2 (e ▸ hk)) p3,fun i hi => .tail _ (p4 i hi)⟩
      · obtain ⟨q1,q2⟩ := List.mem_filter.mp q
        obtain ⟨h1,h2⟩ := suW_mem.mp q1
        obtain ⟨p1,p2,e1,e2⟩ := wait j h1 h2
        have q3 := of_decide_eq_true q2
        rw [e1,e2] at q3
        exact ⟨h1,fun m => p2 (List.mem_of_mem_erase m),fun m => (List.mem_cons.mp m).elim (fun e => hself k hkn (e ▸ h2)) p1,cnt_zero.mp (Nat.succ.inj (Int.ofNat.inj q3))⟩
    · rintro ⟨p1,p2,p3,p4⟩
      have ne : j ≠ k := fun e => p3 (e ▸ .head _)
      have nP : j ∉ P := fun m => p2 ((List.mem_erase_of_ne ne).mpr m)
      by_cases q : k ∈ W j
      · obtain ⟨_,_,e1,e2⟩ := wait j p1 q
        refine List.mem_append_right _ (List.mem_filter.mpr ⟨suW_mem.mpr ⟨p1,q⟩,decide_eq_true ?_⟩)
        rw [e1,e2,cnt_zero.mpr p4]; rfl
      · exact List.mem_append_left _ ((S.rm j).mpr ⟨p1,nP,fun m => p3 (.tail _ m),fun i hi => (List.mem_cons.mp (p4 i hi)).resolve_left fun e => q (e ▸ hi)⟩)
end
end Mine.Q
namespace Mine.Q
open PySem
section
variable {f : Fm} {H : Hp}
theorem ints_nv : ∀ l : List Nat,ints? (l.map nv) = some (l.map Int.ofNat)
  | [] => rfl
  | x :: r => by show (ints? (r.map nv)).map _ = _; rw [ints_nv r]; rfl
theorem kgi {a : Nat} {l : List Nat} (h : H[a]? = some (lst0 nv l)) : kcq H a = some (l.map Int.ofNat) := by
  unfold kcq kei; rw [h]; exact ints_nv l
theorem sort_nv {l : List Nat} : kfn (fun x y => (ltV H x y).getD false) (l.map nv) = (sby (lk id) l).map nv := sby_map fun x _ y _ => by rw [ltV_nv]; rfl
theorem kiv {v : V} {l : List Nat} {Φ : V → Fm → Hp → Prop} (h : kfi H v = some (l.map nv)) (hl : l.length < 64) (k : Φ (rv H.length) f (H ++ [lst0 nv (sby (lk id) l)])) : ok (kga v) f H Φ := by
  refine ⟨_,_,_,?_,k⟩
  unfold kga
  rw [h]
  show (if decide ((l.map nv).length < 64) && khc H (l.map nv) then _ else _) = _
  unfold khc
  rw [ints_nv,List.length_map,decide_eq_true hl,sort_nv]
  rfl
theorem kgr {a : Nat} {l : List V} (h : H[a]? = some (.list l)) : kfi H (rv a) = some l := by
  show kei H a = some l; unfold kei; rw [h]
theorem items_tup {l : List Nat} : kfi H (.tup (l.map fun k => .int (Int.ofNat k))) = some (l.map nv) := by
  show some (List.map V.at (l.map _)) = _; rw [List.map_map]; rfl
def LL (H : Hp) (x m : Nat) (l : Nat → List Nat) : Prop := ∃ fa : Nat → Nat,H[x]? = some (lst0 (fun t => rv (fa t)) (List.range m)) ∧ ∀ t,t < m → H[fa t]? = some (lst0 nv (l t))
theorem khk {α β γ : Type} {g : α → Option β} {a : γ → α} {b : γ → β} : ∀ {l : List γ},(∀ t ∈ l,g (a t) = some (b t)) → mapO g (l.map a) = some (l.map b)
  | [],_ => rfl
  | x :: r,h => by
    show (match g (a x),mapO g (r.map a) with | some y,some l => some (y :: l) | _,_ => none) = _
    rw [h x (.head _),khk fun t ht => h t (.tail _ ht)]
    rfl
theorem LL.eq {x y m : Nat} {l : Nat → List Nat} (a : LL H x m l) (b : LL H y m l) : eqV H (rv x) (rv y) = some true := by
  have rd : ∀ {x},LL H x m l → rdV H (rv x) = some (if m = 0 then .d0 (.ints []) else .lists ((List.range m).map fun t => (l t).map Int.ofNat)) := fun {x} ⟨fa,h1,h2⟩ => by
    show (match kcq H x with | some l => some (Dt.d0 (.ints l)) | none => match kjn H x with | some l => some (.lists l) | none => (prsAt H x).map .prs) = _
    cases m with
    | zero => unfold kcq kei; rw [h1]; rfl
    | succ m =>
      have e : kcq H x = none := by
        unfold kcq kei; rw [h1]
        show ints? ((List.range (m + 1)).map fun t => rv (fa t)) = none
        rw [List.range_succ_eq_map]; rfl
      have e2 : kjn H x = some ((List.range (m + 1)).map fun t => (l t).map Int.ofNat) := by
        unfold kjn kei; rw [h1]
        exact khk fun t ht => kgi (h2 t (List.mem_range.mp ht))
      rw [e,e2,if_neg (Nat.succ_ne_zero m)]
  unfold eqV
  rw [rd a,rd b]
  exact congrArg some (decide_eq_true rfl)
end
def NA (n : Nat) (A : SA) (x : Nat) : Prop := x ≠ A.s ∧ x ≠ A.d ∧ x ≠ A.r ∧ ∀ k,k < n → x ≠ A.na k ∧ x ≠ A.sa k
theorem NA.out {n : Nat} {A : SA} {x : Nat} (h : NA n A x) : ¬ SW n A x := fun q => q.elim h.1 fun q => q.elim h.2.2.1 fun ⟨k,hk,e⟩ => (h.2.2.2 k hk).1 e
section
variable {n : Nat} {A : SA} {W : Nat → List Nat} {P D rl : List Nat} {H H' : Hp}
theorem SI.na (S : SI n A W P D rl H) : NA n A H.length :=
  ⟨Ne.symm (ke2 S.srt.inst),Ne.symm (ke2 S.srt.dict),Ne.symm (ke2 S.srt.ready),fun k hk => ⟨Ne.symm (ke2 (S.srt.node k hk)),Ne.symm (ke2 (S.srt.succ k hk))⟩⟩
theorem SI.keepN {T : Nat → Prop} (S : SI n A W P D rl H) (k : Ke T H H') (h : ∀ a,T a → NA n A a) : SI n A W P D rl H' :=
  S.keep k fun a t ⟨o,_,q⟩ => by
    obtain ⟨h1,h2,h3,h4⟩ := h a t
    rcases q with q | q | q | ⟨j,hj,q | q⟩
    · exact h1 q
    · exact h2 q
    · exact h3 q
    · exact (h4 j hj).1 q
    · exact (h4 j hj).2 q
theorem SI.app {l : Hp} (S : SI n A W P D rl H) : SI n A W P D rl (H ++ l) := S.keepN (T := K0) .app fun _ q => q.elim
theorem SI.setN {x : Nat} {o : O} (S : SI n A W P D rl H) (h : NA n A x) : SI n A W P D rl (H.set x o) := S.keepN (T := (· = x)) (.set rfl) fun _ q => q ▸ h
theorem khp {H0 : Hp} (K : Ke K0 H0 H) (hS : ∀ a,SW n A a → H0.length ≤ a) (k : Ke (SW n A) H H') : Ke K0 H0 H' := fun a o e _ => k a o (K a o e id) fun q => Nat.not_lt.mpr (hS a q) (List.getElem?_eq_some_iff.mp e).1
structure Wt (n : Nat) (W : Nat → List Nat) (ra rb : Nat → Nat) : Prop where
  w : ∀ k,W k = (List.range n).filter fun j => decide (ra j < ra k ∧ rb j < rb k)
  ia : ∀ a b,a < n → b < n → ra a = ra b → a = b
  ib : ∀ a b,a < n → b < n → rb a = rb b → a = b
  n30 : n < 30
section
variable {ra rb : Nat → Nat} (T : Wt n W ra rb)
include T
theorem Wt.mem {k j : Nat} : j ∈ W k ↔ j < n ∧ ra j < ra k ∧ rb j < rb k := by rw [T.w k,List.mem_filter,List.mem_range,decide_eq_true_iff]
theorem Wt.nodup (k : Nat) : (W k).Nodup := by rw [T.w k]; exact List.nodup_range.filter _
theorem Wt.self (k : Nat) : k ∉ W k := fun h => Nat.lt_irrefl _ ((T.mem).mp h).2.1
theorem Wt.n100 : n < 100 := Nat.lt_trans T.n30 (by decide)
theorem sorter_ok {i x : Nat} {wa : Nat → Nat} {f : Fm} {l : List (M AF)} {s₁ : M AF} {Φ : AF → Fm → Hp → Prop} (hf : f[0]? = some (some (rv x))) (hi : i < f.length) (hx : H[x]? = some (lst0 (fun k => rv (wa k)) (List.range n))) (hW : ∀ k,k < n → H[wa k]? = some (lst0 nv (W k)))
    (kk : ∀ A rl H',SI n A W [] [] rl H' → Ke K0 H H' → (∀ a,SW n A a → H.length ≤ a) → ok (kaq (s₁ :: l)) (f.set i (some (rv A.s))) H' Φ) :
    ok (kaq (assign i (make (.inst []) 4 kbb [kgu (app1 kct (app1 kd2 (loc 0))) [none,none,some 0] (kdn 1) (loc 1) (app2 get (loc 2) (loc 1))]) :: expr (kip 4 kba (loc i) []) :: s₁ :: l)) f H Φ := by
  refine kam (kbm (make_ok (n := n) (wa := wa) (W := W) hf hx hW (fun k _ => T.nodup k) (fun k _ j hj => (T.mem.mp hj).1) T.n100 fun s d nodes na sa ep H1 B hm => ⟨hi,?_⟩))
  refine kam (kc4 (kgk (kab (by rw [List.getElem?_set_self hi])) B.inst kax (prepare_ok (r := ra) B hm T.n30 (fun k hk j hj => ?_) (fun k hk => ?_) fun rr H2 S K h1 h2 h3 => ?_)))
  · obtain ⟨p1,p2⟩ := suW_mem.mp hj
    exact ⟨p1,(T.mem.mp p2).2.1⟩
  · unfold suW; exact Nat.le_trans (List.length_filter_le ..) (Nat.le_of_eq List.length_range)
  · exact kk ⟨s,d,rr,ep,na,sa,nodes⟩ _ H2 (.start S hm B.nd) K fun a q => by
      rcases q with q | q | ⟨j,hj,q⟩
      · rw [q]; exact h2
      · rw [q]; exact h3
      · rw [q]; exact h1 j hj
end
structure Ht (n : Nat) (ra rb : Nat → Nat) (m : Nat) (h : Nat → Nat) : Prop where
  lt : ∀ k,k < n → h k < m
  ne : ∀ t,t < m → ∃ k,k < n ∧ h k = t
  mono : ∀ j k,j < n → k < n → ra j < ra k → rb j < rb k → h j < h k
  pred : ∀ k,k < n → h k = 0 ∨ ∃ j,j < n ∧ ra j < ra k ∧ rb j < rb k ∧ h j + 1 = h k
theorem Ht.layer {ra rb : Nat → Nat} {m t : Nat} {h : Nat → Nat} (T : Wt n W ra rb) (Y : Ht n ra rb m h) (hD : ∀ k,k ∈ D ↔ k < n ∧ h k < t) (hr : ∀ k,k ∈ rl ↔ k < n ∧ k ∉ [] ∧ k ∉ D ∧ ∀ j ∈ W k,j ∈ D) (k : Nat) : k ∈ rl ↔ k < n ∧ h k = t := by
  rw [hr k]
  refine and_congr_right fun hk => ⟨fun ⟨_,h1,h2⟩ => ?_,fun e => ⟨List.not_mem_nil,fun q => ?_,fun j hj => ?_⟩⟩
  · have ge : t ≤ h k := Nat.le_of_not_lt fun q => h1 ((hD k).mpr ⟨hk,q⟩)
    rcases Y.pred k hk with e | ⟨j,hj,a,b,e⟩
    · rw [e] at ge ⊢; exact (Nat.le_zero.mp ge).symm
    · have := ((hD j).mp (h2 j (T.mem.mpr ⟨hj,a,b⟩))).2
      omega
  · have := ((hD k).mp q).2; omega
  · obtain ⟨h1,h2,h3⟩ := T.mem.mp hj
    exact (hD j).mpr ⟨h1,e ▸ Y.mono j k h1 hk h2 h3⟩
end
end Mine.Q
namespace Mine.Q
open PySem
section
variable {n : Nat} {A : SA} {W : Nat → List Nat} {P D rl : List Nat} {H H' : Hp} {ra rb : Nat → Nat}
theorem g_done (T : Wt n W ra rb) (S : SI n A W P D rl H) {k : Nat} (hk : k ∈ P) {o a : M V} {f : Fm} {Φ : V → Fm → Hp → Prop} (eo : Ev o f H (rv A.s)) (ea : Ev a f H (nv k)) (kk : ∀ rl' H',SI n A W (P.erase k) (k :: D) rl' H' → Ke (SW n A) H H' → Φ (.at .none) f H') :
    ok (ki0 11 kbc o a) f H Φ :=
  kan eo (kan (show Ev (bnd (rd A.s) _) f H () from kas (kcf S.srt.inst) (by rw [if_pos kjp]; exact ka7)) (kan ea (done1_ok S T.n100 (fun k _ => T.nodup k) (fun k _ => T.self k) (fun k _ j hj => (T.mem.mp hj).1) hk kk)))
noncomputable def lay (n : Nat) (h : Nat → Nat) (t : Nat) : List Nat := (List.range n).filter fun k => decide (h k = t)
theorem Ht.mn {m : Nat} {h : Nat → Nat} (Y : Ht n ra rb m h) : m ≤ n := by
  have key : ∀ c,c ≤ m → ∃ l : List Nat,l.length = c ∧ l.Nodup ∧ ∀ k ∈ l,k < n ∧ h k < c := fun c => by
    induction c with
    | zero => exact fun _ => ⟨[],rfl,.nil,nofun⟩
    | succ c ih =>
      intro hc
      obtain ⟨l,h1,h2,h3⟩ := ih (Nat.le_of_succ_le hc)
      obtain ⟨k,hk,e⟩ := Y.ne c hc
      refine ⟨k :: l,congrArg (· + 1) h1,List.nodup_cons.mpr ⟨fun q => Nat.lt_irrefl c (e ▸ (h3 k q).2),h2⟩,fun j hj => ?_⟩
      rcases List.mem_cons.mp hj with q | q
      · rw [q]; exact ⟨hk,e ▸ Nat.lt_succ_self _⟩
      · exact ⟨(h3 j q).1,Nat.lt_succ_of_lt (h3 j q).2⟩
  obtain ⟨l,h1,h2,h3⟩ := key m (Nat.le_refl m)
  exact h1 ▸ kbq n l h2 fun k hk => (h3 k hk).1
structure RI (H0 : Hp) (n : Nat) (A : SA) (W : Nat → List Nat) (h : Nat → Nat) (m x y t : Nat) (D rl : List Nat) (fa : Nat → Nat) (H : Hp) : Prop where
  si : SI n A W [] D rl H
  hD : ∀ k,k ∈ D ↔ k < n ∧ h k < t
  tm : t ≤ m
  hy : H[y]? = some (lst0 (fun i => rv (fa i)) (List.range t))
  hf : ∀ i,i < t → H[fa i]? = some (lst0 nv (lay n h i)) ∧ NA n A (fa i) ∧ fa i ≠ y
  na : NA n A y
  K : Ke K0 H0 H
  ly : H0.length ≤ y
noncomputable def roF (x s y : Nat) (e3 e4 : Option V) : Fm := [some (rv x),some (rv s),some (rv y),e3,e4,none,none,none,none]
inductive RoI (H : Hp) (n : Nat) (A : SA) (W : Nat → List Nat) (h : Nat → Nat) (m x y μ : Nat) (f' : Fm) (H' : Hp) : Prop
  | mk (t : Nat) (D rl : List Nat) (fa : Nat → Nat) (e3 e4 : Option V) (q : μ = n - D.length) (e : f' = roF x A.s y e3 e4) (c : RI H n A W h m x y t D rl fa H')
inductive RoJ (H : Hp) (n : Nat) (A : SA) (W : Nat → List Nat) (x y : Nat) (D rl : List Nat) (i : Nat) (f' : Fm) (H' : Hp) : Prop
  | mk (e4 : Option V) (rl' : List Nat) (e : f' = roF x A.s y (some (.tup (rl.map fun k => .int (Int.ofNat k)))) e4) (c : SI n A W (rl.drop i) ((rl.take i).reverse ++ D) rl' H') (k : Ke (SW n A) H H')
theorem rounds_ok (T : Wt n W ra rb) {m : Nat} {h : Nat → Nat} (Y : Ht n ra rb m h) {x : Nat} {wa : Nat → Nat} (hx : H[x]? = some (lst0 (fun k => rv (wa k)) (List.range n))) (hW : ∀ k,k < n → H[wa k]? = some (lst0 nv (W k))) {f : Fm} {Φ : V → Fm → Hp → Prop}
    (kk : ∀ a H',Ke K0 H H' → LL H' a m (lay n h) → Φ (rv a) f H') : ok (call 9 kff [rv x]) f H Φ := by
  refine kc7 (sorter_ok T rfl (kah rfl) hx hW fun A rl0 H1 S0 K1 hS => kam (kbm (kfy ⟨kah rfl,kam ?_⟩)))
  refine kh5 (RoI H n A W h m x H1.length) ?_ fuel n _ _ (Nat.lt_trans T.n30 (kah rfl))
    ⟨0,[],rl0,id,none,none,rfl,rfl,S0.app,fun k => ⟨nofun,fun q => absurd q.2 (Nat.not_lt_zero _)⟩,Nat.zero_le _,kbp,fun i hi => absurd hi (Nat.not_lt_zero _),S0.na,K1.trans (S' := K0) .app fun _ _ _ q => q,K1.len⟩
  generalize H1.length = y
  clear S0 K1
  rintro μ f' H2 ⟨t,D,rl,fa,e3,e4,rfl,rfl,R⟩
  have S := R.si
  have L := Y.layer T R.hD S.rm
  refine kaz (kgk (kab rfl) S.srt.inst kax (active_ok S (kbw ?_)))
  cases hr : rl with
  | nil =>
    subst hr
    have e : t = m := Nat.le_antisymm R.tm (Nat.le_of_not_lt fun q => by
      obtain ⟨k,hk,e⟩ := Y.ne t q
      exact nomatch (L k).mpr ⟨hk,e⟩)
    subst e
    rw [show (!([] : List Nat).isEmpty || !([] : List Nat).isEmpty) = false from rfl,if_neg Bool.false_ne_true,if_neg Bool.false_ne_true]
    exact ke7 (kc6 (kab rfl) ⟨_,rfl,kk y H2 R.K ⟨fa,R.hy,fun t ht => (R.hf t ht).1⟩⟩)
  | cons k0 r0 =>
    rw [← hr,show (!([] : List Nat).isEmpty || !rl.isEmpty) = true by rw [hr]; rfl,if_pos rfl,if_pos rfl]
    have hk0 := (L k0).mp (hr ▸ .head _)
    have b3 := kbq n rl S.rn fun k hk => ((S.rm k).mp hk).1
    refine kam (kbm (kgk (kab rfl) S.srt.inst kax (ready_ok S T.n100 fun H3 S3 K3 => ⟨kah rfl,?_⟩)))
    have hy3 : H3[y]? = some (lst0 (fun i => rv (fa i)) (List.range t)) := K3 _ _ R.hy R.na.out
    refine kam (kc4 (kjz (kab rfl) hy3 (kan (kab rfl) (kiv items_tup (Nat.lt_of_le_of_lt b3 (Nat.lt_trans T.n30 (by decide))) ⟨ka0 hy3,fun _ => ?_⟩)) (by rw [List.length_map,List.length_range]; exact Nat.lt_of_le_of_lt R.tm (Nat.lt_of_le_of_lt Y.mn (Nat.lt_trans T.n30 (by decide))))))
    · rw [sby_range (n := n) (p := fun k => decide (h k = t)) S.rn fun k => by rw [L k,decide_eq_true_iff]]
      have eL : O.list ((List.range t).map (fun i => rv (fa i)) ++ [rv H3.length]) = lst0 (fun i => rv (if i = t then H3.length else fa i)) (List.range (t + 1)) := by
        unfold lst0
        rw [List.range_succ,List.map_append]
        congr 2
        · exact List.map_congr_left fun i hi => by rw [if_neg (Nat.ne_of_lt (List.mem_range.mp hi))]
        · show _ = [rv (if t = t then H3.length else fa t)]; rw [if_pos rfl]
      rw [eL]
      have S4 : SI n A W rl D [] ((H3 ++ [lst0 nv (lay n h t)]).set y (lst0 (fun i => rv (if i = t then H3.length else fa i)) (List.range (t + 1)))) := S3.app.setN R.na
      have K4 : Ke K0 H ((H3 ++ [lst0 nv (lay n h t)]).set y (lst0 (fun i => rv (if i = t then H3.length else fa i)) (List.range (t + 1)))) := ((khp R.K hS K3).trans (S' := K0) .app fun _ _ _ q => q).old R.ly
      have hy4 := kbv (o' := lst0 (fun i => rv (if i = t then H3.length else fa i)) (List.range (t + 1))) (ka0 (l := [lst0 nv (lay n h t)]) hy3)
      have hf4 : ∀ i,i < t + 1 → ((H3 ++ [lst0 nv (lay n h t)]).set y (lst0 (fun i => rv (if i = t then H3.length else fa i)) (List.range (t + 1))))[if i = t then H3.length else fa i]? = some (lst0 nv (lay n h i)) ∧ NA n A (if i = t then H3.length else fa i) ∧ (if i = t then H3.length else fa i) ≠ y := fun i hi => by
        by_cases q : i = t
        · rw [if_pos q,q]
          exact ⟨ka6 kbp (Ne.symm (ke2 hy3)),S3.na,Ne.symm (ke2 hy3)⟩
        · rw [if_neg q]
          obtain ⟨h1,h2,h3⟩ := R.hf i (Nat.lt_of_le_of_ne (Nat.le_of_lt_succ hi) q)
          exact ⟨ka6 (ka0 (K3 _ _ h1 h2.out)) h3,h2,h3⟩
      unfold lay at S4 K4 hy4 hf4
      generalize (H3 ++ [lst0 nv ((List.range n).filter fun k => decide (h k = t))]).set y (lst0 (fun i => rv (if i = t then H3.length else fa i)) (List.range (t + 1))) = H4 at S4 K4 hy4 hf4
      refine kio (RoJ H4 n A W x y D rl) (kmb (kab rfl)) (fun _ _ _ _ _ => trivial) ⟨_,[],rfl,S4,.refl⟩ ?_ ?_
      · rintro i v f' H5 hv ⟨e4,rl',rfl,S5,K5⟩
        rw [List.map_map,List.getElem?_map] at hv
        obtain ⟨k,hk,rfl⟩ := Option.map_eq_some_iff.mp hv
        have ed : rl.drop i = k :: rl.drop (i + 1) := by
          obtain ⟨hi,e⟩ := List.getElem?_eq_some_iff.mp hk
          rw [← e]; exact (List.getElem_cons_drop hi).symm
        rw [ed] at S5
        refine kcd (kah rfl) (kc4 (g_done T S5 (.head _) (kab rfl) (kab rfl) fun rl2 H6 S6 K6 => ⟨_,rl2,rfl,?_,SW.tr K5 K6⟩))
        rw [List.erase_cons_head] at S6
        rw [List.take_add_one,hk,Option.toList_some,List.reverse_append]
        exact S6
      · rintro f' H5 ⟨e4,rl',rfl,S5,K5⟩
        rw [List.length_map,List.length_map,List.drop_length,List.take_length] at S5
        have bD := kbq n _ S5.dn fun k hk => (S5.dm k hk).1
        rw [List.length_append,List.length_reverse] at bD
        have pos : 0 < rl.length := by rw [hr]; exact Nat.succ_pos _
        refine ⟨n - (rl.reverse ++ D).length,by rw [List.length_append,List.length_reverse]; omega,t + 1,rl.reverse ++ D,rl',_,_,_,rfl,rfl,S5,fun k => ?_,Nat.succ_le_of_lt (hk0.2 ▸ Y.lt k0 hk0.1),K5 _ _ hy4 R.na.out,fun i hi => ?_,R.na,khp K4 hS K5,R.ly⟩
        · rw [List.mem_append,List.mem_reverse,L k,R.hD k,← and_or_left,Nat.lt_succ_iff_lt_or_eq,or_comm]
        · obtain ⟨h1,h2,h3⟩ := hf4 i hi
          exact ⟨K5 _ _ h1 h2.out,h2,h3⟩
end
end Mine.Q
namespace Mine.Q
open PySem
section
variable {src : M Src} {fr : List (Option Nat)} {bindT : V → M Unit} {t : M Bool} {e : M V} {f : Fm} {H : Hp} {Φ : V → Fm → Hp → Prop} {gd : Option (Nat × O)}
theorem kj0 {γ : Type} {p : γ → Bool} {l : List γ} {i : Nat} {x : γ} (hx : l[i]? = some x) : (l.take (i + 1)).filter p = (l.take i).filter p ++ if p x = true then [x] else [] := by
  rw [List.take_add_one,hx,Option.toList_some,List.filter_append,List.filter_cons]; rfl
theorem kld {γ : Type} (l : List γ) (item g : γ → V) (p : γ → Bool) (fb : γ → Fm) (Fr : Fm → Prop) (es : Ev src f H ⟨l.map item,gd⟩) (hl : l.length < lim) (hs : ∀ H',Ke K0 H H' → Stay gd H') (h0 : Fr (kjv fr f))
    (hb : ∀ x ∈ l,∀ f' H',Fr f' → ok (bindT (item x)) f' H' fun _ f'' H'' => f'' = fb x ∧ H'' = H') (hF : ∀ x ∈ l,Fr (fb x))
    (he : ∀ x ∈ l,∀ H',Ke K0 H H' → Ev t (fb x) H' (p x) ∧ (p x = true → Ev e (fb x) H' (g x)))
    (k : Φ (rv H.length) f (H ++ [lst0 g (l.filter p)])) : ok (kcc src fr bindT t e) f H Φ := by
  refine kh6 (fun _ _ i ys f' H' => Fr f' ∧ ys = ((l.take i).filter p).map g ∧ H' = H ++ [.list ys]) (g_ev es ⟨rfl,⟨h0,rfl,rfl⟩,fun i ys f' H' ⟨_,_,e⟩ _ => hs H' (e ▸ .app),?_,?_⟩)
  · rintro i v ys f' _ hv ⟨hf,rfl,rfl⟩ hacc
    rw [List.getElem?_map] at hv
    obtain ⟨x,hx,rfl⟩ := Option.map_eq_some_iff.mp hv
    have hm := List.mem_of_getElem? hx
    refine ⟨by rw [List.length_map]; exact Nat.lt_of_le_of_lt (Nat.le_trans (List.length_filter_le ..) (List.length_take_le' ..)) hl,kcs (hb x hm f' _ hf) ?_⟩
    rintro _ _ _ ⟨rfl,rfl⟩
    obtain ⟨h1,h2⟩ := he x hm _ (.app (l := [.list (((l.take i).filter p).map g)]))
    refine ⟨p x,h1,?_⟩
    rw [kj0 hx]
    cases hp : p x with
    | true =>
      rw [if_pos rfl,if_pos rfl,List.map_append]
      exact g_ev (h2 hp) ⟨hacc,hF x hm,rfl,by simp⟩
    | false =>
      rw [if_neg Bool.false_ne_true,if_neg Bool.false_ne_true,List.append_nil]
      exact ⟨hacc,hF x hm,rfl,rfl⟩
  · rintro ys f' _ ⟨_,rfl,rfl⟩ _
    rw [List.length_map,List.take_length]; exact k
theorem g_alloc (m : Nat) (item : Nat → V) (o : Nat → O) (fb : Nat → Fm) (Fr : Fm → Prop) (es : Ev src f H ⟨(List.range m).map item,gd⟩) (hm : m < lim) (hs : ∀ H',Ke K0 H H' → Stay gd H') (h0 : Fr (kjv fr f))
    (hb : ∀ x,x < m → ∀ f' H',Fr f' → ok (bindT (item x)) f' H' fun _ f'' H'' => f'' = fb x ∧ H'' = H')
    (he : ∀ x,x < m → ∀ H',Ke K0 H H' → ok e (fb x) H' fun v f' H'' => Fr f' ∧ Ke K0 H' H'' ∧ ∃ a,v = rv a ∧ H'.length ≤ a ∧ H''[a]? = some (o x))
    (k : ∀ (a : Nat) (H' : Hp) (fa : Nat → Nat),Ke K0 H H' → H.length ≤ a → H'[a]? = some (lst0 (fun t => rv (fa t)) (List.range m)) → (∀ t,t < m → H'[fa t]? = some (o t)) → Φ (rv a) f H') : ok (kcc src fr bindT (ret true) e) f H Φ := by
  refine kh6 (fun _ _ i ys f' H' => Fr f' ∧ Ke K0 H H' ∧ ∃ fa : Nat → Nat,ys = (List.range i).map (fun t => rv (fa t)) ∧ ∀ t,t < i → H'[fa t]? = some (o t) ∧ fa t ≠ H.length) (g_ev es ⟨rfl,⟨h0,.app,id,rfl,fun t h => absurd h (Nat.not_lt_zero t)⟩,fun i ys f' H' ⟨_,K,_⟩ _ => hs H' K,?_,?_⟩)
  · rintro i v ys f' H' hv ⟨hf,K,fa,rfl,hfa⟩ hacc
    have hi : i < m := by have := (List.getElem?_eq_some_iff.mp hv).1; rwa [List.length_map,List.length_range] at this
    rw [List.getElem?_map,List.getElem?_range hi] at hv
    cases hv
    refine ⟨by rw [List.length_map,List.length_range]; exact Nat.lt_trans hi hm,kcs (hb i hi f' H' hf) ?_⟩
    rintro _ _ _ ⟨rfl,rfl⟩
    refine ⟨true,ka7,?_⟩
    rw [if_pos rfl]
    refine kcs (he i hi _ K) ?_
    rintro _ f2 H2 ⟨hf2,K2,a,rfl,ha,hoa⟩
    have nea : a ≠ H.length := Nat.ne_of_gt (Nat.lt_of_lt_of_le (List.getElem?_eq_some_iff.mp hacc).1 ha)
    refine ⟨K2 _ _ hacc id,hf2,(K.trans K2 fun _ _ _ q => q).old (Nat.le_refl _),fun t => if t = i then a else fa t,?_,fun t ht => ?_⟩
    · rw [List.range_succ,List.map_append]
      congr 1
      · exact List.map_congr_left fun j hj => by dsimp only; rw [if_neg (Nat.ne_of_lt (List.mem_range.mp hj))]
      · show _ = [rv (if i = i then a else fa i)]; rw [if_pos rfl]
    · dsimp only
      by_cases q : t = i
      · rw [if_pos q,q]; exact ⟨ka6 hoa nea,nea⟩
      · rw [if_neg q]
        obtain ⟨h1,h2⟩ := hfa t (Nat.lt_of_le_of_ne (Nat.le_of_lt_succ ht) q)
        exact ⟨ka6 (K2 _ _ h1 id) h2,h2⟩
  · rintro ys f2 H' ⟨_,K,fa,rfl,hfa⟩ hacc
    rw [List.length_map,List.length_range] at hacc hfa
    exact k _ H' fa K (Nat.le_refl _) hacc fun t ht => (hfa t ht).1
theorem b1 {v : V} {i : Nat} {f' : Fm} {H' : Hp} (hi : i < f'.length) {fb : Fm} (h : f'.set i (some v) = fb) : ok (kdn i v) f' H' fun _ f'' H'' => f'' = fb ∧ H'' = H' := kcd hi ⟨h,rfl⟩
end
noncomputable def sup (f : Nat → Nat) : List Nat → Nat
  | [] => 0
  | x :: r => max (f x) (sup f r)
theorem le_sup {f : Nat → Nat} {x : Nat} : ∀ {l : List Nat},x ∈ l → f x ≤ sup f l
  | y :: r,h => by
    unfold sup
    rcases List.mem_cons.mp h with rfl | h
    · exact Nat.le_max_left ..
    · exact Nat.le_trans (le_sup h) (Nat.le_max_right ..)
theorem sup_at {f : Nat → Nat} : ∀ (l : List Nat),sup f l = 0 ∨ ∃ x ∈ l,f x = sup f l
  | [] => .inl rfl
  | y :: r => by
    unfold sup
    rcases Nat.le_total (f y) (sup f r) with h | h
    · rw [Nat.max_eq_right h]
      exact (sup_at r).imp id fun ⟨x,hx,e⟩ => ⟨x,.tail _ hx,e⟩
    · rw [Nat.max_eq_left h]; exact .inr ⟨y,.head _,rfl⟩
section
variable {n : Nat} {W : Nat → List Nat} {ra rb : Nat → Nat}
theorem height (T : Wt n W ra rb) : ∀ c : Nat,∃ h : Nat → Nat,∀ k,k < n → ra k < c → (∀ j ∈ W k,h j < h k) ∧ (h k = 0 ∨ ∃ j ∈ W k,h j + 1 = h k)
  | 0 => ⟨id,fun _ _ q => absurd q (Nat.not_lt_zero _)⟩
  | c + 1 => by
    obtain ⟨h,hh⟩ := height T c
    refine ⟨fun k => if ra k < c then h k else sup (fun j => h j + 1) (W k),fun k hk hc => ?_⟩
    have lt : ∀ {j},j ∈ W k → ra j < c := fun hj => Nat.lt_of_lt_of_le (T.mem.mp hj).2.1 (Nat.le_of_lt_succ hc)
    dsimp only
    by_cases q : ra k < c
    · rw [if_pos q]
      obtain ⟨h1,h2⟩ := hh k hk q
      exact ⟨fun j hj => by rw [if_pos (lt hj)]; exact h1 j hj,h2.imp id fun ⟨j,hj,e⟩ => ⟨j,hj,by rw [if_pos (lt hj)]; exact e⟩⟩
    · rw [if_neg q]
      exact ⟨fun j hj => by rw [if_pos (lt hj)]; exact le_sup (f := fun j => h j + 1) hj,(sup_at (W k)).imp id fun ⟨j,hj,e⟩ => ⟨j,hj,by rw [if_pos (lt hj)]; exact e⟩⟩
theorem chain {h : Nat → Nat} (T : Wt n W ra rb) (hp : ∀ k,k < n → h k = 0 ∨ ∃ j,j < n ∧ ra j < ra k ∧ rb j < rb k ∧ h j + 1 = h k) : ∀ (s k : Nat),k < n → ∀ t,t + s = h k → ∃ j,j < n ∧ h j = t ∧ (s = 0 ∧ j = k ∨ ra j < ra k ∧ rb j < rb k)
  | 0,k,hk,t,e => ⟨k,hk,e.symm,.inl ⟨rfl,rfl⟩⟩
  | s + 1,k,hk,t,e => by
    rcases hp k hk with q | ⟨j,hj,a,b,q⟩
    · rw [q] at e; cases e
    · obtain ⟨i,hi,ei,z⟩ := chain T hp s j hj t (by omega)
      refine ⟨i,hi,ei,.inr ?_⟩
      rcases z with ⟨_,rfl⟩ | ⟨z1,z2⟩
      · exact ⟨a,b⟩
      · exact ⟨Nat.lt_trans z1 a,Nat.lt_trans z2 b⟩
theorem Ht.make (T : Wt n W ra rb) : ∃ m h,Ht n ra rb m h := by
  obtain ⟨h,hh⟩ := height T (sup ra (List.range n) + 1)
  have hh := fun k (hk : k < n) => hh k hk (Nat.lt_succ_of_le (le_sup (List.mem_range.mpr hk)))
  have hp : ∀ k,k < n → h k = 0 ∨ ∃ j,j < n ∧ ra j < ra k ∧ rb j < rb k ∧ h j + 1 = h k := fun k hk => (hh k hk).2.imp id fun ⟨j,hj,e⟩ => let ⟨a,b,c⟩ := T.mem.mp hj; ⟨j,a,b,c,e⟩
  refine ⟨sup (fun k => h k + 1) (List.range n),h,fun k hk => le_sup (f := fun k => h k + 1) (List.mem_range.mpr hk),fun t ht => ?_,fun j k hj hk a b => (hh k hk).1 j (T.mem.mpr ⟨hj,a,b⟩),hp⟩
  rcases sup_at (f := fun k => h k + 1) (List.range n) with e | ⟨k,hk,e⟩
  · rw [e] at ht; exact absurd ht (Nat.not_lt_zero _)
  · obtain ⟨j,hj,ej,_⟩ := chain T hp (h k - t) k (List.mem_range.mp hk) t (by omega)
    exact ⟨j,hj,ej⟩
end
end Mine.Q
namespace Mine.Q
open PySem
theorem rdV_of {H : Hp} {x : At} {k : D0} (h : rd0 H x = some k) : rdV H (.at x) = some (.d0 k) := by
  cases x with
  | str s =>
    unfold rd0 at h
    show (if fine s then some (Dt.d0 (.str s)) else none) = _
    dsimp only at h
    split at h
    · rename_i q; cases h; rw [if_pos q]
    · cases h
  | ref a =>
    obtain ⟨l,e,q⟩ := Option.map_eq_some_iff.mp (show (kcq H a).map D0.ints = some k from h)
    show (match kcq H a with | some l => some (Dt.d0 (.ints l)) | none => match kjn H a with | some l => some (.lists l) | none => (prsAt H a).map .prs) = _
    rw [e,← q]
  | _ => cases h
section
variable {n : Nat} {nm : Nat → At} {key : Nat → D0} {r : Nat → Nat} {H : Hp}
noncomputable abbrev NL (n : Nat) (nm : Nat → At) : O := lst0 (fun k => V.at (nm k)) (List.range n)
theorem ltV_nm (N : Nm n nm key r) (h : NmAt n nm key H) {a b : Nat} (ha : a < n) (hb : b < n) : ltV H (.at (nm a)) (.at (nm b)) = some (lk r a b) := by
  unfold ltV
  rw [rdV_of (h a ha),rdV_of (h b hb)]
  exact N.lt a b ha hb
theorem kb7 {g : Nat → V} {k : Nat} (hk : k < n) : ((List.range n).map g)[k]? = some (g k) := by rw [List.getElem?_map,List.getElem?_range hk]; rfl
theorem NmAt.k0 {H' : Hp} (h : NmAt n nm key H) (K : Ke K0 H H') : NmAt n nm key H' := h.keep K fun _ _ _ _ q => q
end
theorem last_all {R : Nat → Nat → Prop} {l : List Nat} {x : Nat} (hp : l.Pairwise R) (h : l.getLast? = some x) : ∀ j ∈ l,j = x ∨ R j x := by
  rcases List.eq_nil_or_concat l with rfl | ⟨l',y,rfl⟩
  · cases h
  · rw [List.concat_eq_append] at *
    rw [List.getLast?_concat] at h
    cases h
    intro j hj
    rcases List.mem_append.mp hj with q | q
    · exact .inr ((List.pairwise_append.mp hp).2.2 j q x (.head _))
    · exact .inl (List.mem_singleton.mp q)
section
variable {n m : Nat} {W : Nat → List Nat} {ra rb h : Nat → Nat} {ord : List Nat}
noncomputable def pil (h : Nat → Nat) (ord : List Nat) (i t : Nat) : List Nat := (ord.take i).filter fun j => decide (h j = t)
theorem pil_mem {i t j : Nat} : j ∈ pil h ord i t ↔ j ∈ ord.take i ∧ h j = t := by unfold pil; rw [List.mem_filter,decide_eq_true_iff]
structure Or (n : Nat) (ra : Nat → Nat) (ord : List Nat) : Prop where
  up : ord.Pairwise (fun a b => ra a < ra b)
  mem : ∀ k,k ∈ ord ↔ k < n
theorem Or.nodup (Q : Or n ra ord) : ord.Nodup := Q.up.imp fun h e => by rw [e] at h; exact Nat.lt_irrefl _ h
theorem Or.take (Q : Or n ra ord) {i k : Nat} (hk : ord[i]? = some k) {j : Nat} : j ∈ ord.take i ↔ j < n ∧ ra j < ra k := by
  have e : ord = ord.take i ++ k :: ord.drop (i + 1) := by
    obtain ⟨hi,q⟩ := List.getElem?_eq_some_iff.mp hk
    rw [← q,List.getElem_cons_drop hi,List.take_append_drop]
  have up := Q.up
  rw [e] at up
  obtain ⟨_,u2,u3⟩ := List.pairwise_append.mp up
  constructor
  · exact fun hj => ⟨(Q.mem j).mp (List.take_subset _ _ hj),u3 j hj k (.head _)⟩
  · intro ⟨hj,hr⟩
    have := (Q.mem j).mpr hj
    rw [e] at this
    rcases List.mem_append.mp this with q | q
    · exact q
    · rcases List.mem_cons.mp q with q | q
      · rw [q] at hr; exact absurd hr (Nat.lt_irrefl _)
      · exact absurd ((List.pairwise_cons.mp u2).1 j q) (Nat.lt_asymm hr)
theorem klt (T : Wt n W ra rb) (Y : Ht n ra rb m h) (Q : Or n ra ord) {i t x : Nat} (hx : (pil h ord i t).getLast? = some x) : x ∈ pil h ord i t ∧ ∀ j ∈ pil h ord i t,rb x ≤ rb j := by
  have hm := List.mem_of_getLast? hx
  refine ⟨hm,fun j hj => ?_⟩
  have pw : (pil h ord i t).Pairwise (fun a b => ra a < ra b) := (Q.up.sublist (List.take_sublist ..)).filter _
  rcases last_all pw hx j hj with q | q
  · rw [q]; exact Nat.le_refl _
  · refine Nat.le_of_not_lt fun z => ?_
    obtain ⟨m1,e1⟩ := pil_mem.mp hm
    obtain ⟨m2,e2⟩ := pil_mem.mp hj
    have := Y.mono j x ((Q.mem j).mp (List.take_subset _ _ m2)) ((Q.mem x).mp (List.take_subset _ _ m1)) q z
    rw [e1,e2] at this
    exact Nat.lt_irrefl _ this
theorem pil_ahead (T : Wt n W ra rb) (Y : Ht n ra rb m h) (Q : Or n ra ord) {i k m' : Nat} (hk : ord[i]? = some k) (hm : ∀ j ∈ ord.take i,h j < m') {tp : Nat → Nat} (ht : ∀ t,t < m' → (pil h ord i t).getLast? = some (tp t)) :
    h k ≤ m' ∧ ((List.range m').filter fun t => decide (rb (tp t) < rb k)) = List.range (h k) := by
  have hkn := (Q.mem k).mp (List.mem_of_getElem? hk)
  have low : ∀ t,t < h k → ∃ j,j ∈ pil h ord i t ∧ rb j < rb k := fun t hlt => by
    obtain ⟨j,hj,e,z⟩ := chain T Y.pred (h k - t) k hkn t (by omega)
    rcases z with ⟨z,_⟩ | ⟨z1,z2⟩
    · omega
    · exact ⟨j,pil_mem.mpr ⟨(Q.take hk).mpr ⟨hj,z1⟩,e⟩,z2⟩
  have hle : h k ≤ m' := Nat.le_of_not_lt fun q => by
    obtain ⟨j,hj,_⟩ := low m' q
    obtain ⟨h1,h2⟩ := pil_mem.mp hj
    have := hm j h1
    rw [h2] at this; exact Nat.lt_irrefl _ this
  refine ⟨hle,kgo (R := (· < ·)) (fun a b => Nat.lt_asymm) (List.pairwise_lt_range.filter _) List.pairwise_lt_range fun t => ?_⟩
  rw [List.mem_filter,List.mem_range,List.mem_range,decide_eq_true_iff]
  constructor
  · rintro ⟨h1,h2⟩
    obtain ⟨q1,q2⟩ := pil_mem.mp (klt T Y Q (ht t h1)).1
    obtain ⟨q3,q4⟩ := (Q.take hk).mp q1
    have := Y.mono (tp t) k q3 hkn q4 h2
    rwa [q2] at this
  · intro q
    obtain ⟨j,hj,z⟩ := low t q
    have h1 := Nat.lt_of_lt_of_le q hle
    exact ⟨h1,Nat.lt_of_le_of_lt ((klt T Y Q (ht t h1)).2 j hj) z⟩
structure PI (H0 : Hp) (h : Nat → Nat) (ord : List Nat) (p i m' : Nat) (qa : Nat → Nat) (H : Hp) : Prop where
  K : Ke K0 H0 H
  hp : H[p]? = some (lst0 (fun t => rv (qa t)) (List.range m'))
  hq : ∀ t,t < m' → H[qa t]? = some (lst0 nv (pil h ord i t)) ∧ qa t ≠ p ∧ H0.length ≤ qa t ∧ pil h ord i t ≠ []
  inj : ∀ t u,t < m' → u < m' → qa t = qa u → t = u
  hm : ∀ j ∈ ord.take i,h j < m'
  lp : H0.length ≤ p
noncomputable def piF (o pl p : Nat) (e3 e4 : Option V) : Fm := [some (rv o),some (rv pl),some (rv p),e3,e4,none]
inductive PiI (H : Hp) (h : Nat → Nat) (ord : List Nat) (o pl p i : Nat) (f' : Fm) (H' : Hp) : Prop
  | mk (m' : Nat) (qa : Nat → Nat) (e3 e4 : Option V) (e : f' = piF o pl p e3 e4) (c : PI H h ord p i m' qa H')
theorem piles_ok (T : Wt n W ra rb) (Y : Ht n ra rb m h) (Q : Or n ra ord) {pm : Nat → At} {pk : Nat → D0} (N : Nm n pm pk rb) {H : Hp} {o pl : Nat} (ho : H[o]? = some (lst0 nv ord)) (hpl : H[pl]? = some (NL n pm)) (hN : NmAt n pm pk H) {f : Fm} {Φ : V → Fm → Hp → Prop}
    (kk : ∀ a H',Ke K0 H H' → LL H' a m (lay n h) → Φ (rv a) f H') : ok (call 6 kf2 [rv o,rv pl]) f H Φ := by
  have olen : ord.length < 30 := Nat.lt_of_le_of_lt (kbq n ord Q.nodup fun k hk => (Q.mem k).mp hk) T.n30
  refine kc7 (kam (kbm (kfy ⟨kah rfl,kam ?_⟩)))
  refine kio (PiI H h ord o pl H.length) (kgz (kab rfl) (ka0 ho)) (fun i f' H' _ ⟨_,_,_,_,_,R⟩ => R.K _ _ ho id)
    ⟨0,id,none,none,rfl,.app,kbp,fun t ht => absurd ht (Nat.not_lt_zero _),fun t u ht => absurd ht (Nat.not_lt_zero _),fun j hj => (by rw [List.take_zero] at hj; cases hj),Nat.le_refl _⟩ ?_ ?_
  · generalize H.length = p
    rintro i v f' H1 hv ⟨m',qa,e3,e4,rfl,R⟩
    rw [List.getElem?_map] at hv
    obtain ⟨k,hk,rfl⟩ := Option.map_eq_some_iff.mp hv
    have hkn := (Q.mem k).mp (List.mem_of_getElem? hk)
    obtain ⟨tp,htp⟩ : ∃ tp : Nat → Nat,∀ t,t < m' → (pil h ord i t).getLast? = some (tp t) :=
      ⟨fun t => (pil h ord i t).getLast?.getD 0,fun t ht => by dsimp only; rw [List.getLast?_eq_some_getLast (R.hq t ht).2.2.2]; rfl⟩
    obtain ⟨hle,hah⟩ := pil_ahead T Y Q hk R.hm htp
    have hm30 : m' < 64 := by
      rcases Nat.eq_zero_or_pos m' with e | e
      · rw [e]; decide
      · have : m' ≤ n := by
          have key : ∀ t,t < m' → ∃ j,j < n ∧ h j = t := fun t ht => by
            obtain ⟨h1,h2⟩ := pil_mem.mp (klt T Y Q (htp t ht)).1
            exact ⟨tp t,(Q.mem _).mp (List.take_subset _ _ h1),h2⟩
          obtain ⟨j,hj,e'⟩ := key (m' - 1) (by omega)
          have := Y.lt j hj
          have := Y.mn
          omega
        exact Nat.lt_of_le_of_lt this (Nat.lt_trans T.n30 (by decide))
    refine kcd (kah rfl) (kam (kbm (kld (List.range m') (fun t => rv (qa t)) (fun t => rv (qa t)) (fun t => decide (rb (tp t) < rb k)) (fun t => [none,some (rv (qa t)),some (nv k),some (rv pl)]) (fun f => ∃ w,f = [none,w,some (nv k),some (rv pl)])
      (kgz (kab rfl) R.hp) (by rw [List.length_range]; exact Nat.lt_trans hm30 (by decide)) (fun H' K => K _ _ R.hp id) ⟨none,rfl⟩ (fun t _ f' H' ⟨w,e⟩ => e ▸ b1 (kah rfl) rfl) (fun t _ => ⟨_,rfl⟩) (fun t ht H' K => ?_) ?_)))
    · have ht := List.mem_range.mp ht
      obtain ⟨h1,_,_,h4⟩ := R.hq t ht
      have htn : tp t < n := (Q.mem _).mp (List.take_subset _ _ (pil_mem.mp (klt T Y Q (htp t ht)).1).1)
      have hpl' := K _ _ (R.K _ _ hpl id) id
      exact ⟨kle (kbt (kab rfl) (kbt (kab rfl) kaw (ev_last (v := nv (tp t)) (K _ _ h1 id) (by rw [List.getLast?_map,htp t ht]; rfl))) (kca hpl' (kb7 htn))) (kbt (kab rfl) (kab rfl) (kca hpl' (kb7 hkn))) (ltV_nm N ((hN.k0 R.K).k0 K) htn hkn),fun _ => kab rfl⟩
    · rw [hah]
      refine ⟨kah rfl,?_⟩
      have R1 : PI H h ord p i m' qa (H1 ++ [lst0 (fun t => rv (qa t)) (List.range (h k))]) := ⟨R.K.trans (S' := K0) .app fun _ _ _ q => q,ka0 R.hp,fun t ht => let ⟨h1,h2⟩ := R.hq t ht; ⟨ka0 h1,h2⟩,R.inj,R.hm,R.lp⟩
      have ha := kbp (H := H1) (o := lst0 (fun t => rv (qa t)) (List.range (h k)))
      generalize H1 ++ [lst0 (fun t => rv (qa t)) (List.range (h k))] = H2 at R1 ha
      generalize H1.length = aa at ha
      clear R
      have R := R1
      have la : ∀ {f : Fm} {a : M V},Ev a f H2 (rv aa) → Ev (app1 kd2 a) f H2 (nv (h k)) := fun {f a} e => by
        have := kmc (f := f) ha; rw [List.length_range] at this; exact kgl e this
      have lp : ∀ {f : Fm} {a : M V},Ev a f H2 (rv p) → Ev (app1 kd2 a) f H2 (nv m') := fun {f a} e => by
        have := kmc (f := f) R.hp; rw [List.length_range] at this; exact kgl e this
      have pstep : ∀ t,pil h ord (i + 1) t = pil h ord i t ++ if h k = t then [k] else [] := fun t => by
        unfold pil
        rw [kj0 hk]
        congr 1
        by_cases q : h k = t
        · rw [if_pos q,if_pos (decide_eq_true q)]
        · rw [if_neg q,if_neg (by rw [decide_eq_false q]; exact Bool.false_ne_true)]
      have mstep : ∀ j,j ∈ ord.take (i + 1) → j ∈ ord.take i ∨ j = k := fun j hj => by
        rw [List.take_add_one,hk,Option.toList_some] at hj
        exact (List.mem_append.mp hj).imp id List.mem_singleton.mp
      refine g_if (ev_eqi (la (kab rfl)) (lp (kab rfl))) ?_
      by_cases e : h k = m'
      · rw [decide_eq_true (congrArg Int.ofNat e)]
        refine kc4 (kjz (kab rfl) R.hp (kan (kbu (kab rfl) kax) (kfq ⟨ka0 R.hp,fun _ => ⟨m' + 1,fun t => if t = m' then H2.length else qa t,_,_,rfl,?_⟩⟩)) (by rw [List.length_map,List.length_range]; exact Nat.lt_trans hm30 (by decide)))
        have ne1 := ke2 R.hp
        have eP : O.list ((List.range m').map (fun t => rv (qa t)) ++ [rv H2.length]) = lst0 (fun t => rv (if t = m' then H2.length else qa t)) (List.range (m' + 1)) := by
          unfold lst0
          rw [List.range_succ,List.map_append]
          congr 2
          · exact List.map_congr_left fun j hj => by rw [if_neg (Nat.ne_of_lt (List.mem_range.mp hj))]
          · show _ = [rv (if m' = m' then H2.length else qa m')]; rw [if_pos rfl]
        rw [eP]
        refine ⟨(R.K.trans (S' := K0) .app fun _ _ _ q => q).old R.lp,kbv (ka0 R.hp),fun t ht => ?_,fun t u ht hu => ?_,fun j hj => ?_,R.lp⟩
        · by_cases q : t = m'
          · rw [if_pos q,pstep,if_pos (e.trans q.symm)]
            have z : pil h ord i t = [] := List.filter_eq_nil_iff.mpr fun j hj z => Nat.lt_irrefl _ (Nat.lt_of_lt_of_eq (R.hm j hj) ((of_decide_eq_true z).trans q).symm)
            rw [z]
            exact ⟨ka6 kbp (Ne.symm ne1),Ne.symm ne1,R.K.len,nofun⟩
          · rw [if_neg q,pstep,if_neg (fun z => q (z.symm.trans e)),List.append_nil]
            obtain ⟨h1,h2,h3,h4⟩ := R.hq t (Nat.lt_of_le_of_ne (Nat.le_of_lt_succ ht) q)
            exact ⟨ka6 (ka0 h1) h2,h2,h3,h4⟩
        · have far : ∀ {t},t < m' + 1 → t ≠ m' → qa t ≠ H2.length := fun ht q => ke2 (R.hq _ (Nat.lt_of_le_of_ne (Nat.le_of_lt_succ ht) q)).1
          by_cases q : t = m' <;> by_cases q' : u = m'
          · intro _; rw [q,q']
          · rw [if_pos q,if_neg q']; exact fun z => absurd z.symm (far hu q')
          · rw [if_neg q,if_pos q']; exact fun z => absurd z (far ht q)
          · rw [if_neg q,if_neg q']; exact R.inj t u (Nat.lt_of_le_of_ne (Nat.le_of_lt_succ ht) q) (Nat.lt_of_le_of_ne (Nat.le_of_lt_succ hu) q')
        · rcases mstep j hj with q | q
          · exact Nat.lt_succ_of_lt (R.hm j q)
          · rw [q,e]; exact Nat.lt_succ_self _
      · rw [decide_eq_false fun z => e (Int.ofNat.inj z)]
        have hlt : h k < m' := Nat.lt_of_le_of_ne hle e
        obtain ⟨hc1,hc2,hc3,hc4⟩ := R.hq (h k) hlt
        refine kc4 (kfc (kbt (kab rfl) (la (kab rfl)) (kca R.hp (kb7 hlt))) hc1 (kab rfl) (by rw [List.length_map]; exact Nat.lt_of_le_of_lt (Nat.le_trans (List.length_filter_le ..) (List.length_take_le' ..)) (Nat.lt_trans olen (by decide))) fun _ => ⟨m',qa,_,_,rfl,?_⟩)
        have eP : O.list ((pil h ord i (h k)).map nv ++ [nv k]) = lst0 nv (pil h ord (i + 1) (h k)) := by
          rw [pstep,if_pos rfl]; unfold lst0; rw [List.map_append]; rfl
        rw [eP]
        refine ⟨R.K.old hc3,ka6 R.hp (Ne.symm hc2),fun t ht => ?_,R.inj,fun j hj => ?_,R.lp⟩
        · obtain ⟨h1,h2,h3,h4⟩ := R.hq t ht
          by_cases q : t = h k
          · rw [q]; exact ⟨kbv hc1,hc2,hc3,by rw [pstep,if_pos rfl]; exact List.append_ne_nil_of_right_ne_nil _ nofun⟩
          · rw [pstep t,if_neg (Ne.symm q),List.append_nil]
            exact ⟨ka6 h1 fun z => q (R.inj t (h k) ht hlt z),h2,h3,h4⟩
        · rcases mstep j hj with q | q
          · exact R.hm j q
          · rw [q]; exact hlt
  · generalize H.length = p
    rintro f' H1 ⟨m',qa,e3,e4,rfl,R⟩
    rw [List.length_map] at R
    have tl : ord.take ord.length = ord := List.take_length
    have em : m' = m := by
      refine Nat.le_antisymm (Nat.le_of_not_lt fun q => ?_) (Nat.le_of_not_lt fun q => ?_)
      · obtain ⟨_,_,_,hne⟩ := R.hq m q
        obtain ⟨j,hj⟩ := List.exists_mem_of_ne_nil _ hne
        obtain ⟨h1,h2⟩ := pil_mem.mp hj
        have := Y.lt j ((Q.mem j).mp (List.take_subset _ _ h1))
        rw [h2] at this; exact Nat.lt_irrefl _ this
      · obtain ⟨j,hj,e⟩ := Y.ne m' q
        have := R.hm j (by rw [tl]; exact (Q.mem j).mpr hj)
        rw [e] at this; exact Nat.lt_irrefl _ this
    subst em
    have hm30 : m' < 64 := Nat.lt_of_le_of_lt Y.mn (Nat.lt_trans T.n30 (by decide))
    refine kfx (g_alloc m' (fun t => rv (qa t)) (fun t => lst0 nv (lay n h t)) (fun t => [none,some (rv (qa t)),none]) (fun f => ∃ w,f = [none,w,none]) (kgz (kab rfl) R.hp) (Nat.lt_trans hm30 (by decide)) (fun H' K => K _ _ R.hp id) ⟨none,rfl⟩ (fun t _ f' H' ⟨w,e⟩ => e ▸ b1 (kah rfl) rfl)
      (fun t ht H' K => ?_) fun a H' fa K hl h1 h2 => ⟨_,rfl,kk a H' (R.K.trans K fun _ _ _ q => q) ⟨fa,h1,h2⟩⟩)
    obtain ⟨h1,_,_,_⟩ := R.hq t ht
    have hlen : (pil h ord ord.length t).length < 64 := Nat.lt_of_le_of_lt (Nat.le_trans (List.length_filter_le ..) (List.length_take_le' ..)) (Nat.lt_trans olen (by decide))
    refine kan (kab rfl) (kiv (kgr (K _ _ h1 id)) hlen ⟨⟨_,rfl⟩,.app,H'.length,rfl,Nat.le_refl _,?_⟩)
    have e : sby (lk id) (pil h ord ord.length t) = lay n h t := sby_range (((Q.nodup.sublist (List.take_sublist ..))).filter _) fun j => by rw [pil_mem,tl,Q.mem,decide_eq_true_iff]
    rw [← e]; exact kbp
end
end Mine.Q
namespace Mine.Q
open PySem
section
variable {n : Nat} {ra rb : Nat → Nat} {H : Hp}
theorem kk4 {a : Nat} {l : List Nat} (h : H[a]? = some (lst0 nv l)) : rdV H (rv a) = some (.d0 (.ints (l.map Int.ofNat))) := rdV_of (show (kcq H a).map D0.ints = _ by rw [kgi h]; rfl)
theorem eqV_nv {a b : Nat} {l : List Nat} (h : H[a]? = some (lst0 nv l)) (h' : H[b]? = some (lst0 nv l)) : eqV H (rv a) (rv b) = some true := by
  unfold eqV
  rw [kk4 h,kk4 h']
  exact congrArg some (decide_eq_true rfl)
theorem g_eqNil {a : M V} {x : Nat} {l : List Nat} {f : Fm} {Φ : Bool → Fm → Hp → Prop} (ea : Ev a f H (rv x)) (h : H[x]? = some (lst0 nv l)) (k : Φ l.isEmpty f (H ++ [.list []])) : ok (cmp_ .Eq a (kd1 [])) f H Φ := by
  refine kan ea (kaz (kfy (g_ev (show Ev (kfp fun h => eqV h (rv x) (rv H.length)) f _ l.isEmpty from ke8 ?_) k)))
  unfold eqV
  rw [kk4 (ka0 h),show rdV (H ++ [.list []]) (rv H.length) = some (.d0 (.ints [])) from kk4 (l := []) kbp]
  show some (decide (Dt.d0 (.ints (l.map Int.ofNat)) = Dt.d0 (.ints []))) = _
  congr 1
  cases l with
  | nil => exact decide_eq_true rfl
  | cons y r => exact decide_eq_false fun q => nomatch q
structure YI (H0 : Hp) (ra rb : Nat → Nat) (row : List Nat) (y i : Nat) (kept : List Nat) (H : Hp) : Prop where
  K : Ke K0 H0 H
  hy : H[y]? = some (lst0 nv kept)
  nd : kept.Nodup
  mem : ∀ k,k ∈ kept ↔ k ∈ row.take i ∧ ∀ j ∈ row.take i,ra j < ra k → ¬ rb j < rb k
  last : ∀ x,kept.getLast? = some x → ∀ j ∈ row.take i,rb x ≤ rb j
  ne : kept = [] → row.take i = []
  ly : H0.length ≤ y
noncomputable def leF (x ot y : Nat) (e3 : Option V) : Fm := [some (rv x),some (rv ot),some (rv y),e3]
inductive LeI (H : Hp) (ra rb : Nat → Nat) (row : List Nat) (x ot y i : Nat) (f' : Fm) (H' : Hp) : Prop
  | mk (kept : List Nat) (e3 : Option V) (e : f' = leF x ot y e3) (c : YI H ra rb row y i kept H')
theorem lesser_ok {row : List Nat} {pm : Nat → At} {pk : Nat → D0} (N : Nm n pm pk rb) (up : row.Pairwise fun a b => ra a < ra b) (hr : ∀ k ∈ row,k < n) (hl : n < 1000) {x ot : Nat} (hx : H[x]? = some (lst0 nv row)) (hot : H[ot]? = some (NL n pm)) (hN : NmAt n pm pk H) {f : Fm} {Φ : V → Fm → Hp → Prop}
    (kk : ∀ a H' kept,Ke K0 H H' → H'[a]? = some (lst0 nv kept) → kept.Nodup → (∀ k,k ∈ kept ↔ k ∈ row ∧ ∀ j ∈ row,ra j < ra k → ¬ rb j < rb k) → Φ (rv a) f H') : ok (call 4 kda [rv x,rv ot]) f H Φ := by
  refine kc7 (kam (kbm (kfy ⟨kah rfl,kam ?_⟩)))
  refine kio (LeI H ra rb row x ot H.length) (kgz (kab rfl) (ka0 hx)) (fun i f' H' _ ⟨_,_,_,R⟩ => R.K _ _ hx id)
    ⟨[],none,rfl,.app,kbp,.nil,fun k => ⟨nofun,fun q => (nomatch q.1)⟩,nofun,fun _ => rfl,Nat.le_refl _⟩ ?_ ?_
  · generalize H.length = y
    rintro i v f' H1 hv ⟨kept,e3,rfl,R⟩
    rw [List.getElem?_map] at hv
    obtain ⟨k,hk,rfl⟩ := Option.map_eq_some_iff.mp hv
    have hkm := List.mem_of_getElem? hk
    have hkn := hr k hkm
    have et : row.take (i + 1) = row.take i ++ [k] := by rw [List.take_add_one,hk,Option.toList_some]
    have before : ∀ j ∈ row.take i,ra j < ra k := fun j hj => by
      have e : row = row.take i ++ k :: row.drop (i + 1) := by
        obtain ⟨hi,q⟩ := List.getElem?_eq_some_iff.mp hk
        rw [← q,List.getElem_cons_drop hi,List.take_append_drop]
      rw [e] at up
      exact (List.pairwise_append.mp up).2.2 j hj k (.head _)
    have hkt : k ∉ row.take i := fun q => Nat.lt_irrefl _ (before k q)
    have sub : ∀ {j},j ∈ row.take i → j < n := fun hj => hr _ (List.take_subset _ _ hj)
    have keepM : ∀ j,j ∈ row.take i → ((∀ a ∈ row.take (i + 1),ra a < ra j → ¬ rb a < rb j) ↔ ∀ a ∈ row.take i,ra a < ra j → ¬ rb a < rb j) := fun j hj => by
      rw [et]
      exact ⟨fun h a ha => h a (List.mem_append_left _ ha),fun h a ha => (List.mem_append.mp ha).elim (h a) fun q => by rw [List.mem_singleton.mp q]; exact fun z => absurd z (Nat.lt_asymm (before j hj))⟩
    have addM : (∀ a ∈ row.take (i + 1),ra a < ra k → ¬ rb a < rb k) ↔ ∀ a ∈ row.take i,¬ rb a < rb k := by
      rw [et]
      exact ⟨fun h a ha => h a (List.mem_append_left _ ha) (before a ha),fun h a ha => (List.mem_append.mp ha).elim (fun q _ => h a q) fun q => by rw [List.mem_singleton.mp q]; exact fun z => absurd z (Nat.lt_irrefl _)⟩
    have add : ∀ H2,Ke K0 H H2 → H2[y]? = some (lst0 nv kept) → (∀ a ∈ row.take i,rb k < rb a) → ok (kaq [expr (appM (loc 2) (loc 3))]) [some (rv x),some (rv ot),some (rv y),some (nv k)] H2
        (LP (LeI H ra rb row x ot y (i + 1)) fun r f' H' => ok (seqK (kaq [kbz (loc 2)]) r) f' H' fun r x H' => ∃ v,retV r = some v ∧ Φ v f H') := fun H2 K2 h2 hlt => by
      have hkl := kbq n kept R.nd fun j hj => sub ((R.mem j).mp hj).1
      refine kc4 (kfc (kab rfl) h2 (kab rfl) (by rw [List.length_map]; exact Nat.lt_of_le_of_lt hkl (Nat.lt_trans hl (kah rfl))) fun _ => ⟨kept ++ [k],some (nv k),rfl,K2.old R.ly,?_,?_,fun j => ?_,fun z hz j hj => ?_,fun q => ?_,R.ly⟩)
      · rw [show lst0 nv (kept ++ [k]) = .list (kept.map nv ++ [nv k]) by unfold lst0; rw [List.map_append]; rfl]; exact kbv h2
      · exact List.nodup_append.mpr ⟨R.nd,List.pairwise_singleton _ _,fun a ha b hb e => hkt (by rw [← List.mem_singleton.mp hb,← e]; exact ((R.mem a).mp ha).1)⟩
      · rw [List.mem_append,List.mem_singleton,R.mem j]
        constructor
        · rintro (⟨q1,q2⟩ | rfl)
          · exact ⟨by rw [et]; exact List.mem_append_left _ q1,(keepM j q1).mpr q2⟩
          · exact ⟨by rw [et]; exact List.mem_append_right _ (.head _),addM.mpr fun a ha => Nat.lt_asymm (hlt a ha)⟩
        · rintro ⟨q1,q2⟩
          rw [et] at q1
          rcases List.mem_append.mp q1 with q | q
          · exact .inl ⟨q,(keepM j q).mp q2⟩
          · exact .inr (List.mem_singleton.mp q)
      · rw [List.getLast?_concat] at hz
        cases hz
        rw [et] at hj
        rcases List.mem_append.mp hj with q | q
        · exact Nat.le_of_lt (hlt j q)
        · rw [List.mem_singleton.mp q]; exact Nat.le_refl _
      · exact absurd q (List.append_ne_nil_of_right_ne_nil _ nofun)
    refine kcd (kah rfl) (kaz (kaz (g_eqNil (kab rfl) R.hy ?_)))
    have hy2 := ka0 (l := [.list []]) R.hy
    have K2 : Ke K0 H (H1 ++ [.list []]) := R.K.trans (S' := K0) .app fun _ _ _ q => q
    cases kept with
    | nil =>
      refine kbw (add _ K2 hy2 fun a ha => ?_)
      rw [R.ne rfl] at ha; cases ha
    | cons k0 r0 =>
      obtain ⟨z,hz⟩ : ∃ z,(k0 :: r0).getLast? = some z := ⟨_,List.getLast?_eq_some_getLast (List.cons_ne_nil k0 r0)⟩
      have hzm := ((R.mem z).mp (List.mem_of_getLast? hz)).1
      have hzn := sub hzm
      have hot2 := K2 _ _ hot id
      refine g_ev (kle (kbt (kab rfl) (kab rfl) (kca hot2 (kb7 hkn))) (kbt (kab rfl) (kbt (kab rfl) kaw (ev_last (v := nv z) hy2 (by rw [List.getLast?_map,hz]; rfl))) (kca hot2 (kb7 hzn))) (ltV_nm N (hN.k0 K2) hkn hzn)) ?_
      cases hc : lk rb k z with
      | true => exact add _ K2 hy2 fun a ha => Nat.lt_of_lt_of_le (of_decide_eq_true hc) (R.last z hz a ha)
      | false =>
        have hzk : rb z < rb k := Nat.lt_of_le_of_ne (Nat.le_of_not_lt (of_decide_eq_false hc)) fun e => hkt (by rw [← N.rk z k hzn hkn e]; exact hzm)
        refine ke7 ⟨k0 :: r0,_,rfl,K2,hy2,R.nd,fun j => ?_,fun x' hx' j hj => ?_,nofun,R.ly⟩
        · rw [R.mem j]
          constructor
          · rintro ⟨q1,q2⟩
            exact ⟨by rw [et]; exact List.mem_append_left _ q1,(keepM j q1).mpr q2⟩
          · rintro ⟨q1,q2⟩
            rw [et] at q1
            rcases List.mem_append.mp q1 with q | q
            · exact ⟨q,(keepM j q).mp q2⟩
            · rw [List.mem_singleton.mp q] at q2
              exact absurd hzk (addM.mp q2 z hzm)
        · rw [hz] at hx'
          cases hx'
          rw [et] at hj
          rcases List.mem_append.mp hj with q | q
          · exact R.last z hz j q
          · rw [List.mem_singleton.mp q]; exact Nat.le_of_lt hzk
  · rintro f' H1 ⟨kept,e3,rfl,R⟩
    rw [List.length_map] at R
    refine kc6 (kab rfl) ⟨_,rfl,kk _ H1 kept R.K R.hy R.nd fun k => ?_⟩
    have := R.mem k
    rwa [List.take_length] at this
end
end Mine.Q
namespace Mine.Q
open PySem
section
variable {n : Nat} {W : Nat → List Nat} {ra rb : Nat → Nat} {ord : List Nat} {P D rl : List Nat} {A : SA} {H : Hp}
theorem Wt.swap (T : Wt n W ra rb) : Wt n W rb ra := ⟨fun k => by rw [T.w k]; exact List.filter_congr fun j _ => decide_eq_decide.mpr and_comm,T.ib,T.ia,T.n30⟩
theorem Or.drop (Q : Or n ra ord) {i j : Nat} : j ∈ ord.drop i ↔ j < n ∧ j ∉ ord.take i := by
  have e : ord.take i ++ ord.drop i = ord := List.take_append_drop ..
  have nd := Q.nodup
  rw [← e] at nd
  rw [← Q.mem j]
  constructor
  · exact fun hj => ⟨List.drop_subset _ _ hj,fun q => (List.nodup_append.mp nd).2.2 j q j hj rfl⟩
  · rintro ⟨h1,h2⟩
    rw [← e] at h1
    exact (List.mem_append.mp h1).resolve_left h2
structure CI (H0 : Hp) (n : Nat) (A : SA) (W : Nat → List Nat) (nm : Nat → At) (ra : Nat → Nat) (ord : List Nat) (t i : Nat) (P rl ks : List Nat) (H : Hp) : Prop where
  si : SI n A W P (ord.take i).reverse rl H
  K : Ke K0 H0 H
  ht : H[t]? = some (lst0 (it nm) ks)
  pm : List.Perm ks P
  hp : HP (rk ra ks) ks.length
theorem SI.small (S : SI n A W P D rl H) : P.length ≤ n := kbq n P S.pn fun k hk => (S.pm k hk).1
theorem g_tup2 {a b : M V} {x : At} {k : Nat} {f : Fm} (ea : Ev a f H (.at x)) (eb : Ev b f H (nv k)) : Ev (kid [a,b]) f H (.tup [x,.int (Int.ofNat k)]) := kas (kbu ea (kbu eb kax)) ka7
theorem ev_second {a : M V} {x : At} {k : Nat} {f : Fm} (ea : Ev a f H (.tup [x,.int (Int.ofNat k)])) : Ev (app2 get a (cst (.int 1))) f H (nv k) := kas ea (kas kaw (by
  show Ev (orF (if 0 ≤ (1 : Int) ∧ (1 : Int) < 1000 then [x,.int (Int.ofNat k)][(1 : Int).toNat]? else none) cst) f H _
  rw [if_pos ⟨by decide,by decide⟩]; exact kaw))
theorem ev_ne {a b : M V} {x y : V} {f : Fm} (ea : Ev a f H x) (eb : Ev b f H y) (h : eqV H x y = some true) : Ev (cmp_ .NotEq a b) f H false := kfd ea eb (show Ev (kfp fun h => (eqV h x y).map (!·)) f H _ from ke8 (by rw [h]; rfl))
theorem g_cutFrom {x i : Nat} {l : List Nat} {a b : M V} {f : Fm} {Φ : V → Fm → Hp → Prop} (ea : Ev a f H (rv x)) (eb : Ev b f H (nv i)) (h : H[x]? = some (lst0 nv l)) (k : Φ (rv H.length) f (H ++ [lst0 nv (l.drop i)])) : ok (app2 cutFrom a b) f H Φ := by
  refine kan ea (kan eb (kl9 h ?_))
  show ok (if 0 ≤ Int.ofNat i then new (.list ((l.map nv).drop (Int.ofNat i).toNat)) else fail) f H _
  rw [if_pos (show 0 ≤ Int.ofNat i from Int.natCast_nonneg i)]
  refine kfq ?_
  rw [show O.list ((l.map nv).drop (Int.ofNat i).toNat) = lst0 nv (l.drop i) by unfold lst0; rw [List.map_drop]; rfl]
  exact k
noncomputable def coF (x nx du ot s t : Nat) (e6 e7 e8 : Option V) : Fm := [some (rv x),some (rv nx),some (rv du),some (rv ot),some (rv s),some (rv t),e6,e7,e8,none,none,none,none,none,none,none]
inductive CoI (H : Hp) (n : Nat) (A : SA) (W : Nat → List Nat) (nm : Nat → At) (ra : Nat → Nat) (ord : List Nat) (x nx du ot t i : Nat) (f' : Fm) (H' : Hp) : Prop
  | mk (P rl ks : List Nat) (e6 e7 e8 : Option V) (e : f' = coF x nx du ot A.s t e6 e7 e8) (c : CI H n A W nm ra ord t i P rl ks H')
inductive CoJ (H : Hp) (n : Nat) (A : SA) (W : Nat → List Nat) (nm : Nat → At) (ra : Nat → Nat) (ord P rl : List Nat) (x nx du ot t i : Nat) (e8 : Option V) (j : Nat) (f' : Fm) (H' : Hp) : Prop
  | mk (ks : List Nat) (e7 : Option V) (e : f' = coF x nx du ot A.s t (some (nv i)) e7 e8) (c : SI n A W (P ++ rl) (ord.take i).reverse [] H') (k : Ke K0 H H') (ht : H'[t]? = some (lst0 (it nm) ks)) (p : List.Perm ks (P ++ rl.take j)) (h : HP (rk ra ks) ks.length)
theorem comes_ok (T : Wt n W ra rb) (Q : Or n ra ord) {nm pm : Nat → At} {key pk : Nat → D0} (N : Nm n nm key ra) (M : Nm n pm pk rb) {x nx du ot : Nat} {wa : Nat → Nat} (hx : H[x]? = some (lst0 (fun k => rv (wa k)) (List.range n))) (hW : ∀ k,k < n → H[wa k]? = some (lst0 nv (W k)))
    (hnx : H[nx]? = some (NL n nm)) (hdu : H[du]? = some (lst0 nv ord)) (hot : H[ot]? = some (NL n pm)) (hN : NmAt n nm key H) (hM : NmAt n pm pk H) {f : Fm} {Φ : V → Fm → Hp → Prop} (kk : ∀ H',Ke K0 H H' → Φ (.at (.bool true)) f H') : ok (call 16 kc9 [rv x,rv nx,rv du,rv ot]) f H Φ := by
  have n90 : n < 90 := Nat.lt_trans T.n30 (by decide)
  have olen : ord.length ≤ n := kbq n ord Q.nodup fun k hk => (Q.mem k).mp hk
  refine kc7 (sorter_ok T rfl (kah rfl) hx hW fun A rl0 H1 S0 K1 hS => kam (kbm (kfy ⟨kah rfl,kam ?_⟩)))
  have er := kix (n := n) (f := [some (rv x),some (rv nx),some (rv du),some (rv ot),some (rv A.s),some (rv H1.length),none,none,none,none,none,none,none,none,none,none]) (H := H1 ++ [.list []]) (m := loc 2) (kab rfl) (ka0 (K1 _ _ hdu id)) (by rw [List.length_map]; exact Nat.lt_of_le_of_lt olen (Nat.lt_trans T.n30 (by decide)))
  rw [List.length_map] at er
  have nat : NA n A H1.length := S0.na
  have lt0 : H.length ≤ H1.length := K1.len
  refine kio (CoI H n A W nm ra ord x nx du ot H1.length) er (fun _ _ _ _ _ => trivial)
    ⟨[],rl0,[],none,none,none,rfl,by rw [List.take_zero]; exact S0.app,K1.trans (S' := K0) .app fun _ _ _ q => q,kbp,.refl _,fun i _ hi => absurd hi (Nat.not_lt_zero _)⟩ ?_ ?_
  · generalize H1.length = t at nat lt0
    clear S0 K1 er
    rintro i v f' H2 hv ⟨P,rl,ks,e6,e7,e8,rfl,C⟩
    have hi : i < ord.length := by have := (List.getElem?_eq_some_iff.mp hv).1; rwa [List.length_map,List.length_range] at this
    rw [kb7 hi] at hv
    cases hv
    obtain ⟨k,hk⟩ : ∃ k,ord[i]? = some k := ⟨_,List.getElem?_eq_getElem hi⟩
    have hkn := (Q.mem k).mp (List.mem_of_getElem? hk)
    refine kcd (kah rfl) (kam (kaz (kaz (kgk (kab rfl) C.si.srt.inst kax (ready_ok C.si T.n100 fun H3 S3 K3 => g_ev (show Ev (ket (.tup _)) _ _ _ from ka7) ?_)))))
    have K3' : Ke K0 H H3 := khp C.K hS K3
    have ht3 := K3 _ _ C.ht nat.out
    have rdy := S3
    refine g_forL (g := none) (CoJ H n A W nm ra ord P rl x nx du ot t i e8) _ (fun _ _ _ _ _ => trivial) ?_ ?_ _ 0 _ _ rfl (Nat.zero_le _)
      ⟨ks,_,rfl,S3,K3',ht3,by rw [List.take_zero,List.append_nil]; exact C.pm,C.hp⟩
    · rintro j v f' H4 hv ⟨ks,e7,rfl,S4,K4,ht4,p4,h4⟩
      rw [List.map_map,List.getElem?_map] at hv
      obtain ⟨y,hy,rfl⟩ := Option.map_eq_some_iff.mp hv
      have sub : ∀ z ∈ ks,z ∈ P ++ rl := fun z hz => (List.mem_append.mp (p4.mem_iff.mp hz)).elim (List.mem_append_left _) fun q => List.mem_append_right _ (List.take_subset _ _ q)
      have hyn := (S4.pm y (List.mem_append_right _ (List.mem_of_getElem? hy))).1
      have hlen : ks.length < 90 := by
        have := S4.small
        rw [List.length_append] at this
        rw [p4.length_eq,List.length_append]
        exact Nat.lt_of_le_of_lt (Nat.le_trans (Nat.add_le_add_left (List.length_take_le' ..) _) this) n90
      refine kcd (kah rfl) (kc4 (kd3 (vs := [rv t,it nm y]) (kbu (kab rfl) (kbu (g_tup2 (kbt (kab rfl) (kab rfl) (kca (K4 _ _ hnx id) (kb7 hyn))) (kab rfl)) kax)) (heappush_ok N ks y (fun l => hN.k0 (K4.old lt0)) ht4 (fun z hz => (S4.pm z (sub z hz)).1) hyn hlen h4 fun ks' p' h' => ⟨ks',_,rfl,S4.setN nat,K4.old lt0,kbv ht4,?_,h'⟩)))
      refine (p'.trans (p4.cons y)).trans ?_
      rw [List.take_add_one,hy,Option.toList_some,← List.append_assoc]
      exact (List.perm_append_singleton y _).symm
    · rintro f' H4 ⟨ks,e7,rfl,S4,K4,ht4,p4,h4⟩
      rw [List.length_map,List.length_map,List.take_length] at p4
      have memks : ∀ z,z ∈ ks ↔ z < n ∧ z ∉ ord.take i ∧ ∀ a ∈ W z,a ∈ ord.take i := fun z => by
        rw [p4.mem_iff]
        constructor
        · intro hz
          obtain ⟨h1,h2,h3⟩ := S4.pm z hz
          exact ⟨h1,fun q => h2 (List.mem_reverse.mpr q),fun a ha => List.mem_reverse.mp (h3 a ha)⟩
        · rintro ⟨h1,h2,h3⟩
          by_cases q : z ∈ P ++ rl
          · exact q
          · exact nomatch (S4.rm z).mpr ⟨h1,q,fun q => h2 (List.mem_reverse.mp q),fun a ha => List.mem_reverse.mpr (h3 a ha)⟩
      have ksn : ks.Nodup := p4.nodup_iff.mpr S4.pn
      have hlen : ks.length < 64 := Nat.lt_of_le_of_lt (p4.length_eq ▸ S4.small) (Nat.lt_trans T.n30 (by decide))
      refine kam (kaz (kaz (kaz (kld ks (it nm) nv (fun _ => true) (fun y => [none,some (.at (nm y)),some (nv y)]) (fun f => ∃ w w',f = [none,w,w']) (kgz (kab rfl) ht4) (Nat.lt_trans hlen (by decide)) (fun H' K => K _ _ ht4 id) ⟨none,none,rfl⟩ (fun y _ f' H' ⟨w,w',e⟩ => e ▸ kaz (kcd (kah rfl) (kcd (kah rfl) ⟨rfl,rfl⟩))) (fun y _ => ⟨_,_,rfl⟩) (fun y _ H' K => ⟨ka7,fun _ => kab rfl⟩) ?_))))
      rw [List.filter_eq_self.mpr fun _ _ => rfl]
      have ha5 := kbp (H := H4) (o := lst0 nv ks)
      have K5 : Ke K0 H4 (H4 ++ [lst0 nv ks]) := .app
      generalize H4 ++ [lst0 nv ks] = H5 at ha5 K5
      refine kiv (kgr ha5) hlen (kaz (kaz (kaz (kaz (g_cutFrom (kab rfl) (kab rfl) (ka0 (K5 _ _ (K4 _ _ hdu id) id)) (kan (kbu (kab rfl) kax) (kbw ?_)))))))
      have hs1 := ka0 (l := [lst0 nv (ord.drop i)]) (kbp (H := H5) (o := lst0 nv (sby (lk id) ks)))
      have hd1 := kbp (H := H5 ++ [lst0 nv (sby (lk id) ks)]) (o := lst0 nv (ord.drop i))
      have K6 : Ke K0 H4 (H5 ++ [lst0 nv (sby (lk id) ks)] ++ [lst0 nv (ord.drop i)]) := fun a o e q => ka0 (ka0 (K5 a o e q))
      generalize H5.length = s1 at hs1
      generalize (H5 ++ [lst0 nv (sby (lk id) ks)]).length = d1 at hd1
      generalize H5 ++ [lst0 nv (sby (lk id) ks)] ++ [lst0 nv (ord.drop i)] = H6 at hs1 hd1 K6
      have K46 : Ke K0 H H6 := K4.trans K6 fun _ _ _ q => q
      refine lesser_ok M (Q.up.sublist (List.drop_sublist ..)) (fun z hz => (Q.drop.mp hz).1) (Nat.lt_trans T.n30 (by decide)) hd1 (K46 _ _ hot id) (hM.k0 K46) fun a7 H7 kept K7 ha7 kn km => ?_
      have hkl : kept.length < 64 := Nat.lt_of_le_of_lt (kbq n kept kn fun z hz => (Q.drop.mp ((km z).mp hz).1).1) (Nat.lt_trans T.n30 (by decide))
      refine kiv (kgr ha7) hkl ?_
      have same : sby (lk id) ks = sby (lk id) kept := sby_same ksn kn fun z => by
        rw [memks z,km z,Q.drop,and_assoc]
        refine and_congr_right fun hz => and_congr_right fun _ => ⟨fun h a ha q1 q2 => (Q.drop.mp ha).2 (h a (T.mem.mpr ⟨(Q.drop.mp ha).1,q1,q2⟩)),fun h a ha => ?_⟩
        obtain ⟨q1,q2,q3⟩ := T.mem.mp ha
        exact Decidable.not_not.mp fun q => h a (Q.drop.mpr ⟨q1,q⟩) q2 q3
      have hs8 := ka0 (l := [lst0 nv (sby (lk id) kept)]) (K7 _ _ hs1 id)
      have hk8 := kbp (H := H7) (o := lst0 nv (sby (lk id) kept))
      have K8 : Ke K0 H4 (H7 ++ [lst0 nv (sby (lk id) kept)]) := fun a o e q => ka0 (K7 _ _ (K6 a o e q) id)
      rw [← same] at hs8 hk8 K8 ⊢
      generalize H7.length = a8 at hk8 ⊢
      generalize H7 ++ [lst0 nv (sby (lk id) ks)] = H8 at hs8 hk8 K8
      refine g_ev (show Ev (kfp fun h => (eqV h (rv s1) (rv a8)).map (!·)) _ _ false from ke8 (by rw [eqV_nv hs8 hk8]; rfl)) (ke7 ?_)
      have K08 : Ke K0 H H8 := K4.trans K8 fun _ _ _ q => q
      have ht8 := K8 _ _ ht4 id
      have S8 : SI n A W (P ++ rl) (ord.take i).reverse [] H8 := S4.keepN K8 fun _ q => q.elim
      have kks : k ∈ ks := (memks k).mpr ⟨hkn,fun q => Nat.lt_irrefl _ ((Q.take hk).mp q).2,fun a ha => (Q.take hk).mpr ⟨(T.mem.mp ha).1,(T.mem.mp ha).2.1⟩⟩
      refine kam (kbm (kd3 (vs := [rv t]) (kbu (kab rfl) kax) (heappop_ok N ks (fun l => hN.k0 (K08.old lt0)) ht8 (fun q => nomatch (q ▸ kks : k ∈ [])) (fun z hz => ((memks z).mp hz).1) (Nat.lt_trans hlen (by decide)) h4 fun mn ks' p' lo h' => ?_)))
      have emn : mn = k := by
        have hm := (memks mn).mp (p'.mem_iff.mpr (.head _))
        refine T.ia mn k hm.1 hkn (Nat.le_antisymm (lo k kks) (Nat.le_of_not_lt fun q => hm.2.1 ((Q.take hk).mpr ⟨hm.1,q⟩)))
      subst emn
      refine ⟨kah rfl,?_⟩
      have K9 : Ke K0 H (H8.set t (lst0 (it nm) ks')) := K08.old lt0
      have S9 : SI n A W (P ++ rl) (ord.take i).reverse [] (H8.set t (lst0 (it nm) ks')) := S8.setN nat
      have ht9 := kbv (o' := lst0 (it nm) ks') ht8
      generalize H8.set t (lst0 (it nm) ks') = H9 at K9 S9 ht9
      have due9 := kca (f := [some (rv x),some (rv nx),some (rv du),some (rv ot),some (rv A.s),some (rv t),some (nv i),e7,some (it nm mn),none,none,none,none,none,none,none]) (k := i) (v := nv mn) (K9 _ _ hdu id) (by rw [List.getElem?_map,hk]; rfl)
      refine kam (kjy (ev_ne (kab rfl) (g_tup2 (kbt (kab rfl) (kbt (kab rfl) (kab rfl) due9) (kca (K9 _ _ hnx id) (kb7 hkn))) (kbt (kab rfl) (kab rfl) due9)) ?_) (ke7 (kc4 (g_done T S9 (p4.mem_iff.mp kks) (kab rfl) (ev_second (kab rfl)) fun rl' H' S' K' => ⟨(P ++ rl).erase mn,rl',ks',_,_,_,rfl,?_,khp K9 hS K',K' _ _ ht9 nat.out,?_,h'⟩))))
      · show eqV H9 (it nm mn) (it nm mn) = some true
        unfold eqV
        rw [rdV_it (hN.k0 K9) hkn]
        exact congrArg some (decide_eq_true rfl)
      · rw [List.take_add_one,hk,Option.toList_some,List.reverse_append]; exact S'
      · have := (p'.symm.trans p4).erase mn
        rwa [List.erase_cons_head] at this
  · generalize H1.length = t at nat lt0
    rintro f' H2 ⟨P,rl,ks,e6,e7,e8,rfl,C⟩
    rw [List.length_map,List.length_range] at C
    have S := C.si
    rw [List.take_length] at S
    have full : ∀ k,k < n → k ∈ ord.reverse := fun k hk => List.mem_reverse.mpr ((Q.mem k).mpr hk)
    have eP : P = [] := List.eq_nil_iff_forall_not_mem.mpr fun k hk => (S.pm k hk).2.1 (full k (S.pm k hk).1)
    have er : rl = [] := List.eq_nil_iff_forall_not_mem.mpr fun k hk => ((S.rm k).mp hk).2.2.1 (full k ((S.rm k).mp hk).1)
    have ht := C.ht
    subst eP er
    rw [show ks = [] from List.Perm.eq_nil C.pm] at ht
    refine kfx (kaz (kaz (g_eqNil (l := []) (kab rfl) ht (kbw (kan (a := true) ka7 ?_)))))
    have S2 := S.app (l := [.list []])
    refine kaz (kaz (kaz (kgk (kab rfl) S2.srt.inst kax (active_ok S2 (g_ev ka7 (kbw (kbw ⟨_,rfl,kk _ (C.K.trans (S' := K0) .app fun _ _ _ q => q)⟩)))))))
end
end Mine.Q
namespace Mine.Q
open PySem
theorem kd0 : ∀ l : List Nat,kbf l l = false
  | [] => rfl
  | a :: x => by unfold kbf; rw [if_pos rfl]; exact kd0 x
theorem ke4 : ∀ {a b c : List Nat},kbf a b = true → kbf b c = true → kbf a c = true
  | [],[],_,h,_ => nomatch h
  | [],_ :: _,[],_,h => nomatch h
  | [],_ :: _,_ :: _,_,_ => rfl
  | _ :: _,[],_,h,_ => nomatch h
  | _ :: _,_ :: _,[],_,h => nomatch h
  | a :: x,b :: y,c :: z,h,k => by
    unfold kbf at h k ⊢
    by_cases e : a = b
    · subst e
      rw [if_pos rfl] at h
      by_cases e : a = c
      · subst e; rw [if_pos rfl] at k ⊢; exact ke4 h k
      · rw [if_neg e] at k ⊢; exact k
    · rw [if_neg e] at h
      have h := of_decide_eq_true h
      by_cases e' : b = c
      · subst e'; rw [if_neg e]; exact decide_eq_true h
      · rw [if_neg e'] at k
        have k := of_decide_eq_true k
        rw [if_neg (Nat.ne_of_lt (Nat.lt_trans h k))]; exact decide_eq_true (Nat.lt_trans h k)
theorem kdz : ∀ {a b : List Nat},a ≠ b → kbf a b = true ∨ kbf b a = true
  | [],[],h => (h rfl).elim
  | [],_ :: _,_ => .inl rfl
  | _ :: _,[],_ => .inr rfl
  | a :: x,b :: y,h => by
    unfold kbf
    by_cases e : a = b
    · subst e
      rw [if_pos rfl,if_pos rfl]
      exact kdz fun q => h (by rw [q])
    · rw [if_neg e,if_neg (Ne.symm e),decide_eq_true_iff,decide_eq_true_iff]
      exact Nat.lt_or_gt_of_ne e
theorem kjl {a b : Nat} {x y : List Nat} : kbf (a :: x) (b :: y) = if a = b then kbf x y else decide (a < b) := rfl
theorem kh2 : ∀ (p a b : List Nat),kbf (p ++ a) (p ++ b) = kbf a b
  | [],_,_ => rfl
  | x :: p,a,b => by
    show kbf (x :: (p ++ a)) (x :: (p ++ b)) = _
    rw [kjl,if_pos rfl]; exact kh2 p a b
theorem kh3 : ∀ (a b : List Nat),kdy (a.map Int.ofNat) (b.map Int.ofNat) = kbf a b
  | [],[] => rfl
  | [],_ :: _ => rfl
  | _ :: _,[] => rfl
  | a :: x,b :: y => by
    show (if Int.ofNat a = Int.ofNat b then kdy (x.map Int.ofNat) (y.map Int.ofNat) else decide (Int.ofNat a < Int.ofNat b)) = _
    unfold kbf
    rw [kh3 x y]
    by_cases e : a = b
    · rw [if_pos e,if_pos (congrArg Int.ofNat e)]
    · rw [if_neg e,if_neg fun q => e (Int.ofNat.inj q)]
      exact decide_eq_decide.mpr Int.ofNat_lt
noncomputable def part : List Nat → List Nat → Option Bool
  | a :: x,b :: y => if a = b then part x y else some (decide (a < b))
  | _,_ => none
theorem klv : ∀ {a b : List Nat} {c : Bool} (x y : List Nat),part a b = some c → kbf (a ++ x) (b ++ y) = c
  | a :: p,b :: q,c,x,y,h => by
    unfold part at h
    show kbf (a :: (p ++ x)) (b :: (q ++ y)) = c
    unfold kbf
    by_cases e : a = b
    · rw [if_pos e] at h ⊢; exact klv x y h
    · rw [if_neg e] at h ⊢; exact Option.some.inj h
  | [],_,_,_,_,h => nomatch h
  | _ :: _,[],_,_,_,h => nomatch h
noncomputable def sg : List Nat := [10,32,33,47,57,61,65,90,95,97,122,126,200,255]
noncomputable def safe (c : Nat) : Bool := [33,42,43,45,47].contains c || (decide (48 ≤ c) && decide (c ≤ 57) || (decide (65 ≤ c) && decide (c ≤ 90) || decide (97 ≤ c) && decide (c ≤ 122)))
noncomputable def pl1 (c : Nat) : Nat := if c = 32 then 95 * 256 else if safe c = true then c * 256 else 61 * 256 + c
noncomputable def plc (l : List Nat) : List Nat := l.map pl1 ++ [63 * 256]
noncomputable def tail (l : List Nat) : List Nat := l.flatMap sign ++ [63,61]
noncomputable def chk2 : Bool := sg.all fun a => sg.all fun b => a == b || (part (sign a) (sign b) == some (decide (pl1 a < pl1 b)) && pl1 a != pl1 b)
noncomputable def chk1 : Bool := sg.all fun b => part [63,61] (sign b) == some (decide (63 * 256 < pl1 b)) && part (sign b) [63,61] == some (decide (pl1 b < 63 * 256)) && pl1 b != 63 * 256
theorem chk2_ok : chk2 = true := by decide +kernel
theorem chk1_ok : chk1 = true := by decide +kernel
theorem sg2 {a b : Nat} (ha : a ∈ sg) (hb : b ∈ sg) (h : a ≠ b) : part (sign a) (sign b) = some (decide (pl1 a < pl1 b)) ∧ pl1 a ≠ pl1 b := by
  have := List.all_eq_true.mp (List.all_eq_true.mp chk2_ok a ha) b hb
  rw [beq_eq_false_iff_ne.mpr h,Bool.false_or,Bool.and_eq_true] at this
  exact ⟨eq_of_beq this.1,bne_iff_ne.mp this.2⟩
theorem sg1 {b : Nat} (hb : b ∈ sg) : part [63,61] (sign b) = some (decide (63 * 256 < pl1 b)) ∧ part (sign b) [63,61] = some (decide (pl1 b < 63 * 256)) ∧ pl1 b ≠ 63 * 256 := by
  have := List.all_eq_true.mp chk1_ok b hb
  rw [Bool.and_eq_true,Bool.and_eq_true] at this
  exact ⟨eq_of_beq this.1.1,eq_of_beq this.1.2,bne_iff_ne.mp this.2⟩
theorem pl_inj {a b : Nat} (ha : a ∈ sg) (hb : b ∈ sg) (h : pl1 a = pl1 b) : a = b := Decidable.not_not.mp fun q => (sg2 ha hb q).2 h
theorem plc_inj : ∀ {x y : List Nat},(∀ a ∈ x,a ∈ sg) → (∀ a ∈ y,a ∈ sg) → plc x = plc y → x = y
  | [],[],_,_,_ => rfl
  | [],b :: y,_,hy,h => ((sg1 (hy b (.head _))).2.2 (List.cons.inj h).1.symm).elim
  | a :: x,[],hx,_,h => ((sg1 (hx a (.head _))).2.2 (List.cons.inj h).1).elim
  | a :: x,b :: y,hx,hy,h => by
    obtain ⟨h1,h2⟩ := List.cons.inj (show pl1 a :: plc x = pl1 b :: plc y from h)
    rw [pl_inj (hx a (.head _)) (hy b (.head _)) h1,plc_inj (fun c hc => hx c (.tail _ hc)) (fun c hc => hy c (.tail _ hc)) h2]
theorem kic : ∀ {x y : List Nat},(∀ a ∈ x,a ∈ sg) → (∀ a ∈ y,a ∈ sg) → kbf (tail x) (tail y) = kbf (plc x) (plc y)
  | [],[],_,_ => rfl
  | [],b :: y,_,hy => by
    obtain ⟨h1,_,h3⟩ := sg1 (hy b (.head _))
    have e1 := klv [] (tail y) h1
    have e2 : kbf (plc []) (plc (b :: y)) = decide (63 * 256 < pl1 b) := by
      show kbf (63 * 256 :: []) (pl1 b :: plc y) = _
      unfold kbf; rw [if_neg (Ne.symm h3)]
    rw [e2,← e1]
    show kbf [63,61] (List.flatMap sign (b :: y) ++ [63,61]) = kbf ([63,61] ++ []) (sign b ++ tail y)
    rw [List.flatMap_cons,List.append_assoc]; rfl
  | a :: x,[],hx,_ => by
    obtain ⟨_,h2,h3⟩ := sg1 (hx a (.head _))
    have e1 := klv (tail x) [] h2
    have e2 : kbf (plc (a :: x)) (plc []) = decide (pl1 a < 63 * 256) := by
      show kbf (pl1 a :: plc x) (63 * 256 :: []) = _
      unfold kbf; rw [if_neg h3]
    rw [e2,← e1]
    show kbf (List.flatMap sign (a :: x) ++ [63,61]) [63,61] = kbf (sign a ++ tail x) ([63,61] ++ [])
    rw [List.flatMap_cons,List.append_assoc]; rfl
  | a :: x,b :: y,hx,hy => by
    have t : ∀ c z,tail (c :: z) = sign c ++ tail z := fun c z => by unfold tail; rw [List.flatMap_cons,List.append_assoc]
    rw [t,t]
    show _ = kbf (pl1 a :: plc x) (pl1 b :: plc y)
    rw [kjl]
    by_cases e : a = b
    · subst e
      rw [if_pos rfl,kh2]
      exact kic (fun c hc => hx c (.tail _ hc)) fun c hc => hy c (.tail _ hc)
    · obtain ⟨h1,h2⟩ := sg2 (hx a (.head _)) (hy b (.head _)) e
      rw [if_neg h2]
      exact klv _ _ h1
theorem Nm.of {n : Nat} {nm : Nat → At} {key : Nat → D0} {lt : Nat → Nat → Bool} (irr : ∀ a,lt a a = false) (tr : ∀ a b c,lt a b = true → lt b c = true → lt a c = true) (tot : ∀ a b,a < n → b < n → a ≠ b → lt a b = true ∨ lt b a = true)
    (hlt : ∀ a b,a < n → b < n → lt0 (key a) (key b) = some (lt a b)) : Nm n nm key (rank n lt) := by
  refine ⟨fun a b ha hb => by rw [hlt a b ha hb,rank_iff irr tr tot ha hb],fun a b ha hb e => ?_,fun a b ha hb e => rank_inj irr tr tot ha hb e⟩
  refine Decidable.not_not.mp fun q => ?_
  have e1 := hlt a b ha hb
  have e2 := hlt b a hb ha
  have e3 := hlt a a ha ha
  rw [e] at e1 e3
  rw [e] at e2
  have e4 := hlt b b hb hb
  rw [e4,irr] at e1 e2
  rcases tot a b ha hb q with z | z
  · rw [z] at e1; cases e1
  · rw [z] at e2; cases e2
end Mine.Q
namespace Mine.Q
open PySem
section
variable {n : Nat} {nm : Nat → At} {key : Nat → D0} {r : Nat → Nat} {H : Hp} {f : Fm} {Φ : V → Fm → Hp → Prop}
theorem g_compSrc {src : M Src} {fr : List (Option Nat)} {bindT : V → M Unit} {t : M Bool} {e : M V} (h : ok src f H fun s f₁ H₁ => ok (kcc (ret s) fr bindT t e) f₁ H₁ Φ) : ok (kcc src fr bindT t e) f H Φ := kaz (kcs h fun s f₁ H₁ q => by
  obtain ⟨b,f',H',e,z⟩ := q
  exact ⟨b,f',H',e,z⟩)
theorem kjw (N : Nm n nm key r) {x : Nat} (hx : H[x]? = some (NL n nm)) (hN : NmAt n nm key H) (h2 : 2 ≤ n) (hn : n < 30) (kk : ∀ a H',Ke K0 H H' → H'[a]? = some (lst0 nv (sby (lk r) (List.range n))) → Φ (rv a) f H') : ok (call 4 kc8 [rv x]) f H Φ := by
  have er := kix (n := n) (f := [some (rv x),none,none,none]) (m := loc 0) (kab rfl) hx (by rw [List.length_map,List.length_range]; exact Nat.lt_trans hn (by decide))
  rw [List.length_map,List.length_range] at er
  refine kc7 (kfx (g_compSrc (kaz (kaz (kld (List.range n) nv (it nm) (fun _ => true) (fun k => [none,some (nv k),some (rv x)]) (fun f => ∃ w,f = [none,w,some (rv x)]) er (by rw [List.length_range]; exact Nat.lt_trans hn (by decide)) (fun _ _ => trivial) ⟨none,rfl⟩ (fun k _ f' H' ⟨w,e⟩ => e ▸ b1 (kah rfl) rfl) (fun k _ => ⟨_,rfl⟩)
    (fun k hk H' K => ⟨ka7,fun _ => g_tup2 (kbt (kab rfl) (kab rfl) (kca (K _ _ hx id) (kb7 (List.mem_range.mp hk)))) (kab rfl)⟩) ?_)))))
  rw [List.filter_eq_self.mpr fun _ _ => rfl]
  have ha := kbp (H := H) (o := lst0 (it nm) (List.range n))
  have K : Ke K0 H (H ++ [lst0 (it nm) (List.range n)]) := .app
  generalize H ++ [lst0 (it nm) (List.range n)] = H1 at ha K
  generalize H.length = a at ha
  have hN1 := hN.k0 K
  have rdp : mapO (rdPr H1) ((List.range n).map (it nm)) = some ((List.range n).map fun k => (key k,Int.ofNat k)) := khk fun k hk => rdPr_it hN1 (List.mem_range.mp hk)
  have okp : okPrs H1 ((List.range n).map (it nm)) = true := by
    unfold okPrs
    rw [rdp]
    show (decide (2 ≤ ((List.range n).map fun k => (key k,Int.ofNat k)).length) && _ && _) = true
    rw [Bool.and_eq_true,Bool.and_eq_true]
    refine ⟨⟨decide_eq_true (by rw [List.length_map,List.length_range]; exact h2),List.all_eq_true.mpr fun p hp => List.all_eq_true.mpr fun q hq => ?_⟩,decide_eq_true ?_⟩
    · obtain ⟨i,hi,rfl⟩ := List.mem_map.mp hp
      obtain ⟨j,hj,rfl⟩ := List.mem_map.mp hq
      dsimp only
      rw [N.lt i j (List.mem_range.mp hi) (List.mem_range.mp hj)]; rfl
    · exact List.pairwise_map.mpr (List.nodup_range.imp fun h e => h (Int.ofNat.inj (Prod.mk.inj e).2))
  have srt : kfn (fun x y => (ltV H1 x y).getD false) ((List.range n).map (it nm)) = (sby (lk r) (List.range n)).map (it nm) := sby_map fun i hi j hj => by rw [ltV_it N hN1 (List.mem_range.mp hi) (List.mem_range.mp hj)]; rfl
  refine ⟨rv H1.length,[some (rv x),none,none,none],H1 ++ [lst0 (it nm) (sby (lk r) (List.range n))],?_,?_⟩
  · unfold kga
    rw [kgr ha]
    show (if decide (((List.range n).map (it nm)).length < 64) && ((ints? ((List.range n).map (it nm))).isSome || okPrs H1 ((List.range n).map (it nm))) then _ else _) = _
    rw [okp,srt,List.length_map,List.length_range,Bool.or_true,decide_eq_true (Nat.lt_trans hn (by decide))]
    rfl
  · have hb := kbp (H := H1) (o := lst0 (it nm) (sby (lk r) (List.range n)))
    have K2 : Ke K0 H (H1 ++ [lst0 (it nm) (sby (lk r) (List.range n))]) := fun a o e q => ka0 (K a o e q)
    generalize H1 ++ [lst0 (it nm) (sby (lk r) (List.range n))] = H2 at hb K2
    have ln : (sby (lk r) (List.range n)).length < lim := by rw [(kfa _).length_eq,List.length_range]; exact Nat.lt_trans hn (by decide)
    refine g_ev (show Ev (ket (rv H1.length)) _ _ _ from kas (kcf hb) ka7) (kld (sby (lk r) (List.range n)) (it nm) nv (fun _ => true) (fun y => [none,some (.at (nm y)),some (nv y)]) (fun f => ∃ w w',f = [none,w,w']) ka7 ln (fun H' K => K _ _ hb id) ⟨none,none,rfl⟩ (fun y _ f' H' ⟨w,w',e⟩ => e ▸ kaz (kcd (kah rfl) (kcd (kah rfl) ⟨rfl,rfl⟩))) (fun y _ => ⟨_,_,rfl⟩) (fun y _ H' K => ⟨ka7,fun _ => kab rfl⟩) ⟨_,rfl,?_⟩)
    rw [List.filter_eq_self.mpr fun _ _ => rfl]
    exact kk _ _ (fun a o e q => ka0 (K2 a o e q)) kbp
end
noncomputable def word (l : List Nat) : Str := ⟨([61,63] ++ ("iso-8859-1" : Str).cps.toList ++ [63,113,63] ++ l.flatMap sign ++ [63,61]).toArray⟩
def good (l : List Nat) : Prop := (l.length = 1 ∨ l.length = 2) ∧ ∀ a ∈ l,a ∈ sg
noncomputable def chkS : Bool := sg.all fun a => decide (a < 256) && decide ((sign a).length < 4) && (sign a).all (· < 1000)
theorem chkS_ok : chkS = true := by decide +kernel
theorem sgS {a : Nat} (ha : a ∈ sg) : a < 256 ∧ (sign a).length < 4 ∧ (sign a).all (· < 1000) = true := by
  have := List.all_eq_true.mp chkS_ok a ha
  rw [Bool.and_eq_true,Bool.and_eq_true,decide_eq_true_iff,decide_eq_true_iff] at this
  exact ⟨this.1.1,this.1.2,this.2⟩
section
variable {f : Fm} {H : Hp}
theorem ev_bytes {a : Nat} {l : List Nat} (h : H[a]? = some (lst0 nv l)) (hl : ∀ x ∈ l,x < 256) (hn : l.length < 1000) : Ev (kj8 (rv a)) f H (.at (.bytes (l.map fun x => UInt8.ofNat x).toArray)) := by
  refine kas (ke8 (kgi h)) ?_
  have e : (((l.map Int.ofNat).all fun i => decide (0 ≤ i ∧ i < 256)) && decide ((l.map Int.ofNat).length < 1000)) = true := by
    rw [Bool.and_eq_true,List.length_map,decide_eq_true_iff]
    refine ⟨List.all_eq_true.mpr fun i hi => ?_,hn⟩
    obtain ⟨x,hx,rfl⟩ := List.mem_map.mp hi
    exact decide_eq_true ⟨Int.natCast_nonneg x,Int.lt_of_lt_of_le (Int.ofNat_lt.mpr (hl x hx)) (by decide)⟩
  rw [if_pos e,List.map_map]
  exact kaw
theorem u8 {x : Nat} (h : x < 256) : (UInt8.ofNat x).toNat = x := UInt8.toNat_ofNat_of_lt h
theorem ev_decode {l : List Nat} (h : l.length = 1 ∨ l.length = 2) (hl : ∀ x ∈ l,x < 256) : Ev (kiy (.at (.bytes (l.map fun x => UInt8.ofNat x).toArray))) f H (.at (.str ⟨l.toArray⟩)) := by
  rcases l with _ | ⟨x,_ | ⟨y,_ | ⟨z,r⟩⟩⟩
  · rcases h with h | h <;> cases h
  · show Ev (cst (.str ⟨#[(UInt8.ofNat x).toNat]⟩)) f H _
    rw [u8 (hl x (.head _))]; exact kaw
  · show Ev (cst (.str ⟨#[(UInt8.ofNat x).toNat,(UInt8.ofNat y).toNat]⟩)) f H _
    rw [u8 (hl x (.head _)),u8 (hl y (.tail _ (.head _)))]; exact kaw
  · rcases h with h | h <;> (injection h with h; try (injection h with h)) <;> cases h
theorem kiw {l : List Nat} (h : good l) : (l.flatMap sign).length < 10 := by
  obtain ⟨h,g⟩ := h
  rcases l with _ | ⟨x,_ | ⟨y,_ | ⟨z,r⟩⟩⟩
  · exact Nat.succ_pos _
  · rw [List.flatMap_cons,List.length_append]; exact Nat.lt_trans (sgS (g x (.head _))).2.1 (by decide)
  · rw [List.flatMap_cons,List.flatMap_cons,List.length_append,List.length_append]
    have := (sgS (g x (.head _))).2.1
    have := (sgS (g y (.tail _ (.head _)))).2.1
    show _ + (_ + 0) < 10; omega
  · rcases h with h | h <;> (injection h with h; try (injection h with h)) <;> cases h
theorem header_ev {m : M V} {a : Nat} {l : List Nat} (em : Ev m f H (rv a)) (h : H[a]? = some (lst0 nv l)) (g : good l) : Ev (kfk 4 kc0 [app1 kj8 m,cst (.str "iso-8859-1")]) f H (.at (.str (word l))) := by
  obtain ⟨b,f',H',e,rfl,rfl,rfl⟩ : ok (kfk 4 kc0 [app1 kj8 m,cst (.str "iso-8859-1")]) f H fun v f' H' => v = .at (.str (word l)) ∧ f' = f ∧ H' = H := by
    have l256 : ∀ x ∈ l,x < 256 := fun x hx => (sgS (g.2 x hx)).1
    have ll : l.length < 1000 := by rcases g.1 with q | q <;> rw [q] <;> decide
    have l0 : l.length ≠ 0 := by rcases g.1 with q | q <;> rw [q] <;> decide
    have sz : (l.map fun x => UInt8.ofNat x).toArray.size = l.length := by rw [List.size_toArray,List.length_map]
    refine kd3 (kbu (kgl em (ev_bytes h l256 ll)) (kbu kaw kax)) (kc7 (kam (kjy (kas (kas (kab rfl) (show Ev (if (l.map fun x => UInt8.ofNat x).toArray.size < 1000 then ret ((l.map fun x => UInt8.ofNat x).toArray.size != 0) else fail) _ _ true from ?_)) ka7) (ke7 (kam (kbo (v := .at (.str ⟨(l.flatMap sign).toArray⟩)) (kgl (kgl (kab rfl) (ev_decode g.1 l256)) ?_) (kah rfl) (kc6 (v := .at (.str (word l))) (kas (kas (kbu (kab rfl) (kbu (kab rfl) kax)) ka7) ?_) ⟨_,rfl,rfl,rfl,rfl⟩)))))))
    · rw [sz,if_pos ll,bne_iff_ne.mpr l0]; exact ka7
    · show Ev (if l.toArray.all (· < 256) && decide (l.toArray.size ≠ 0 ∧ l.toArray.size < 1000) then cst (.str ⟨(l.toArray.toList.flatMap sign).toArray⟩) else fail) _ _ _
      rw [if_pos]
      · exact kaw
      · rw [Bool.and_eq_true,List.all_toArray,List.size_toArray,decide_eq_true_iff]
        exact ⟨List.all_eq_true.mpr fun x hx => decide_eq_true (l256 x hx),l0,ll⟩
    · show Ev (if ("iso-8859-1" : Str).cps.size < 10000 ∧ (l.flatMap sign).toArray.size < 10000 then cst (.str ⟨([61,63] ++ ("iso-8859-1" : Str).cps.toList ++ [63,113,63] ++ (l.flatMap sign).toArray.toList ++ [63,61]).toArray⟩) else fail) _ _ _
      rw [if_pos ⟨by decide +kernel,by rw [List.size_toArray]; exact Nat.lt_trans (kiw g) (by decide)⟩]
      exact kaw
  exact e
theorem word_fine {l : List Nat} (g : good l) : fine (word l) = true := by
  unfold fine word
  rw [List.all_toArray,List.all_append,List.all_append]
  have : (l.flatMap sign).all (· < 1000) = true := by
    rw [List.all_flatMap]
    exact List.all_eq_true.mpr fun x hx => (sgS (g.2 x hx)).2.2
  rw [this]
  decide +kernel
theorem word_lt {x y : List Nat} (gx : good x) (gy : good y) : ltStr (word x) (word y) = kbf (plc x) (plc y) := by
  rw [← kic gx.2 gy.2]
  unfold ltStr word tail
  show kbf (([61,63] ++ ("iso-8859-1" : Str).cps.toList ++ [63,113,63] ++ x.flatMap sign ++ [63,61])) (([61,63] ++ ("iso-8859-1" : Str).cps.toList ++ [63,113,63] ++ y.flatMap sign ++ [63,61])) = _
  rw [List.append_assoc _ (x.flatMap sign),List.append_assoc _ (y.flatMap sign),kh2]
end
end Mine.Q
namespace Mine.Q
open PySem
section
variable {f : Fm} {H : Hp}
theorem rdV_ints {l : List Nat} : mapO (rdV H) (l.map nv) = some (l.map fun k => Dt.int (Int.ofNat k)) := khk fun _ _ => rfl
theorem ev_in {a : M V} {c x : Nat} {l : List Nat} (ea : Ev a f H (nv c)) (h : H[x]? = some (lst0 nv l)) : Ev (isIn (nv c) (rv x)) f H (l.contains c) := kas (kcf h) (by
  show Ev (kfp fun h => kii h (.int (Int.ofNat c)) (l.map nv)) f H _
  refine ke8 ?_
  unfold kii
  rw [rdV_ints]
  show some ((l.map fun k => Dt.int (Int.ofNat k)).any fun b => decide (b = .int (Int.ofNat c))) = _
  rw [List.any_map]
  congr 1
  by_cases q : c ∈ l
  · rw [List.contains_iff_mem.mpr q]; exact List.any_eq_true.mpr ⟨c,q,decide_eq_true rfl⟩
  · rw [Bool.eq_false_iff.mpr fun z => q (List.contains_iff_mem.mp z)]
    exact List.any_eq_false.mpr fun y hy z => q (by have := Int.ofNat.inj (Dt.int.inj (of_decide_eq_true z)); rw [← this]; exact hy))
theorem ev_le2 {b : M V} {c lo hi : Nat} (eb : Ev b f H (nv c)) : Ev (cmp2_ .LtE .LtE (cst (.int (Int.ofNat lo))) b (cst (.int (Int.ofNat hi)))) f H (decide (lo ≤ c) && decide (c ≤ hi)) := by
  have le : ∀ i j : Nat,Ev (cmp .LtE (nv i) (nv j)) f H (decide (i ≤ j)) := fun i j => by
    show Ev (ret (decide (Int.ofNat i ≤ Int.ofNat j))) f H _
    rw [show decide (Int.ofNat i ≤ Int.ofNat j) = decide (i ≤ j) from decide_eq_decide.mpr Int.ofNat_le]; exact ka7
  refine kas kaw (kas eb (kas (le lo c) ?_))
  cases decide (lo ≤ c)
  · exact ka7
  · exact kas kaw (le c hi)
theorem ev_or {a b : M Bool} {x y : Bool} (ea : Ev a f H x) (eb : Ev b f H y) : Ev (or_ a b) f H (x || y) := kas ea (by cases x; exact eb; exact ka7)
theorem ev_and {a b : M Bool} {x y : Bool} (ea : Ev a f H x) (eb : Ev b f H y) : Ev (and_ a b) f H (x && y) := kas ea (by cases x; exact ka7; exact eb)
theorem ev_mul {a b : M V} {i j : Nat} (ea : Ev a f H (nv i)) (eb : Ev b f H (nv j)) (h : i < 100000) (h' : j < 100000) : Ev (bin_ .Mult a b) f H (nv (i * j)) := kas ea (kas eb (by
  show Ev (if decide ((Int.ofNat i).natAbs < 1073741824) && decide ((Int.ofNat j).natAbs < 1073741824) then cst (.int (Int.ofNat i * Int.ofNat j)) else fail) f H _
  rw [decide_eq_true (show (Int.ofNat i).natAbs < 1073741824 from Nat.lt_trans h (by decide)),decide_eq_true (show (Int.ofNat j).natAbs < 1073741824 from Nat.lt_trans h' (by decide))]; exact kaw))
theorem ev_plus {a b : M V} {i j : Nat} (ea : Ev a f H (nv i)) (eb : Ev b f H (nv j)) (h : i < 100000) (h' : j < 100000) : Ev (bin_ .Add a b) f H (nv (i + j)) := kas ea (kas eb (by
  show Ev (if small (Int.ofNat i) && small (Int.ofNat j) then cst (.int (Int.ofNat i + Int.ofNat j)) else fail) f H _
  rw [kev h,kev h']; exact kaw))
theorem g_list1 {a : M V} {v : V} {Φ : V → Fm → Hp → Prop} (ea : Ev a f H v) (h : Φ (rv H.length) f (H ++ [.list [v]])) : ok (kd1 [a]) f H Φ := kan (kbu ea kax) (kfq h)
theorem g_add {a b : M V} {x : Nat} {l : List Nat} {Φ : V → Fm → Hp → Prop} (ea : Ev a f H (rv x)) (h : H[x]? = some (lst0 nv l)) (hl : l.length < 1000) (hb : ok b f H fun v f' H' => ∃ y m,v = rv y ∧ H'[x]? = some (lst0 nv l) ∧ H'[y]? = some (lst0 nv m) ∧ m.length < 1000 ∧ Φ (rv H'.length) f' (H' ++ [lst0 nv (l ++ m)])) : ok (bin_ .Add a b) f H Φ := by
  refine kan ea (kaz (kcs hb ?_))
  rintro _ f' H' ⟨y,m,rfl,h1,h2,hm,k⟩
  show ok (lst (rv x) fun _ xs => lst (rv y) fun _ ys => if xs.length + ys.length ≤ lim then new (.list (xs ++ ys)) else fail) f' H' Φ
  refine kl9 h1 (kl9 h2 ?_)
  rw [List.length_map,List.length_map,if_pos (Nat.le_of_lt (Nat.lt_of_lt_of_le (Nat.add_lt_add hl hm) (by decide))),← List.map_append]
  exact kfq k
noncomputable def plF (x y : Nat) (e2 : Option V) : Fm := [some (rv x),some (rv y),e2]
inductive PlI (H : Hp) (row : List Nat) (x y i : Nat) (f' : Fm) (H' : Hp) : Prop
  | mk (e2 : Option V) (e : f' = plF x y e2) (K : Ke K0 H H') (h : H'[y]? = some (lst0 nv ((row.take i).map pl1)))
theorem place_ok {x : Nat} {row : List Nat} (hx : H[x]? = some (lst0 nv row)) (g : good row) {Φ : V → Fm → Hp → Prop} (kk : ∀ a H',Ke K0 H H' → H.length ≤ a → H'[a]? = some (lst0 nv (plc row)) → Φ (rv a) f H') : ok (call 3 kf1 [rv x]) f H Φ := by
  have rl : row.length < 3 := by rcases g.1 with q | q <;> rw [q] <;> decide
  refine kc7 (kam (kbm (kfy ⟨kah rfl,kam ?_⟩)))
  refine kio (PlI H row x H.length) (kgz (kab rfl) (ka0 hx)) (fun i f' H' _ ⟨_,_,K,_⟩ => K _ _ hx id) ⟨none,rfl,.app,kbp⟩ ?_ ?_
  · have la : H.length ≤ H.length := Nat.le_refl _
    revert la
    generalize hy : H.length = y
    intro _
    have ly : H.length ≤ y := Nat.le_of_eq hy
    rintro i v f' H1 hv ⟨e2,rfl,K,h1⟩
    rw [List.getElem?_map] at hv
    obtain ⟨c,hc,rfl⟩ := Option.map_eq_some_iff.mp hv
    have hcm := List.mem_of_getElem? hc
    have c256 := (sgS (g.2 c hcm)).1
    have tl : ((row.take i).map pl1).length < lim := by rw [List.length_map]; exact Nat.lt_of_le_of_lt (List.length_take_le' ..) (Nat.lt_trans rl (by decide))
    have et : (row.take (i + 1)).map pl1 = (row.take i).map pl1 ++ [pl1 c] := by rw [List.take_add_one,hc,Option.toList_some,List.map_append]; rfl
    have tell : ∀ H2 (m : M V),Ke K0 H H2 → H2[y]? = some (lst0 nv ((row.take i).map pl1)) → Ev m [some (rv x),some (rv y),some (nv c)] H2 (nv (pl1 c)) → ok (kaq [expr (appM (loc 1) m)]) [some (rv x),some (rv y),some (nv c)] H2
        (LP (PlI H row x y (i + 1)) fun r f' H' => ok (seqK (kaq [kbz (bin_ .Add (loc 1) (kd1 [bin_ .Mult (cst (.int 63)) (cst (.int 256))]))]) r) f' H' fun r x H' => ∃ v,retV r = some v ∧ Φ v f H') := fun H2 m K2 h2 em => by
      refine kc4 (kfc (kab rfl) h2 em (by rw [List.length_map]; exact tl) fun _ => ⟨some (nv c),rfl,K2.old ly,?_⟩)
      rw [et,show lst0 nv ((row.take i).map pl1 ++ [pl1 c]) = .list (((row.take i).map pl1).map nv ++ [nv (pl1 c)]) by unfold lst0; rw [List.map_append]; rfl]
      exact kbv h2
    refine kcd (kah rfl) (g_if (ev_eqi (kab rfl) kaw) ?_)
    by_cases q : c = 32
    · rw [decide_eq_true (show Int.ofNat c = 32 by rw [q]; rfl)]
      refine tell H1 _ K h1 ?_
      rw [show pl1 c = 95 * 256 from if_pos q]
      exact ev_mul (i := 95) (j := 256) kaw kaw (by decide) (by decide)
    · rw [decide_eq_false (show ¬ Int.ofNat c = 32 from fun z => q (Int.ofNat.inj z))]
      refine kaz (kaz (kan (kab rfl) (kaz (kan (a := [33,42,43,45,47].map nv) rfl (kfq (g_ev (ev_in (kab (f := [some (rv x),some (rv y),some (nv c)]) (i := 2) rfl) kbp) ?_))))))
      have K2 : Ke K0 H (H1 ++ [.list ([33,42,43,45,47].map nv)]) := K.trans (S' := K0) .app fun _ _ _ q => q
      have h2 := ka0 (l := [.list ([33,42,43,45,47].map nv)]) h1
      generalize H1 ++ [.list ([33,42,43,45,47].map nv)] = H2 at K2 h2
      have fin : ok (if safe c = true then kaq [expr (appM (loc 1) (bin_ .Mult (loc 2) (cst (.int 256))))] else kaq [expr (appM (loc 1) (bin_ .Add (bin_ .Mult (cst (.int 61)) (cst (.int 256))) (loc 2)))]) [some (rv x),some (rv y),some (nv c)] H2
        (LP (PlI H row x y (i + 1)) fun r f' H' => ok (seqK (kaq [kbz (bin_ .Add (loc 1) (kd1 [bin_ .Mult (cst (.int 63)) (cst (.int 256))]))]) r) f' H' fun r x H' => ∃ v,retV r = some v ∧ Φ v f H') := by
        have c1 : c < 100000 := Nat.lt_trans c256 (by decide)
        by_cases s : safe c = true
        · rw [if_pos s]
          refine tell H2 _ K2 h2 ?_
          rw [show pl1 c = c * 256 by unfold pl1; rw [if_neg q,if_pos s]]
          exact ev_mul (j := 256) (kab rfl) kaw c1 (by decide)
        · rw [if_neg s]
          refine tell H2 _ K2 h2 ?_
          rw [show pl1 c = 61 * 256 + c by unfold pl1; rw [if_neg q,if_neg s]]
          exact ev_plus (ev_mul (i := 61) (j := 256) kaw kaw (by decide) (by decide)) (kab rfl) (by decide) c1
      have s : safe c = ([33,42,43,45,47].contains c || (decide (48 ≤ c) && decide (c ≤ 57) || (decide (65 ≤ c) && decide (c ≤ 90) || decide (97 ≤ c) && decide (c ≤ 122)))) := rfl
      rw [s] at fin
      cases hb : [33,42,43,45,47].contains c with
      | true => rw [hb,Bool.true_or] at fin; exact kbw fin
      | false =>
        refine g_ev (ev_or (ev_le2 (lo := 48) (hi := 57) (kab rfl)) (ev_or (ev_le2 (lo := 65) (hi := 90) (kab rfl)) (ev_le2 (lo := 97) (hi := 122) (kab rfl)))) ?_
        rw [hb,Bool.false_or] at fin
        exact fin
  · rintro f' H1 ⟨e2,rfl,K,h1⟩
    rw [List.length_map,List.take_length] at h1
    refine kfx (g_add (kab rfl) h1 (by rw [List.length_map]; exact Nat.lt_trans rl (by decide)) (g_list1 (ev_mul (i := 63) (j := 256) kaw kaw (by decide) (by decide)) ⟨_,[63 * 256],rfl,ka0 h1,kbp,by decide,?_⟩))
    exact ⟨_,rfl,kk _ _ (fun a o e q => ka0 (ka0 (K a o e q))) (Nat.le_trans K.len (by rw [List.length_append]; exact Nat.le_add_right _ _)) kbp⟩
end
end Mine.Q
namespace Mine.Q
open PySem
section
variable {f : Fm} {H : Hp}
theorem ev_mod {a : M V} {i : Int} {j : Nat} (ea : Ev a f H (.at (.int i))) (h0 : 0 < j) (h : j < 100000) : Ev (bin_ .Mod a (cst (.int (Int.ofNat j)))) f H (.at (.int (i.fmod (Int.ofNat j)))) := kas ea (kas kaw (by
  show Ev (if 0 < Int.ofNat j ∧ Int.ofNat j < 1073741824 then cst (.int (i.fmod (Int.ofNat j))) else fail) f H _
  rw [if_pos ⟨Int.ofNat_lt.mpr h0,Int.lt_trans (Int.ofNat_lt.mpr h) (by decide)⟩]; exact kaw))
theorem ev_modn {a : M V} {i j : Nat} (ea : Ev a f H (nv i)) (h0 : 0 < j) (h : j < 100000) : Ev (bin_ .Mod a (cst (.int (Int.ofNat j)))) f H (nv (i % j)) := by
  have e := ev_mod ea h0 h
  rwa [show (Int.ofNat i).fmod (Int.ofNat j) = Int.ofNat (i % j) from (Int.ofNat_fmod i j).symm] at e
theorem ev_divn {a : M V} {i j : Nat} (ea : Ev a f H (nv i)) (hi : i < 100000) (h0 : 0 < j) (h : j < 100000) : Ev (bin_ .FloorDiv a (cst (.int (Int.ofNat j)))) f H (nv (i / j)) := kas ea (kas kaw (by
  show Ev (if small (Int.ofNat i) ∧ 0 < Int.ofNat j ∧ Int.ofNat j < 1073741824 then cst (.int ((Int.ofNat i).fdiv (Int.ofNat j))) else fail) f H _
  rw [if_pos ⟨kev hi,Int.ofNat_lt.mpr h0,Int.lt_trans (Int.ofNat_lt.mpr h) (by decide)⟩,show (Int.ofNat i).fdiv (Int.ofNat j) = Int.ofNat (i / j) from (Int.ofNat_fdiv i j).symm]; exact kaw))
structure RW (H0 : Hp) (y n : Nat) (ra : Nat → Nat) (R : Nat → List Nat) (H : Hp) : Prop where
  K : Ke K0 H0 H
  hy : H[y]? = some (lst0 (fun k => rv (ra k)) (List.range n))
  hr : ∀ k,k < n → H[ra k]? = some (lst0 nv (R k)) ∧ ra k ≠ y ∧ good (R k)
  inj : ∀ a b,a < n → b < n → R a = R b → a = b
  ly : H0.length ≤ y
  n2 : 2 ≤ n
theorem ev_notin {a b : M V} {x y n : Nat} {ra : Nat → Nat} {R : Nat → List Nat} {row : List Nat} (ea : Ev a f H (rv x)) (eb : Ev b f H (rv y)) (hx : H[x]? = some (lst0 nv row)) (hy : H[y]? = some (lst0 (fun k => rv (ra k)) (List.range n))) (hr : ∀ k,k < n → H[ra k]? = some (lst0 nv (R k))) :
    ∃ c : Bool,Ev (cmp_ .NotIn a b) f H c ∧ (c = true → ∀ k,k < n → R k ≠ row) := by
  refine ⟨!((List.range n).map fun k => Dt.d0 (.ints ((R k).map Int.ofNat))).any fun b => decide (b = .d0 (.ints (row.map Int.ofNat))),kfd ea eb (show Ev (lst (rv y) fun _ xs => kfp fun h => (kii h (.ref x) xs).map (!·)) f H _ from ev_lst hy (ke8 ?_)),fun h k hk e => ?_⟩
  · unfold kii
    rw [kk4 hx,khk (b := fun k => Dt.d0 (.ints ((R k).map Int.ofNat))) fun k hk => kk4 (hr k (List.mem_range.mp hk))]
    rfl
  · rw [Bool.not_eq_true',List.any_eq_false] at h
    exact h _ (List.mem_map.mpr ⟨k,List.mem_range.mpr hk,rfl⟩) (decide_eq_true (by rw [e]))
theorem sg_item {g m : Nat} {a : M V} (hg : H[g]? = some (lst0 nv sg)) (ea : Ev a f H (rv g)) {b : M V} (eb : Ev b f H (nv m)) (hm : m < 14) : ∃ c,c ∈ sg ∧ Ev (app2 get a b) f H (nv c) := by
  have hl : m < sg.length := hm
  exact ⟨sg.getD m 0,kl7 hl,kbt ea eb (kca hg (kfu hl))⟩
noncomputable def rwF (s g y : Nat) (e3 e4 e5 : Option V) : Fm := [some (rv s),some (rv g),some (rv y),e3,e4,e5]
inductive RwI (H : Hp) (s g y i : Nat) (f' : Fm) (H' : Hp) : Prop
  | mk (n : Nat) (ra : Nat → Nat) (R : Nat → List Nat) (e3 e4 e5 : Option V) (e : f' = rwF s g y e3 e4 e5) (c : RW H y n ra R H') (hg : H'[g]? = some (lst0 nv sg)) (hn : n ≤ 2 + i)
theorem rows_ok {s : Nat} {ds : List Int} (hs : H[s]? = some (.list (ds.map fun i => .at (.int i)))) (hl : ds.length ≤ 8) {Φ : V → Fm → Hp → Prop} (kk : ∀ y n ra R H',RW H y n ra R H' → n < 30 → Φ (rv y) f H') : ok (call 6 kfr [rv s]) f H Φ := by
  refine kc7 (kam (kbm (kan (a := sg.map nv) rfl (kfq ⟨kah rfl,kam (kbm (kaz (kaz (g_list1 (v := nv 97) kaw (kaz (kaz (kan (a := [97,33].map nv) rfl (kfq (kan kax (kbw (kbw (kfq ⟨kah rfl,kam ?_⟩))))))))))))⟩))))
  generalize h1 : H ++ [O.list (sg.map nv)] = A1
  have K1 : Ke K0 H A1 := h1 ▸ .app
  have g1 : A1[H.length]? = some (lst0 nv sg) := h1 ▸ kbp
  generalize h2 : A1 ++ [O.list [nv 97]] = A2
  have K2 : Ke K0 A1 A2 := h2 ▸ .app
  have g2 : A2[A1.length]? = some (lst0 nv [97]) := h2 ▸ kbp
  generalize h3 : A2 ++ [O.list ([97,33].map nv)] = A3
  have K3 : Ke K0 A2 A3 := h3 ▸ .app
  have g3 : A3[A2.length]? = some (lst0 nv [97,33]) := h3 ▸ kbp
  generalize h4 : A3 ++ [O.list [rv A1.length,rv A2.length]] = A4
  have K4 : Ke K0 A3 A4 := h4 ▸ .app
  have g4 : A4[A3.length]? = some (.list [rv A1.length,rv A2.length]) := h4 ▸ kbp
  have n1 := ke2 (K3 _ _ g2 id)
  have n2 := ke2 g3
  have n0 := ke2 (K3 _ _ (K2 _ _ g1 id) id)
  have R0 : RW H A3.length 2 (fun k => if k = 0 then A1.length else A2.length) (fun k => if k = 0 then [97] else [97,33]) A4 := by
    refine ⟨fun a o e q => K4 _ _ (K3 _ _ (K2 _ _ (K1 a o e q) id) id) id,g4,fun k hk => ?_,fun a b ha hb => ?_,(Ke.trans (S := K0) (S' := K0) (fun a o e q => K2 _ _ (K1 a o e q) id) K3 fun _ _ _ q => q).len,Nat.le_refl _⟩
    · rcases (by omega : k = 0 ∨ k = 1) with rfl | rfl
      · exact ⟨K4 _ _ (K3 _ _ g2 id) id,n1,.inl rfl,by decide +kernel⟩
      · exact ⟨K4 _ _ g3 id,n2,.inr rfl,by decide +kernel⟩
    · rcases (by omega : a = 0 ∨ a = 1) with rfl | rfl <;> rcases (by omega : b = 0 ∨ b = 1) with rfl | rfl <;> intro h <;> first | rfl | exact absurd h (by decide)
  have g0 := K4 _ _ (K3 _ _ (K2 _ _ g1 id) id) id
  clear g1 g2 g3 g4 K1 K2 K3 K4 h1 h2 h3 h4 n1 n2
  generalize A3.length = y at R0 n0
  generalize H.length = g at g0 n0
  generalize (fun k => if k = 0 then A1.length else A2.length) = ra0 at R0
  generalize (fun k : Nat => if k = 0 then [97] else [97,33]) = Rr0 at R0
  refine kio (RwI H s g y) (kgz (kab rfl) (R0.K _ _ hs id)) (fun i f' H' _ ⟨_,_,_,_,_,_,_,R,_,_⟩ => R.K _ _ hs id)
    ⟨2,ra0,Rr0,none,none,none,rfl,R0,g0,Nat.le_refl _⟩ ?_ ?_
  · rintro i v f' H1 hv ⟨n,ra,R,e3,e4,e5,rfl,C,hg,hn⟩
    have hi : i < 8 := Nat.lt_of_lt_of_le (by have := (List.getElem?_eq_some_iff.mp hv).1; rwa [List.length_map] at this) hl
    rw [List.getElem?_map] at hv
    obtain ⟨d,hd,rfl⟩ := Option.map_eq_some_iff.mp hv
    obtain ⟨m,hm,hm588⟩ : ∃ m : Nat,d.fmod 588 = Int.ofNat m ∧ m < 588 := by
      have q1 := Int.fmod_nonneg_of_pos d (b := 588) (by decide)
      have q2 := Int.fmod_lt_of_pos d (b := 588) (by decide)
      exact ⟨(d.fmod 588).toNat,(Int.toNat_of_nonneg q1).symm,(Int.toNat_lt q1).mpr q2⟩
    have hm1 : m < 100000 := Nat.lt_trans hm588 (by decide)
    have row : ∀ {Ψ : V → Fm → Hp → Prop},(∀ r,good r → Ψ (rv H1.length) [some (rv s),some (rv g),some (rv y),some (.at (.int d)),some (nv m),e5] (H1 ++ [lst0 nv r])) →
        ok (ifte (cmp_ .Eq (bin_ .Mod (bin_ .FloorDiv (loc 4) (cst (.int 14))) (cst (.int 3))) (cst (.int 0))) (kd1 [(app2 get (loc 1) (bin_ .Mod (loc 4) (cst (.int 14))))]) (kd1 [(app2 get (loc 1) (bin_ .Mod (loc 4) (cst (.int 14)))),(app2 get (loc 1) (bin_ .FloorDiv (loc 4) (cst (.int 42))))])) [some (rv s),some (rv g),some (rv y),some (.at (.int d)),some (nv m),e5] H1 Ψ := fun {Ψ} k => by
      refine kan (ev_eqi (ev_modn (j := 3) (ev_divn (j := 14) (kab rfl) hm1 (by decide) (by decide)) (by decide) (by decide)) kaw) ?_
      obtain ⟨a,ha,ea⟩ := sg_item (f := [some (rv s),some (rv g),some (rv y),some (.at (.int d)),some (nv m),e5]) (a := loc 1) hg (kab rfl) (ev_modn (j := 14) (a := loc 4) (kab rfl) (by decide) (by decide)) (Nat.mod_lt m (by decide))
      obtain ⟨b,hb,eb⟩ := sg_item (f := [some (rv s),some (rv g),some (rv y),some (.at (.int d)),some (nv m),e5]) (a := loc 1) hg (kab rfl) (ev_divn (j := 42) (a := loc 4) (kab rfl) hm1 (by decide) (by decide)) ((Nat.div_lt_iff_lt_mul (by decide)).mpr hm588)
      split
      · exact g_list1 ea (k [a] ⟨.inl rfl,fun x hx => by rw [List.mem_singleton.mp hx]; exact ha⟩)
      · exact kan (kbu ea (kbu eb kax)) (kfq (k [a,b] ⟨.inr rfl,fun x hx => by
          rcases List.mem_cons.mp hx with q | q
          · rw [q]; exact ha
          · rw [List.mem_singleton.mp q]; exact hb⟩))
    have em := ev_mod (f := [some (rv s),some (rv g),some (rv y),some (.at (.int d)),e4,e5]) (H := H1) (a := loc 3) (i := d) (j := 588) (kab rfl) (by decide) (by decide)
    rw [show d.fmod (Int.ofNat 588) = Int.ofNat m from hm] at em
    refine kcd (kah rfl) (kam (kbo em (kah rfl) (kam (kbm (row fun r hr => ⟨kah rfl,?_⟩)))))
    have hnew := kbp (H := H1) (o := lst0 nv r)
    have C1 : RW H y n ra R (H1 ++ [lst0 nv r]) := ⟨C.K.trans (S' := K0) .app fun _ _ _ q => q,ka0 C.hy,fun k hk => ⟨ka0 (C.hr k hk).1,(C.hr k hk).2⟩,C.inj,C.ly,C.n2⟩
    have hg1 := ka0 (l := [lst0 nv r]) hg
    have ny := ke2 C.hy
    generalize H1 ++ [lst0 nv r] = H2 at hnew C1 hg1
    generalize H1.length = a at hnew ny
    obtain ⟨c,ec,hc⟩ := ev_notin (f := [some (rv s),some (rv g),some (rv y),some (.at (.int d)),some (nv m),some (rv a)]) (a := loc 5) (b := loc 2) (kab rfl) (kab rfl) hnew C1.hy fun k hk => (C1.hr k hk).1
    refine g_if ec ?_
    cases c with
    | false => exact ke7 ⟨n,ra,R,_,_,_,rfl,C1,hg1,Nat.le_trans hn (Nat.le_succ _)⟩
    | true =>
      have hc := hc rfl
      refine kc4 (kfc (kab rfl) C1.hy (kab rfl) (by rw [List.length_map,List.length_range]; exact Nat.lt_of_le_of_lt hn (Nat.lt_of_lt_of_le (Nat.add_lt_add_left hi 2) (by decide))) fun _ => ⟨n + 1,fun k => if k = n then a else ra k,fun k => if k = n then r else R k,_,_,_,rfl,?_,ka6 hg1 n0,Nat.succ_le_succ hn⟩)
      have eL : O.list ((List.range n).map (fun k => rv (ra k)) ++ [rv a]) = lst0 (fun k => rv (if k = n then a else ra k)) (List.range (n + 1)) := by
        unfold lst0
        rw [List.range_succ,List.map_append]
        congr 2
        · exact List.map_congr_left fun j hj => by rw [if_neg (Nat.ne_of_lt (List.mem_range.mp hj))]
        · show _ = [rv (if n = n then a else ra n)]; rw [if_pos rfl]
      rw [eL]
      have lt : ∀ {k},k < n + 1 → k ≠ n → k < n := fun h q => Nat.lt_of_le_of_ne (Nat.le_of_lt_succ h) q
      refine ⟨C1.K.old C1.ly,kbv C1.hy,fun k hk => ?_,fun i j hi hj => ?_,C1.ly,Nat.le_succ_of_le C1.n2⟩
      · by_cases q : k = n
        · rw [if_pos q,if_pos q]; exact ⟨ka6 hnew (Ne.symm ny),Ne.symm ny,hr⟩
        · rw [if_neg q,if_neg q]
          obtain ⟨z1,z2,z3⟩ := C1.hr k (lt hk q)
          exact ⟨ka6 z1 z2,z2,z3⟩
      · by_cases q : i = n <;> by_cases q' : j = n
        · intro _; rw [q,q']
        · rw [if_pos q,if_neg q']; exact fun z => (hc j (lt hj q') z.symm).elim
        · rw [if_neg q,if_pos q']; exact fun z => (hc i (lt hi q) z).elim
        · rw [if_neg q,if_neg q']; exact C1.inj i j (lt hi q) (lt hj q')
  · rintro f' H1 ⟨n,ra,R,e3,e4,e5,rfl,C,hg,hn⟩
    rw [List.length_map] at hn
    exact kc6 (kab rfl) ⟨_,rfl,kk y n ra R H1 C (Nat.lt_of_le_of_lt hn (Nat.lt_of_le_of_lt (Nat.add_le_add_left hl 2) (by decide)))⟩
end
end Mine.Q
namespace Mine.Q
open PySem
theorem LL.keep {H H' : Hp} {x m : Nat} {l : Nat → List Nat} (h : LL H x m l) (K : Ke K0 H H') : LL H' x m l :=
  let ⟨fa,h1,h2⟩ := h; ⟨fa,K _ _ h1 id,fun t ht => K _ _ (h2 t ht) id⟩
theorem law_true {ds : List Int} (hl : ds.length ≤ 8) {H : Hp} : ok (bnd (bnd (new (.list (ds.map fun i => .at (.int i)))) fun x => call 6 kfr [x]) fun v => bnd (setl 1 v) fun _ => b_lawT) [none,none,none,none,none,none,none,none,none,none,none,none,none,none] H fun r _ _ => r = .ret (.at (.bool true)) := by
  refine kaz (kaz (kfq (rows_ok kbp hl fun y n ra R H1 C n30 => kaz (kcd (kah rfl) ?_))))
  have n64 : n < lim := Nat.lt_trans n30 (by decide)
  have rng : ∀ {x : Nat} {g : Nat → V} {f : Fm} {H : Hp} {m : M V},Ev m f H (rv x) → H[x]? = some (lst0 g (List.range n)) → Ev (app1 kct (app1 kd2 m)) f H ⟨(List.range n).map nv,none⟩ := fun {x g f H m} em h => by
    have e := kix (n := n) em h (by rw [List.length_map,List.length_range]; exact Nat.lt_trans n30 (by decide))
    rwa [List.length_map,List.length_range] at e
  refine kam (kbm (kld (List.range n) (fun k => rv (ra k)) (fun k => V.at (.str (word (R k)))) (fun _ => true) (fun k => [none,some (rv (ra k)),none,none]) (fun f => ∃ w,f = [none,w,none,none]) (kgz (kab rfl) C.hy) (by rw [List.length_range]; exact n64) (fun H' K => K _ _ C.hy id) ⟨none,rfl⟩ (fun k _ f' H' ⟨w,e⟩ => e ▸ b1 (kah rfl) rfl) (fun k _ => ⟨_,rfl⟩)
    (fun k hk H' K => let ⟨h1,_,h3⟩ := C.hr k (List.mem_range.mp hk); ⟨ka7,fun _ => header_ev (kab rfl) (K _ _ h1 id) h3⟩) ⟨kah rfl,?_⟩))
  rw [List.filter_eq_self.mpr fun _ _ => rfl]
  have hw := kbp (H := H1) (o := NL n fun k => .str (word (R k)))
  have K1 : Ke K0 H1 (H1 ++ [NL n fun k => .str (word (R k))]) := .app
  generalize H1 ++ [NL n fun k => .str (word (R k))] = H2 at hw K1
  generalize H1.length = w at hw
  have hy2 := K1 _ _ C.hy id
  have hr2 : ∀ k,k < n → H2[ra k]? = some (lst0 nv (R k)) := fun k hk => K1 _ _ (C.hr k hk).1 id
  refine kam (kbm (g_alloc n (fun k => rv (ra k)) (fun k => lst0 nv (plc (R k))) (fun k => [none,some (rv (ra k)),none]) (fun f => ∃ w,f = [none,w,none]) (kgz (kab rfl) hy2) n64 (fun H' K => K _ _ hy2 id) ⟨none,rfl⟩ (fun k _ f' H' ⟨w,e⟩ => e ▸ b1 (kah rfl) rfl)
    (fun k hk H' K => kd3 (vs := [rv (ra k)]) (kbu (kab rfl) kax) (place_ok (K _ _ (hr2 k hk) id) (C.hr k hk).2.2 fun a H'' K'' hl h => ⟨⟨_,rfl⟩,K'',a,rfl,hl,h⟩)) fun p H3 pa K2 _ hp hpa => ⟨kah rfl,?_⟩))
  let lr : Nat → Nat → Bool := fun a b => kbf (R a) (R b)
  let lp : Nat → Nat → Bool := fun a b => kbf (plc (R a)) (plc (R b))
  have pinj : ∀ a b,a < n → b < n → a ≠ b → plc (R a) ≠ plc (R b) := fun a b ha hb h e => h (C.inj a b ha hb (plc_inj (C.hr a ha).2.2.2 (C.hr b hb).2.2.2 e))
  have NR : Nm n (fun k => .ref (ra k)) (fun k => .ints ((R k).map Int.ofNat)) (rank n lr) := .of (lt := lr) (fun a => kd0 _) (fun a b c => ke4) (fun a b ha hb h => kdz fun e => h (C.inj a b ha hb e)) fun a b _ _ => congrArg some (kh3 _ _)
  have NP : Nm n (fun k => .ref (pa k)) (fun k => .ints ((plc (R k)).map Int.ofNat)) (rank n lp) := .of (lt := lp) (fun a => kd0 _) (fun a b c => ke4) (fun a b ha hb h => kdz (pinj a b ha hb h)) fun a b _ _ => congrArg some (kh3 _ _)
  have NW : Nm n (fun k => .str (word (R k))) (fun k => .str (word (R k))) (rank n lp) := .of (lt := lp) (fun a => kd0 _) (fun a b c => ke4) (fun a b ha hb h => kdz (pinj a b ha hb h)) fun a b ha hb => congrArg some (word_lt (C.hr a ha).2.2 (C.hr b hb).2.2)
  have AR : NmAt n (fun k => .ref (ra k)) (fun k => .ints ((R k).map Int.ofNat)) H3 := fun k hk => show (kcq H3 (ra k)).map D0.ints = _ by rw [kgi (K2 _ _ (hr2 k hk) id)]; rfl
  have AP : NmAt n (fun k => .ref (pa k)) (fun k => .ints ((plc (R k)).map Int.ofNat)) H3 := fun k hk => show (kcq H3 (pa k)).map D0.ints = _ by rw [kgi (hpa k hk)]; rfl
  have AW : NmAt n (fun k => .str (word (R k))) (fun k => .str (word (R k))) H3 := fun k hk => show (if fine (word (R k)) then some (D0.str (word (R k))) else none) = _ by rw [if_pos (word_fine (C.hr k hk).2.2)]
  have hy3 := K2 _ _ hy2 id
  have hw3 := K2 _ _ hw id
  have n2 := C.n2
  clear C hr2 hy2 hw hpa K1 K2 pinj
  generalize rank n lr = rr at NR
  generalize rank n lp = rp at NP NW
  generalize hW : (fun k => (List.range n).filter fun j => decide (rr j < rr k ∧ rp j < rp k)) = W
  have T : Wt n W rr rp := ⟨fun k => by rw [← hW],NR.rk,NP.rk,n30⟩
  refine kam (kbm (g_alloc n nv (fun k => lst0 nv (W k)) (fun k => [none,some (nv k),none,none,some (rv y),some (rv w)]) (fun f => ∃ v,f = [none,v,none,none,some (rv y),some (rv w)]) (rng (kab rfl) hy3) n64 (fun _ _ => trivial) ⟨none,rfl⟩ (fun k _ f' H' ⟨w,e⟩ => e ▸ b1 (kah rfl) rfl)
    (fun k hk H' K => kld (List.range n) nv nv (fun j => lk rr j k && lk rp j k) (fun j => [none,some (nv j),some (nv k),some (rv y),some (rv w)]) (fun f => ∃ v,f = [none,v,some (nv k),some (rv y),some (rv w)]) (rng (kab rfl) (K _ _ hy3 id)) (by rw [List.length_range]; exact n64) (fun _ _ => trivial) ⟨none,rfl⟩ (fun j _ f' H'' ⟨w,e⟩ => e ▸ b1 (kah rfl) rfl) (fun j _ => ⟨_,rfl⟩)
      (fun j hj H'' K' => ?_) ⟨⟨_,rfl⟩,.app,H'.length,rfl,Nat.le_refl _,?_⟩) fun x H4 wa K3 _ hx hwa => ⟨kah rfl,?_⟩))
  · have hj := List.mem_range.mp hj
    have K4 : Ke K0 H3 H'' := K.trans K' fun _ _ _ q => q
    exact ⟨ev_and (kle (kbt (kab rfl) (kab rfl) (kca (K4 _ _ hy3 id) (kb7 hj))) (kbt (kab rfl) (kab rfl) (kca (K4 _ _ hy3 id) (kb7 hk))) (ltV_nm NR (AR.k0 K4) hj hk))
      (kle (kbt (kab rfl) (kab rfl) (kca (K4 _ _ hw3 id) (kb7 hj))) (kbt (kab rfl) (kab rfl) (kca (K4 _ _ hw3 id) (kb7 hk))) (ltV_nm NW (AW.k0 K4) hj hk)),fun _ => kab rfl⟩
  · rw [T.w k,show (fun j => decide (rr j < rr k ∧ rp j < rp k)) = fun j => lk rr j k && lk rp j k from funext fun j => Bool.decide_and ..]; exact kbp
  have ordOk : ∀ {r : Nat → Nat},(∀ a b,a < n → b < n → r a = r b → a = b) → Or n r (sby (lk r) (List.range n)) := fun {r} h => ⟨kiq (fun a ha b hb => h a b (List.mem_range.mp ha) (List.mem_range.mp hb)) List.nodup_range,fun k => by rw [(kfa _).mem_iff,List.mem_range]⟩
  have QR := ordOk NR.rk
  have QP := ordOk NP.rk
  refine kam (kbm (kd3 (vs := [rv y]) (kbu (kab rfl) kax) (kjw NR (K3 _ _ hy3 id) (AR.k0 K3) n2 n30 fun o H5 K4 ho => ⟨kah rfl,?_⟩)))
  have K35 : Ke K0 H3 H5 := K3.trans K4 fun _ _ _ q => q
  refine kam (kbm (kd3 (vs := [rv p]) (kbu (kab rfl) kax) (kjw NP (K35 _ _ hp id) (AP.k0 K35) n2 n30 fun o2 H6 K5 ho2 => ⟨kah rfl,?_⟩)))
  have K36 : Ke K0 H3 H6 := K35.trans K5 fun _ _ _ q => q
  have K46 : Ke K0 H4 H6 := K4.trans K5 fun _ _ _ q => q
  have hx6 := K46 _ _ hx id
  have hwa6 : ∀ k,k < n → H6[wa k]? = some (lst0 nv (W k)) := fun k hk => K46 _ _ (hwa k hk) id
  have hy6 := K36 _ _ hy3 id
  have hw6 := K36 _ _ hw3 id
  have hp6 := K36 _ _ hp id
  have ho6 := K5 _ _ ho id
  have AR6 := AR.k0 K36
  have AP6 := AP.k0 K36
  have AW6 := AW.k0 K36
  clear hx hwa hy3 hw3 hp ho AR AP AW K3 K4 K35 K36 K46 K5
  obtain ⟨m,h,Y⟩ := Ht.make T
  refine kam (kaz (kaz (kd3 (vs := [rv x]) (kbu (kab rfl) kax) (rounds_ok T Y hx6 hwa6 fun r1 H7 K7 l7 => kaz (kd3 (vs := [rv o,rv p]) (kbu (kab rfl) (kbu (kab rfl) kax)) (piles_ok T Y QR NP (K7 _ _ ho6 id) (K7 _ _ hp6 id) (AP6.k0 K7) fun r2 H8 K8 l8 => g_ev (show Ev (kfp fun h => (eqV h (rv r1) (rv r2)).map (!·)) _ _ false from ke8 (by rw [(l7.keep K8).eq l8]; rfl)) (ke7 ?_)))))))
  have K68 : Ke K0 H6 H8 := K7.trans K8 fun _ _ _ q => q
  refine kfx (kaz (kd3 (vs := [rv x,rv y,rv o,rv p]) (kbu (kab rfl) (kbu (kab rfl) (kbu (kab rfl) (kbu (kab rfl) kax)))) (comes_ok T QR NR NP (K68 _ _ hx6 id) (fun k hk => K68 _ _ (hwa6 k hk) id) (K68 _ _ hy6 id) (K68 _ _ ho6 id) (K68 _ _ hp6 id) (AR6.k0 K68) (AP6.k0 K68) fun H9 K9 => kan (a := true) ka7 ?_)))
  have K69 : Ke K0 H6 H9 := K68.trans K9 fun _ _ _ q => q
  exact kd3 (vs := [rv x,rv w,rv o2,rv y]) (kbu (kab rfl) (kbu (kab rfl) (kbu (kab rfl) (kbu (kab rfl) kax)))) (comes_ok T.swap QP NW NR (K69 _ _ hx6 id) (fun k hk => K69 _ _ (hwa6 k hk) id) (K69 _ _ hw6 id) (K69 _ _ ho2 id) (K69 _ _ hy6 id) (AW6.k0 K69) (AR6.k0 K69) fun H10 _ => rfl)
end Mine.Q
namespace Mine
open PySem PySem.W PySem.Calls PyProof.Rows
theorem kh1 {b : Addr} : ¬ owns [] b := fun ⟨_,h,_⟩ => nomatch h
theorem none_at {n i : Nat} {v : V} {C : Prop} (h : (List.replicate n (none : Option V))[i]? = some (some v)) : C := by
  rw [List.getElem?_replicate] at h; split at h <;> cases h
section
variable {prog : Program} {w : World} {h₀ h' : Heap}
theorem Inv.start {A' : Around} {env' : Env} {n : Nat} (hb : ∀ b o,h₀.get? b = some o → h'.get? b = some o) (hL : h₀.objs.size ≤ env'.locals) (hC : ∀ n c,(n,c) ∈ env'.cells → env'.locals < c) (ap : env'.cells.Pairwise fun x y => x.2 ≠ y.2) (hce : ∀ n c,env'.cells.lookup n = some c → ∃ v,h'.IsCell c v)
    (hlen : n = env'.scope.names.length) (cl : List Str) {m : Str → Option Value} (ns : h'.Ns env'.locals m) (hcell : ∀ (i : Nat) x,env'.scope.names[i]? = some (x,.cell) → ∃ c,env'.cells.lookup x = some c)
    (hA : A'.frames = some [env']) (hk : env'.scope.kind ≠ .module) (hf : env'.frame = some env'.locals) :
    Inv prog w h₀ A' env' (env'.locals :: cl.filterMap (env'.cells.lookup ·)) [] (List.replicate n none) [] h' := by
  obtain ⟨oL,esL,epL,eL,dL,_⟩ := id ns
  refine ⟨hb,fun b q => (kh1 q).elim,⟨rfl,fun i j p q h => (nomatch h),fun i o p h => (nomatch h)⟩,⟨by rw [List.length_replicate]; exact hlen,⟨m,ns,fun i x v _ h => none_at h⟩,fun i x hx => ?_,fun x y c a b => name_of_addr ap (PySem.mem_of_lookup a) (PySem.mem_of_lookup b),kh1,hL⟩,fun a ha => ?_,⟨[env'],hA,fun v hv => ?_⟩⟩
  · obtain ⟨c,a⟩ := hcell i x hx
    obtain ⟨o,b⟩ := hce x c a
    exact ⟨c,o,a,b,kh1,Nat.le_trans hL (Nat.le_of_lt (hC x c (PySem.mem_of_lookup a))),fun v h => none_at h⟩
  · rcases List.mem_cons.mp ha with rfl | ha
    · exact ⟨hL,kh1,oL,eL,kd4 dL⟩
    · obtain ⟨x,_,hx⟩ := List.mem_filterMap.mp ha
      obtain ⟨v,o,e,dd⟩ := hce x a hx
      exact ⟨Nat.le_trans hL (Nat.le_of_lt (hC x a (PySem.mem_of_lookup hx))),kh1,o,e,kd6 (by rw [dd]; intro _ _ h; cases h)⟩
  · rw [List.mem_singleton.mp hv]
    exact ⟨hk,env'.locals,oL,esL,epL,hf,hL,kh1,eL,dL⟩
end
section
variable {g : Gl} {sc : Sc} {q : Bool} {d : Nat} {z : Fc sc q d}
theorem cut8 (σ : St g z) {x : Str} {l : Addr} {vs : List Value} {xs : List V} {p1 p2 p3 p4 : Pos} {j : Nat} {m : Str → Option Value} (hx : z.env.kindOf x = some .local) (ns : σ.s.heap.Ns z.env.locals m) (hm : m x = some (.ref l)) (hl : σ.s.heap.IsList l vs.toArray)
    (pr : Paired (VR σ.ρ σ.s.heap) xs vs) (hlen : vs.length ≤ lim) (hd : (x == ("__debug__" : Str)) = false) {Φ : V → Fm → Hp → Prop} {Q E : Value → Shared → Prop} (e : ok (new (.list (xs.take 8))) σ.f σ.H Φ)
    (k : ∀ (τ : St g z) a b,To σ τ → Φ b τ.f τ.H → VR τ.ρ τ.s.heap b a → Q a τ.s) : wpAny (model g.prog g.w) z.A (eval (.Subscript (.Name x p1) (.Slice none (some (.Constant (.int 8) j p2)) none p3) p4) z.env) Q E σ.s := by
  refine wpAny_Subscript_list_slice (wpAny_Name (wpAny_loadName_local z.cx.kind hx ns hm ?_) hd) (by intro _ _; rfl)
  rw [evalPart_none]
  refine wpAny_pure ?_
  rw [evalPart_some]
  refine wpAny_Constant_int ?_
  refine ⟨l,vs.toArray,none,some 8,rfl,hl,by unfold lim at hlen; unfold sizeLine; simp only [List.size_toArray]; omega,.none,.int 8 _,?_⟩
  rw [kms_pick_eq]
  simp only [pick_to (show (0 : Int) ≤ 8 by decide)]
  have t := σ.toks_to (σ.s.toks + 1)
  exact cut_end (σ.toks (σ.s.toks + 1)) (ptake pr 8) (by rw [List.length_take]; have := Paired.length pr; omega) e fun τ a b t' => k τ a b (t.trans t')
end
theorem use_call {g : Gl} {sc : Sc} {q : Bool} {d np : Nat} {fv : Value} {m : List V → M V} (h : CallOk g q d fv np m) {z : Fc sc q d} (σ : St g z) (vs : List V) (vals : List Value) {Φ : V → Fm → Hp → Prop} {E : Value → Shared → Prop} {Q : Value → Shared → Prop} (hl : vs.length = np) (r : VsR σ.ρ σ.s.heap vs vals) (e : ok (m vs) σ.f σ.H Φ)
    (k : ∀ (τ : St g z) a b,To σ τ → Φ b τ.f τ.H → VR τ.ρ τ.s.heap b a → Q a τ.s) : wpAny (model g.prog g.w) z.A (PySem.call fv vals) Q E σ.s := h σ vs vals Φ E Q hl r e k
theorem use_body {g : Gl} {sc : Sc} {q : Bool} {d : Nat} {sts : List Stmt} {m : M AF} (h : RB g sc q d sts m) {z : Fc sc q d} (σ : St g z) {Φ : AF → Fm → Hp → Prop} {E : Value → Shared → Prop} {Q : Flow → Shared → Prop} (e : ok m σ.f σ.H Φ)
    (k : ∀ (τ : St g z) a b,To σ τ → Φ b τ.f τ.H → FlR τ.ρ τ.s.heap b a → Q a τ.s) : wpAny (model g.prog g.w) z.A (execs sts z.env) Q E σ.s := h z σ Φ E Q e k
theorem law_fd (P : Params) : FnAt (KF P) 244 (fdAt (KF P) 244) (fnB (stA pw 35)) sc_law := ke9 (by kernel_rfl) (by kernel_rfl) (by kernel_rfl)
theorem law_in (P : Params) (a : Value) : bindArgs (fdAt (KF P) 244) ⟨[a],[]⟩ = pure [(("script" : Str),a)] := by kernel_rfl
theorem law_st : ∃ p1 p2 p3 p4 p5 p6 p7 p8 j,fnB (stA pw 35) = .Assign [.Name "rows" p1] (.Call (.Name "_law_rows" p2) [.Subscript (.Name "script" p3) (.Slice none (some (.Constant (.int 8) j p4)) none p5) p6] [] p7) p8 :: (fnB (stA pw 35)).drop 1 := ⟨_,_,_,_,_,_,_,_,_,by with_unfolding_all rfl⟩
theorem law_nd : (sc_law.names.map (·.1)).Nodup := kc3
theorem law_len : sc_law.names.length = 14 := by kernel_rfl
theorem law_nm : sc_law.names[0]? = some (("script" : Str),NameKind.local) ∧ sc_law.names[1]? = some (("rows" : Str),NameKind.cell) := ⟨by kernel_rfl,by kernel_rfl⟩
theorem law_gl : sc_law.names.lookup ("_law_rows" : Str) = some NameKind.globalImplicit := by kernel_rfl
theorem law_code {w : World} {s : Shared} {mg mb : Str → Option Value} (bs : Bs s.heap (KF w.params) mg mb) {l : Addr} {vs : List Value} {ds : List Int} (hl : s.heap.IsList l vs.toArray) (hi : Paired (fun (i : Int) v => ∃ t,v = Value.int i t) ds vs) (hn : ds.length ≤ 1000) {R : Result → Shared → Prop}
    (k : ∀ τs : Shared,(∀ b o,s.heap.get? b = some o → τs.heap.get? b = some o) → τs = { s with heap := τs.heap,toks := τs.toks } → R (.ok (.ret (.bool true))) τs) : codeAny (model pw w) callerA (.call (.ref 244) ⟨[.ref l],[]⟩) R s := by
  have F := law_fd w.params
  obtain ⟨o,ho,hdata⟩ := F.obj
  have hkin := bs.kin
  refine codeAny_call_function (body := fnB (stA pw 35)) (by decide +kernel) (hkin _ _ ho) hdata F.co F.gen F.body (F.codeRec hkin) ?_
  rw [law_in]
  refine wpAny_pure ?_
  rw [F.clo]
  have hkind : ∀ {i : Nat} {x : Str} {kd : NameKind},sc_law.names[i]? = some (x,kd) → (fdAt (KF w.params) 244).scope.names.lookup x = some kd := fun h => by rw [F.names]; exact kcl law_nd h
  refine wpAny_newFunctionEnv_cells (s := s) F.kind (fun y hy => ?_) fun env' henv' s₁ ic => ⟨bs.nolimit.keeps ic.toInCall.keep,codeAny_func ?_⟩
  · rw [List.mem_singleton.mp hy]; exact .inl (hkind law_nm.1)
  · have henv : newEnv (fdAt (KF w.params) 244).scope s.heap.objs.size (fdAt (KF w.params) 244).globals (cellsFrom (s.heap.objs.size + 1) (fdAt (KF w.params) 244).scope.names []) ((fdAt (KF w.params) 244).qualname ++ ".<locals>.") (some 244) (fdAt (KF w.params) 244).code none (fdAt (KF w.params) 244).builtins = env' := henv'.symm
    have en : env'.scope.names = sc_law.names := by rw [← henv]; exact F.names
    have ek : env'.scope.kind = .function := by rw [← henv]; exact F.kind
    have el : env'.locals = s.heap.objs.size := by rw [← henv]; rfl
    have ef : env'.frame = some env'.locals := by rw [← henv]; rfl
    have ec : env'.cells = cellsFrom (s.heap.objs.size + 1) sc_law.names [] := by rw [← henv,← F.names]; rfl
    have ekd : ∀ {i : Nat} {x : Str} {kd : NameKind},sc_law.names[i]? = some (x,kd) → env'.kindOf x = some kd := fun h => by unfold Env.kindOf; rw [en]; exact kcl law_nd h
    have I' : Inv pw w s.heap (callerA.deeper env') env' (env'.locals :: sc_law.cells.filterMap (env'.cells.lookup ·)) [] (List.replicate 14 none) [] s₁.heap :=
      Inv.start ic.toInCall.keep (by rw [el]; exact Nat.le_refl _) ic.above ic.apart (fun n c h => ⟨_,ic.cell n c h⟩) (by rw [en]; exact law_len.symm) _ ic.toInCall.ns (fun i x hx => by
        rw [en] at hx
        rw [ec]; exact Option.isSome_iff_exists.mp (kcp (.inl (List.mem_of_getElem? hx)))) rfl (by rw [ek]; decide) ef
    have C' : Cx sc_law true 7 (callerA.deeper env') env' (env'.locals :: sc_law.cells.filterMap (env'.cells.lookup ·)) :=
      ⟨en,ek,by rw [← henv]; exact F.globals,by rw [← henv]; exact F.builtins,List.mem_cons_self,fun x hx c hc => List.mem_cons_of_mem _ (List.mem_filterMap.mpr ⟨x,hx,hc⟩),fun _ => rfl,by show 1 + claimMargin + 1 + 7 < 900; decide +kernel,by show 4 + 3 + 10 * 7 < 8900; decide,fun _ => ⟨[],rfl,ef⟩⟩
    let z : Fc sc_law true 7 := ⟨_,_,_,C'⟩
    let σ : St (gl w bs) z := ⟨[],_,[],s₁,I'⟩
    obtain ⟨h₂,t₁,hs₁⟩ := ic.toInCall.same
    have hm : bindL env'.kindOf [(("script" : Str),.ref l)] (fun _ => none) "script" = some (.ref l) := kmg (List.pairwise_singleton _ _) (.head _) (ekd law_nm.1)
    have prV : Paired (VR σ.ρ σ.s.heap) (ds.map fun i => V.at (.int i)) vs := by
      clear hl hn k
      induction hi with
      | nil => exact .nil
      | cons r _ ih => exact .cons r ih
    have el' := Mine.Q.law_true (ds := ds.take 8) (List.length_take_le ..) (H := [])
    rw [List.map_take] at el'
    obtain ⟨p1,p2,p3,p4,p5,p6,p7,p8,j,st⟩ := law_st
    rw [st]
    have hrel : ∀ (τ : St (gl w bs) z) fl,To σ τ → FlR τ.ρ τ.s.heap (.ret (.at (.bool true))) fl → fl = .ret (.bool true) ∧ (∀ b o,s.heap.get? b = some o → τ.s.heap.get? b = some o) ∧ τ.s = { s with heap := τ.s.heap,toks := τ.s.toks } := fun τ fl t r => by
      obtain ⟨val,rfl,rv⟩ := r
      cases rv
      exact ⟨rfl,τ.inv.base,kk2 t.same hs₁⟩
    refine wpAny_execs_cons (wpAny_Assign_Name ?_ ?_)
    · show wpAny (model (gl w bs).prog (gl w bs).w) z.A (eval (.Call (.Name "_law_rows" p2) [.Subscript (.Name "script" p3) (.Slice none (some (.Constant (.int 8) j p4)) none p5) p6] [] p7) z.env) _ _ σ.s
      refine wpAny_Call_NameR (kg2 σ law_gl (v := .ref 205) ((ke5 w.params).fn _ _ (by kernel_rfl)) (ker (K := KF w.params) ?hkept ?hst ?hmain))
      case hkept => kernel_rfl
      case hst => rfl
      refine spliced_cons (cut8 σ (ekd law_nm.1) ic.toInCall.ns hm (let ⟨o,e,r⟩ := hl; ⟨o,ic.toInCall.keep _ _ e,r⟩) prV (by rw [← Paired.length hi]; unfold lim; omega) (by decide) (kae (kae el')) fun σ₁ val x t₁ e₃ r => spliced_nil ⟨σ₁.kin,use_call ((c_law_rows bs).weaken (d' := 7) (by decide)) σ₁ [x] [val] rfl (.cons r .nil) e₃ fun τ a b t e₄ rv => ?_⟩)
      exact khu τ law_nd law_nm.2 (by decide +kernel) rv fun h' tk I' t' => use_body (@w_lawT (gl w bs) (ke5 w.params) (c_header_encode bs) (c_law_comes_so bs) (c_law_in_order bs) (c_law_piles bs) (c_law_place bs) (c_law_rounds bs)) (τ.to _ _ _ h' tk I') (ke0 (kae e₄)) fun υ fl b tt hb rr => by
        subst hb
        obtain ⟨rfl,h1,h2⟩ := hrel υ fl (((t₁.trans t).trans t').trans tt) rr
        exact k υ.s h1 h2
    · rfl
end Mine
set_option Elab.async false
namespace Mine
open PySem PySem.W PySem.Calls PyProof.Rows
open PySem.W.Fast
noncomputable def envT : Env := { scope := pw.main.scope,locals := mainNs,globals := mainNs,cells := [],code := .ref 13,frame := some 14 }
noncomputable def kht (i n : Nat) : List Stmt := ((behindTheImports pw).drop i).take n
noncomputable def cT : Code := .body (behindTheImports pw) envT
abbrev p0 : Pos := ⟨0,0,0,0⟩
noncomputable def segT (w : World) (N : Nat) (s : SharedT) (i n : Nat) (pos : Pos) := tw10110043849684766642 tw14364793385576792824 pw w 11 (some (.ref 6)) 1 N s ⟨(tw12563942051412417395 (kht i n) envT).wrap doneF deadEnd id id,cT,pos,[topFrame p0]⟩
noncomputable abbrev stT (t : Program → Params → BT) (n k : Nat) (w : World) (os : OsState) : SharedT := .mk (t pw w.params) n life0 #[] boot_drawn k os
theorem pre_ok (w : World) : (fun os => tw15667345088766844465 tw14364793385576792824 pw w 11 (some (.ref 6)) 12 ⟨boot_heap w.params,#[],boot_drawn,boot_toks,os⟩ (topStub pw)) = fun os => some ((stT treea 15 187 w os).abs,⟨tw11892475500146522536 tw14364793385576792824 cT,cT,p0,[topFrame p0]⟩) := by kernel_rfl
theorem blk_ok (w : World) : (fun os => tw14374325043358763698 tw14364793385576792824 pw w 11 (some (.ref 6)) 1 2 (stT treea 15 187 w os).abs (blockOf (behindTheImports pw) envT cT p0 [topFrame p0])) = fun os => some (.next,(stT treea 15 187 w os).abs,cT,p0) := by kernel_rfl
theorem g0 (w : World) : (fun os => segT w 40 (stT treea 15 187 w os) 0 1 p0) = fun os => some (.next,stT tree0 22 194 w os,cT,⟨1,0,3,12⟩) := by kernel_rfl
theorem size_ok (w : World) : ((boot_heap w.params).isNs mainGlobals && (#[] : Array GenState).size == 0,(boot_heap w.params).objs.size,(boot_heap w.params).nsMap mainGlobals "__annotations__") = (true,11,some (Value.ref 6)) := by kernel_rfl
theorem open_ok (w : World) : (fencedOpening treeTable pw w 40000).map (fun s => (s.heap,s.gens,s.drawn,s.toks)) = some (boot_heap w.params,#[],boot_drawn,boot_toks) := by kernel_rfl
theorem body_ok : behindTheImports pw = kht 0 1 ++ (kht 1 1 ++ (kht 2 8 ++ (kht 10 2 ++ (kht 12 24 ++ [])))) := by kernel_rfl
end Mine
set_option Elab.async false
namespace Mine
open PySem PySem.W PySem.Calls PyProof.Rows
open PySem.W.Fast
abbrev rI : String := "comprehension-iter-twice"
abbrev rG : String := "special-get-raises"
noncomputable def Pc (t : Program → Params → BT) (n k : Nat) (i m : Nat) (p : Pos) (t' : Program → Params → BT) (n' k' : Nat) (p' : Pos) (N : Nat) (w : World) : Prop :=
  (fun os => segT w N (stT t n k w os) i m p) = fun os => some (.next,stT t' n' k' w os,cT,p')
noncomputable abbrev P2 : World → Prop := Pc tree1 28 1222 2 8 ⟨4,0,4,11⟩ tree9 35 1442 ⟨12,9,12,74⟩ 4000
noncomputable abbrev P3 : World → Prop := Pc tree9 35 1442 10 2 ⟨12,9,12,74⟩ tree11 38 1731 ⟨15,9,15,110⟩ 4600
noncomputable abbrev P4 : World → Prop := Pc tree11 38 1731 12 24 ⟨15,9,15,110⟩ kky 245 2038 ⟨242,0,251,103⟩ 2000
theorem g4f (w : World) : P4 (w.withFollow rG false) := by unfold P4 Pc; kernel_rfl
theorem g4t (w : World) : P4 (w.withFollow rG true) := by unfold P4 Pc; kernel_rfl
theorem fin_ok (w : World) : (fun os => tw14082659384304107361 tw14364793385576792824 pw w 11 (some (.ref 6)) 2 (stT kky 245 2038 w os).abs ⟨doneF .next,cT,⟨242,0,251,103⟩,[topFrame p0]⟩) = fun os => some (stT kky 245 2038 w os).abs := by kernel_rfl
end Mine
set_option Elab.async false
namespace Mine
open PySem PySem.W PySem.Calls PyProof.Rows
theorem g2f (w : World) : P2 (w.withFollow rG false) := by unfold P2 Pc; kernel_rfl
theorem g2t (w : World) : P2 (w.withFollow rG true) := by unfold P2 Pc; kernel_rfl
theorem g3f (w : World) : P3 (w.withFollow rG false) := by unfold P3 Pc; kernel_rfl
theorem g3t (w : World) : P3 (w.withFollow rG true) := by unfold P3 Pc; kernel_rfl
end Mine
set_option Elab.async false
namespace Mine
open PySem PySem.W PySem.Calls PyProof.Rows
noncomputable abbrev P1 : World → Prop := Pc tree0 22 194 1 1 ⟨1,0,3,12⟩ tree1 28 1222 ⟨4,0,4,11⟩ 9600
theorem g1ff (w : World) : P1 ((w.withFollow rG false).withFollow rI false) := by unfold P1 Pc; kernel_rfl
theorem g1ft (w : World) : P1 ((w.withFollow rG false).withFollow rI true) := by unfold P1 Pc; kernel_rfl
theorem g1tf (w : World) : P1 ((w.withFollow rG true).withFollow rI false) := by unfold P1 Pc; kernel_rfl
theorem g1tt (w : World) : P1 ((w.withFollow rG true).withFollow rI true) := by unfold P1 Pc; kernel_rfl
theorem g1 (w : World) : P1 w := byRow2 rI (P := P1) (fun w => byRow2 rG (P := fun w => P1 (w.withFollow rI false)) g1ff g1tf w) (fun w => byRow2 rG (P := fun w => P1 (w.withFollow rI true)) g1ft g1tt w) w
end Mine
set_option Elab.async false
namespace Mine
open PySem PySem.W PySem.Calls PyProof.Rows
open PySem.W.Fast
noncomputable def asK : List Addr := List.range 245
theorem asK_ok (P : Params) : asK = (KF P).map (·.1) := by kernel_rfl
noncomputable abbrev hk : Hook := kHook KF asK asK_ok
noncomputable def qv : Program := { pw with main := { pw.main with body := pw.main.body.drop 35 } }
def loose : List Str := ["_wall","_QUOPRI_MAP","_QUOPRI_HEADER_MAP","_QUOPRI_BODY_MAP","ascii_lowercase","ascii_uppercase","ascii_letters","digits","header_encode","_QUOPRI_BODY_ENCODE_MAP","_NODE_OUT","_NODE_DONE","_NodeInfo","CycleError","TopologicalSorter","heappush","heappop","_siftdown","_siftup","_law_rows","_law_place","_law_in_order","_law_rounds","_law_piles","_law_lesser_yet","_law_comes_so"]
noncomputable def H1h (P : Params) : Heap := absHeap (kky pw P) 245 life0
theorem look1 (w : World) : (staticsOk (importedModules pw.main.body) (boot_heap w.params) (H1h w.params) && namesBound pw (H1h w.params) && laidKept (boot_heap w.params) (H1h w.params)) = true := by kernel_rfl
theorem look2 (w : World) : hk.obs { heap := H1h w.params,gens := #[],drawn := boot_drawn,toks := 2038,os := default } = hk.val w := by kernel_rfl
end Mine
set_option Elab.async false
namespace Mine
open PySem PySem.W PySem.Calls PyProof.Rows
open PySem.W.Fast
theorem look3 (w : World) (os : OsState) : openSeen qv loose (importedModules pw.main.body) (fun _ => true) true { heap := H1h w.params,gens := #[],drawn := boot_drawn,toks := 2038,os := os } = openGood qv loose := by kernel_rfl
end Mine
set_option Elab.async false
namespace Mine
open PySem PySem.W PySem.Calls PyProof.Rows
open PySem.W.Fast
theorem seg_eq {w : World} {N : Nat} {s : SharedT} {i n : Nat} {pos : Pos} : segT w N s i n pos = segRunT treeTable pw w 11 (some (.ref 6)) 1 N s (piecesOf (kht i n) envT cT pos [topFrame p0]) := by
  unfold segT
  rw [← te10110043849684766642,← te14364793385576792824,← te12563942051412417395]
theorem seg_ok {t t' : Program → Params → BT} {n n' k k' i m N : Nat} {p p' : Pos} {w : World} (h : Pc t n k i m p t' n' k' p' N w) (os : OsState) :
    segRun treeTable pw w 11 (some (.ref 6)) 1 N (stT t n k w os).abs (piecesOf (kht i m) envT cT p [topFrame p0]) = some (.next,(stT t' n' k' w os).abs,cT,p') :=
  segRun_of (seg_eq.symm.trans (congrFun h os))
theorem both {P : World → Prop} (f : ∀ w : World,P (w.withFollow rG false)) (t : ∀ w : World,P (w.withFollow rG true)) (w : World) : P w := byRow2 rG f t w
theorem run_ok (w : World) (os : OsState) : topRun treeTable pw w 11 (some (.ref 6)) (12 + (2 + (40 + (9600 + (4000 + (4600 + (2000 + 2))))))) ⟨boot_heap w.params,#[],boot_drawn,boot_toks,os⟩ (topStub pw) = some (stT kky 245 2038 w os).abs := by
  have hpre := congrFun (pre_ok w) os
  rw [← te15667345088766844465,← te14364793385576792824,← te11892475500146522536] at hpre
  have hblk := congrFun (blk_ok w) os
  rw [← te14374325043358763698,← te14364793385576792824] at hblk
  have hfin := congrFun (fin_ok w) os
  rw [← te14082659384304107361,← te14364793385576792824] at hfin
  refine go_top hpre (piece_block hblk ?_)
  have chain : topRun treeTable pw w 11 (some (.ref 6)) (40 + (9600 + (4000 + (4600 + (2000 + 2))))) (stT treea 15 187 w os).abs (restOf (kht 0 1 ++ (kht 1 1 ++ (kht 2 8 ++ (kht 10 2 ++ (kht 12 24 ++ []))))) envT cT p0 [topFrame p0]) = some (stT kky 245 2038 w os).abs :=
    piece_app (seg_ok (N := 40) (g0 w) os) (piece_app (seg_ok (g1 w) os) (piece_app (seg_ok (both (P := P2) g2f g2t w) os) (piece_app (seg_ok (both (P := P3) g3f g3t w) os) (piece_app (seg_ok (both (P := P4) g4f g4t w) os) (piece_nil hfin)))))
  rw [← body_ok] at chain
  exact chain
theorem left_ok : LeftO pw qv loose (fun _ => true) hk.obs hk.val 40000 :=
  LeftO.of_pieces (H₀ := boot_heap) (H₁ := H1h) (gs₀ := #[]) (gs₁ := #[]) (d₀ := boot_drawn) (d₁ := boot_drawn) (k₀ := boot_toks) (k₁ := 2038) (m₀ := 11) (ann := some (.ref 6)) (M := 12 + (2 + (40 + (9600 + (4000 + (4600 + (2000 + 2)))))))
    open_ok size_ok run_ok (by decide +kernel) fun w => funext fun os => by
      have h1 := look1 w
      rw [Bool.and_eq_true,Bool.and_eq_true] at h1
      rw [h1.1.1,h1.1.2,h1.2,look3 w os]
      exact congrArg (fun x => (true,openGood qv loose,x)) (look2 w)
end Mine
set_option Elab.async false
namespace Mine
open PySem PySem.W PySem.Calls PyProof.Rows
theorem said : PySem.Challenge.rw_oc0217_01.wellSaid = true := by kernel_rfl
noncomputable abbrev rw0 : OpenRow := PySem.Challenge.rw_oc0217_01.row
noncomputable def posS : Option Stmt → Pos
  | some (.FunctionDef _ _ _ _ _ _ _ _ _ p) => p
  | _ => default
noncomputable def dL : DefRec := ⟨"law",fnA (stA pw 35),fnB (stA pw 35),fnS (stA pw 35),posS (stA pw 35)⟩
theorem d1 : defOf qv rw0.name = some (dL,[]) := by kernel_rfl
theorem d2 : rw0.prog.theDef rw0.name = some (dL.params,dL.body,dL.scope) := by kernel_rfl
theorem d3 : kwWritten? dL.params.kwonlyargs dL.params.kw_defaults = some [] := by kernel_rfl
theorem d4 : (chainsOk qv && opensWell rw0.prog && (frees rw0.toRowW && rw0.within.isEmpty)) = true := by kernel_rfl
theorem d5 : rw0.prog.bare := ⟨rfl,rfl,rfl,rfl,rfl,by kernel_rfl⟩
theorem d6 : rw0.toRowW.promised := ⟨[.list []],by kernel_rfl,by kernel_rfl⟩
end Mine
set_option Elab.async false
namespace Mine
open PySem PySem.W PySem.Calls PyProof.Rows
theorem ints_paired {vs : List Value} {ds : List Int} (h : IntsAre vs ds) : Paired (fun (i : Int) v => ∃ t,v = Value.int i t) ds vs := by
  induction h with
  | nil => exact .nil
  | cons n t _ ih => exact .cons ⟨t,rfl⟩ ih
theorem ns_law (P : Params) : nsIn (KF P) mainGlobals "law" = some (some (.ref 244)) := by kernel_rfl
theorem walk : WalkO qv loose (fun _ _ => True) hk.says rw0.toRowW dL [] (fun f vs => PySem.call f vs) := by
  intro w s₀ s₁ mg mb G Y a o pm cd doc dV kV ho hd hcd hD hmg hg args vals as hpre hlay hrd hwl hlo
  have bs : Bs s₁.heap (KF w.params) mg mb := ⟨kIn_of Y,G.T.g,G.T.b,G.T.builtins,G.T.nolimit,G.low⟩
  have ea : a = 244 := by
    have h := (mg_of (kIn_of Y) G.T.g (ns_law w.params)).symm.trans hmg
    cases h; rfl
  subst ea
  clear hd hcd hD hmg ho
  wrow_args hpre hlay hrd hwl hlo
  rename_i ds hs hlay0 hL1 hr1 hl2 as2 as3 l vs as4 hL ra w1 r0 hI hr hc1 hc2
  have hlen : ds.length ≤ 1000 := by omega
  refine wpAny_call (law_code bs hL (ints_paired hI) hlen fun τs h1 h2 => GoodW.toG ⟨.inl ⟨_,.bool true,[],rfl,fun _ => rfl,.bool true,?_,fun _ => ⟨.nil,nofun⟩⟩,h1,by rw [h2],by rw [h2]; exact hg⟩)
  generalize ofPy (PyData.list (List.map PyData.int ds)) = x
  kernel_rfl
end Mine
theorem PySem.Challenge.cw_oc0217_01_holds : PySem.Challenge.rw_oc0217_01.Holds :=
  PySem.W.holds_law Mine.said fun h => PySem.W.holds_open (r := Mine.rw0) Mine.left_ok (PySem.W.Hook.of Mine.hk) (PySem.W.Hook.keeps Mine.hk) (fun _ _ => trivial) (fun _ _ _ _ _ => trivial) Mine.d1 Mine.d2 Mine.d3 (fun _ _ => PySem.W.recFacts_nil rfl) rfl h Mine.d4 Mine.d5 Mine.d6 Mine.walk
