import PyProof.Rows.All
import Wide.All
import OpenK.AllK
import Wide.FinOn
import PySem.Challenge.RW_sw0066_01
set_option Elab.async false
set_option linter.unusedSimpArgs false
set_option linter.unusedVariables false
set_option maxRecDepth 100000
set_option tactic.hygienic false
set_option bootstrap.genMatcherCode false
noncomputable section
section
set_option genSizeOf false
set_option genInjectivity false
namespace Mine
theorem bC {p : Prop} : (¬p → False) → p := Classical.byContradiction
theorem nL {n m : Nat} : Nat.ble n m = true → n ≤ m := Nat.le_of_ble_eq_true
theorem sI {α : Type _} {a b : α} : some a = some b → a = b := Option.some.inj
theorem nB {n m : Nat} : n ≤ m → Nat.ble n m = true := Nat.ble_eq_true_of_le
theorem nE {n m : Nat} : Nat.beq n m = true → n = m := Nat.eq_of_beq_eq_true
theorem lT {a b c : Nat} : a ≤ b → b ≤ c → a ≤ c := Nat.le_trans
inductive Tq where
 | v (i:Nat)
 | k (n:Nat)
 | a (x y:Tq)
 | m (n:Nat) (x:Tq)
 | r (x:Tq) (n:Nat)
noncomputable def gtq:List Nat→Nat→Nat
 | [],ux=>0
 | a::ux,0=>a
 | ux::r,n+1=>gtq r n
noncomputable def addQ:List Nat→List Nat→List Nat
 | [],y=>y
 | a::x,[]=>a::x
 | a::x,b::y=>(a+b)::addQ x y
noncomputable def mulQ (n:Nat):List Nat→List Nat
 | []=>[]
 | a::x=>(n*a)::mulQ n x
noncomputable def unitQ:Nat→List Nat
 | 0=>[1]
 | n+1=>0::unitQ n
noncomputable def lleQ:List Nat→List Nat→Bool
 | [],ux=>true
 | a::x,[]=>Nat.beq a 0&&lleQ x []
 | a::x,b::y=>Nat.ble a b&&lleQ x y
noncomputable def dotQ:List Nat→List Nat→Nat
 | [],ux=>0
 | ux::uy,[]=>0
 | a::x,b::y=>a*b+dotQ x y
noncomputable def Tq.d (c:List Nat) (t:Tq):Nat:=Tq.rec (motive:=fun ux=>Nat) (fun i=>gtq c i) (fun k=>k) (fun ux uy x y=>x+y) (fun n ux x=>n*x) (fun ux n x=>x*n) t
noncomputable def Tq.f (t:Tq):List Nat:=Tq.rec (motive:=fun ux=>List Nat) (fun i=>unitQ (i+1)) (fun k=>[k]) (fun ux uy x y=>addQ x y) (fun n ux x=>mulQ n x) (fun ux n x=>mulQ n x) t
theorem dotQ_nil:∀ x:List Nat,dotQ x []=0:=fun x=>by cases x<;>rfl
theorem dotQ_add:∀ x y c:List Nat,dotQ (addQ x y) c=dotQ x c+dotQ y c:=by
 intro x;induction x with
 | nil=>intro y c;exact (Nat.zero_add _).symm
 | cons a x ih=>
  intro y c;cases c with
  | nil=>rw[dotQ_nil,dotQ_nil,dotQ_nil]
  | cons b c=>
   cases y with
   | nil=>rfl
   | cons e y=>
    show (a+e)*b+dotQ (addQ x y) c=(a*b+dotQ x c)+(e*b+dotQ y c);rw[ih,Nat.add_mul,Nat.add_add_add_comm]
theorem dotQ_mul (n:Nat):∀ x c:List Nat,dotQ (mulQ n x) c=n*dotQ x c:=by
 intro x;induction x with
 | nil=>intro c;rfl
 | cons a x ih=>
  intro c;cases c with
  | nil=>rfl
  | cons b c=>
   show n*a*b+dotQ (mulQ n x) c=n*(a*b+dotQ x c);rw[ih,Nat.mul_add,Nat.mul_assoc]
theorem dotQ_unit:∀ (i:Nat) (c:List Nat),dotQ (unitQ i) c=gtq c i:=by
 intro i;induction i with
 | zero=>
  intro c;cases c with
  | nil=>rfl
  | cons b c=>exact Nat.one_mul b
 | succ i ih=>
  intro c;cases c with
  | nil=>rfl
  | cons b c=>exact (congrArg (·+_) (Nat.zero_mul b)).trans ((Nat.zero_add _).trans (ih c))
theorem dotQ_le:∀ x y c:List Nat,lleQ x y=true→dotQ x c≤dotQ y c:=by
 intro x;induction x with
 | nil=>intro y c ux;exact Nat.zero_le _
 | cons a x ih=>
  intro y c h;cases c with
  | nil=>rw[dotQ_nil,dotQ_nil];exact Nat.le_refl _
  | cons b c=>
   cases y with
   | nil=>
    have h1:=(Bool.and_eq_true_iff.mp h).1;have h2:=(Bool.and_eq_true_iff.mp h).2;show a*b+dotQ x c≤0;have:=ih [] c h2;rw[nE h1,Nat.zero_mul,Nat.zero_add];exact this
   | cons e y=>
    have h1:=(Bool.and_eq_true_iff.mp h).1;have h2:=(Bool.and_eq_true_iff.mp h).2;exact Nat.add_le_add (Nat.mul_le_mul_right b (nL h1)) (ih y c h2)
theorem Tq.ok (c:List Nat) (t:Tq):t.d c=dotQ t.f (1::c):=by
 induction t with
 | v i=>exact ((congrArg (·+_) (Nat.zero_mul 1)).trans ((Nat.zero_add _).trans (dotQ_unit i c))).symm
 | k n=>exact (Nat.mul_one n).symm
 | a x y h1 h2=>exact (congr (congrArg _ h1) h2).trans (dotQ_add ..).symm
 | m n x h=>exact (congrArg _ h).trans (dotQ_mul ..).symm
 | r x n h=>exact (congrArg (·*n) h).trans ((Nat.mul_comm ..).trans (dotQ_mul ..).symm)
theorem lq0 (c:List Nat) (g h:Tq) (ck:lleQ g.f h.f=true):g.d c≤h.d c:=by rw[Tq.ok,Tq.ok];exact dotQ_le _ _ _ ck
theorem lqs (c:List Nat) (g h x y:Tq) (a:x.d c≤y.d c) (H:(g.a y).d c≤(h.a x).d c):g.d c≤h.d c:=Nat.le_of_add_le_add_right (lT H (Nat.add_le_add_left a _))
theorem lq1 (c:List Nat) (g h x y:Tq) (a:x.d c≤y.d c) (ck:lleQ (g.a y).f (h.a x).f=true):g.d c≤h.d c:=lqs c g h x y a (lq0 _ _ _ ck)
theorem lq2 (c:List Nat) (g h x y z w:Tq) (a:x.d c≤y.d c) (b:z.d c≤w.d c) (ck:lleQ ((g.a y).a w).f ((h.a x).a z).f=true):g.d c≤h.d c:=lqs c g h x y a (lq1 _ _ _ z w b ck)
theorem lq3 (c:List Nat) (g h x y z w u t:Tq) (a:x.d c≤y.d c) (b:z.d c≤w.d c) (e:u.d c≤t.d c) (ck:lleQ (((g.a y).a w).a t).f (((h.a x).a z).a u).f=true):g.d c≤h.d c:=lqs c g h x y a (lq2 _ _ _ z w u t b e ck)
theorem eq0 (c:List Nat) (g h:Tq) (ck:lleQ g.f h.f=true) (kc:lleQ h.f g.f=true):g.d c=h.d c:=Nat.le_antisymm (lq0 c g h ck) (lq0 c h g kc)
theorem eq1 (c:List Nat) (g h x y:Tq) (a:x.d c=y.d c) (ck:lleQ (g.a y).f (h.a x).f=true) (kc:lleQ (h.a x).f (g.a y).f=true):g.d c=h.d c:=Nat.le_antisymm (lq1 c g h x y (Nat.le_of_eq a) ck) (lq1 c h g y x (Nat.le_of_eq a.symm) kc)
theorem eq2 (c:List Nat) (g h x y z w:Tq) (a:x.d c=y.d c) (b:z.d c=w.d c) (ck:lleQ ((g.a y).a w).f ((h.a x).a z).f=true) (kc:lleQ ((h.a x).a z).f ((g.a y).a w).f=true):g.d c=h.d c:=Nat.le_antisymm (lq2 c g h x y z w (Nat.le_of_eq a) (Nat.le_of_eq b) ck) (lq2 c h g y x w z (Nat.le_of_eq a.symm) (Nat.le_of_eq b.symm) kc)
end Mine
end
section
open PySem
set_option genSizeOf false
set_option genInjectivity false
namespace Mine
inductive B where
 | len | range | reversed | sum | divmod | iter
inductive Cn where
 | none
 | bool (b:Bool)
 | int (i:Int)
 | str (s:List Nat)
 | bi (b:B)
 | st (a:Nat)
inductive X where
 | c (v:Cn)
 | loc (x:Nat)
 | cel (x:Nat)
 | bin (op:Operator) (a b:X)
 | rep (es:List X) (n:X)
 | neg (a:X)
 | cmp (op:CmpOp) (a b:X)
 | boo (op:BoolOp) (es:List X)
 | ite (t a b:X)
 | lst (es:List X)
 | tup (es:List X)
 | sub (a i:X)
 | slc (a:X) (lo hi:Option X)
 | att (a:X) (m:Nat)
 | call (f:X) (es:List X)
 | mcall (o:X) (m:Nat) (es:List X)
 | repl (o:X) (a b:List Nat)
 | comp (elt:X) (cell:Bool) (x:Nat) (it:X) (ifs:List X) (fr:List Nat) (cl:List Nat)
 | bad
inductive S where
 | expr (e:X)
 | ret (e:X)
 | retN
 | asg (cell:Bool) (x:Nat) (e:X)
 | asgT (xs:List (Bool × Nat)) (e:X)
 | asgA (o:X) (m:Nat) (e:X)
 | asgI (o i:X) (e:X)
 | aug (cell:Bool) (x:Nat) (op:Operator) (e:X)
 | augA (o:X) (m:Nat) (op:Operator) (e:X)
 | whl (t:X) (b:List S)
 | fr (cell:Bool) (x:Nat) (it:X) (b:List S)
 | ifs (t:X) (a b:List S)
 | cont
 | fdef (cell:Bool) (x:Nat) (ps:List Nat) (fr:List Nat) (body:List S)
 | bad
set_option genInjectivity true in
inductive V where
 | none
 | bool (b:Bool)
 | int (i:Int)
 | str (s:List Nat)
 | bi (b:B)
 | st (a:Nat)
 | ref (l:Nat)
 | inst (c d:Nat)
 | tup (vs:List V)
 | range (a b c:Int)
 | clo (ps:List Nat) (body:List S) (cl:List (Nat × Nat))
 | meth (f self:V)
 | klst (vs:List V)
noncomputable def Cn.v:Cn→V
 | .none=>.none
 | .bool b=>.bool b
 | .int i=>.int i
 | .str s=>.str s
 | .bi b=>.bi b
 | .st a=>.st a
inductive O where
 | list (vs:List V)
 | cell (v:Option V)
 | ns (m:List (Nat × V))
 | dict (m:List (Nat × V))
 | lit (l:Nat) (i:Nat)
 | vit (l:Nat) (i:Nat)
 | sit (s:List Nat) (i:Nat)
 | rit (a n c:Int)
 | cit (f:V)
 | junk
inductive Fl where
 | next | cont | ret (v:V)
structure Ctx where
 lf:Nat
 cells:List (Nat × Nat)
structure FD where
 ps:List Nat
 df:List V:=[]
 kw:List (Nat × V):=[]
 cells:List Nat:=[]
 body:List S
noncomputable abbrev St:=List O
structure Sig where
 fnd:Nat→Option FD
 cls:Nat
 meths:List (Nat × Nat)
 atts:List Nat
 ini:Nat
 pat:Nat→Option (List Nat)
 prim:V→List V→St→Option (V × St)
 rep:Bool
 sub:List Nat→List Nat→List Nat→Option (List Nat)
 mJoin:Nat
 mSplit:Nat
 mCount:Nat
 mAppend:Nat
 mInsert:Nat
 mPop:Nat
 mReverse:Nat
 mBitLength:Nat
 mSub:Nat
structure Ops where
 ev:Ctx→X→St→Option (V × St)
 tst:Ctx→X→St→Option (Bool × St)
 tsts:Ctx→Bool→List X→St→Option (Bool × St)
 evs:Ctx→List X→St→Option (List V × St)
 ex:Ctx→S→St→Option (Fl × St)
 exs:Ctx→List S→St→Option (Fl × St)
 whl:Ctx→X→List S→St→Option (Fl × St)
 frs:Ctx→Bool→Nat→Nat→List S→St→Option (Fl × St)
 cpl:Ctx→X→Bool→Nat→Nat→List X→Nat→St→Option St
 call:V→List V→St→Option (V × St)
 nxt:Nat→St→Option (Option V × St)
noncomputable def lkp (x:Nat):List (Nat × α)→Option α
 | []=>none
 |(y,v)::r=>bif Nat.beq x y then some v else lkp x r
noncomputable def put (x:Nat) (v:α):List (Nat × α)→List (Nat × α)
 | []=>[(x,v)]
 |(y,w)::r=>bif Nat.beq x y then (y,v)::r else (y,w)::put x v r
noncomputable def nth:List α→Nat→Option α
 | [],ux=>none
 | a::ux,0=>some a
 | ux::r,n+1=>nth r n
noncomputable def setAt:List α→Nat→α→List α
 | [],ux,uy=>[]
 | ux::r,0,b=>b::r
 | a::r,n+1,b=>a::setAt r n b
noncomputable def len:List α→Nat
 | []=>0
 | ux::r=>len r+1
theorem KC {α:Type _}:len ([]:List α)=0:=rfl
theorem KD {α:Type _}{ux:α}{r:List α}:len (ux::r)=len r+1:=rfl
noncomputable def strMax:Nat:=1000000
noncomputable def beqL:List Nat→List Nat→Bool
 | [],[]=>true
 | a::r,b::s=>Nat.beq a b&&beqL r s
 | ux,uy=>false
theorem Ys  :beqL  [] []=(true):=rfl
theorem Yt  {a}{r}{b}{s}:beqL  (a::r) (b::s)=(Nat.beq a b&&beqL r s):=rfl
noncomputable abbrev mkS (l:List Nat):Str:=⟨l.toArray⟩
noncomputable def isIn (x y:List Nat):Bool:=PySem.Txt.contains (mkS y) (mkS x)
noncomputable def ltI (a b:Int):Bool:=decide (a<b)
noncomputable def leI (a b:Int):Bool:=decide (a≤b)
noncomputable def eqI (a b:Int):Bool:=decide (a=b)
noncomputable def onSt {β:Type _}(f:V) (k:Nat→Option β):Option β:=match f with | .st a=>k a | ux=>none
noncomputable def onRef {β:Type _}(f:V) (k:Nat→Option β):Option β:=match f with | .ref a=>k a | ux=>none
noncomputable def onStr {β:Type _}(f:V) (k:List Nat→Option β):Option β:=match f with | .str a=>k a | ux=>none
noncomputable def onNat {β:Type _}(f:V) (k:Nat→Option β):Option β:=match f with | .int i=>(match i with | .ofNat n=>k n | ux=>none) | ux=>none
noncomputable def onInst {β:Type _}(f:V) (k:Nat→Nat→Option β):Option β:=match f with | .inst c d=>k c d | ux=>none
noncomputable def onC {β:Type _}(vs:List V) (k:V→List V→Option β):Option β:=match vs with | a::r=>k a r | []=>none
noncomputable def onE {β:Type _}(vs:List V) (k:Option β):Option β:=match vs with | ux::uy=>none | []=>k
noncomputable def onL {β:Type _}(o:Option O) (k:List V→Option β):Option β:=match o with | some (.list ws)=>k ws | ux=>none
noncomputable def onInt {β:Type _}(f:V) (k:Int→Option β):Option β:=match f with | .int i=>k i | ux=>none
noncomputable def onD {β:Type _}(o:Option O) (k:List (Nat × V)→Option β):Option β:=match o with | some (.dict ws)=>k ws | ux=>none
noncomputable def onCit {β:Type _}(o:Option O) (k:V→Option β):Option β:=match o with | some (.cit ws)=>k ws | ux=>none
noncomputable def onNs {β:Type _}(o:Option O) (k:List (Nat × V)→Option β):Option β:=match o with | some (.ns ws)=>k ws | ux=>none
noncomputable def onCell {β:Type _}(o:Option O) (k:Option V→Option β):Option β:=match o with | some (.cell ws)=>k ws | ux=>none
noncomputable def onTup {β:Type _}(f:V) (k:List V→Option β):Option β:=match f with | .tup vs=>k vs | ux=>none
noncomputable def onK {β:Type _}(v:V) (i:Int→Option β) (s:List Nat→Option β) (l:Nat→Option β):Option β:=match v with | .int a=>i a | .str a=>s a | .ref a=>l a | ux=>none
noncomputable def isAdd:Operator→Bool
 | .Add=>true
 | ux=>false
noncomputable def isIs:CmpOp→Bool
 | .Is=>true
 | ux=>false
noncomputable def isIn2:CmpOp→Bool
 | .In=>true
 | ux=>false
noncomputable def eqV (a b:V):Option Bool:=onK a (fun a=>onInt b fun b=>some (eqI a b)) (fun a=>onStr b fun b=>some (beqL a b)) fun ux=>none
noncomputable def eqEl:List V→List V→Option Bool
 | [],[]=>some true
 | a::r,b::s=>(eqV a b).bind fun t=>(eqEl r s).bind fun u=>some (t&&u)
 | ux,uy=>none
noncomputable def eqVs (a b:List V):Option Bool:=bif Nat.beq (len a) (len b) then eqEl a b else some false
noncomputable def inInts (a:Int):List V→Option Bool
 | []=>some false
 | v::r=>onInt v fun b=>(inInts a r).bind fun t=>some (eqI b a||t)
noncomputable def sumInts:List V→Option Int
 | []=>some 0
 | v::r=>onInt v fun b=>(sumInts r).bind fun s=>some (b+s)
noncomputable def allInts:List V→Bool
 | []=>true
 | .int ux::r=>allInts r
 | ux::uy=>false
noncomputable def strsOf:List V→Option (List (List Nat))
 | []=>some []
 | v::r=>onStr v fun s=>(strsOf r).bind fun t=>some (s::t)
noncomputable def joinS (sep:List Nat) (l:List (List Nat)):List Nat:=(PySem.Txt.join (mkS sep) (l.map mkS)).cps.toList
noncomputable def splitS (sep s:List Nat):List (List Nat):=(PySem.Txt.split (mkS s) (mkS sep)).map fun x=>x.cps.toList
noncomputable def replS (a b s:List Nat):List Nat:=(PySem.Txt.replace (mkS s) (mkS a) (mkS b)).cps.toList
noncomputable def countS (a s:List Nat):Int:=PySem.Txt.count (mkS s) (mkS a)
noncomputable def smallI (a:Int):Bool:=leI (-1000000) a&&leI a 1000000
noncomputable def binI:Operator→Int→Int→Option Int
 | .Add,a,b=>some (a+b)
 | .Sub,a,b=>some (a-b)
 | .Mult,a,b=>bif smallI a&&smallI b then some (a*b) else none
 | .Mod,a,b=>bif eqI b 0 then none else some (Int.fmod a b)
 | .FloorDiv,a,b=>bif eqI b 0||!smallI b then none else bif smallI a then some (Int.fdiv a b) else none
 | .Pow,a,b=>match a,b with
  | .ofNat a,.ofNat b=>bif Nat.ble a 2&&Nat.ble b 40 then some (Int.ofNat (a^b)) else none
  | ux,uy=>none
 | .LShift,a,b=>match a,b with
  | .ofNat a,.ofNat b=>bif Nat.ble b 40&&smallI (.ofNat a) then some (Int.ofNat (a*2^b)) else none
  | ux,uy=>none
 | .RShift,a,b=>match a,b with
  | .ofNat a,.ofNat b=>bif Nat.ble b 40 then some (Int.ofNat (a/2^b)) else none
  | ux,uy=>none
 | .BitAnd,a,b=>match a,b with
  | .ofNat a,.ofNat b=>some (Int.ofNat (Nat.land a b))
  | ux,uy=>none
 | .BitXor,a,b=>some (Builtin.bitXor a b)
 | ux,uy,uz=>none
noncomputable def lstMax:Nat:=100000
noncomputable def repN:Nat→List α→List α
 | 0,ux=>[]
 | n+1,l=>l++repN n l
theorem KF {α:Type _}{n}{l:List α}:repN  (n+1) l=(l++repN n l):=rfl
noncomputable def binop (op:Operator) (a b:V) (W:St):Option (V × St):=
 onK a (fun a=>onInt b fun b=>do let i ← binI op a b;some (.int i,W))
  (fun a=>onStr b fun b=>bif isAdd op then (bif Nat.ble (len a+len b) strMax then some (.str (a++b),W) else none) else none)
  (fun l=>onRef b fun m=>bif isAdd op then onL (nth W l) fun a=>onL (nth W m) fun b=>(bif Nat.ble (len a+len b) lstMax then some (.ref (len W),W++[.list (a++b)]) else none) else none)
noncomputable def cmpI:CmpOp→Int→Int→Option Bool
 | .Lt,a,b=>some (ltI a b)
 | .Gt,a,b=>some (ltI b a)
 | .LtE,a,b=>some (leI a b)
 | .GtE,a,b=>some (leI b a)
 | .Eq,a,b=>some (eqI a b)
 | .NotEq,a,b=>some (!eqI a b)
 | ux,uy,uz=>none
noncomputable def isNone:V→Bool
 | .none=>true
 | ux=>false
noncomputable def eqNe (op:CmpOp) (r:Option Bool):Option Bool:=match op with
 | .Eq=>r
 | .NotEq=>do let t ← r;some (!t)
 | ux=>none
noncomputable def cmpop (op:CmpOp) (a b:V) (W:St):Option Bool:=
 bif isIs op then (bif isNone b then some (isNone a) else none)
 else bif isIn2 op then onK a (fun i=>onRef b fun l=>onL (nth W l) (inInts i)) (fun x=>onStr b fun y=>some (isIn x y)) (fun ux=>none)
 else onK a (fun i=>onInt b (cmpI op i)) (fun x=>onStr b fun y=>eqNe op (some (beqL x y))) (fun l=>onRef b fun m=>onL (nth W l) fun a=>onL (nth W m) fun b=>eqNe op (eqVs a b))
noncomputable def truthyV (v:V) (W:St):Option Bool:=
 match v with
 | .none=>some false
 | .bool b=>some b
 | .int i=>some (!eqI i 0)
 | .str s=>bif Nat.ble (len s) strMax then some (!Nat.beq (len s) 0) else none
 | .ref l=>onL (nth W l) fun vs=>bif Nat.ble (len vs) lstMax then some (!Nat.beq (len vs) 0) else none
 | ux=>none
noncomputable def getSub (a i:V) (W:St):Option V:=
 onRef a fun l=>onNat i fun n=>onL (nth W l) fun vs=>bif Nat.ble n lstMax then nth vs n else none
noncomputable def setSub (a i v:V) (W:St):Option St:=
 onRef a fun l=>onNat i fun n=>onL (nth W l) fun vs=>bif Nat.ble n lstMax&&Nat.blt n (len vs) then some (setAt W l (.list (setAt vs n v))) else none
noncomputable def bnd:V→Nat→Option Nat
 | .none,d=>some d
 | .int (.ofNat n),ux=>bif Nat.ble n strMax then some n else none
 | ux,uy=>none
noncomputable def sliceL (lo hi:Nat) (l:List α):List α:=(l.take hi).drop lo
noncomputable def getSlc (a lo hi:V) (W:St):Option (V × St):=
 match a with
 | .str s=>do
  let lo ← bnd lo 0
  let hi ← bnd hi (len s)
  bif Nat.ble (len s) strMax then some (.str (sliceL lo hi s),W) else none
 | .ref l=>onL (nth W l) fun vs=>do
  let lo ← bnd lo 0
  let hi ← bnd hi (len vs)
  bif Nat.ble (len vs) lstMax then some (.ref (len W),W++[.list (sliceL lo hi vs)]) else none
 | .klst vs=>do
  let lo ← bnd lo 0
  let hi ← bnd hi (len vs)
  bif Nat.ble (len vs) lstMax then some (.ref (len W),W++[.list (sliceL lo hi vs)]) else none
 | ux=>none
noncomputable def ldLoc (g:Ctx) (x:Nat) (W:St):Option V:=onNs (nth W g.lf) (lkp x)
noncomputable def ldCel (g:Ctx) (x:Nat) (W:St):Option V:=(lkp x g.cells).bind fun l=>onCell (nth W l) fun v=>v
noncomputable def stName (g:Ctx) (cell:Bool) (x:Nat) (v:V) (W:St):Option St:=
 match cell with
 | false=>onNs (nth W g.lf) fun m=>some (setAt W g.lf (.ns (put x v m)))
 | true=>(lkp x g.cells).bind fun l=>onCell (nth W l) fun ux=>some (setAt W l (.cell (some v)))
noncomputable def ldName (g:Ctx) (cell:Bool) (x:Nat) (W:St):Option V:=
 match cell with
 | false=>ldLoc g x W
 | true=>ldCel g x W
noncomputable def stNames (g:Ctx):List (Bool × Nat)→List V→St→Option St
 | [],[],W=>some W
 |(c,x)::r,v::s,W=>do let W ← stName g c x v W;stNames g r s W
 | ux,uy,uz=>none
noncomputable def rngSz (a b c:Int):Int:=bif eqI c 1 then (bif ltI a b then b-a else 0) else (bif ltI b a then a-b else 0)
noncomputable def iterOf (v:V) (W:St):Option (Nat × St):=
 match v with
 | .range a b c=>bif smallI a&&smallI b&&(eqI c 1||eqI c (-1)) then some (len W,W++[.rit a (rngSz a b c) c]) else none
 | .str s=>bif s.all (Nat.blt · 128) then some (len W,W++[.sit s 0]) else none
 | .ref l=>match nth W l with
  | some (.list ux)=>some (len W,W++[.lit l 0])
  | some (.vit _ _) | some (.cit _)=>some (l,W)
  | ux=>none
 | ux=>none
noncomputable def isAtt (G:Sig) (m:Nat):Bool:=G.atts.any (Nat.beq m)
noncomputable def getAtt (G:Sig) (o:V) (m:Nat) (W:St):Option V:=
 onInst o fun c d=>bif Nat.beq c G.cls then onD (nth W d) fun es=>(match lkp m es with
   | some v=>bif isAtt G m then some v else none
   | none=>(lkp m G.meths).bind fun f=>some (.meth (.st f) o)) else none
noncomputable def setAtt (G:Sig) (o:V) (m:Nat) (v:V) (W:St):Option St:=
 onInst o fun c d=>bif Nat.beq c G.cls&&isAtt G m then onD (nth W d) fun es=>(bif Nat.ble (len es) 100 then some (setAt W d (.dict (put m v es))) else none) else none
noncomputable def zipB:List Nat→List V→List V→Option (List (Nat × V))
 | [],[],ux=>some []
 | x::xs,v::vs,df=>do let r ← zipB xs vs df;some ((x,v)::r)
 | x::xs,[],df=>
  (nth df (len df-(len xs+1))).bind fun v=>bif Nat.ble (len xs+1) (len df) then (do let r ← zipB xs [] df;some ((x,v)::r)) else none
 | [],ux::uy,uz=>none
theorem Yw  {ux}:zipB  [] [] ux=(some []):=rfl
theorem Yx  {x}{xs}{v}{vs}{df}:zipB  (x::xs) (v::vs) df=(do let r ← zipB xs vs df;some ((x,v)::r)):=rfl
noncomputable def mkCells (n:Nat):List Nat→List (Nat × Nat)
 | []=>[]
 | x::r=>(x,n)::mkCells (n+1) r
theorem KA {n:Nat} :mkCells n []=([]):=rfl
theorem KB {n:Nat}{x}{r}:mkCells n (x::r)=((x,n)::mkCells (n+1) r):=rfl
noncomputable def bindAll (g:Ctx) (cs:List Nat):List (Nat × V)→St→Option St
 | [],W=>some W
 |(x,v)::r,W=>do let W ← stName g (cs.any (Nat.beq x)) x v W;bindAll g cs r W
theorem K8 {g:Ctx}{cs:List Nat} :bindAll g cs [] W=(some W):=rfl
theorem K9 {g:Ctx}{cs:List Nat}{x}{v}{r}:bindAll g cs ((x,v)::r) W=(do let W ← stName g (cs.any (Nat.beq x)) x v W;bindAll g cs r W):=rfl
noncomputable def addF (W:St) (e:O):Nat × St:=(len W,W++[e])
structure Found where
 start:Nat
 handed:Nat
noncomputable def subAll (nx:Nat→Bool→Option (Option Found)) (text repl:List Nat):Nat→Nat→Nat→Bool→Option (List Nat)
 | 0,ux,uy,uz=>none
 | n+1,done,start,must=>match nx start must with
  | none=>none
  | some none=>some (sliceL done (len text) text)
  | some (some f)=>do
   let r ← subAll nx text repl n f.handed f.handed (Nat.beq f.handed f.start)
   some (sliceL done f.start text++repl++r)
theorem KJ {nx:Nat→Bool→Option (Option Found)}{text repl:List Nat}{n}{done}{start}{must}:subAll nx text repl (n+1) done start must=(match nx start must with
  | none=>none
  | some none=>some (sliceL done (len text) text)
  | some (some f)=>do
   let r ← subAll nx text repl n f.handed f.handed (Nat.beq f.handed f.start)
   some (sliceL done f.start text++repl++r)):=rfl
noncomputable def nextF (code text:Array Nat) (start:Nat) (must:Bool):Option (Option Found):=
 let m:=(Sre.forSearch code text 0 start text.size must).runFor 4096
 match m.outcome with
 | some .matched=>some (some ⟨m.start,m.handed⟩)
 | some .failed=>some none
 | ux=>none
noncomputable def reSub (code:List Nat) (repl text:List Nat):Option (List Nat):=
 bif repl.any (Nat.beq 92) then none else subAll (nextF code.toArray text.toArray) text repl (2*len text+3) 0 0 false
noncomputable def bitLen (n:Nat):Nat:=if n=0 then 0 else Nat.log2 n+1
noncomputable def mStr (G:Sig) (s:List Nat) (m:Nat) (vs:List V) (W:St):Option (V × St):=
 bif Nat.beq m G.mJoin then (onC vs fun v r=>onE r (onRef v fun l=>onL (nth W l) fun ws=>(strsOf ws).bind fun ss=>bif JoinOk (mkS s) (ss.map mkS) then some (.str (joinS s ss),W) else none))
 else bif Nat.beq m G.mSplit then (onC vs fun v r=>onE r (onStr v fun a=>bif Nat.beq (len a) 0||!Nat.ble (len s) strMax then none else some (.ref (len W),W++[.list ((splitS a s).map .str)])))
 else bif Nat.beq m G.mCount then (onC vs fun v r=>onE r (onStr v fun a=>some (.int (countS a s),W)))
 else none
noncomputable def mLst (G:Sig) (l:Nat) (ws:List V) (m:Nat) (vs:List V) (W:St):Option (V × St):=
 bif Nat.ble (len ws) lstMax then (
  bif Nat.beq m G.mAppend then (onC vs fun v r=>onE r (some (.none,setAt W l (.list (ws++[v])))))
  else bif Nat.beq m G.mInsert then (onC vs fun u r=>onNat u fun n=>onC r fun v r=>onE r (bif Nat.ble n lstMax then some (.none,setAt W l (.list (ws.take n++v::ws.drop n))) else none))
  else bif Nat.beq m G.mPop then (onC vs fun u r=>onE r (onNat u fun n=>bif Nat.beq n 0 then (onC ws fun v r=>some (v,setAt W l (.list r))) else none))
  else bif Nat.beq m G.mReverse then (onE vs (some (.none,setAt W l (.list ws.reverse))))
  else none)
 else none
noncomputable def mSt (G:Sig) (a m:Nat) (vs:List V) (W:St):Option (V × St):=
 bif Nat.beq m G.mSub then ((G.pat a).bind fun code=>onC vs fun u r=>onC r fun w r=>onE r (onStr u fun repl=>onStr w fun text=>bif Nat.ble (len repl) 1000&&Nat.ble (len text) 1000 then (G.sub code repl text).bind fun t=>some (.str t,W) else none))
 else none
noncomputable def mInt (G:Sig) (i:Int) (m:Nat) (vs:List V) (W:St):Option (V × St):=
 bif Nat.beq m G.mBitLength then (onE vs (onNat (.int i) fun n=>some (.int (Int.ofNat (bitLen n)),W)))
 else none
noncomputable def meth (G:Sig) (o:V) (m:Nat) (vs:List V) (W:St):Option (V × St):=
 match o with
 | .str s=>mStr G s m vs W
 | .int i=>mInt G i m vs W
 | .ref l=>onL (nth W l) fun ws=>mLst G l ws m vs W
 | .st a=>mSt G a m vs W
 | ux=>none
noncomputable def eRepl (a b:List Nat) (o:V) (W:St):Option (V × St):=onStr o fun s=>bif Nat.ble (len s) strMax&&Nat.ble (len b) 14&&!beqL a b then some (.str (replS a b s),W) else none
noncomputable def isCallable (G:Sig):V→Bool
 | .meth (.st a) ux=>(G.fnd a).isSome
 | ux=>false
noncomputable def callB (G:Sig) (b:B) (vs:List V) (W:St):Option (V × St):=
 match b with
 | .len=>onC vs fun v r=>onE r (match v with
  | .ref l=>onL (nth W l) fun ws=>bif Nat.ble (len ws) lstMax then some (.int (Int.ofNat (len ws)),W) else none
  | .str s=>bif Nat.ble (len s) strMax then some (.int (Int.ofNat (len s)),W) else none
  | ux=>none)
 | .range=>onC vs fun a r=>onInt a fun a=>match r with
  | []=>bif smallI a then some (.range 0 a 1,W) else none
  | b::r=>onInt b fun b=>match r with
   | []=>bif smallI a&&smallI b then some (.range a b 1,W) else none
   | c::r=>onInt c fun c=>onE r (bif smallI a&&smallI b&&eqI c (-1) then some (.range a b c,W) else none)
 | .reversed=>onC vs fun v r=>onRef v fun l=>onE r (onL (nth W l) fun ws=>some (.ref (len W),W++[.vit l (len ws)]))
 | .sum=>onC vs fun v r=>onRef v fun l=>onE r (onL (nth W l) fun ws=>do let s ← sumInts ws;some (.int s,W))
 | .divmod=>onC vs fun a r=>onInt a fun a=>onC r fun b r=>onInt b fun b=>onE r (bif smallI a&&smallI b&&ltI 0 b then some (.tup [.int (Int.fdiv a b),.int (Int.fmod a b)],W) else none)
 | .iter=>onC vs fun f r=>onC r fun s r=>onStr s fun s=>onE r (match s with
  | []=>bif isCallable G f then some (.ref (len W),W++[.cit f]) else none
  | ux=>none)
noncomputable def retOf:Fl→Option V
 | .ret v=>some v
 | .next=>some .none
 | .cont=>none
noncomputable def b1 (o:Option (α × St)) (k:α→St→Option β):Option β:=match o with
 | some p=>k p.1 p.2
 | none=>none
noncomputable def b0 (o:Option α) (k:α→Option β):Option β:=match o with
 | some a=>k a
 | none=>none
noncomputable def eCmp (op:CmpOp) (a b:V) (W:St):Option (V × St):=b0 (cmpop op a b W) fun t=>some (.bool t,W)
noncomputable def eNeg (a:V) (W:St):Option (V × St):=onInt a fun i=>some (.int (-i),W)
noncomputable def eLst (vs:List V) (W:St):Option (V × St):=bif Nat.ble (len vs) lstMax then some (.ref (len W),W++[.list vs]) else none
noncomputable def eTup (vs:List V) (W:St):Option (V × St):=bif Nat.ble (len vs) lstMax then some (.tup vs,W) else none
noncomputable def eRep (vs:List V) (n:V) (W:St):Option (V × St):=onNat n fun n=>bif Nat.ble n 1000&&Nat.ble (len vs) 1000 then some (.ref (len W),W++[.list (repN n vs)]) else none
noncomputable def eOpt (r:Ops) (g:Ctx) (o:Option X) (W:St):Option (V × St):=match o with
 | none=>some (.none,W)
 | some e=>r.ev g e W
noncomputable def strM (G:Sig) (m:Nat):Bool:=Nat.beq m G.mJoin||Nat.beq m G.mSplit||Nat.beq m G.mCount
noncomputable def lstM (G:Sig) (m:Nat):Bool:=Nat.beq m G.mAppend||Nat.beq m G.mInsert||Nat.beq m G.mPop||Nat.beq m G.mReverse
noncomputable def findM (G:Sig) (o:V) (m:Nat) (W:St):Option (Option (V × List V)):=match o with
 | .inst c d=>bif Nat.beq c G.cls then onD (nth W d) fun ds=>(match lkp m ds with
   | some f=>bif isAtt G m then some (some (f,[])) else none
   | none=>(lkp m G.meths).bind fun f=>some (some (.st f,[o]))) else none
 | .str ux=>bif strM G m then some none else none
 | .int ux=>bif Nat.beq m G.mBitLength then some none else none
 | .ref l=>onL (nth W l) fun ux=>bif lstM G m then some none else none
 | .st a=>bif Nat.beq m G.mSub&&(G.pat a).isSome then some none else none
 | ux=>none
noncomputable def isCall (G:Sig):V→Bool
 | .bi ux=>true
 | .st a=>Nat.beq a G.cls||(G.fnd a).isSome
 | .clo ux uy uz=>true
 | ux=>false
noncomputable def eCall (G:Sig) (r:Ops) (f:V) (vs:List V) (W:St):Option (V × St):=bif isCall G f then r.call f vs W else none
noncomputable def eMcall (G:Sig) (r:Ops) (o:V) (m:Nat) (fo:Option (V × List V)) (vs:List V) (W:St):Option (V × St):=match fo with
 | some p=>eCall G r p.1 (p.2++vs) W
 | none=>meth G o m vs W
noncomputable def captured (g:Ctx):List Nat→Option (List (Nat × Nat))
 | []=>some []
 | n::t=>b0 (lkp n g.cells) fun l=>b0 (captured g t) fun u=>some ((n,l)::u)
noncomputable def noCells (l:List Nat):St:=l.map fun ux=>O.cell none
noncomputable def isNs:Option O→Bool
 | some (.ns ux)=>true
 | ux=>false
noncomputable def eComp (r:Ops) (g:Ctx) (elt:X) (cell:Bool) (x:Nat) (ifs:List X) (fr cl:List Nat) (v:V) (W:St):Option (V × St):=
 b1 (iterOf v W) fun i W=>
 b0 (captured g fr) fun fs=>
 b0 (r.cpl ⟨len W+1,mkCells (len W+2) cl++fs⟩ elt cell x i ifs (len W) (W++(.list []::.ns []::noCells cl))) fun W'=>
 bif isNs (nth W' (len W+1)) then some (.ref (len W),setAt W' (len W+1) .junk) else none
noncomputable def stepEv (G:Sig) (r:Ops) (g:Ctx) (x:X) (W:St):Option (V × St):=match x with
 | .c v=>some (v.v,W)
 | .loc x=>b0 (ldLoc g x W) fun v=>some (v,W)
 | .cel x=>b0 (ldCel g x W) fun v=>some (v,W)
 | .bin op a b=>b1 (r.ev g a W) fun a W=>b1 (r.ev g b W) fun b W=>binop op a b W
 | .rep es n=>b1 (r.evs g es W) fun vs W=>b1 (r.ev g n W) fun n W=>eRep vs n W
 | .neg a=>b1 (r.ev g a W) eNeg
 | .cmp op a b=>b1 (r.ev g a W) fun a W=>b1 (r.ev g b W) fun b W=>eCmp op a b W
 | .boo ux uy=>none
 | .ite t a b=>b1 (r.tst g t W) fun t W=>bif t then r.ev g a W else r.ev g b W
 | .lst es=>b1 (r.evs g es W) eLst
 | .tup es=>b1 (r.evs g es W) eTup
 | .sub a i=>b1 (r.ev g a W) fun a W=>b1 (r.ev g i W) fun i W=>b0 (getSub a i W) fun v=>some (v,W)
 | .slc a lo hi=>b1 (r.ev g a W) fun a W=>b1 (eOpt r g lo W) fun lo W=>b1 (eOpt r g hi W) fun hi W=>getSlc a lo hi W
 | .att a m=>b1 (r.ev g a W) fun a W=>b0 (getAtt G a m W) fun v=>some (v,W)
 | .call f es=>b1 (r.ev g f W) fun f W=>b1 (r.evs g es W) fun vs W=>eCall G r f vs W
 | .mcall o m es=>b1 (r.ev g o W) fun o W=>b0 (findM G o m W) fun fo=>b1 (r.evs g es W) fun vs W=>eMcall G r o m fo vs W
 | .repl o a b=>bif G.rep then b1 (r.ev g o W) fun o W=>eRepl a b o W else none
 | .comp elt cell x it ifs fr cl=>b1 (r.ev g it W) fun v W=>eComp r g elt cell x ifs fr cl v W
 | .bad=>none
noncomputable def isAnd:BoolOp→Bool
 | .And=>true
 | .Or=>false
noncomputable def eTru (v:V) (W:St):Option (Bool × St):=b0 (truthyV v W) fun t=>some (t,W)
noncomputable def stepTst (r:Ops) (g:Ctx) (x:X) (W:St):Option (Bool × St):=match x with
 | .bad=>none
 | .boo op es=>r.tsts g (isAnd op) es W
 | .cmp op a b=>b1 (r.ev g a W) fun a W=>b1 (r.ev g b W) fun b W=>b0 (cmpop op a b W) fun t=>some (t,W)
 | x=>b1 (r.ev g x W) eTru
noncomputable def stepTsts (r:Ops) (g:Ctx) (an:Bool) (es:List X) (W:St):Option (Bool × St):=match es with
 | []=>some (an,W)
 | e::es=>b1 (r.tst g e W) fun t W=>bif t then (bif an then r.tsts g an es W else some (true,W)) else (bif an then some (false,W) else r.tsts g an es W)
noncomputable def stepEvs (r:Ops) (g:Ctx) (es:List X) (W:St):Option (List V × St):=match es with
 | []=>some ([],W)
 | e::es=>b1 (r.ev g e W) fun v W=>b1 (r.evs g es W) fun vs W=>some (v::vs,W)
noncomputable def nx (o:Option St):Option (Fl × St):=b0 o fun W=>some (.next,W)
noncomputable def xAsgT (g:Ctx) (xs:List (Bool × Nat)) (v:V) (W:St):Option (Fl × St):=onTup v fun vs=>bif isNs (nth W g.lf) then nx (stNames g xs vs W) else none
noncomputable def plainV:V→Bool
 | .int ux=>true
 | .str ux=>true
 | ux=>false
noncomputable def xAug (g:Ctx) (c:Bool) (x:Nat) (op:Operator) (a b:V) (W:St):Option (Fl × St):=
 bif plainV a&&isAdd op then b1 (binop op a b W) fun v W=>nx (stName g c x v W) else none
noncomputable def xAugA (G:Sig) (o:V) (m:Nat) (op:Operator) (a b:V) (W:St):Option (Fl × St):=
 bif plainV a&&isAdd op then b1 (binop op a b W) fun v W=>nx (setAtt G o m v W) else none
noncomputable def stepEx (G:Sig) (r:Ops) (g:Ctx) (s:S) (W:St):Option (Fl × St):=match s with
 | .expr e=>b1 (r.ev g e W) fun v W=>bif isNone v then some (.next,W) else none
 | .ret e=>b1 (r.ev g e W) fun v W=>some (.ret v,W)
 | .retN=>some (.ret .none,W)
 | .asg c x e=>b1 (r.ev g e W) fun v W=>nx (stName g c x v W)
 | .asgT xs e=>b1 (r.ev g e W) fun v W=>xAsgT g xs v W
 | .asgA o m e=>b1 (r.ev g e W) fun v W=>b1 (r.ev g o W) fun o W=>nx (setAtt G o m v W)
 | .asgI o i e=>b1 (r.ev g e W) fun v W=>b1 (r.ev g o W) fun o W=>b1 (r.ev g i W) fun i W=>nx (setSub o i v W)
 | .aug c x op e=>b0 (ldName g c x W) fun a=>b1 (r.ev g e W) fun b W=>xAug g c x op a b W
 | .augA o m op e=>b1 (r.ev g o W) fun o W=>b0 (getAtt G o m W) fun a=>b1 (r.ev g e W) fun b W=>xAugA G o m op a b W
 | .whl t b=>r.whl g t b W
 | .fr c x it b=>b1 (r.ev g it W) fun v W=>b1 (iterOf v W) fun i W=>r.frs g c x i b W
 | .ifs t a b=>b1 (r.tst g t W) fun t W=>bif t then r.exs g a W else r.exs g b W
 | .cont=>some (.cont,W)
 | .fdef c x ps fr body=>b0 (captured g fr) fun fs=>nx (stName g c x (.clo ps body fs) W)
 | .bad=>none
noncomputable def xThen (f:Fl) (W:St) (k:Option (Fl × St)):Option (Fl × St):=match f with
 | .next=>k
 | f=>some (f,W)
noncomputable def xLoop (f:Fl) (W:St) (k:Option (Fl × St)):Option (Fl × St):=match f with
 | .ret v=>some (.ret v,W)
 | ux=>k
noncomputable def stepExs (r:Ops) (g:Ctx) (ss:List S) (W:St):Option (Fl × St):=match ss with
 | []=>some (.next,W)
 | s::ss=>b1 (r.ex g s W) fun f W=>xThen f W (r.exs g ss W)
noncomputable def stepWhl (r:Ops) (g:Ctx) (t:X) (b:List S) (W:St):Option (Fl × St):=
 b1 (r.tst g t W) fun c W=>bif c then b1 (r.exs g b W) fun f W=>xLoop f W (r.whl g t b W) else some (.next,W)
noncomputable def frsGo (r:Ops) (g:Ctx) (c:Bool) (x i:Nat) (b:List S) (o:Option V) (W:St):Option (Fl × St):=match o with
 | none=>some (.next,W)
 | some v=>b0 (stName g c x v W) fun W=>b1 (r.exs g b W) fun f W=>xLoop f W (r.frs g c x i b W)
noncomputable def stepFrs (r:Ops) (g:Ctx) (c:Bool) (x i:Nat) (b:List S) (W:St):Option (Fl × St):=
 bif isNs (nth W g.lf) then b1 (r.nxt i W) fun o W=>frsGo r g c x i b o W else none
noncomputable def cplPut (acc:Nat) (v:V) (W:St) (k:St→Option St):Option St:=onL (nth W acc) fun vs=>bif Nat.ble (len vs) lstMax then k (setAt W acc (.list (vs++[v]))) else none
noncomputable def cplGo (r:Ops) (g:Ctx) (elt:X) (c:Bool) (x i:Nat) (ifs:List X) (acc:Nat) (o:Option V) (W:St):Option St:=match o with
 | none=>some W
 | some v=>b0 (stName g c x v W) fun W=>b1 (r.tsts g true ifs W) fun t W=>
  bif t then b1 (r.ev g elt W) fun v W=>cplPut acc v W (r.cpl g elt c x i ifs acc) else r.cpl g elt c x i ifs acc W
noncomputable def stepCpl (r:Ops) (g:Ctx) (elt:X) (c:Bool) (x i:Nat) (ifs:List X) (acc:Nat) (W:St):Option St:=
 bif isNs (nth W g.lf) then b1 (r.nxt i W) fun o W=>cplGo r g elt c x i ifs acc o W else none
noncomputable def cRet (p:Fl) (W:St):Option (V × St):=b0 (retOf p) fun v=>some (v,W)
noncomputable def callFD (r:Ops) (fd:FD) (vs:List V) (W:St):Option (V × St):=
 b0 (zipB fd.ps vs fd.df) fun bs=>
 b0 (bindAll ⟨len W,mkCells (len W+1) fd.cells⟩ fd.cells (bs++fd.kw) (W++(.ns []::noCells fd.cells))) fun W'=>
 b1 (r.exs ⟨len W,mkCells (len W+1) fd.cells⟩ fd.body W') cRet
noncomputable def callClo (r:Ops) (ps:List Nat) (body:List S) (cl:List (Nat × Nat)) (vs:List V) (W:St):Option (V × St):=
 b0 (zipB ps vs []) fun bs=>
 b0 (bindAll ⟨len W,cl⟩ [] bs (W++[.ns []])) fun W'=>
 b1 (r.exs ⟨len W,cl⟩ body W') cRet
noncomputable def callCls (G:Sig) (r:Ops) (a:Nat) (vs:List V) (W:St):Option (V × St):=
 b1 (r.call (.st G.ini) (.inst a (len W)::vs) (W++[.dict []])) fun v W'=>bif isNone v then some (.inst a (len W),W') else none
noncomputable def callSt (G:Sig) (r:Ops) (a:Nat) (vs:List V) (W:St):Option (V × St):=
 bif Nat.beq a G.cls then callCls G r a vs W else b0 (G.fnd a) fun fd=>callFD r fd vs W
noncomputable def noB:V→Bool
 | .bi ux=>false
 | ux=>true
noncomputable def callV (G:Sig) (r:Ops) (f:V) (vs:List V) (W:St):Option (V × St):=match f with
 | .bi b=>callB G b vs W
 | .st a=>callSt G r a vs W
 | .clo ps body cl=>callClo r ps body cl vs W
 | .meth f self=>bif noB f then r.call f (self::vs) W else none
 | ux=>none
noncomputable def stepCall (G:Sig) (r:Ops) (f:V) (vs:List V) (W:St):Option (V × St):=match G.prim f vs W with
 | some y=>some y
 | none=>callV G r f vs W
noncomputable def nxLit (i l n:Nat) (W:St):Option (Option V × St):=onL (nth W l) fun vs=>match nth vs n with
  | some v=>some (some v,setAt W i (.lit l (n+1)))
  | none=>some (none,setAt W i .junk)
noncomputable def nxVit (i l n:Nat) (W:St):Option (Option V × St):=onL (nth W l) fun vs=>match n with
  | 0=>some (none,setAt W i .junk)
  | n+1=>(nth vs n).bind fun v=>some (some v,setAt W i (.vit l n))
noncomputable def nxSit (i:Nat) (s:List Nat) (n:Nat) (W:St):Option (Option V × St):=match nth s n with
 | some c=>some (some (.str [c]),setAt W i (.sit s (n+1)))
 | none=>some (none,setAt W i .junk)
noncomputable def nxRit (i:Nat) (a n c:Int) (W:St):Option (Option V × St):=
 bif leI n 0 then some (none,setAt W i .junk) else some (some (.int a),setAt W i (.rit (a+c) (n-1) c))
noncomputable def nxCit (G:Sig) (i:Nat) (v:V) (W:St):Option (Option V × St):=onCit (nth W i) fun f=>bif isCallable G f then (onStr v fun s=>match s with
   | []=>some (none,setAt W i .junk)
   | ux::uy=>some (some v,W)) else none
noncomputable def stepNxt (G:Sig) (r:Ops) (i:Nat) (W:St):Option (Option V × St):=match nth W i with
 | some (.lit l n)=>nxLit i l n W
 | some (.vit l n)=>nxVit i l n W
 | some (.sit s n)=>nxSit i s n W
 | some (.rit a n c)=>nxRit i a n c W
 | some (.cit f)=>bif isCallable G f then b1 (r.call f [] W) fun v W=>nxCit G i v W else none
 | ux=>none
noncomputable def step (G:Sig) (r:Ops):Ops where
 ev:=stepEv G r
 tst:=stepTst r
 tsts:=stepTsts r
 evs:=stepEvs r
 ex:=stepEx G r
 exs:=stepExs r
 whl:=stepWhl r
 frs:=stepFrs r
 cpl:=stepCpl r
 call:=stepCall G r
 nxt:=stepNxt G r
noncomputable def opsFail:Ops where
 ev _ _ _:=none
 tst _ _ _:=none
 tsts _ _ _ _:=none
 evs _ _ _:=none
 ex _ _ _:=none
 exs _ _ _:=none
 whl _ _ _ _:=none
 frs _ _ _ _ _ _:=none
 cpl _ _ _ _ _ _ _ _:=none
 call _ _ _:=none
 nxt _ _:=none
noncomputable def ops (G:Sig) (n:Nat):Ops:=Nat.rec opsFail (fun ux r=>step G r) n
theorem ops_succ (G:Sig) (n:Nat):ops G (n+1)=step G (ops G n):=rfl
theorem b1s {α β:Type _}{v:α}{W:St}{k:α→St→Option β}:b1 (some (v,W)) k=k v W:=rfl
theorem b0s {α β:Type _}{v:α}{k:α→Option β}:b0 (some v) k=k v:=rfl
theorem sb {α:Type _}{P:α→Prop}{a c:α}(e:some a=some c) (h:P c):P a:=by cases e;exact h
theorem sb2 {α β:Type _}{P:α→β→Prop}{a c:α}{b d:β}(e:some (a,b)=some (c,d)) (h:P c d):P a b:=by cases e;exact h
theorem Z0 {G:Sig}{r:Ops}{g:Ctx}{W:St}{v}:stepEv G r g (.c v) W=(some (v.v,W)):=rfl
theorem Z1 {G:Sig}{r:Ops}{g:Ctx}{W:St}{x}:stepEv G r g (.loc x) W=(b0 (ldLoc g x W) fun v=>some (v,W)):=rfl
theorem Z2 {G:Sig}{r:Ops}{g:Ctx}{W:St}{x}:stepEv G r g (.cel x) W=(b0 (ldCel g x W) fun v=>some (v,W)):=rfl
theorem Z3 {G:Sig}{r:Ops}{g:Ctx}{W:St}{op}{a}{b}:stepEv G r g (.bin op a b) W=(b1 (r.ev g a W) fun a W=>b1 (r.ev g b W) fun b W=>binop op a b W):=rfl
theorem Z4 {G:Sig}{r:Ops}{g:Ctx}{W:St}{es}{n}:stepEv G r g (.rep es n) W=(b1 (r.evs g es W) fun vs W=>b1 (r.ev g n W) fun n W=>eRep vs n W):=rfl
theorem Z5 {G:Sig}{r:Ops}{g:Ctx}{W:St}{a}:stepEv G r g (.neg a) W=(b1 (r.ev g a W) eNeg):=rfl
theorem Z6 {G:Sig}{r:Ops}{g:Ctx}{W:St}{op}{a}{b}:stepEv G r g (.cmp op a b) W=(b1 (r.ev g a W) fun a W=>b1 (r.ev g b W) fun b W=>eCmp op a b W):=rfl
theorem Z8 {G:Sig}{r:Ops}{g:Ctx}{W:St}{t}{a}{b}:stepEv G r g (.ite t a b) W=(b1 (r.tst g t W) fun t W=>bif t then r.ev g a W else r.ev g b W):=rfl
theorem Z9 {G:Sig}{r:Ops}{g:Ctx}{W:St}{es}:stepEv G r g (.lst es) W=(b1 (r.evs g es W) eLst):=rfl
theorem ZA {G:Sig}{r:Ops}{g:Ctx}{W:St}{es}:stepEv G r g (.tup es) W=(b1 (r.evs g es W) eTup):=rfl
theorem ZB {G:Sig}{r:Ops}{g:Ctx}{W:St}{a}{i}:stepEv G r g (.sub a i) W=(b1 (r.ev g a W) fun a W=>b1 (r.ev g i W) fun i W=>b0 (getSub a i W) fun v=>some (v,W)):=rfl
theorem ZC {G:Sig}{r:Ops}{g:Ctx}{W:St}{a}{lo}{hi}:stepEv G r g (.slc a lo hi) W=(b1 (r.ev g a W) fun a W=>b1 (eOpt r g lo W) fun lo W=>b1 (eOpt r g hi W) fun hi W=>getSlc a lo hi W):=rfl
theorem ZD {G:Sig}{r:Ops}{g:Ctx}{W:St}{a}{m}:stepEv G r g (.att a m) W=(b1 (r.ev g a W) fun a W=>b0 (getAtt G a m W) fun v=>some (v,W)):=rfl
theorem ZE {G:Sig}{r:Ops}{g:Ctx}{W:St}{f}{es}:stepEv G r g (.call f es) W=(b1 (r.ev g f W) fun f W=>b1 (r.evs g es W) fun vs W=>eCall G r f vs W):=rfl
theorem ZF {G:Sig}{r:Ops}{g:Ctx}{W:St}{o}{m}{es}:stepEv G r g (.mcall o m es) W=(b1 (r.ev g o W) fun o W=>b0 (findM G o m W) fun fo=>b1 (r.evs g es W) fun vs W=>eMcall G r o m fo vs W):=rfl
theorem ZI {G:Sig}{r:Ops}{g:Ctx}{W:St} :stepEv G r g .bad W=(none):=rfl
theorem ZM {r:Ops}{g:Ctx}{W:St}{c}{d}{e}:stepTst r g (.bin c d e) W=b1 (r.ev g (.bin c d e) W) eTru:=rfl
theorem ZP {r:Ops}{g:Ctx}{W:St}{c}{d}:stepTst r g (.att c d) W=b1 (r.ev g (.att c d) W) eTru:=rfl
theorem ZQ {r:Ops}{g:Ctx}{W:St}{c}{d}:stepTst r g (.call c d) W=b1 (r.ev g (.call c d) W) eTru:=rfl
theorem ZW {r:Ops}{g:Ctx}{W:St}{op a b}:stepTst r g (.cmp op a b) W=b1 (r.ev g a W) fun a W=>b1 (r.ev g b W) fun b W=>b0 (cmpop op a b W) fun t=>some (t,W):=rfl
theorem ZX {r:Ops}{g:Ctx}{an:Bool}{W:St} :stepTsts r g an ([]) W=(some (an,W)):=rfl
theorem ZY {r:Ops}{g:Ctx}{an:Bool}{W:St}{e}{es}:stepTsts r g an (e::es) W=(b1 (r.tst g e W) fun t W=>bif t then (bif an then r.tsts g an es W else some (true,W)) else (bif an then some (false,W) else r.tsts g an es W)):=rfl
theorem ZZ {r:Ops}{g:Ctx}{W:St} :stepEvs r g ([]) W=(some ([],W)):=rfl
theorem Za {r:Ops}{g:Ctx}{W:St}{e}{es}:stepEvs r g (e::es) W=(b1 (r.ev g e W) fun v W=>b1 (r.evs g es W) fun vs W=>some (v::vs,W)):=rfl
theorem Zb {G:Sig}{r:Ops}{g:Ctx}{W:St}{e}:stepEx G r g (.expr e) W=(b1 (r.ev g e W) fun v W=>bif isNone v then some (.next,W) else none):=rfl
theorem Zc {G:Sig}{r:Ops}{g:Ctx}{W:St}{e}:stepEx G r g (.ret e) W=(b1 (r.ev g e W) fun v W=>some (.ret v,W)):=rfl
theorem Ze {G:Sig}{r:Ops}{g:Ctx}{W:St}{c}{x}{e}:stepEx G r g (.asg c x e) W=(b1 (r.ev g e W) fun v W=>nx (stName g c x v W)):=rfl
theorem Zh {G:Sig}{r:Ops}{g:Ctx}{W:St}{o}{i}{e}:stepEx G r g (.asgI o i e) W=(b1 (r.ev g e W) fun v W=>b1 (r.ev g o W) fun o W=>b1 (r.ev g i W) fun i W=>nx (setSub o i v W)):=rfl
theorem Zi {G:Sig}{r:Ops}{g:Ctx}{W:St}{c}{x}{op}{e}:stepEx G r g (.aug c x op e) W=(b0 (ldName g c x W) fun a=>b1 (r.ev g e W) fun b W=>xAug g c x op a b W):=rfl
theorem Zj {G:Sig}{r:Ops}{g:Ctx}{W:St}{o}{m}{op}{e}:stepEx G r g (.augA o m op e) W=(b1 (r.ev g o W) fun o W=>b0 (getAtt G o m W) fun a=>b1 (r.ev g e W) fun b W=>xAugA G o m op a b W):=rfl
theorem Zl {G:Sig}{r:Ops}{g:Ctx}{W:St}{c}{x}{it}{b}:stepEx G r g (.fr c x it b) W=(b1 (r.ev g it W) fun v W=>b1 (iterOf v W) fun i W=>r.frs g c x i b W):=rfl
theorem Zm {G:Sig}{r:Ops}{g:Ctx}{W:St}{t}{a}{b}:stepEx G r g (.ifs t a b) W=(b1 (r.tst g t W) fun t W=>bif t then r.exs g a W else r.exs g b W):=rfl
theorem Zn {G:Sig}{r:Ops}{g:Ctx}{W:St} :stepEx G r g .cont W=(some (.cont,W)):=rfl
theorem Zq {r:Ops}{g:Ctx}{W:St} :stepExs r g ([]) W=(some (.next,W)):=rfl
theorem Zr {r:Ops}{g:Ctx}{W:St}{s}{ss}:stepExs r g (s::ss) W=(b1 (r.ex g s W) fun f W=>xThen f W (r.exs g ss W)):=rfl
theorem Zs {g:Ctx}{x:Nat}{W:St} :ldName g false x W=(ldLoc g x W):=rfl
theorem Zu {g:Ctx}{x:Nat}{v:V}{W:St} :stName g false x v W=(onNs (nth W g.lf) fun m=>some (setAt W g.lf (.ns (put x v m)))):=rfl
theorem Zx {α:Type _}{a:α}{l:List α}:nth (a::l) 0=some a:=rfl
theorem Zy {α:Type _}{a:α}{l:List α}{n:Nat}:nth (a::l) (n+1)=nth l n:=rfl
theorem Zz {α:Type _}{x:Nat}:lkp x ([]:List (Nat × α))=none:=rfl
theorem J0 {α:Type _}{x y:Nat}{v:α}{r:List (Nat × α)}:lkp x ((y,v)::r)=(bif Nat.beq x y then some v else lkp x r):=rfl
theorem J1 {α:Type _}{x:Nat}{v:α}:put x v []=[(x,v)]:=rfl
theorem J2 {α:Type _}{x y:Nat}{v w:α}{r:List (Nat × α)}:put x v ((y,w)::r)=(bif Nat.beq x y then (y,v)::r else (y,w)::put x v r):=rfl
theorem J4 {α:Type _}{a b:α}{l:List α}:setAt (a::l) 0 b=b::l:=rfl
theorem J5 {α:Type _}{a b:α}{l:List α}{n:Nat}:setAt (a::l) (n+1) b=a::setAt l n b:=rfl
theorem J6 {W:St}{k:Option (Fl × St)}:xThen .next W k=k:=rfl
theorem J7 {W:St}{k:Option (Fl × St)}:xThen .cont W k=some (.cont,W):=rfl
theorem J8 {W:St}{v:V}{k:Option (Fl × St)}:xThen (.ret v) W k=some (.ret v,W):=rfl
theorem J9 {W:St}{k:Option (Fl × St)}:xLoop .next W k=k:=rfl
theorem JB {W:St}{v:V}{k:Option (Fl × St)}:xLoop (.ret v) W k=some (.ret v,W):=rfl
theorem JE {m}:isNs (some (.ns m))=true:=rfl
theorem JF {β:Type _}{x}{k:_→Option β}:onNs (some (.ns x)) k=k x:=rfl
theorem JG {β:Type _}{x}{k:_→Option β}:onCell (some (.cell x)) k=k x:=rfl
theorem JH {β:Type _}{x}{k:_→Option β}:onL (some (.list x)) k=k x:=rfl
theorem JJ {β:Type _}{x}{k:_→Option β}:onInt (.int x) k=k x:=rfl
theorem JK {β:Type _}{x}{k:_→Option β}:onStr (.str x) k=k x:=rfl
theorem JL {β:Type _}{x}{k:_→Option β}:onRef (.ref x) k=k x:=rfl
theorem JM {β:Type _}{x}{k:_→Option β}:onSt (.st x) k=k x:=rfl
theorem JN {β:Type _}{x}{k:_→Option β}:onNat (.int (.ofNat x)) k=k x:=rfl
theorem JR {β:Type _}{x}{i:_→Option β}{s:_→Option β}{l:_→Option β}:onK (.int x) i s l=i x:=rfl
theorem JS {β:Type _}{x}{i:_→Option β}{s:_→Option β}{l:_→Option β}:onK (.str x) i s l=s x:=rfl
theorem JT {β:Type _}{x}{i:_→Option β}{s:_→Option β}{l:_→Option β}:onK (.ref x) i s l=l x:=rfl
theorem JU :isAdd .Add=true:=rfl
theorem JV :isIs .Eq=false:=rfl
theorem JW :isIn2 .Eq=false:=rfl
theorem JZ :isIs .Lt=false:=rfl
theorem Ja :isIn2 .Lt=false:=rfl
theorem Jh :isIs .Is=true:=rfl
theorem Ji :isIs .In=false:=rfl
theorem Jj :isIn2 .In=true:=rfl
theorem Jk {r:Option Bool}:eqNe .Eq r=r:=rfl
theorem Jm :isNone .none=true:=rfl
theorem Jy {a b:Int}:cmpI .Eq a b=some (eqI a b):=rfl
theorem Y1 {W:St}{b}:truthyV (.bool b) W=(some b):=rfl
theorem Y5 {x}:plainV (.int x)=true:=rfl
theorem Y6 {x}:plainV (.str x)=true:=rfl
theorem Y7 {G:Sig}{x}:isCall G (.bi x)=true:=rfl
theorem YA {r:Ops}{g:Ctx}{W:St}:eOpt r g none W=some (.none,W):=rfl
theorem YB {r:Ops}{g:Ctx}{e}{W:St}:eOpt r g (some e) W=r.ev g e W:=rfl
theorem YC {r:Ops}{g:Ctx}{c x i b}{W:St}:frsGo r g c x i b none W=some (.next,W):=rfl
theorem YD {r:Ops}{g:Ctx}{c x i b v}{W:St}:frsGo r g c x i b (some v) W=(b0 (stName g c x v W) fun W=>b1 (r.exs g b W) fun f W=>xLoop f W (r.frs g c x i b W)):=rfl
theorem YE {r:Ops}{g:Ctx}{elt c x i ifs acc}{W:St}:cplGo r g elt c x i ifs acc none W=some W:=rfl
theorem YF {r:Ops}{g:Ctx}{elt c x i ifs acc v}{W:St}:cplGo r g elt c x i ifs acc (some v) W=(b0 (stName g c x v W) fun W=>b1 (r.tsts g true ifs W) fun t W=>bif t then b1 (r.ev g elt W) fun v W=>cplPut acc v W (r.cpl g elt c x i ifs acc) else r.cpl g elt c x i ifs acc W):=rfl
theorem YG :Cn.v (.none)=(.none):=rfl
theorem YI {i}:Cn.v (.int i)=(.int i):=rfl
theorem YJ {s}:Cn.v (.str s)=(.str s):=rfl
theorem YK {b}:Cn.v (.bi b)=(.bi b):=rfl
theorem YL {a}:Cn.v (.st a)=(.st a):=rfl
theorem nn {α:Type _}{x:α}{P:Prop}(h:(none:Option α)=some x):P:=nomatch h
theorem ft {P:Prop}(h:false=true):P:=nomatch h
theorem oe {α:Type _}{a c:α}{P:α→Prop}(h:some a=some c) (k:P a):P c:=by cases h;exact k
theorem bt {α:Type _}{c:Bool}{x:Option α}{y:α}(h:(bif c then x else none)=some y):c=true:=by cases c;cases h;rfl
theorem bv {α:Type _}{c:Bool}{x:Option α}{y:α}(h:(bif c then x else none)=some y):x=some y:=by cases c;cases h;exact h
theorem nosome {α:Type _}{c:Bool}{x:α}{P:Prop}(h:(bif c then some none else none)=some (some x)):P:=by cases c<;>exact nomatch h
theorem pj {α β:Type _}{a c:α}{b d:β}(h:some (a,b)=some (c,d)):a=c∧b=d:=by injection h with h;injection h with h1 h2;exact ⟨h1,h2⟩
theorem ct {α:Type _}{c:Bool}{x y w:α}(z:c=true) (e:(bif c then x else y)=w):x=w:=by cases z;exact e
theorem cf {α:Type _}{c:Bool}{x y w:α}(z:c=false) (e:(bif c then x else y)=w):y=w:=by cases z;exact e
theorem bo {α β:Type _}{o:Option α}{f:α→Option β}{y:β}(h:o.bind f=some y):∃ a,o=some a∧f a=some y:=by cases o;cases h;exact ⟨_,rfl,h⟩
theorem b0i {α β:Type _}{o:Option α}{f:α→Option β}{y:β}(h:b0 o f=some y):∃ a,o=some a∧f a=some y:=by cases o;cases h;exact ⟨_,rfl,h⟩
theorem b1i {α β:Type _}{o:Option (α × St)}{f:α→St→Option β}{y:β}(h:b1 o f=some y):∃ a W,o=some (a,W)∧f a W=some y:=by cases o;cases h;exact ⟨_,_,rfl,h⟩
theorem onSt_i {β:Type _}{f:V}{k:Nat→Option β}{y:β}(h:onSt f k=some y):∃ a,f=.st a∧k a=some y:=by cases f<;>first | exact nn h | exact ⟨_,rfl,h⟩
theorem onRef_i {β:Type _}{f:V}{k:Nat→Option β}{y:β}(h:onRef f k=some y):∃ a,f=.ref a∧k a=some y:=by cases f<;>first | exact nn h | exact ⟨_,rfl,h⟩
theorem onStr_i {β:Type _}{f:V}{k:List Nat→Option β}{y:β}(h:onStr f k=some y):∃ a,f=.str a∧k a=some y:=by cases f<;>first | exact nn h | exact ⟨_,rfl,h⟩
theorem onNat_i {β:Type _}{f:V}{k:Nat→Option β}{y:β}(h:onNat f k=some y):∃ a,f=.int (.ofNat a)∧k a=some y:=by
 cases f with
 | int i=>cases i<;>first | exact nn h | exact ⟨_,rfl,h⟩
 | _=>exact nn h
theorem onInst_i {β:Type _}{f:V}{k:Nat→Nat→Option β}{y:β}(h:onInst f k=some y):∃ c d,f=.inst c d∧k c d=some y:=by cases f<;>first | exact nn h | exact ⟨_,_,rfl,h⟩
theorem onC_i {β:Type _}{vs:List V}{k:V→List V→Option β}{y:β}(h:onC vs k=some y):∃ a r,vs=a::r∧k a r=some y:=by cases vs<;>first | exact nn h | exact ⟨_,_,rfl,h⟩
theorem onE_i {β:Type _}{vs:List V}{k:Option β}{y:β}(h:onE vs k=some y):vs=[]∧k=some y:=by cases vs<;>first | exact nn h | exact ⟨rfl,h⟩
theorem onL_i {β:Type _}{o:Option O}{k:List V→Option β}{y:β}(h:onL o k=some y):∃ ws,o=some (.list ws)∧k ws=some y:=by
 cases o with
 | none=>exact nn h
 | some o=>cases o<;>first | exact nn h | exact ⟨_,rfl,h⟩
theorem al {a b:Bool}(h:(a&&b)=true):a=true:=(Bool.and_eq_true_iff.mp h).1
theorem ar {a b:Bool}(h:(a&&b)=true):b=true:=(Bool.and_eq_true_iff.mp h).2
theorem onD_i {β:Type _}{o:Option O}{k:List (Nat × V)→Option β}{y:β}(h:onD o k=some y):∃ ws,o=some (.dict ws)∧k ws=some y:=by
 cases o with
 | none=>exact nn h
 | some o=>cases o<;>first | exact nn h | exact ⟨_,rfl,h⟩
theorem onCit_i {β:Type _}{o:Option O}{k:V→Option β}{y:β}(h:onCit o k=some y):∃ ws,o=some (.cit ws)∧k ws=some y:=by
 cases o with
 | none=>exact nn h
 | some o=>cases o<;>first | exact nn h | exact ⟨_,rfl,h⟩
theorem onNs_i {β:Type _}{o:Option O}{k:List (Nat × V)→Option β}{y:β}(h:onNs o k=some y):∃ ws,o=some (.ns ws)∧k ws=some y:=by
 cases o with
 | none=>exact nn h
 | some o=>cases o<;>first | exact nn h | exact ⟨_,rfl,h⟩
theorem onCell_i {β:Type _}{o:Option O}{k:Option V→Option β}{y:β}(h:onCell o k=some y):∃ ws,o=some (.cell ws)∧k ws=some y:=by
 cases o with
 | none=>exact nn h
 | some o=>cases o<;>first | exact nn h | exact ⟨_,rfl,h⟩
theorem onTup_i {β:Type _}{f:V}{k:List V→Option β}{y:β}(h:onTup f k=some y):∃ a,f=.tup a∧k a=some y:=by cases f<;>first | exact nn h | exact ⟨_,rfl,h⟩
theorem onK_i {β:Type _}{P:V→Prop}{v:V}{i:Int→Option β}{s:List Nat→Option β}{l:Nat→Option β}{y:β}(h:onK v i s l=some y) (h1:∀ a,i a=some y→P (.int a)) (h2:∀ a,s a=some y→P (.str a)) (h3:∀ a,l a=some y→P (.ref a)):P v:=by
 cases v<;>first | exact nn h | exact h1 _ h | exact h2 _ h | exact h3 _ h
theorem isAdd_i {op:Operator}(h:isAdd op=true):op=.Add:=by cases op<;>first | rfl | exact ft h
theorem isIs_i {op:CmpOp}(h:isIs op=true):op=.Is:=by cases op<;>first | rfl | exact ft h
theorem isIn2_i {op:CmpOp}(h:isIn2 op=true):op=.In:=by cases op<;>first | rfl | exact ft h
theorem isNone_i {v:V}(h:isNone v=true):v=.none:=by cases v<;>first | rfl | exact ft h
theorem eqNe_i {P:CmpOp→Bool→Prop}{op:CmpOp}{r:Option Bool}{t:Bool}(e:eqNe op r=some t) (h1:r=some t→P .Eq t) (h2:∀ u,r=some u→P .NotEq (!u)):P op t:=by
 cases op
 case Eq=>exact h1 e
 case NotEq=>replace e:=bo e;obtain ⟨u,h,e⟩:=e;cases e;exact h2 u h
 all_goals exact nn e
theorem onInt_i {β:Type _}{f:V}{k:Int→Option β}{y:β}(h:onInt f k=some y):∃ a,f=.int a∧k a=some y:=by cases f<;>first | exact nn h | exact ⟨_,rfl,h⟩
theorem st_inj {a c:Nat}(h:V.st a=V.st c):a=c:=by injection h
section
variable {α β:Type _}{y:β}{C:Prop}
theorem Bo {o:Option α}{f:α→Option β}(k:∀ a,o=some a→f a=some y→C) (h:o.bind f=some y):C:=(bo h).elim fun a h=>k a h.1 h.2
theorem B0 {o:Option α}{f:α→Option β}(k:∀ a,o=some a→f a=some y→C) (h:b0 o f=some y):C:=(b0i h).elim fun a h=>k a h.1 h.2
theorem B1 {o:Option (α × St)}{f:α→St→Option β}(k:∀ a W,o=some (a,W)→f a W=some y→C) (h:b1 o f=some y):C:=(b1i h).elim fun a h=>h.elim fun W h=>k a W h.1 h.2
theorem Bt {c:Bool}{x:Option β}(k:c=true→x=some y→C) (h:(bif c then x else none)=some y):C:=k (bt h) (bv h)
theorem OSt {f:V}{k:Nat→Option β}(q:∀ a,f=.st a→k a=some y→C) (h:onSt f k=some y):C:=(onSt_i h).elim fun a h=>q a h.1 h.2
theorem ORef {f:V}{k:Nat→Option β}(q:∀ a,f=.ref a→k a=some y→C) (h:onRef f k=some y):C:=(onRef_i h).elim fun a h=>q a h.1 h.2
theorem OStr {f:V}{k:List Nat→Option β}(q:∀ a,f=.str a→k a=some y→C) (h:onStr f k=some y):C:=(onStr_i h).elim fun a h=>q a h.1 h.2
theorem OInt {f:V}{k:Int→Option β}(q:∀ a,f=.int a→k a=some y→C) (h:onInt f k=some y):C:=(onInt_i h).elim fun a h=>q a h.1 h.2
theorem OTup {f:V}{k:List V→Option β}(q:∀ a,f=.tup a→k a=some y→C) (h:onTup f k=some y):C:=(onTup_i h).elim fun a h=>q a h.1 h.2
theorem ONat {f:V}{k:Nat→Option β}(q:∀ a,f=.int (.ofNat a)→k a=some y→C) (h:onNat f k=some y):C:=(onNat_i h).elim fun a h=>q a h.1 h.2
theorem OInst {f:V}{k:Nat→Nat→Option β}(q:∀ c d,f=.inst c d→k c d=some y→C) (h:onInst f k=some y):C:=(onInst_i h).elim fun a h=>h.elim fun b h=>q a b h.1 h.2
theorem OC {vs:List V}{k:V→List V→Option β}(q:∀ a r,vs=a::r→k a r=some y→C) (h:onC vs k=some y):C:=(onC_i h).elim fun a h=>h.elim fun b h=>q a b h.1 h.2
theorem OE {vs:List V}{k:Option β}(q:vs=[]→k=some y→C) (h:onE vs k=some y):C:=q (onE_i h).1 (onE_i h).2
theorem OL {o:Option O}{k:List V→Option β}(q:∀ ws,o=some (.list ws)→k ws=some y→C) (h:onL o k=some y):C:=(onL_i h).elim fun a h=>q a h.1 h.2
theorem OD {o:Option O}{k:List (Nat × V)→Option β}(q:∀ ws,o=some (.dict ws)→k ws=some y→C) (h:onD o k=some y):C:=(onD_i h).elim fun a h=>q a h.1 h.2
theorem OCit {o:Option O}{k:V→Option β}(q:∀ ws,o=some (.cit ws)→k ws=some y→C) (h:onCit o k=some y):C:=(onCit_i h).elim fun a h=>q a h.1 h.2
theorem ONs {o:Option O}{k:List (Nat × V)→Option β}(q:∀ ws,o=some (.ns ws)→k ws=some y→C) (h:onNs o k=some y):C:=(onNs_i h).elim fun a h=>q a h.1 h.2
theorem OCell {o:Option O}{k:Option V→Option β}(q:∀ ws,o=some (.cell ws)→k ws=some y→C) (h:onCell o k=some y):C:=(onCell_i h).elim fun a h=>q a h.1 h.2
end
section
variable {C:Prop}
theorem Q02 {P0 P1:Prop}(h:P0∧P1) (q:P0→P1→C):C:=q h.1 h.2
theorem Q03 {P0 P1 P2:Prop}(h:P0∧P1∧P2) (q:P0→P1→P2→C):C:=q h.1 h.2.1 h.2.2
theorem Q05 {P0 P1 P2 P3 P4:Prop}(h:P0∧P1∧P2∧P3∧P4) (q:P0→P1→P2→P3→P4→C):C:=q h.1 h.2.1 h.2.2.1 h.2.2.2.1 h.2.2.2.2
theorem Q06 {P0 P1 P2 P3 P4 P5:Prop}(h:P0∧P1∧P2∧P3∧P4∧P5) (q:P0→P1→P2→P3→P4→P5→C):C:=q h.1 h.2.1 h.2.2.1 h.2.2.2.1 h.2.2.2.2.1 h.2.2.2.2.2
theorem Q11 {α:Sort _}{P0:α→Prop}(h:∃ x,P0 x) (q:∀ x,P0 x→C):C:=h.elim fun x h=>q x h
theorem Q12 {α:Sort _}{P0 P1:α→Prop}(h:∃ x,P0 x∧P1 x) (q:∀ x,P0 x→P1 x→C):C:=h.elim fun x h=>q x h.1 h.2
theorem Q13 {α:Sort _}{P0 P1 P2:α→Prop}(h:∃ x,P0 x∧P1 x∧P2 x) (q:∀ x,P0 x→P1 x→P2 x→C):C:=h.elim fun x h=>q x h.1 h.2.1 h.2.2
theorem Q22 {α:Sort _}{β:Sort _}{P0 P1:α→β→Prop}(h:∃ x y,P0 x y∧P1 x y) (q:∀ x y,P0 x y→P1 x y→C):C:=h.elim fun x h=>h.elim fun y h=>q x y h.1 h.2
theorem Q23 {α:Sort _}{β:Sort _}{P0 P1 P2:α→β→Prop}(h:∃ x y,P0 x y∧P1 x y∧P2 x y) (q:∀ x y,P0 x y→P1 x y→P2 x y→C):C:=h.elim fun x h=>h.elim fun y h=>q x y h.1 h.2.1 h.2.2
theorem Q24 {α:Sort _}{β:Sort _}{P0 P1 P2 P3:α→β→Prop}(h:∃ x y,P0 x y∧P1 x y∧P2 x y∧P3 x y) (q:∀ x y,P0 x y→P1 x y→P2 x y→P3 x y→C):C:=h.elim fun x h=>h.elim fun y h=>q x y h.1 h.2.1 h.2.2.1 h.2.2.2
theorem Q25 {α:Sort _}{β:Sort _}{P0 P1 P2 P3 P4:α→β→Prop}(h:∃ x y,P0 x y∧P1 x y∧P2 x y∧P3 x y∧P4 x y) (q:∀ x y,P0 x y→P1 x y→P2 x y→P3 x y→P4 x y→C):C:=h.elim fun x h=>h.elim fun y h=>q x y h.1 h.2.1 h.2.2.1 h.2.2.2.1 h.2.2.2.2
theorem Q31 {α:Sort _}{β:Sort _}{γ:Sort _}{P0:α→β→γ→Prop}(h:∃ x y z,P0 x y z) (q:∀ x y z,P0 x y z→C):C:=h.elim fun x h=>h.elim fun y h=>h.elim fun z h=>q x y z h
theorem Q32 {α:Sort _}{β:Sort _}{γ:Sort _}{P0 P1:α→β→γ→Prop}(h:∃ x y z,P0 x y z∧P1 x y z) (q:∀ x y z,P0 x y z→P1 x y z→C):C:=h.elim fun x h=>h.elim fun y h=>h.elim fun z h=>q x y z h.1 h.2
theorem Q33 {α:Sort _}{β:Sort _}{γ:Sort _}{P0 P1 P2:α→β→γ→Prop}(h:∃ x y z,P0 x y z∧P1 x y z∧P2 x y z) (q:∀ x y z,P0 x y z→P1 x y z→P2 x y z→C):C:=h.elim fun x h=>h.elim fun y h=>h.elim fun z h=>q x y z h.1 h.2.1 h.2.2
theorem Q41 {α:Sort _}{β:Sort _}{γ:Sort _}{δ:Sort _}{P0:α→β→γ→δ→Prop}(h:∃ x y z w,P0 x y z w) (q:∀ x y z w,P0 x y z w→C):C:=h.elim fun x h=>h.elim fun y h=>h.elim fun z h=>h.elim fun w h=>q x y z w h
theorem Q43 {α:Sort _}{β:Sort _}{γ:Sort _}{δ:Sort _}{P0 P1 P2:α→β→γ→δ→Prop}(h:∃ x y z w,P0 x y z w∧P1 x y z w∧P2 x y z w) (q:∀ x y z w,P0 x y z w→P1 x y z w→P2 x y z w→C):C:=h.elim fun x h=>h.elim fun y h=>h.elim fun z h=>h.elim fun w h=>q x y z w h.1 h.2.1 h.2.2
end
theorem lt3 {P:Nat→Prop}(a:P 0) (b:P 1) (c:P 2):∀ e,e<3→P e
 | 0,ux=>a
 | 1,ux=>b
 | 2,ux=>c
 | e+3,h=>absurd h (Nat.not_lt_of_le (Nat.le_add_left 3 e))
theorem lt6 {P:Nat→Prop}(a:P 0) (b:P 1) (c:P 2) (d:P 3) (e:P 4) (f:P 5):∀ r,r<6→P r
 | 0,ux=>a
 | 1,ux=>b
 | 2,ux=>c
 | 3,ux=>d
 | 4,ux=>e
 | 5,ux=>f
 | r+6,h=>absurd h (Nat.not_lt_of_le (Nat.le_add_left 6 r))
structure CE where
 tab:List Str
 glob:List (Str × Cn)
noncomputable def idx (n:Str):List Str→Option Nat
 | []=>none
 | m::r=>if n=m then some 0 else (idx n r).map (·+1)
theorem KL {n:Str}{m}{r}:idx n (m::r)=(if n=m then some 0 else (idx n r).map (·+1)):=rfl
noncomputable def look (n:Str):List (Str × α)→Option α
 | []=>none
 |(m,v)::r=>if n=m then some v else look n r
theorem KN {α:Type _}{n:Str}{m}{v:α}{r}:look n ((m,v)::r)=(if n=m then some v else look n r):=rfl
inductive Nk where
 | loc (x:Nat) | cel (x:Nat) | glo (c:Cn) | bad
noncomputable def nameOf (ce:CE) (sc:Scope) (n:Str):Nk:=
 match idx n ce.tab with
 | none=>.bad
 | some i=>match sc.names.lookup n with
  | some .local=>.loc i
  | some .cell=>.cel i
  | some .free=>.cel i
  | some .globalImplicit=>match look n ce.glob with
   | some c=>.glo c
   | none=>.bad
  | ux=>.bad
noncomputable def namesBy (ce:CE) (k:NameKind):List (Str × NameKind)→Option (List Nat)
 | []=>some []
 |(n,q)::r=>do
  let t ← namesBy ce k r
  if q=k then (do let i ← idx n ce.tab;some (i::t)) else some t
theorem nkne {a b:NameKind}(h:a≠b):(a==b)=false:=beq_eq_false_iff_ne.mpr h
theorem namesBy_ind {ce:CE}{kd:NameKind}{P:List (Str × NameKind)→List Nat→Prop}(h0:P [] []) (h1:∀ nm j r t,idx nm ce.tab=some j→namesBy ce kd r=some t→P r t→P ((nm,kd)::r) (j::t)) (h2:∀ nm k r t,k≠kd→P r t→P ((nm,k)::r) t) {l:List (Str × NameKind)}:∀ {cs:List Nat},namesBy ce kd l=some cs→P l cs:=by
 induction l with
 | nil=>intro cs h;obtain rfl:=sI h;exact h0
 | cons p r ih=>
  intro cs h;obtain ⟨nm,k⟩:=p;revert h;refine Bo ?_;intro t q h;by_cases z:k=kd
  ·rw[if_pos z] at h;revert h;refine Bo ?_;intro j y h;obtain rfl:=sI h;rw[z];exact h1 nm j r t y q (ih q)
  ·rw[if_neg z] at h;obtain rfl:=sI h;exact h2 nm k r _ z (ih q)
noncomputable def constOf:Const→Option Cn
 | .none=>some .none
 | .bool b=>some (.bool b)
 | .int i=>some (.int i)
 | .str s=>some (.str s.cps.toList)
 | ux=>none
noncomputable def opOk:CmpOp→Bool
 | .Lt | .Gt | .LtE | .GtE | .Eq | .NotEq | .Is | .In=>true
 | ux=>false
noncomputable def plainArgs (a:Arguments):Bool:=a.posonlyargs.isEmpty&&a.vararg.isNone&&a.kwonlyargs.isEmpty&&a.kw_defaults.isEmpty&&a.kwarg.isNone&&a.defaults.isEmpty&&a.args.all (·.annotation.isNone)
theorem plain_i {a:Arguments}(h:plainArgs a=true):a=⟨[],a.args,none,[],[],none,[]⟩∧a.args.all (·.annotation.isNone)=true:=by
 refine ⟨?_,ar h⟩;obtain ⟨a1,a2,a3,a4,a5,a6,a7⟩:=a;replace h:=al h;have h7:a7=[]:=List.isEmpty_iff.mp (ar h);replace h:=al h;have h6:a6=none:=Option.isNone_iff_eq_none.mp (ar h);replace h:=al h;have h5:a5=[]:=List.isEmpty_iff.mp (ar h);replace h:=al h;have h4:a4=[]:=List.isEmpty_iff.mp (ar h);replace h:=al h;have h3:a3=none:=Option.isNone_iff_eq_none.mp (ar h);have h1:a1=[]:=List.isEmpty_iff.mp (al h);rw[h1,h3,h4,h5,h6,h7]
noncomputable def tame:Expr→Bool
 | .Set .. | .Tuple .. | .Starred ..=>false
 | ux=>true
structure CO where
 e:Scope→Expr→X
 es:Scope→List Expr→List X
 oe:Scope→Option Expr→Option X
 t:Scope→Expr→X
 ts:Scope→List Expr→List X
 s:Scope→Stmt→S
 ss:Scope→List Stmt→List S
noncomputable def tgt (ce:CE) (sc:Scope):Expr→Option (Bool × Nat)
 | .Name n ux=>match nameOf ce sc n with
  | .loc i=>some (false,i)
  | .cel i=>match sc.names.lookup n with
   | some .cell=>some (true,i)
   | ux=>none
  | ux=>none
 | ux=>none
noncomputable def tgts (ce:CE) (sc:Scope):List Expr→Option (List (Bool × Nat))
 | []=>some []
 | e::r=>do let a ← tgt ce sc e;let t ← tgts ce sc r;some (a::t)
noncomputable def nodupB:List Nat→Bool
 | []=>true
 | x::r=>!r.any (Nat.beq x)&&nodupB r
noncomputable def noInner:List (Str × NameKind)→Bool
 | []=>true
 |(n,k)::r=>(!(n=Str.ofString "inner"||n=Str.ofString "take")||(k != .local&&k != .cell))&&noInner r
noncomputable def capOk (sc:Scope):List (Str × NameKind)→Bool
 | []=>true
 |(n,k)::r=>(k != .free||(decide (sc.names.lookup n=some .cell)||decide (sc.names.lookup n=some .free)))&&capOk sc r
noncomputable def locOk (names:List (Str × NameKind)):Bool:=names.all fun p=>p.2 != .local||names.lookup p.1==some .local
noncomputable def compScopeOk (sc:Scope):Bool:=match sc.kind with
 | .function=>true
 | ux=>false
theorem scopeFn {sc:Scope}(h:compScopeOk sc=true):sc.kind=.function:=by
 cases q:sc.kind<;>first | rfl | exact ft (by unfold compScopeOk at h;rw[q] at h;exact h)
noncomputable def fewIfs:List Expr→Bool
 | []=>true
 | [ux]=>true
 | ux=>false
noncomputable def noStar:List Expr→Bool
 | []=>true
 | .Starred ux uy::uz=>false
 | ux::r=>noStar r
noncomputable def okBase:Expr→Bool
 | .Call (.Name ux uy) [] [] uz=>false
 | ux=>true
noncomputable def mOk (o:Expr) (es:List Expr) (q p:Pos):Bool:=okBase o&&Nat.blt es.length 30&&q.endLine==p.line
noncomputable def strLit (x:Expr):Option (List Nat):=match x with
 | .Constant c ux uy=>match c with
  | .str a=>some a.cps.toList
  | ux=>none
 | ux=>none
noncomputable def twoTexts (m:Str) (es:List Expr):Option (List Nat × List Nat):=match es with
 | [x,y]=>if m=Str.ofString "replace" then b0 (strLit x) fun a=>b0 (strLit y) fun b=>some (a,b) else none
 | ux=>none
noncomputable def isSl:Expr→Bool
 | .Slice ..=>true
 | ux=>false
noncomputable def isCallE:Expr→Bool
 | .Call ..=>true
 | ux=>false
noncomputable def isTest:X→Bool
 | .cmp ux uy uz=>true
 | .boo ux uy=>true
 | ux=>false
noncomputable def notT (x:X):X:=bif isTest x then .bad else x
noncomputable def orX (o:Option X):X:=match o with
 | some x=>x
 | none=>.bad
noncomputable def onA (f:Expr) (k:Expr→Str→Pos→X) (d:X):X:=match f with
 | .Attribute o m q=>k o m q
 | ux=>d
noncomputable def nameE:Expr→Option (Str × Pos)
 | .Name n q=>some (n,q)
 | ux=>none
noncomputable def gen1 (l:List Comprehension):Option (Str × Pos × Expr × List Expr):=match l with
 | g::t=>bif t.isEmpty&&decide (g.is_async=0) then (nameE g.target).map fun p=>(p.1,p.2,g.iter,g.ifs) else none
 | []=>none
theorem nameE_i {t:Expr}{y:Str × Pos}(h:nameE t=some y):t=.Name y.1 y.2:=by
 cases t
 case Name=>cases h;rfl
 all_goals exact nn h
theorem gen1_i {l:List Comprehension}{y:Str × Pos × Expr × List Expr}{P:List Comprehension→Prop}(h:gen1 l=some y) (k:P [⟨.Name y.1 y.2.1,y.2.2.1,y.2.2.2,0⟩]):P l:=by
 cases l with
 | nil=>exact nn h
 | cons g t=>
  revert h;refine Bt ?_;intro z h;obtain ⟨t1,i,f,a⟩:=g;have h1:t=[]:=List.isEmpty_iff.mp (al z);have h2:a=0:=of_decide_eq_true (ar z);have h:(nameE t1).bind (fun p=>some (p.1,p.2,i,f))=some y:=Option.map_eq_bind ▸ h;revert h;refine Bo ?_;intro p h3 h;have h4:=nameE_i h3;obtain rfl:=sI h;rw[h1,h2,h4];exact k
noncomputable def on5 (t:Expr) (n:Str→Pos→S) (u:List Expr→Nat→Pos→S) (a:Expr→Str→Pos→S) (s:Expr→Expr→Pos→S) (c:Expr→List Expr→List Keyword→Pos→S):S:=match t with
 | .Name x q=>n x q
 | .Tuple x k q=>u x k q
 | .Attribute x m q=>a x m q
 | .Subscript x y q=>s x y q
 | .Call x y z q=>c x y z q
 | ux=>.bad
noncomputable def bad2 {α β:Type}(x:α) (y:β):S:=.bad
noncomputable def bad3 {α β γ:Type}(x:α) (y:β) (z:γ):S:=.bad
noncomputable def bad4 {α β γ δ:Type}(x:α) (y:β) (z:γ) (w:δ):S:=.bad
noncomputable def orB (o:Option S):S:=match o with
 | some s=>s
 | none=>.bad
noncomputable def fdOk (n:Str) (a:Arguments) (ds:List Expr) (rt:Option Expr) (tp:List TypeParam) (sc sc':Scope) (tc:Option Scope) (n':Str):Bool:=ds.isEmpty&&(rt.isNone&&(tp.isEmpty&&(tc.isNone&&(decide (n=n')&&((decide (n=Str.ofString "inner")||decide (n=Str.ofString "take"))&&(plainArgs a&&(compScopeOk sc'&&(noInner sc'.names&&(capOk sc sc'.names&&(!sc'.isGenerator&&!sc'.isCoroutine))))))))))
theorem ntt {b:Bool}(h:(!b)=true):b=false:=by
 cases b
 ·rfl
 ·exact ft h
theorem fd_i {n:Str}{a:Arguments}{ds:List Expr}{rt:Option Expr}{tp:List TypeParam}{sc sc':Scope}{tc:Option Scope}{n':Str}{P:List Expr→Option Expr→List TypeParam→Option Scope→Str→Prop}(h:fdOk n a ds rt tp sc sc' tc n'=true)
  (k:(n=Str.ofString "inner"∨n=Str.ofString "take")→plainArgs a=true→sc'.kind=.function→noInner sc'.names=true→capOk sc sc'.names=true→sc'.isGenerator=false→sc'.isCoroutine=false→P [] none [] none n):P ds rt tp tc n':=by
 have h1:=List.isEmpty_iff.mp (al h);replace h:=ar h;have h2:=Option.isNone_iff_eq_none.mp (al h);replace h:=ar h;have h3:=List.isEmpty_iff.mp (al h);replace h:=ar h;have h4:=Option.isNone_iff_eq_none.mp (al h);replace h:=ar h;have h5:=of_decide_eq_true (al h);replace h:=ar h;have h6:=Bool.or_eq_true_iff.mp (al h);replace h:=ar h;have h7:=al h;replace h:=ar h;have h8:=al h;replace h:=ar h;have h9:=al h;replace h:=ar h;rw[h1,h2,h3,h4,← h5];exact k (h6.imp of_decide_eq_true of_decide_eq_true) h7 (scopeFn h8) h9 (al h) (ntt (al (ar h))) (ntt (ar (ar h)))
noncomputable def cmpStep (ce:CE) (r:CO):CO where
 e sc x:=match x with
  | .Constant c ux uy=>match constOf c with
   | some v=>.c v
   | none=>.bad
  | .Name n ux=>if n="__debug__" then .bad else match nameOf ce sc n with
   | .loc i=>.loc i
   | .cel i=>.cel i
   | .glo c=>.c c
   | .bad=>.bad
  | .BinOp (.List es ux) .Mult b uy=>.rep (r.es sc es) (r.e sc b)
  | .BinOp a op b ux=>.bin op (r.e sc a) (r.e sc b)
  | .UnaryOp .USub a ux=>.neg (r.e sc a)
  | .Compare a [op] [b] ux=>if opOk op&&tame b then .cmp op (r.e sc a) (r.e sc b) else .bad
  | .IfExp t a b ux=>.ite (r.t sc t) (r.e sc a) (r.e sc b)
  | .List es ux=>.lst (r.es sc es)
  | .Tuple es ux uy=>.tup (r.es sc es)
  | .Subscript a (.Slice lo hi none ux) uy=>.slc (r.e sc a) (r.oe sc lo) (r.oe sc hi)
  | .Subscript a i ux=>if tame i then .sub (r.e sc a) (r.e sc i) else .bad
  | .Attribute a m ux=>match a with
   | .Name ux uy=>(match idx m ce.tab with
    | some i=>.att (r.e sc a) i
    | none=>.bad)
   | ux=>.bad
  | .Call f es ks p=>bif ks.isEmpty&&noStar es then onA f (fun o m q=>bif mOk o es q p then (match twoTexts m es with
   | some ab=>.repl (r.e sc o) ab.1 ab.2
   | none=>orX ((idx m ce.tab).bind fun i=>some (.mcall (r.e sc o) i (r.es sc es)))) else .bad) (.call (r.e sc f) (r.es sc es)) else .bad
  | .ListComp elt gens sc' uy=>orX (bif compScopeOk sc'&&(capOk sc sc'.names&&(noInner sc'.names&&locOk sc'.names)) then (gen1 gens).bind fun q=>bif tame q.2.2.1&&fewIfs q.2.2.2 then (tgt ce sc' (.Name q.1 q.2.1)).bind fun ci=>(namesBy ce .free sc'.names).bind fun fr=>(namesBy ce .cell sc'.names).bind fun cl=>bif nodupB cl then some (.comp (r.e sc' elt) ci.1 ci.2 (r.e sc q.2.2.1) (r.ts sc' q.2.2.2) fr cl) else none else none else none)
  | ux=>.bad
 es sc l:=match l with
  | []=>[]
  | .Starred ux uy::uz=>[.bad]
  | e::t=>r.e sc e::r.es sc t
 oe sc o:=match o with
  | none=>none
  | some e=>some (r.e sc e)
 t sc x:=match x with
  | .BoolOp op es ux=>.boo op (r.ts sc es)
  | .Compare a [op] [b] ux=>if opOk op&&tame b then .cmp op (r.e sc a) (r.e sc b) else .bad
  | .UnaryOp .Not ux uy=>.bad
  | .IfExp ..=>.bad
  | .Compare ..=>.bad
  | e=>notT (r.e sc e)
 ts sc l:=match l with
  | []=>[]
  | e::t=>r.t sc e::r.ts sc t
 s sc x:=match x with
  | .Expr e ux=>on5 e bad2 bad3 bad3 bad3 fun f es ks p=>.expr (r.e sc (.Call f es ks p))
  | .Return o ux=>match o with
   | some e=>.ret (r.e sc e)
   | none=>.retN
  | .Assign ts e ux=>match ts with
   | t::l=>match l with
    | []=>on5 t (fun n p=>orB ((tgt ce sc (.Name n p)).bind fun ci=>some (.asg ci.1 ci.2 (r.e sc e))))
     (fun ts uy uz=>if isCallE e then orB ((tgts ce sc ts).bind fun l=>some (.asgT l (r.e sc e))) else .bad)
     (fun o m uy=>orB ((idx m ce.tab).bind fun i=>some (.asgA (r.e sc o) i (r.e sc e))))
     (fun o i uy=>if tame i&&!isSl i then .asgI (r.e sc o) (r.e sc i) (r.e sc e) else .bad) bad4
    | uy::uz=>.bad
   | []=>.bad
  | .AugAssign t op e ux=>on5 t (fun n p=>orB ((tgt ce sc (.Name n p)).bind fun ci=>some (.aug ci.1 ci.2 op (r.e sc e)))) bad3
    (fun o m uy=>orB ((idx m ce.tab).bind fun i=>some (.augA (r.e sc o) i op (r.e sc e)))) bad3 bad4
  | .While t b el ux=>match el with
   | []=>.whl (r.t sc t) (r.ss sc b)
   | uy::uz=>.bad
  | .For t it b el ux=>match el with
   | []=>on5 t (fun n p=>if tame it then orB ((tgt ce sc (.Name n p)).bind fun ci=>some (.fr ci.1 ci.2 (r.e sc it) (r.ss sc b))) else .bad) bad3 bad3 bad3 bad4
   | uy::uz=>.bad
  | .If t a b ux=>.ifs (r.t sc t) (r.ss sc a) (r.ss sc b)
  | .Continue ux=>.cont
  | .FunctionDef n a b ds rt tp sc' tc n' p=>orB (bif fdOk n a ds rt tp sc sc' tc n' then (tgt ce sc (.Name n p)).bind fun ci=>(tgts ce sc' (a.args.map fun x=>.Name x.arg p)).bind fun ps=>(namesBy ce .free sc'.names).bind fun fr=>(namesBy ce .cell sc'.names).bind fun cl=>bif cl.isEmpty&&(ps.all (!·.1)&&nodupB (ps.map (·.2))) then some (.fdef ci.1 ci.2 (ps.map (·.2)) fr (r.ss sc' b)) else none else none)
  | ux=>.bad
 ss sc l:=match l with
  | []=>[]
  | s::t=>r.s sc s::r.ss sc t
noncomputable def cmpFail:CO where
 e _ _:=.bad
 es _ _:=[.bad]
 oe _ _:=some .bad
 t _ _:=.bad
 ts _ _:=[.bad]
 s _ _:=.bad
 ss _ _:=[.bad]
noncomputable def cmp (ce:CE):Nat→CO
 | 0=>cmpFail
 | n+1=>cmpStep ce (cmp ce n)
end Mine
end
section
open PySem
namespace Mine
set_option maxRecDepth 4000
noncomputable def tabS:List String:=["a","x","lo","hi","key","mid","len","bisect_left","insert","b","n","pad","half_n","mask","b1","b2","q1","r","q2","_DIV_LIMIT","divmod","_div3n2n","bit_length","a12","a3","q","_div2n1n","a_digits","inner","L","R","shift","upper","lower","digits","q_digits","a_digit","q_digit","_int2digits","reversed","_digits2int","append","reverse","int_divmod","_divmod_pos","__init__","_read_char","get_token","push_token","self","fp","lineno","instream","whitespace","pushback","ch","read","token","fiter","iter","pop","data","_twin_re_1","_twin_re_2","CRLF","sub","text","take","source","place","_netrclex","count","sign","word","bare","join","replace","number","rests","dot","end","mail","k","range","unlike","sent","quotedata","_law_mail","row","split","held","insort_left","lexer","mails","rows","_law_put","_law_number","size","columns","tops","over","left","top","entry","below","rest","bisect_right","c","sum","sets","many","m","ones","here","first","behind","_law_cascade","_law_less","script","turn","signs","numbers","drawn","told","_law_lexer","_law_levels","_law_written","_law_closed"]
noncomputable def tab:List Str:=tabS.map Str.ofString
noncomputable def globS:List (String × Cn):=[("len",.bi .len),("range",.bi .range),("reversed",.bi .reversed),("sum",.bi .sum),("divmod",.bi .divmod),("iter",.bi .iter),
 ("bisect_right",.st 40),("insort_left",.st 49),("bisect_left",.st 58),("_DIV_LIMIT",.int 4000),("_div2n1n",.st 65),("_div3n2n",.st 72),("_int2digits",.st 79),("_digits2int",.st 86),("_divmod_pos",.st 93),("int_divmod",.st 100),
 ("_netrclex",.st 138),("_twin_re_1",.st 147),("_twin_re_2",.st 152),("CRLF",.str [13,10]),("quotedata",.st 159),("_law_lexer",.st 166),("_law_written",.st 171),("_law_mail",.st 178),("_law_number",.st 183),("_law_put",.st 190),
 ("_law_closed",.st 197),("_law_cascade",.st 202),("_law_less",.st 207),("_law_levels",.st 212)]
noncomputable def glob:List (Str × Cn):=globS.map fun p=>(Str.ofString p.1,p.2)
noncomputable def ce:CE:=⟨tab,glob⟩
noncomputable def fd40:FD:=
 {ps:=[0,1,2,3],df:=[.int 0,.none],kw:=[(4,.none)],cells:=[],body:=[.ifs (.cmp (.Lt) (.loc 2) (.c (.int 0))) [.bad] [],.ifs (.cmp (.Is) (.loc 3) (.c (.none))) [.asg false 3 (.call (.c (.bi (.len))) [.loc 0])] [],.ifs (.cmp (.Is) (.loc 4) (.c (.none))) [.whl (.cmp (.Lt) (.loc 2) (.loc 3)) [.asg false 5 (.bin (.FloorDiv) (.bin (.Add) (.loc 2) (.loc 3)) (.c (.int 2))),.ifs (.cmp (.Lt) (.loc 1) (.sub (.loc 0) (.loc 5))) [.asg false 3 (.loc 5)] [.asg false 2 (.bin (.Add) (.loc 5) (.c (.int 1)))]]] [.whl (.cmp (.Lt) (.loc 2) (.loc 3)) [.asg false 5 (.bin (.FloorDiv) (.bin (.Add) (.loc 2) (.loc 3)) (.c (.int 2))),.ifs (.cmp (.Lt) (.loc 1) (.call (.loc 4) [.sub (.loc 0) (.loc 5)])) [.asg false 3 (.loc 5)] [.asg false 2 (.bin (.Add) (.loc 5) (.c (.int 1)))]]],.ret (.loc 2)] }
noncomputable def fd49:FD:=
 {ps:=[0,1,2,3],df:=[.int 0,.none],kw:=[(4,.none)],cells:=[],body:=[.ifs (.cmp (.Is) (.loc 4) (.c (.none))) [.asg false 2 (.call (.c (.st 58)) [.loc 0,.loc 1,.loc 2,.loc 3])] [.asg false 2 (.bad)],.expr (.mcall (.loc 0) 8 [.loc 2,.loc 1])] }
noncomputable def fd58:FD:=
 {ps:=[0,1,2,3],df:=[.int 0,.none],kw:=[(4,.none)],cells:=[],body:=[.ifs (.cmp (.Lt) (.loc 2) (.c (.int 0))) [.bad] [],.ifs (.cmp (.Is) (.loc 3) (.c (.none))) [.asg false 3 (.call (.c (.bi (.len))) [.loc 0])] [],.ifs (.cmp (.Is) (.loc 4) (.c (.none))) [.whl (.cmp (.Lt) (.loc 2) (.loc 3)) [.asg false 5 (.bin (.FloorDiv) (.bin (.Add) (.loc 2) (.loc 3)) (.c (.int 2))),.ifs (.cmp (.Lt) (.sub (.loc 0) (.loc 5)) (.loc 1)) [.asg false 2 (.bin (.Add) (.loc 5) (.c (.int 1)))] [.asg false 3 (.loc 5)]]] [.whl (.cmp (.Lt) (.loc 2) (.loc 3)) [.asg false 5 (.bin (.FloorDiv) (.bin (.Add) (.loc 2) (.loc 3)) (.c (.int 2))),.ifs (.cmp (.Lt) (.call (.loc 4) [.sub (.loc 0) (.loc 5)]) (.loc 1)) [.asg false 2 (.bin (.Add) (.loc 5) (.c (.int 1)))] [.asg false 3 (.loc 5)]]],.ret (.loc 2)] }
noncomputable def fd65:FD:=
 {ps:=[0,9,10],df:=[],kw:=[],cells:=[],body:=[.ifs (.cmp (.LtE) (.bin (.Sub) (.mcall (.loc 0) 22 []) (.loc 10)) (.c (.int 4000))) [.ret (.call (.c (.bi (.divmod))) [.loc 0,.loc 9])] [],.asg false 11 (.bin (.BitAnd) (.loc 10) (.c (.int 1))),.ifs (.loc 11) [.aug false 0 (.LShift) (.c (.int 1)),.aug false 9 (.LShift) (.c (.int 1)),.aug false 10 (.Add) (.c (.int 1))] [],.asg false 12 (.bin (.RShift) (.loc 10) (.c (.int 1))),.asg false 13 (.bin (.Sub) (.bin (.LShift) (.c (.int 1)) (.loc 12)) (.c (.int 1))),.bad,.asgT [(false,16),(false,17)] (.call (.c (.st 72)) [.bin (.RShift) (.loc 0) (.loc 10),.bin (.BitAnd) (.bin (.RShift) (.loc 0) (.loc 12)) (.loc 13),.loc 9,.loc 14,.loc 15,.loc 12]),.asgT [(false,18),(false,17)] (.call (.c (.st 72)) [.loc 17,.bin (.BitAnd) (.loc 0) (.loc 13),.loc 9,.loc 14,.loc 15,.loc 12]),.ifs (.loc 11) [.aug false 17 (.RShift) (.c (.int 1))] [],.ret (.tup [.bin (.BitOr) (.bin (.LShift) (.loc 16) (.loc 12)) (.loc 18),.loc 17])] }
noncomputable def fd79:FD:=
 {ps:=[0,10],df:=[],kw:=[],cells:=[10,27,28],body:=[.asg true 27 (.rep [.c (.int 0)] (.bin (.FloorDiv) (.bin (.Sub) (.bin (.Add) (.mcall (.loc 0) 22 []) (.cel 10)) (.c (.int 1))) (.cel 10))),.fdef true 28 [1,29,30] [27,28,10] [.ifs (.cmp (.Eq) (.bin (.Add) (.loc 29) (.c (.int 1))) (.loc 30)) [.asgI (.cel 27) (.loc 29) (.loc 1),.retN] [],.asg false 5 (.bin (.RShift) (.bin (.Add) (.loc 29) (.loc 30)) (.c (.int 1))),.asg false 31 (.bin (.Mult) (.bin (.Sub) (.loc 5) (.loc 29)) (.cel 10)),.asg false 32 (.bin (.RShift) (.loc 1) (.loc 31)),.asg false 33 (.bin (.BitXor) (.loc 1) (.bin (.LShift) (.loc 32) (.loc 31))),.expr (.call (.cel 28) [.loc 33,.loc 29,.loc 5]),.expr (.call (.cel 28) [.loc 32,.loc 5,.loc 30])],.ifs (.loc 0) [.expr (.call (.cel 28) [.loc 0,.c (.int 0),.call (.c (.bi (.len))) [.cel 27]])] [],.ret (.cel 27)] }
noncomputable def fd86:FD:=
 {ps:=[34,10],df:=[],kw:=[],cells:=[34,10,28],body:=[.fdef true 28 [29,30] [34,28,10] [.ifs (.cmp (.Eq) (.bin (.Add) (.loc 29) (.c (.int 1))) (.loc 30)) [.ret (.sub (.cel 34) (.loc 29))] [],.asg false 5 (.bin (.RShift) (.bin (.Add) (.loc 29) (.loc 30)) (.c (.int 1))),.asg false 31 (.bin (.Mult) (.bin (.Sub) (.loc 5) (.loc 29)) (.cel 10)),.ret (.bin (.Add) (.bin (.LShift) (.call (.cel 28) [.loc 5,.loc 30]) (.loc 31)) (.call (.cel 28) [.loc 29,.loc 5]))],.ret (.ite (.cel 34) (.call (.cel 28) [.c (.int 0),.call (.c (.bi (.len))) [.cel 34]]) (.c (.int 0)))] }
noncomputable def fd93:FD:=
 {ps:=[0,9],df:=[],kw:=[],cells:=[],body:=[.asg false 10 (.mcall (.loc 9) 22 []),.asg false 27 (.call (.c (.st 79)) [.loc 0,.loc 10]),.asg false 17 (.c (.int 0)),.asg false 35 (.lst []),.fr false 36 (.call (.c (.bi (.reversed))) [.loc 27]) [.asgT [(false,37),(false,17)] (.call (.c (.st 65)) [.bin (.Add) (.bin (.LShift) (.loc 17) (.loc 10)) (.loc 36),.loc 9,.loc 10]),.expr (.mcall (.loc 35) 41 [.loc 37])],.expr (.mcall (.loc 35) 42 []),.asg false 25 (.call (.c (.st 86)) [.loc 35,.loc 10]),.ret (.tup [.loc 25,.loc 17])] }
noncomputable def fd100:FD:=
 {ps:=[0,9],df:=[],kw:=[],cells:=[],body:=[.ifs (.cmp (.Eq) (.loc 9) (.c (.int 0))) [.bad] [.ifs (.cmp (.Lt) (.loc 9) (.c (.int 0))) [.asgT [(false,25),(false,17)] (.call (.c (.st 100)) [.neg (.loc 0),.neg (.loc 9)]),.ret (.tup [.loc 25,.neg (.loc 17)])] [.ifs (.cmp (.Lt) (.loc 0) (.c (.int 0))) [.asgT [(false,25),(false,17)] (.call (.c (.st 100)) [.bad,.loc 9]),.ret (.tup [.bad,.bin (.Add) (.loc 9) (.bad)])] [.ret (.call (.c (.st 93)) [.loc 0,.loc 9])]]]] }
noncomputable def fd159:FD:=
 {ps:=[61],df:=[],kw:=[],cells:=[],body:=[.ret (.mcall (.c (.st 147)) 65 [.c (.str [46,46]),.mcall (.c (.st 152)) 65 [.c (.str [13,10]),.loc 61]])] }
noncomputable def fd166:FD:=
 {ps:=[66],df:=[],kw:=[],cells:=[66,69],body:=[.asg true 69 (.lst [.c (.int 0)]),.fdef false 67 [71] [69,66] [.asg false 72 (.slc (.cel 66) (some (.sub (.cel 69) (.c (.int 0)))) (some (.bin (.Add) (.sub (.cel 69) (.c (.int 0))) (.loc 71)))),.asgI (.cel 69) (.c (.int 0)) (.bin (.Add) (.sub (.cel 69) (.c (.int 0))) (.loc 71)),.ret (.loc 72)],.asg false 68 (.call (.c (.st 138)) [.c (.none)]),.asgA (.loc 68) 56 (.loc 67),.ret (.call (.c (.st 138)) [.loc 68])] }
noncomputable def fd171:FD:=
 {ps:=[73,74],df:=[],kw:=[],cells:=[],body:=[.ifs (.loc 74) [.ret (.bin (.Add) (.mcall (.c (.str [])) 75 [.comp (.bin (.Add) (.c (.str [92])) (.loc 72)) false 72 (.loc 73) [] [] []]) (.c (.str [9])))] [],.ret (.bin (.Add) (.bin (.Add) (.c (.str [34])) (.repl (.repl (.loc 73) [92] [92,92]) [34] [92,34])) (.c (.str [34])))] }
noncomputable def fd178:FD:=
 {ps:=[77,78,79,80],df:=[],kw:=[],cells:=[],body:=[.asg false 81 (.c (.str [])),.fr false 82 (.call (.c (.bi (.range))) [.c (.int 5)]) [.ifs (.bin (.BitAnd) (.bin (.RShift) (.loc 77) (.loc 82)) (.c (.int 1))) [.asg false 81 (.bin (.Add) (.loc 81) (.loc 79))] [],.asg false 81 (.bin (.Add) (.bin (.Add) (.loc 81) (.sub (.loc 78) (.loc 82))) (.loc 80))],.ret (.loc 81)] }
noncomputable def fd183:FD:=
 {ps:=[81,78,84],df:=[],kw:=[],cells:=[],body:=[.asg false 85 (.call (.c (.st 159)) [.loc 81]),.asg false 77 (.call (.c (.st 86)) [.comp (.ite (.cmp (.Eq) (.slc (.loc 88) none (some (.c (.int 1)))) (.c (.str [46]))) (.c (.int 1)) (.c (.int 0))) false 88 (.slc (.mcall (.loc 85) 89 [.c (.str [13,10])]) none (some (.c (.int 5)))) [] [] [],.c (.int 1)]),.ifs (.cmp (.NotEq) (.loc 85) (.call (.c (.st 178)) [.loc 77,.loc 78,.c (.str [46,46]),.c (.str [13,10])])) [.expr (.mcall (.loc 84) 41 [.loc 81])] [],.ret (.loc 77)] }
noncomputable def fd190:FD:=
 {ps:=[90,77],df:=[],kw:=[],cells:=[],body:=[.asg false 69 (.call (.c (.st 58)) [.loc 90,.loc 77]),.ifs (.cmp (.Eq) (.slc (.loc 90) (some (.loc 69)) (some (.bin (.Add) (.loc 69) (.c (.int 1))))) (.lst [.loc 77])) [.ret (.c (.bool false))] [],.expr (.call (.c (.st 49)) [.loc 90,.loc 77]),.ret (.c (.bool true))] }
noncomputable def fd197:FD:=
 {ps:=[92,93,78,80,84],df:=[],kw:=[],cells:=[],body:=[.asg false 90 (.lst []),.fr false 81 (.loc 93) [.ifs (.call (.c (.st 190)) [.loc 90,.call (.c (.st 183)) [.loc 81,.loc 78,.loc 84]]) [.expr (.mcall (.loc 92) 48 [.loc 81])] []],.whl (.cmp (.NotEq) (.att (.loc 92) 54) (.lst [])) [.asg false 81 (.mcall (.loc 92) 47 []),.asg false 77 (.call (.c (.st 183)) [.loc 81,.loc 78,.loc 84]),.asg false 94 (.mcall (.loc 81) 89 [.loc 80]),.fr false 82 (.call (.c (.bi (.range))) [.c (.int 5)]) [.ifs (.boo (.And) [.bin (.BitAnd) (.bin (.RShift) (.loc 77) (.loc 82)) (.c (.int 1)),.call (.c (.st 190)) [.loc 90,.bin (.Sub) (.loc 77) (.bin (.Pow) (.c (.int 2)) (.loc 82))]]) [.expr (.mcall (.loc 92) 48 [.mcall (.loc 80) 75 [.bin (.Add) (.bin (.Add) (.slc (.loc 94) none (some (.loc 82))) (.lst [.slc (.sub (.loc 94) (.loc 82)) (some (.c (.int 1))) none])) (.slc (.loc 94) (some (.bin (.Add) (.loc 82) (.c (.int 1)))) none)]])] []]],.ret (.loc 90)] }
noncomputable def fd202:FD:=
 {ps:=[71,97],df:=[],kw:=[],cells:=[98,82,99],body:=[.asg true 98 (.lst [.rep [.c (.int 1)] (.c (.int 7))]),.fr true 82 (.call (.c (.bi (.range))) [.loc 97]) [.expr (.mcall (.cel 98) 41 [.comp (.call (.c (.bi (.sum))) [.slc (.sub (.cel 98) (.cel 82)) none (some (.loc 107))]) false 107 (.call (.c (.bi (.range))) [.c (.int 7)]) [] [98,82] []])],.asg true 99 (.lst []),.asg false 33 (.c (.int 0)),.asg false 100 (.c (.int 0)),.asg false 101 (.loc 71),.fr true 82 (.call (.c (.bi (.range))) [.loc 97,.c (.int 0),.neg (.c (.int 1))]) [.asg false 102 (.bin (.Sub) (.call (.c (.st 40)) [.sub (.cel 98) (.cel 82),.loc 101]) (.c (.int 1))),.asg false 103 (.sub (.sub (.cel 98) (.cel 82)) (.loc 102)),.ifs (.cmp (.Gt) (.loc 103) (.c (.int 0))) [.asgT [(false,104),(false,105)] (.call (.c (.st 100)) [.bin (.Mult) (.loc 103) (.cel 82),.bin (.Add) (.bin (.Sub) (.loc 102) (.cel 82)) (.c (.int 1))]),.asg false 33 (.bin (.Add) (.loc 33) (.loc 104)),.asg false 100 (.bin (.Add) (.loc 100) (.loc 105))] [],.asg false 101 (.bin (.Sub) (.loc 101) (.loc 103)),.expr (.mcall (.cel 99) 41 [.loc 102])],.ret (.tup [.call (.c (.st 86)) [.comp (.ite (.cmp (.In) (.loc 107) (.cel 99)) (.c (.int 1)) (.c (.int 0))) false 107 (.call (.c (.bi (.range))) [.c (.int 7)]) [] [99] [],.c (.int 1)],.loc 33,.loc 100])] }
noncomputable def fd207:FD:=
 {ps:=[109,110],df:=[],kw:=[],cells:=[110],body:=[.ret (.comp (.cel 111) true 111 (.loc 109) [.cmp (.NotEq) (.comp (.loc 10) false 10 (.cel 110) [.cmp (.Eq) (.bin (.BitAnd) (.loc 10) (.cel 111)) (.cel 111)] [111] []) (.lst [])] [110] [111])] }
noncomputable def fd212:FD:=
 {ps:=[90],df:=[],kw:=[],cells:=[112,97],body:=[.asg true 112 (.lst [.c (.int 0)]),.fr false 10 (.call (.c (.bi (.range))) [.c (.int 1),.c (.int 64)]) [.expr (.mcall (.cel 112) 41 [.bin (.Add) (.sub (.cel 112) (.bin (.FloorDiv) (.loc 10) (.c (.int 2)))) (.bin (.Mod) (.loc 10) (.c (.int 2)))])],.asg false 109 (.lst [.lst [],.lst [],.lst [],.lst [],.lst [],.lst [],.lst []]),.fr false 10 (.call (.c (.bi (.range))) [.c (.int 64)]) [.expr (.mcall (.sub (.loc 109) (.sub (.cel 112) (.loc 10))) 41 [.loc 10])],.fr true 97 (.call (.c (.bi (.range))) [.c (.int 1),.c (.int 6)]) [.asg false 113 (.comp (.loc 10) false 10 (.loc 90) [.cmp (.Eq) (.sub (.cel 112) (.loc 10)) (.cel 97)] [112,97] []),.asg false 114 (.slc (.sub (.loc 109) (.cel 97)) none (some (.call (.c (.bi (.len))) [.loc 113]))),.asgT [(false,115),(false,33),(false,100)] (.call (.c (.st 202)) [.call (.c (.bi (.len))) [.loc 113],.cel 97]),.ifs (.boo (.Or) [.cmp (.NotEq) (.loc 115) (.sub (.sub (.loc 109) (.cel 97)) (.call (.c (.bi (.len))) [.loc 113])),.cmp (.NotEq) (.loc 100) (.c (.int 0))]) [.ret (.c (.bool false))] [],.ifs (.cmp (.Lt) (.call (.c (.bi (.len))) [.call (.c (.st 207)) [.sub (.loc 109) (.bin (.Sub) (.cel 97) (.c (.int 1))),.loc 113]]) (.loc 33)) [.ret (.c (.bool false))] [],.ifs (.cmp (.NotEq) (.call (.c (.st 207)) [.sub (.loc 109) (.bin (.Sub) (.cel 97) (.c (.int 1))),.loc 114]) (.slc (.sub (.loc 109) (.bin (.Sub) (.cel 97) (.c (.int 1)))) none (some (.loc 33)))) [.ret (.c (.bool false))] []],.ret (.c (.bool true))] }
noncomputable def fd217:FD:=
 {ps:=[118],df:=[],kw:=[],cells:=[119,120,78,80,121,122,92],body:=[.asg true 119 (.call (.c (.bi (.sum))) [.comp (.bin (.Mod) (.loc 1) (.c (.int 36))) false 1 (.slc (.loc 118) none (some (.c (.int 63)))) [] [] []]),.asg true 120 (.lst [.c (.str [97]),.c (.str []),.c (.str [32]),.c (.str [34]),.c (.str [92]),.c (.str [98,46])]),.asg true 78 (.comp (.sub (.cel 120) (.bin (.Mod) (.bin (.Add) (.cel 119) (.loc 82)) (.c (.int 6)))) false 82 (.call (.c (.bi (.range))) [.c (.int 5)]) [] [120,119] []),.asg true 80 (.sub (.lst [.c (.str [10]),.c (.str [13]),.c (.str [13,10])]) (.bin (.Mod) (.bin (.FloorDiv) (.cel 119) (.c (.int 6))) (.c (.int 3)))),.asg true 121 (.comp (.bin (.Mod) (.loc 1) (.c (.int 32))) false 1 (.bin (.Add) (.lst [.c (.int 11),.c (.int 12)]) (.slc (.loc 118) none (some (.c (.int 4))))) [] [] []),.asg true 122 (.comp (.call (.c (.st 178)) [.loc 77,.cel 78,.c (.str [46]),.cel 80]) false 77 (.cel 121) [] [80,78] []),.asg false 66 (.mcall (.c (.str [])) 75 [.comp (.call (.c (.st 171)) [.sub (.cel 122) (.loc 82),.bin (.Mod) (.bin (.Add) (.cel 119) (.loc 82)) (.c (.int 2))]) false 82 (.call (.c (.bi (.range))) [.call (.c (.bi (.len))) [.cel 122]]) [] [122,119] []]),.asg true 92 (.call (.c (.st 166)) [.loc 66]),.asg false 93 (.comp (.mcall (.cel 92) 47 []) false 81 (.cel 122) [] [92] []),.ifs (.cmp (.NotEq) (.loc 93) (.cel 122)) [.ret (.c (.bool false))] [],.asg false 84 (.lst []),.asg false 90 (.call (.c (.st 197)) [.cel 92,.loc 93,.cel 78,.cel 80,.loc 84]),.asg false 123 (.comp (.cel 10) true 10 (.call (.c (.bi (.range))) [.c (.int 32)]) [.cmp (.NotEq) (.comp (.loc 77) false 77 (.cel 121) [.cmp (.Eq) (.bin (.BitAnd) (.loc 77) (.cel 10)) (.cel 10)] [10] []) (.lst [])] [121] [10]),.ifs (.boo (.Or) [.cmp (.NotEq) (.loc 84) (.lst []),.cmp (.NotEq) (.loc 90) (.loc 123)]) [.ret (.c (.bool false))] [],.ifs (.boo (.Or) [.cmp (.NotEq) (.mcall (.cel 92) 47 []) (.c (.str [])),.cmp (.NotEq) (.att (.cel 92) 51) (.bin (.Add) (.c (.int 1)) (.mcall (.loc 66) 71 [.c (.str [10])]))]) [.ret (.c (.bool false))] [],.ret (.call (.c (.st 212)) [.loc 90])] }
noncomputable def fd114:FD:=
 {ps:=[49,50],df:=[],kw:=[],cells:=[],body:=[.asgA (.loc 49) 51 (.c (.int 1)),.asgA (.loc 49) 52 (.loc 50),.asgA (.loc 49) 53 (.c (.str [10,9,13,32])),.asgA (.loc 49) 54 (.lst [])] }
noncomputable def fd121:FD:=
 {ps:=[49],df:=[],kw:=[],cells:=[],body:=[.asg false 55 (.mcall (.att (.loc 49) 52) 56 [.c (.int 1)]),.ifs (.cmp (.Eq) (.loc 55) (.c (.str [10]))) [.augA (.loc 49) 51 (.Add) (.c (.int 1))] [],.ret (.loc 55)] }
noncomputable def fd128:FD:=
 {ps:=[49],df:=[],kw:=[],cells:=[],body:=[.ifs (.att (.loc 49) 54) [.ret (.mcall (.att (.loc 49) 54) 60 [.c (.int 0)])] [],.asg false 57 (.c (.str [])),.asg false 58 (.call (.c (.bi (.iter))) [.att (.loc 49) 46,.c (.str [])]),.fr false 55 (.loc 58) [.ifs (.cmp (.In) (.loc 55) (.att (.loc 49) 53)) [.cont] [],.ifs (.cmp (.Eq) (.loc 55) (.c (.str [34]))) [.fr false 55 (.loc 58) [.ifs (.cmp (.Eq) (.loc 55) (.c (.str [34]))) [.ret (.loc 57)] [.ifs (.cmp (.Eq) (.loc 55) (.c (.str [92]))) [.asg false 55 (.mcall (.loc 49) 46 [])] []],.aug false 57 (.Add) (.loc 55)]] [.ifs (.cmp (.Eq) (.loc 55) (.c (.str [92]))) [.asg false 55 (.mcall (.loc 49) 46 [])] [],.aug false 57 (.Add) (.loc 55),.fr false 55 (.loc 58) [.ifs (.cmp (.In) (.loc 55) (.att (.loc 49) 53)) [.ret (.loc 57)] [.ifs (.cmp (.Eq) (.loc 55) (.c (.str [92]))) [.asg false 55 (.mcall (.loc 49) 46 [])] []],.aug false 57 (.Add) (.loc 55)]]],.ret (.loc 57)] }
noncomputable def fd135:FD:=
 {ps:=[49,57],df:=[],kw:=[],cells:=[],body:=[.expr (.mcall (.att (.loc 49) 54) 41 [.loc 57])] }
noncomputable def fdTab (a:Nat):Option FD:=bif Nat.beq a 40 then some fd40 else bif Nat.beq a 49 then some fd49 else bif Nat.beq a 58 then some fd58 else bif Nat.beq a 65 then some fd65 else bif Nat.beq a 79 then some fd79 else bif Nat.beq a 86 then some fd86 else bif Nat.beq a 93 then some fd93 else bif Nat.beq a 100 then some fd100 else bif Nat.beq a 159 then some fd159 else bif Nat.beq a 166 then some fd166 else bif Nat.beq a 171 then some fd171 else bif Nat.beq a 178 then some fd178 else bif Nat.beq a 183 then some fd183 else bif Nat.beq a 190 then some fd190 else bif Nat.beq a 197 then some fd197 else bif Nat.beq a 202 then some fd202 else bif Nat.beq a 207 then some fd207 else bif Nat.beq a 212 then some fd212 else bif Nat.beq a 217 then some fd217 else bif Nat.beq a 114 then some fd114 else bif Nat.beq a 121 then some fd121 else bif Nat.beq a 128 then some fd128 else bif Nat.beq a 135 then some fd135 else none
noncomputable def patTab (a:Nat):Option (List Nat):=bif Nat.beq a 147 then some [14,4,0,1,1,6,1,16,46,1] else bif Nat.beq a 152 then some [14,9,4,1,2,16,10,16,13,0,7,7,16,13,16,10,15,18,5,16,10,15,13,11,16,13,5,5,0,16,10,1,15,2,0,1] else none
noncomputable def q1 (prev p:Nat):List Nat→Option Nat
 | []=>none
 | c::r=>bif Nat.beq prev 10&&Nat.beq c 46 then some p else q1 c (p+1) r
noncomputable def prevAt (T:List Nat) (p:Nat):Nat:=match p with
 | 0=>10
 | p+1=>T.getD p 0
noncomputable def fnd (w:Nat):Option Nat→Option Found
 | some q=>some ⟨q,q+w⟩
 | none=>none
noncomputable def find1 (T:List Nat) (start:Nat):Option Found:=fnd 1 (q1 (prevAt T start) start (T.drop start))
noncomputable def w2:List Nat→Nat
 | []=>1
 | c::ux=>bif Nat.beq c 10 then 2 else 1
noncomputable def q2 (p:Nat):List Nat→Option (Nat × Nat)
 | []=>none
 | c::r=>bif Nat.beq c 10 then some (p,1) else bif Nat.beq c 13 then some (p,w2 r) else q2 (p+1) r
theorem Km {p:Nat} :q2 p []=(none):=rfl
theorem Kn {p:Nat}{c}{r}:q2 p (c::r)=(bif Nat.beq c 10 then some (p,1) else bif Nat.beq c 13 then some (p,w2 r) else q2 (p+1) r):=rfl
noncomputable def fnd2:Option (Nat × Nat)→Option Found
 | some (q,w)=>some ⟨q,q+w⟩
 | none=>none
noncomputable def find2 (T:List Nat) (start:Nat):Option Found:=fnd2 (q2 start (T.drop start))
noncomputable def subQ (fd:List Nat→Nat→Option Found) (text repl:List Nat):Nat→Nat→Nat→Option (List Nat)
 | 0,ux,uy=>none
 | n+1,done,start=>match fd text start with
  | none=>some (sliceL done (len text) text)
  | some f=>match subQ fd text repl n f.handed f.handed with
   | some r=>some (sliceL done f.start text++repl++r)
   | none=>none
theorem Kq {fd:List Nat→Nat→Option Found}{text repl:List Nat}{n}{done}{start}:subQ fd text repl (n+1) done start=(match fd text start with
  | none=>some (sliceL done (len text) text)
  | some f=>match subQ fd text repl n f.handed f.handed with
   | some r=>some (sliceL done f.start text++repl++r)
   | none=>none):=rfl
noncomputable def code1:List Nat:=[14,4,0,1,1,6,1,16,46,1]
noncomputable def code2:List Nat:=[14,9,4,1,2,16,10,16,13,0,7,7,16,13,16,10,15,18,5,16,10,15,13,11,16,13,5,5,0,16,10,1,15,2,0,1]
noncomputable def subTab (code repl text:List Nat):Option (List Nat):=bif repl.any (Nat.beq 92) then none else
 bif beqL code code1 then subQ find1 text repl (2*len text+3) 0 0 else bif beqL code code2 then subQ find2 text repl (2*len text+3) 0 0 else none
noncomputable def sig (prim:V→List V→St→Option (V × St)):Sig where
 fnd:=fdTab
 cls:=138
 meths:=[(45,114),(46,121),(47,128),(48,135)]
 atts:=[51,52,53,54,56]
 ini:=114
 pat:=patTab
 prim:=prim
 rep:=false
 sub:=subTab
 mJoin:=75
 mSplit:=89
 mCount:=71
 mAppend:=41
 mInsert:=8
 mPop:=60
 mReverse:=42
 mBitLength:=22
 mSub:=65
noncomputable def sigR (prim:V→List V→St→Option (V × St)):Sig:={ sig prim with rep:=true }
noncomputable def sgn:Nat→List Nat
 | 0=>[97]
 | 1=>[]
 | 2=>[32]
 | 3=>[34]
 | 4=>[92]
 | ux=>[98,46]
noncomputable def restsOf (r:Nat):List (List Nat):=[sgn ((r+0)%6),sgn ((r+1)%6),sgn ((r+2)%6),sgn ((r+3)%6),sgn ((r+4)%6)]
noncomputable def endOf:Nat→List Nat
 | 0=>[10]
 | 1=>[13]
 | ux=>[13,10]
noncomputable def mailFrom (n:Nat) (dot e:List Nat):Nat→List (List Nat)→List Nat
 | ux,[]=>[]
 | k,r::rs=>(bif Nat.beq (n/2^k%2) 1 then dot else [])++r++e++mailFrom n dot e (k+1) rs
theorem Ka {n:Nat}{dot e:List Nat}{k}{r}{rs}:mailFrom n dot e k (r::rs)=((bif Nat.beq (n/2^k%2) 1 then dot else [])++r++e++mailFrom n dot e (k+1) rs):=rfl
noncomputable def mailOf (r e n:Nat):List Nat:=mailFrom n [46] (endOf e) 0 (restsOf r)
noncomputable def sentOf (r n:Nat):List Nat:=mailFrom n [46,46] [13,10] 0 (restsOf r)
noncomputable def upto:Nat→List Nat
 | 0=>[]
 | n+1=>upto n++[n]
theorem Kc  {n}:upto  (n+1)=(upto n++[n]):=rfl
noncomputable def noPrim:V→List V→St→Option (V × St):=fun ux uy uz=>none
noncomputable def isS (x:Option (V × St)) (s:List Nat):Bool:=match x with
 | some (.str t,ux)=>beqL t s
 | ux=>false
end Mine
end
section
open PySem PySem.W PySem.Spec PySem.Calls PyProof.Rows
set_option genSizeOf false
set_option genInjectivity false
namespace Mine
section
theorem nth_eq:∀ (l:List α) (i:Nat),nth l i=l[i]?
 | [],ux=>rfl
 | ux::uy,0=>rfl
 | ux::r,i+1=>nth_eq r i
theorem len_eq:∀ l:List α,len l=l.length:=by
 intro z0;induction z0 with
 | nil=>
  exact rfl
 | cons ux r ih0=>
  exact congrArg Nat.succ ih0
theorem setAt_eq:∀ (l:List α) (i:Nat) (b:α),setAt l i b=l.set i b
 | [],ux,uy=>rfl
 | ux::uy,0,uz=>rfl
 | a::r,i+1,b=>congrArg (List.cons a) (setAt_eq r i b)
theorem len_app (a b:List α):len (a++b)=len a+len b:=by simp[len_eq]
theorem len_setAt (l:List α) (i:Nat) (b:α):len (setAt l i b)=len l:=by simp[len_eq,setAt_eq]
theorem nth_setAt_self {l:List α}{i:Nat}{a b:α}(h:nth l i=some a):nth (setAt l i b) i=some b:=by
 rw[nth_eq] at h;rw[nth_eq,setAt_eq,List.getElem?_set_self (List.getElem?_eq_some_iff.mp h).1]
theorem nth_setAt_ne {l:List α}{i j:Nat}{b:α}(h:i≠j):nth (setAt l i b) j=nth l j:=by
 simp only[nth_eq,setAt_eq,List.getElem?_set_ne h]
theorem nth_lt {l:List α}{i:Nat}{a:α}(h:nth l i=some a):i<len l:=by
 rw[nth_eq] at h;rw[len_eq];exact (List.getElem?_eq_some_iff.mp h).1
theorem nth_app_lt {l:List α}(m:List α) {i:Nat}{a:α}(h:nth l i=some a):nth (l++m) i=some a:=by
 have:=nth_lt h;rw[len_eq] at this;rw[nth_eq] at h ⊢;refine (List.getElem?_append_left this).trans ?_;rw[h]
theorem nth_app_len (l m:List α):nth (l++m) (len l)=nth m 0:=by
 simp only[nth_eq,len_eq,List.getElem?_append_right (Nat.le_refl _),Nat.sub_self]
theorem nth_app_add (l m:List α) (k:Nat):nth (l++m) (len l+k)=nth m k:=by
 simp only[nth_eq,len_eq,List.getElem?_append_right (Nat.le_add_right _ _),Nat.add_sub_cancel_left]
theorem nth_app_inv {l m:List α}{i:Nat}{a:α}(h:nth (l++m) i=some a):nth l i=some a∨∃ k,i=len l+k∧nth m k=some a:=by
 by_cases hi:i<len l
 ·left
  rw[nth_eq] at h ⊢;rw[len_eq] at hi;rw[List.getElem?_append_left hi] at h;exact h
 ·right
  refine ⟨i-len l,by exact eq1 [_,_,_] (.v 0) (.a (.v 1) (.v 2)) (.v 0) (.a (.v 2) (.v 1)) (Nat.sub_add_cancel (lq1 [_,_] (.v 0) (.v 1) (.v 0) (.v 1) (Nat.le_of_not_lt hi) rfl)).symm rfl rfl,?_⟩;rw[← nth_app_add l m,show len l+(i-len l)=i by exact eq1 [_,_,_] (.a (.v 0) (.v 1)) (.v 2) (.a (.v 1) (.v 0)) (.v 2) (Nat.sub_add_cancel (lq1 [_,_] (.v 0) (.v 1) (.v 0) (.v 1) (Nat.le_of_not_lt hi) rfl)) rfl rfl];exact h
theorem nth_none {l:List α}{i:Nat}(h:len l≤i):nth l i=none:=by
 rw[nth_eq];rw[len_eq] at h;exact List.getElem?_eq_none h
theorem nth_some {l:List α}{i:Nat}(h:i<len l):∃ a,nth l i=some a:=by
 simp only[len_eq] at h;exact ⟨l[i],by rw[nth_eq,List.getElem?_eq_getElem h]⟩
theorem idx_nth:∀ {l:List Str}{n:Str}{i:Nat},idx n l=some i→nth l i=some n
 | m::r,n,i,h=>by
  rw[KL] at h;by_cases e:n=m
  ·rw[if_pos e] at h;obtain rfl:=sI h;simp only[Zx,e]
  ·rw[if_neg e] at h;cases q:idx n r with
   | none=>rw[q] at h;cases h
   | some j=>rw[q] at h;cases h;show nth r j=some n;exact idx_nth q
theorem idx_inj {l:List Str}{n m:Str}{i:Nat}(h:idx n l=some i) (h':idx m l=some i):n=m:=
 sI ((idx_nth h).symm.trans (idx_nth h'))
theorem lkp_put_self (x:Nat) (v:α):∀ m:List (Nat × α),lkp x (put x v m)=some v
 | []=>by simp[J1,Zz,J0]
 |(y,w)::r=>by
  dsimp only[J1,J2];cases q:Nat.beq x y with
  | true=>simp[J0,q]
  | false=>simp only[cond_false,J0,q];exact lkp_put_self x v r
theorem lkp_put_ne {x y:Nat}(v:α) (h:y≠x):∀ m:List (Nat × α),lkp y (put x v m)=lkp y m
 | []=>by
  have:Nat.beq y x=false:=by cases q:Nat.beq y x with | false=>rfl | true=>exact absurd (nE q) h
  simp[J1,Zz,J0,this]
 |(z,w)::r=>by
  dsimp only[J1,J2];cases q:Nat.beq x z with
  | true=>
   have e:=nE q;subst e;have:Nat.beq y x=false:=by cases q:Nat.beq y x with | false=>rfl | true=>exact absurd (nE q) h
   simp[J0,this]
  | false=>
   simp only[cond_false,J0];simp only[lkp_put_ne v h r]
noncomputable abbrev Kp:=Addr→Option Obj
noncomputable def biV:B→Value
 | .len=>.builtin "len"
 | .range=>.type "range"
 | .reversed=>.type "reversed"
 | .sum=>.builtin "sum"
 | .divmod=>.builtin "divmod"
 | .iter=>.builtin "iter"
noncomputable def CellsR (sc:Scope) (cl:List (Nat × Nat)) (clos:List (Str × Addr)) (ρ:List Addr):Prop:=
 ∀ n i l,idx n tab=some i→(sc.names.lookup n=some .free∨sc.names.lookup n=some .cell)→lkp i cl=some l→∃ a,nth ρ l=some a∧clos.lookup n=some a
noncomputable def ParsR (sc:Scope) (cs:List Nat):List Nat→List Arg→Prop
 | [],[]=>True
 | p::ps,a::as=>idx a.arg tab=some p∧((cs.any (Nat.beq p)=true∧sc.names.lookup a.arg=some .cell)∨(cs.any (Nat.beq p)=false∧sc.names.lookup a.arg=some .local))∧ParsR sc cs ps as
 | ux,uy=>False
noncomputable def CloOk (kp:Kp) (ρ:List Addr) (ps:List Nat) (body:List S) (cl:List (Nat × Nat)) (f:Addr):Prop:=
 ∃ name qual params fb sc clos doc pm c' ctv N,kp f=some (fnMade name qual params fb sc clos doc pm c' ctv) ∧
  (∃ oc vs t,kp c'=some oc∧oc.data=.fields vs∧vs[1]?=some (.str qual t)) ∧
  plainArgs params=true∧nodupB ps=true∧ParsR sc [] ps params.args∧(cmp ce N).ss sc fb=body∧sc.kind=.function∧sc.isGenerator=false∧sc.isCoroutine=false ∧
  (∀ x∈sc.names,x.2≠.cell)∧noInner sc.names=true∧CellsR sc cl clos ρ
mutual
inductive VR (kp:Kp) (ρ:List Addr):V→Value→Prop
 | none:VR kp ρ .none .none
 | bool (b:Bool):VR kp ρ (.bool b) (.bool b)
 | int (i:Int) (t:Tok):VR kp ρ (.int i) (.int i t)
 | str (s:List Nat) (t:Tok):VR kp ρ (.str s) (.str ⟨s.toArray⟩ t)
 | bi (b:B):VR kp ρ (.bi b) (biV b)
 | st (a:Addr):VR kp ρ (.st a) (.ref a)
 | ref {l:Nat}{a:Addr}:nth ρ l=some a→VR kp ρ (.ref l) (.ref a)
 | inst {c d:Nat}{a dx:Addr}:nth ρ d=some dx→kp a=some (instObj c dx)→VR kp ρ (.inst c d) (.ref a)
 | tup {vs:List V}{a:Addr}{xs:List Value}{n:Nat}:kp a=some { cls:=.type "tuple",data:=.seq xs.toArray n }→VRs kp ρ vs xs→VR kp ρ (.tup vs) (.ref a)
 | range {a b c:Int}{r:Addr}{t u v:Tok}:kp r=some { cls:=.type "range",dict:=Option.none,data:=.fields #[.int a t,.int b u,.int c v],slots:=#[] }→VR kp ρ (.range a b c) (.ref r)
 | clo {ps:List Nat}{body:List S}{cl:List (Nat × Nat)}{f:Addr}:CloOk kp ρ ps body cl f→VR kp ρ (.clo ps body cl) (.ref f)
 | meth {f self:V}{a:Addr}{x y:Value}:kp a=some (methodObj x y)→VR kp ρ f x→VR kp ρ self y→VR kp ρ (.meth f self) (.ref a)
 | klst {vs:List V}{a:Addr}{xs:List Value}:(∃ ob n,kp a=some ob∧ob.cls=.type "list"∧ob.data=.seq xs.toArray n)→VRs kp ρ vs xs→VR kp ρ (.klst vs) (.ref a)
inductive VRs (kp:Kp) (ρ:List Addr):List V→List Value→Prop
 | nil:VRs kp ρ [] []
 | cons {v:V}{x:Value}{vs:List V}{xs:List Value}:VR kp ρ v x→VRs kp ρ vs xs→VRs kp ρ (v::vs) (x::xs)
end
structure Le (kp:Kp) (ρ:List Addr) (kp':Kp) (ρ':List Addr):Prop where
 kp:∀ a o,kp a=some o→kp' a=some o
 rho:∀ i a,nth ρ i=some a→nth ρ' i=some a
theorem Le.refl (kp:Kp) (ρ:List Addr):Le kp ρ kp ρ:=⟨fun ux uy e=>e,fun ux uy e=>e⟩
theorem Le.trans {kp₁ kp₂ kp₃:Kp}{ρ₁ ρ₂ ρ₃:List Addr}(a:Le kp₁ ρ₁ kp₂ ρ₂) (b:Le kp₂ ρ₂ kp₃ ρ₃):Le kp₁ ρ₁ kp₃ ρ₃:=
 ⟨fun x o e=>b.kp x o (a.kp x o e),fun x o e=>b.rho x o (a.rho x o e)⟩
theorem CellsR.mono {sc:Scope}{cl:List (Nat × Nat)}{clos:List (Str × Addr)}{ρ ρ':List Addr}(h:CellsR sc cl clos ρ) (k:∀ i a,nth ρ i=some a→nth ρ' i=some a):CellsR sc cl clos ρ':=
 fun n i l e1 e2 e3=>let ⟨a,x,y⟩:=h n i l e1 e2 e3;⟨a,k _ _ x,y⟩
theorem CloOk.mono {kp kp':Kp}{ρ ρ':List Addr}{ps:List Nat}{body:List S}{cl:List (Nat × Nat)}{f:Addr}(h:CloOk kp ρ ps body cl f) (k:Le kp ρ kp' ρ'):CloOk kp' ρ' ps body cl f:=by
 refine bC fun hN=>?_;obtain ⟨name,qual,params,fb,sc,clos,doc,pm,c',ctv,N,h1,⟨oc,vs,t,h2,h3⟩,h4,h4',h5,h6,h7,h8,h9,h10,h11,h12⟩:=h;refine hN ?_;exact ⟨name,qual,params,fb,sc,clos,doc,pm,c',ctv,N,k.kp _ _ h1,⟨oc,vs,t,k.kp _ _ h2,h3⟩,h4,h4',h5,h6,h7,h8,h9,h10,h11,h12.mono k.rho⟩
theorem VR.mono {kp kp':Kp}{ρ ρ':List Addr}(k:Le kp ρ kp' ρ') {v:V}{x:Value}(h:VR kp ρ v x):VR kp' ρ' v x:=
 VR.rec (motive_1:=fun v x ux=>VR kp' ρ' v x) (motive_2:=fun vs xs ux=>VRs kp' ρ' vs xs) .none (fun b=>.bool b) (fun i t=>.int i t) (fun s t=>.str s t) (fun b=>.bi b) (fun a=>.st a) (fun h=>.ref (k.rho _ _ h)) (fun h1 h2=>.inst (k.rho _ _ h1) (k.kp _ _ h2)) (fun h1 ux ih=>.tup (k.kp _ _ h1) ih) (fun h=>.range (k.kp _ _ h)) (fun h=>.clo (h.mono k)) (fun h1 ux uy i1 i2=>.meth (k.kp _ _ h1) i1 i2) (fun h ux ih=>.klst (h.elim fun ob h=>h.elim fun n h=>⟨ob,n,k.kp _ _ h.1,h.2⟩) ih) .nil (fun ux uy i1 i2=>.cons i1 i2) h
theorem VRs.ind {kp:Kp}{ρ:List Addr}{P:List V→List Value→Prop}(n:P [] []) (c:∀ v x vs xs,VR kp ρ v x→VRs kp ρ vs xs→P vs xs→P (v::vs) (x::xs)) {vs:List V}{xs:List Value}(h:VRs kp ρ vs xs):P vs xs:=
 VRs.rec (motive_1:=fun ux uy uz=>True) (motive_2:=fun vs xs ux=>P vs xs) trivial (fun ux=>trivial) (fun ux uy=>trivial) (fun ux uy=>trivial) (fun ux=>trivial) (fun ux=>trivial) (fun ux=>trivial) (fun ux uy=>trivial) (fun ux uy uz=>trivial) (fun ux=>trivial) (fun ux=>trivial) (fun ux uy uz uw ut=>trivial) (fun ux uy uz=>trivial) n (fun a b ux ih=>c _ _ _ _ a b ih) h
theorem VRs.mono {kp kp':Kp}{ρ ρ':List Addr}(k:Le kp ρ kp' ρ') {v:List V}{x:List Value}(h:VRs kp ρ v x):VRs kp' ρ' v x:=
 VRs.ind (P:=fun vs xs=>VRs kp' ρ' vs xs) .nil (fun ux uy uz uw a ut ih=>.cons (a.mono k) ih) h
theorem VRs.length {kp:Kp}{ρ:List Addr}{vs:List V}{xs:List Value}(h:VRs kp ρ vs xs):xs.length=len vs:=
 VRs.ind (P:=fun vs xs=>xs.length=len vs) rfl (fun ux uy uz uw ut uq ih=>congrArg (·+1) ih) h
theorem VRs.nth {kp:Kp}{ρ:List Addr}{vs:List V}{xs:List Value}{i:Nat}{v:V}(h:VRs kp ρ vs xs):Mine.nth vs i=some v→∃ x,xs[i]?=some x∧VR kp ρ v x:=
 VRs.ind (P:=fun vs xs=>∀ i,Mine.nth vs i=some v→∃ x,xs[i]?=some x∧VR kp ρ v x) (fun ux e=>nn e) (fun ux x uy xs a uz ih i e=>by
  cases i with
  | zero=>exact ⟨x,rfl,sI e ▸ a⟩
  | succ i=>rw[List.getElem?_cons_succ];exact ih i e) h i
theorem VRs.app {kp:Kp}{ρ:List Addr}{vs:List V}{xs:List Value}{vs':List V}{xs':List Value}(h:VRs kp ρ vs xs) (h':VRs kp ρ vs' xs'):VRs kp ρ (vs++vs') (xs++xs'):=
 VRs.ind (P:=fun vs xs=>VRs kp ρ (vs++vs') (xs++xs')) h' (fun ux uy uz uw a ut ih=>.cons a ih) h
theorem VRs.take {kp:Kp}{ρ:List Addr}{vs:List V}{xs:List Value}(n:Nat) (h:VRs kp ρ vs xs):VRs kp ρ (vs.take n) (xs.take n):=
 VRs.ind (P:=fun vs xs=>∀ n,VRs kp ρ (vs.take n) (xs.take n)) (fun n=>by cases n<;>exact .nil) (fun ux uy uz uw a ut ih n=>by
  cases n with
  | zero=>exact .nil
  | succ n=>exact .cons a (ih n)) h n
theorem VRs.drop {kp:Kp}{ρ:List Addr}{vs:List V}{xs:List Value}(n:Nat) (h:VRs kp ρ vs xs):VRs kp ρ (vs.drop n) (xs.drop n):=
 VRs.ind (P:=fun vs xs=>∀ n,VRs kp ρ (vs.drop n) (xs.drop n)) (fun n=>by cases n<;>exact .nil) (fun ux uy uz uw a b ih n=>by
  cases n with
  | zero=>exact .cons a b
  | succ n=>exact ih n) h n
theorem VRs.rev {kp:Kp}{ρ:List Addr}{vs:List V}{xs:List Value}(h:VRs kp ρ vs xs):VRs kp ρ vs.reverse xs.reverse:=
 VRs.ind (P:=fun vs xs=>VRs kp ρ vs.reverse xs.reverse) .nil (fun ux uy uz uw a ut ih=>by rw[List.reverse_cons,List.reverse_cons];exact ih.app (.cons a .nil)) h
theorem VRs.set {kp:Kp}{ρ:List Addr}{w:V}{y:Value}(hw:VR kp ρ w y) {vs:List V}{xs:List Value}(i:Nat) (h:VRs kp ρ vs xs):VRs kp ρ (setAt vs i w) (xs.set i y):=
 VRs.ind (P:=fun vs xs=>∀ i,VRs kp ρ (setAt vs i w) (xs.set i y)) (fun ux=>.nil) (fun ux uy uz uw a b ih i=>by
  cases i with
  | zero=>exact .cons hw b
  | succ i=>exact .cons a (ih i)) h i
noncomputable def NsR (kp:Kp) (ρ:List Addr) (m:List (Nat × V)) (mm:Str→Option Value):Prop:=
 ∀ n i v,idx n tab=some i→lkp i m=some v→∃ x,mm n=some x∧VR kp ρ v x
theorem NsR.mono {kp kp':Kp}{ρ ρ':List Addr}{m:List (Nat × V)}{mm:Str→Option Value}(h:NsR kp ρ m mm) (k:Le kp ρ kp' ρ'):NsR kp' ρ' m mm:=
 fun n i v e1 e2=>let ⟨x,a,b⟩:=h n i v e1 e2;⟨x,a,b.mono k⟩
theorem NsR.put {kp:Kp}{ρ:List Addr}{m:List (Nat × V)}{mm:Str→Option Value}{n:Str}{i:Nat}{v:V}{x:Value}(h:NsR kp ρ m mm) (hi:idx n tab=some i) (hv:VR kp ρ v x):
  NsR kp ρ (put i v m) (fun y=>if y=n then some x else mm y):=fun n' i' v' e1 e2=>by
 by_cases q:n'=n
 ·subst q;rw[hi] at e1;cases e1;rw[lkp_put_self] at e2;cases e2;exact ⟨x,by simp,hv⟩
 ·have:i'≠i:=fun z=>q (idx_inj e1 (z ▸ hi));rw[lkp_put_ne v this] at e2;refine Q12 (h n' i' v' e1 e2) ?_;intro y a b;exact ⟨y,by simp[q,a],b⟩
theorem NsR.nil {kp:Kp}{ρ:List Addr}{mm:Str→Option Value}:NsR kp ρ [] mm:=fun ux uy uz uw e=>nomatch e
inductive DR (kp:Kp) (ρ:List Addr):List (Nat × V)→List DictEntry→Prop
 | nil:DR kp ρ [] []
 | cons {i:Nat}{n:Str}{v:V}{hsh:Int}{t:Tok}{x:Value}{m:List (Nat × V)}{es:List DictEntry}:idx n tab=some i→VR kp ρ v x→DR kp ρ m es→DR kp ρ ((i,v)::m) (⟨hsh,.str n t,x⟩::es)
theorem DR.mono {kp kp':Kp}{ρ ρ':List Addr}(k:Le kp ρ kp' ρ') {m:List (Nat × V)}{es:List DictEntry}(h:DR kp ρ m es):DR kp' ρ' m es:=by
 induction h with
 | nil=>exact .nil
 | cons h1 h2 ux ih=>exact .cons h1 (h2.mono k) ih
noncomputable def OR (kp:Kp) (ρ:List Addr):O→Obj→Prop
 | .list vs,ob=>∃ xs n,ob={ cls:=.type "list",dict:=none,data:=.seq (List.toArray xs) n,slots:=#[] }∧VRs kp ρ vs xs
 | .cell v,ob=>∃ x,ob.data=.cell x∧(∀ w,v=some w→∃ y,x=some y∧VR kp ρ w y)
 | .ns m,ob=>∃ mm,LCg.NsObj ob mm∧NsR kp ρ m mm
 | .dict m,ob=>∃ es n,ob=PySem.W.dictOf es n∧DR kp ρ m es
 | .lit l i,ob=>∃ a,nth ρ l=some a∧ob.cls=.type "list_iterator"∧ob.data=.fields #[.ref a,.int i 0]
 | .vit l i,ob=>∃ a,nth ρ l=some a∧ob.cls=.type "list_reverseiterator"∧ob.data=.fields #[.ref a,.int ((i:Int)-1) 0]
 | .sit s i,ob=>∃ t,ob.cls=.type "str_ascii_iterator"∧ob.data=.fields #[.str ⟨s.toArray⟩ t,.int i 0]
 | .rit a n c,ob=>ob={ cls:=.type "range_iterator",dict:=none,data:=.fields #[rawInt a,rawInt n,rawInt c],slots:=#[] }
 | .cit f,ob=>∃ x t,VR kp ρ f x∧ob={ cls:=.type "callable_iterator",dict:=none,data:=.fields #[x,.str ⟨#[]⟩ t,.bool false],slots:=#[] }
 | .junk,ux=>True
theorem OR.mono {kp kp':Kp}{ρ ρ':List Addr}(k:Le kp ρ kp' ρ') {o:O}{ob:Obj}(h:OR kp ρ o ob):OR kp' ρ' o ob:=by
 cases o with
 | list ux=>exact h.imp fun xs h=>h.imp fun n h=>⟨h.1,h.2.mono k⟩
 | cell ux=>exact h.imp fun x h=>⟨h.1,fun w q=>(h.2 w q).imp fun y h=>⟨h.1,h.2.mono k⟩⟩
 | ns ux=>exact h.imp fun mm h=>⟨h.1,h.2.mono k⟩
 | dict ux=>exact h.imp fun xs h=>h.imp fun n h=>⟨h.1,h.2.mono k⟩
 | lit ux uy=>exact h.imp fun a h=>⟨k.rho _ _ h.1,h.2⟩
 | vit ux uy=>exact h.imp fun a h=>⟨k.rho _ _ h.1,h.2⟩
 | sit ux uy=>exact h
 | rit ux uy uz=>exact h
 | cit ux=>exact h.imp fun x h=>h.imp fun t h=>⟨h.1.mono k,h.2⟩
 | junk=>exact trivial
noncomputable def alive:O→Bool
 | .junk=>false
 | ux=>true
structure BS where
 prog:Program
 w:World
 K:Frag
 hb:Heap
 p:Program
 loose:List Str
 mean:ExcName→Option Value
 mg:Str→Option Value
 mb:Str→Option Value
 tabs:List (Addr × Addr)
 tq:Addr→Str
 os:OsState
 gens:Array GenState
 X:K.In hb
 T:Top p loose mean mg mb hb
 C:∀ q∈tabs,CodeHd hb q.1 q.2
 noP:∀ q∈tabs,hb.get? q.2=none
 tk0:Nat
noncomputable def TabInv (b:BS) (kp:Kp) (h:Heap) (P:Addr):Prop:=
 ∃ ps,h.get? P=some (tabObj ps)∧TriplesOk ps.toList∧∀ pos cv,codeAmong pos ps.toList=some cv→∃ c' oc vs t,cv=.ref c'∧kp c'=some oc∧oc.data=.fields vs∧vs[1]?=some (.str (b.tq P) t)
structure SR (b:BS) (kp:Kp) (ρ:List Addr) (W:St) (s:Shared):Prop where
 len:len ρ=len W
 keep:∀ a o,kp a=some o→s.heap.get? a=some o
 base:∀ a o,b.hb.get? a=some o→kp a=some o
 rel:∀ i o,nth W i=some o→alive o=true→∃ a ob,nth ρ i=some a∧s.heap.get? a=some ob∧OR kp ρ o ob
 apart:∀ i j o o',nth W i=some o→nth W j=some o'→alive o=true→alive o'=true→nth ρ i=nth ρ j→i=j
 off:∀ i o a,nth W i=some o→alive o=true→nth ρ i=some a→kp a=none∧∀ q∈b.tabs,a≠q.2
 lo:∀ i a,nth ρ i=some a→b.hb.objs.size≤a
 kptab:∀ q∈b.tabs,kp q.2=none
 tab:∀ q∈b.tabs,TabInv b kp s.heap q.2
 os:s.os=b.os
 gens:s.gens=b.gens
 sz:b.hb.objs.size≤s.heap.objs.size
 tk:b.tk0≤s.toks
theorem TabInv.mono {b:BS}{kp kp':Kp}{h h':Heap}{P:Addr}(x:TabInv b kp h P) (k:∀ a o,kp a=some o→kp' a=some o) (e:∀ o,h.get? P=some o→h'.get? P=some o):TabInv b kp' h' P:=
 x.imp fun ps x=>⟨e _ x.1,x.2.1,fun pos cv q=>(x.2.2 pos cv q).imp fun c' h=>h.imp fun oc h=>h.imp fun vs h=>h.imp fun t h=>⟨h.1,k _ _ h.2.1,h.2.2⟩⟩
section
variable {b:BS}{kp:Kp}{ρ:List Addr}{W:St}{s:Shared}
theorem SR.tabNe (R:SR b kp ρ W s) {i:Nat}{o:O}{a:Addr}(h:nth W i=some o) (ha:alive o=true) (hr:nth ρ i=some a):∀ q∈b.tabs,q.2≠a:=fun q hq e=>(R.off i o a h ha hr).2 q hq e.symm
theorem SR.kpNe (R:SR b kp ρ W s) {i:Nat}{o:O}{a c:Addr}{ob:Obj}(h:nth W i=some o) (ha:alive o=true) (hr:nth ρ i=some a) (hk:kp c=some ob):c≠a:=fun e=>by
 have:=(R.off i o a h ha hr).1;rw[← e,hk] at this;cases this
theorem SR.rhoNe (R:SR b kp ρ W s) {i j:Nat}{o o':O}{a c:Addr}(h:nth W i=some o) (ha:alive o=true) (hr:nth ρ i=some a) (h':nth W j=some o') (ha':alive o'=true) (hr':nth ρ j=some c) (hne:j≠i):c≠a:=fun e=>by
 subst e;exact hne (R.apart j i o' o h' h ha' ha (hr'.trans hr.symm))
theorem SR.ext (R:SR b kp ρ W s) {h':Heap}{tk:Nat}(k:∀ a o,s.heap.get? a=some o→h'.get? a=some o) (hz:b.hb.objs.size≤h'.objs.size) (htk:s.toks≤tk:=by exact Nat.le.refl):SR b kp ρ W { s with heap:=h',toks:=tk } where
 len:=R.len
 keep:=fun a o e=>k _ _ (R.keep a o e)
 base:=R.base
 rel:=fun i o e ha=>(R.rel i o e ha).imp fun ux z=>z.imp fun ux z=>⟨z.1,k _ _ z.2.1,z.2.2⟩
 apart:=R.apart
 off:=R.off
 lo:=R.lo
 kptab:=R.kptab
 tab:=fun q hq=>(R.tab q hq).mono (fun ux uy e=>e) fun ux e=>k _ _ e
 os:=R.os
 gens:=R.gens
 sz:=hz
 tk:=lT R.tk htk
theorem SR.tok (R:SR b kp ρ W s) {tk:Nat}(htk:s.toks≤tk:=by exact Nat.le.refl):SR b kp ρ W { s with toks:=tk }:=R.ext (fun ux uy e=>e) R.sz htk
theorem nth_set1 {W:St}{i j:Nat}{o o' x:O}(h:nth W i=some o) (e:nth (setAt W i o') j=some x):(i=j∧o'=x)∨(i≠j∧nth W j=some x):=by
 by_cases q:i=j
 ·rw[← q,nth_setAt_self h] at e;exact .inl ⟨q,sI e⟩
 ·rw[nth_setAt_ne q] at e;exact .inr ⟨q,e⟩
theorem nth_app1 {α:Type}{l:List α}{a x:α}{i:Nat}(e:nth (l++[a]) i=some x):nth l i=some x∨(i=Mine.len l∧a=x):=by
 refine bC fun hN=>?_;rcases nth_app_inv e with e | ⟨j,q,e⟩
 ·refine hN ?_;exact .inl e
 ·cases j with
  | zero=>refine hN ?_;exact .inr ⟨q,sI e⟩
  | succ j=>exact nn e
theorem SR.relK (R:SR b kp ρ W s) {h':Heap}{i j:Nat}{o x:O}{a:Addr}(h:nth W i=some o) (ha:alive o=true) (hr:nth ρ i=some a) (k:Heap.ExtBut a s.heap h') (q:i≠j) (e:nth W j=some x) (hx:alive x=true):∃ c oc,nth ρ j=some c∧h'.get? c=some oc∧OR kp ρ x oc:=
 (R.rel j x e hx).imp fun ux z=>z.imp fun ux z=>⟨z.1,k _ _ (R.rhoNe h ha hr e hx z.1 (Ne.symm q)) z.2.1,z.2.2⟩
theorem SR.old {i:Nat}{o:O}(h:nth W i=some o) (ha:alive o=true) {o' x:O}{j:Nat}(e:nth (setAt W i o') j=some x) (hx:alive x=true):∃ z,nth W j=some z∧alive z=true:=
 (nth_set1 h e).elim (fun q=>⟨o,q.1 ▸ h,ha⟩) fun q=>⟨x,q.2,hx⟩
theorem SR.apartS (R:SR b kp ρ W s) {i:Nat}{o o':O}(h:nth W i=some o) (ha:alive o=true) (j l:Nat) (x y:O) (e1:nth (setAt W i o') j=some x) (e2:nth (setAt W i o') l=some y) (hx:alive x=true) (hy:alive y=true) (q:nth ρ j=nth ρ l):j=l:=
 (SR.old h ha e1 hx).elim fun ux z=>(SR.old h ha e2 hy).elim fun ux z'=>R.apart j l _ _ z.1 z'.1 z.2 z'.2 q
theorem SR.upd (R:SR b kp ρ W s) {h':Heap}{tk:Nat}{i:Nat}{o o':O}{a:Addr}{ob':Obj}(h:nth W i=some o) (ha:alive o=true) (hr:nth ρ i=some a) (k:Heap.ExtBut a s.heap h') (hz:b.hb.objs.size≤h'.objs.size)
  (hob:h'.get? a=some ob') (hO:OR kp ρ o' ob') (htk:s.toks≤tk:=by exact Nat.le.refl):SR b kp ρ (setAt W i o') { s with heap:=h',toks:=tk } where
 len:=by rw[len_setAt];exact R.len
 keep:=fun c x e=>k _ _ (R.kpNe h ha hr e) (R.keep c x e)
 base:=R.base
 rel:=fun j x e hx=>(nth_set1 h e).elim (fun q=>⟨a,ob',q.1 ▸ hr,hob,q.2 ▸ hO⟩) fun q=>R.relK h ha hr k q.1 q.2 hx
 apart:=R.apartS h ha
 off:=fun j x c e hx hc=>(nth_set1 h e).elim (fun q=>R.off j o c (q.1 ▸ h) ha hc) fun q=>R.off j x c q.2 hx hc
 lo:=R.lo
 kptab:=R.kptab
 tab:=fun q hq=>(R.tab q hq).mono (fun ux uy e=>e) fun ux e=>k _ _ (R.tabNe h ha hr q hq) e
 os:=R.os
 gens:=R.gens
 sz:=hz
 tk:=lT R.tk htk
theorem SR.drop (R:SR b kp ρ W s) {h':Heap}{tk:Nat}{i:Nat}{o:O}{a:Addr}(h:nth W i=some o) (ha:alive o=true) (hr:nth ρ i=some a) (k:Heap.ExtBut a s.heap h') (hz:b.hb.objs.size≤h'.objs.size) (htk:s.toks≤tk:=by exact Nat.le.refl):
  SR b kp ρ (setAt W i .junk) { s with heap:=h',toks:=tk } where
 len:=by rw[len_setAt];exact R.len
 keep:=fun c x e=>k _ _ (R.kpNe h ha hr e) (R.keep c x e)
 base:=R.base
 rel:=fun j x e hx=>(nth_set1 h e).elim (fun q=>by rw[← q.2] at hx;exact ft hx) fun q=>R.relK h ha hr k q.1 q.2 hx
 apart:=R.apartS h ha
 off:=fun j x c e hx hc=>(nth_set1 h e).elim (fun q=>R.off j o c (q.1 ▸ h) ha hc) fun q=>R.off j x c q.2 hx hc
 lo:=R.lo
 kptab:=R.kptab
 tab:=fun q hq=>(R.tab q hq).mono (fun ux uy e=>e) fun ux e=>k _ _ (R.tabNe h ha hr q hq) e
 os:=R.os
 gens:=R.gens
 sz:=hz
 tk:=lT R.tk htk
noncomputable def addK (kp:Kp) (a:Addr) (ob:Obj):Kp:=fun c=>if c=a then some ob else kp c
theorem addK_self (kp:Kp) (a:Addr) (ob:Obj):addK kp a ob a=some ob:=by simp[addK]
theorem SR.leK (R:SR b kp ρ W s) {a:Addr}(ob:Obj) (hf:s.heap.objs.size≤a):Le kp ρ (addK kp a ob) ρ:=
 ⟨fun c o e=>by
  have:c≠a:=Nat.ne_of_lt (Nat.lt_of_lt_of_le (Heap.lt_size (R.keep c o e)) hf);simp[addK,this,e],fun ux uy e=>e⟩
theorem SR.rhoLt (R:SR b kp ρ W s) {i:Nat}{o:O}{a:Addr}(h:nth W i=some o) (ha:alive o=true) (hr:nth ρ i=some a):a<s.heap.objs.size:=by
 refine bC fun hN=>?_;refine Q23 (R.rel i o h ha) ?_;intro c ob h1 h2 ux;rw[hr] at h1;obtain rfl:=sI h1;refine hN ?_;exact Heap.lt_size h2
theorem SR.tabLt (R:SR b kp ρ W s) {q:Addr × Addr}(hq:q∈b.tabs):q.2<s.heap.objs.size:=by
 refine Q12 (R.tab q hq) ?_;intro ps h ux;exact Heap.lt_size h
theorem SR.szBy (R:SR b kp ρ W s) {h':Heap}{i:Nat}{o:O}{a:Addr}(h:nth W i=some o) (ha:alive o=true) (hr:nth ρ i=some a) (k:∀ o,s.heap.get? a=some o→h'.get? a=some o):b.hb.objs.size≤h'.objs.size:=by
 refine bC fun hN=>?_;refine Q23 (R.rel i o h ha) ?_;intro c ob h1 h2 ux;rw[hr] at h1;obtain rfl:=sI h1;refine hN ?_;exact lT (R.lo i a hr) (Nat.le_of_lt (Heap.lt_size (k _ h2)))
theorem SR.keepNew (R:SR b kp ρ W s) {h':Heap}{tk:Nat}{a:Addr}{ob:Obj}(k:∀ a o,s.heap.get? a=some o→h'.get? a=some o) (hf:s.heap.objs.size≤a) (hob:h'.get? a=some ob) (htk:s.toks≤tk:=by exact Nat.le.refl):
  SR b (addK kp a ob) ρ W { s with heap:=h',toks:=tk } where
 len:=R.len
 keep:=fun c o e=>by
  unfold addK at e;by_cases q:c=a
  ·rw[if_pos q] at e;cases e;rw[q];exact hob
  ·rw[if_neg q] at e;exact k _ _ (R.keep c o e)
 base:=fun c o e=>(R.leK ob hf).kp _ _ (R.base c o e)
 rel:=fun i o e ha=>(R.rel i o e ha).imp fun ux z=>z.imp fun ux z=>⟨z.1,k _ _ z.2.1,z.2.2.mono (R.leK ob hf)⟩
 apart:=R.apart
 off:=fun i o c e ha hc=>by
  have:c≠a:=Nat.ne_of_lt (Nat.lt_of_lt_of_le (R.rhoLt e ha hc) hf);refine ⟨?_,(R.off i o c e ha hc).2⟩;simp[addK,this,(R.off i o c e ha hc).1]
 lo:=R.lo
 kptab:=fun q hq=>by
  have:q.2≠a:=Nat.ne_of_lt (Nat.lt_of_lt_of_le (R.tabLt hq) hf);simp[addK,this,R.kptab q hq]
 tab:=fun q hq=>(R.tab q hq).mono (R.leK ob hf).kp fun ux e=>k _ _ e
 os:=R.os
 gens:=R.gens
 sz:=lT R.sz (Nat.le_of_lt (Nat.lt_of_le_of_lt hf (Heap.lt_size hob)))
 tk:=lT R.tk htk
theorem leR (kp:Kp) (ρ:List Addr) (a:Addr):Le kp ρ kp (ρ++[a]):=⟨fun ux uy e=>e,fun ux uy e=>nth_app_lt _ e⟩
theorem SR.newAt (R:SR b kp ρ W s) (a:Addr):nth (ρ++[a]) (Mine.len W)=some a:=by
 have:=nth_app_len ρ [a];rw[R.len] at this;exact this
theorem SR.oldAt (R:SR b kp ρ W s) {i:Nat}{x:O}(a:Addr) (e:nth W i=some x) (hx:alive x=true):∃ c,nth ρ i=some c∧nth (ρ++[a]) i=some c∧c<s.heap.objs.size:=
 (R.rel i x e hx).imp fun ux z=>z.elim fun ux z=>⟨z.1,nth_app_lt _ z.1,Heap.lt_size z.2.1⟩
theorem SR.newLo (R:SR b kp ρ W s) {a c:Addr}(hf:s.heap.objs.size≤a) (l:c<s.heap.objs.size):c≠a:=Nat.ne_of_lt (Nat.lt_of_lt_of_le l hf)
theorem SR.apartN (R:SR b kp ρ W s) {a:Addr}{o:O}(hf:s.heap.objs.size≤a) (i j:Nat) (x y:O) (e1:nth (W++[o]) i=some x) (e2:nth (W++[o]) j=some y) (hx:alive x=true) (hy:alive y=true) (q:nth (ρ++[a]) i=nth (ρ++[a]) j):i=j:=by
 rcases nth_app1 e1 with w1 | ⟨w1,ux⟩<;>rcases nth_app1 e2 with w2 | ⟨w2,ux⟩
 ·refine Q13 (R.oldAt a w1 hx) ?_;intro c1 r1 n1 ux;refine Q13 (R.oldAt a w2 hy) ?_;intro c2 r2 n2 ux;exact R.apart i j x y w1 w2 hx hy (by rw[r1,r2,← n1,← n2,q])
 ·refine Q13 (R.oldAt a w1 hx) ?_;intro c1 r1 n1 l1;rw[n1,w2,R.newAt] at q;exact absurd (sI q) (R.newLo hf l1)
 ·refine Q13 (R.oldAt a w2 hy) ?_;intro c2 r2 n2 l2;rw[n2,w1,R.newAt] at q;exact absurd (sI q).symm (R.newLo hf l2)
 ·refine (w1).trans ?_;rw[w2]
theorem SR.alloc (R:SR b kp ρ W s) {h':Heap}{tk:Nat}{a:Addr}{o:O}{ob:Obj}(k:∀ a o,s.heap.get? a=some o→h'.get? a=some o) (hf:s.heap.objs.size≤a) (hob:h'.get? a=some ob)
  (hO:OR kp (ρ++[a]) o ob) (htk:s.toks≤tk:=by exact Nat.le.refl):SR b kp (ρ++[a]) (W++[o]) { s with heap:=h',toks:=tk } where
 len:=by rw[len_app,len_app,R.len];rfl
 keep:=fun c x e=>k _ _ (R.keep c x e)
 base:=R.base
 rel:=fun i x e hx=>(nth_app1 e).elim (fun e'=>(R.rel i x e' hx).imp fun ux z=>z.imp fun ux z=>⟨nth_app_lt _ z.1,k _ _ z.2.1,z.2.2.mono (leR _ _ _)⟩) fun q=>⟨a,ob,q.1 ▸ R.newAt a,hob,q.2 ▸ hO⟩
 apart:=R.apartN hf
 off:=fun i x c e hx hc=>by
  rcases nth_app1 e with e' | ⟨q,ux⟩
  ·refine Q13 (R.oldAt a e' hx) ?_;intro c' h1 h2 ux;rw[h2] at hc;exact R.off i x c e' hx (h1.trans hc)
  ·rw[q,R.newAt] at hc;refine (sI hc) ▸ ?_;refine ⟨?_,fun q hq z=>R.newLo hf (R.tabLt hq) z.symm⟩;cases q:kp a with
   | none=>rfl
   | some ob=>exact absurd rfl (R.newLo hf (Heap.lt_size (R.keep _ _ q)))
 lo:=fun i c e=>(nth_app1 e).elim (fun e'=>R.lo i c e') fun q=>q.2 ▸ lT R.sz hf
 kptab:=R.kptab
 tab:=fun q hq=>(R.tab q hq).mono (fun ux uy e=>e) fun ux e=>k _ _ e
 os:=R.os
 gens:=R.gens
 sz:=lT R.sz (Nat.le_of_lt (Nat.lt_of_le_of_lt hf (Heap.lt_size hob)))
 tk:=lT R.tk htk
end
end
structure AOk (m:Nat) (A:Around):Prop where
 handled:A.handled=none
 depth:A.depth+m≤990
 units:A.units+12*m≤9800
theorem AOk.le {m m':Nat}{A:Around}(h:AOk m A) (k:m'≤m):AOk m' A:=⟨h.handled,by have:=h.depth;exact lq2 [_,_,_] (.a (.v 0) (.v 1)) (.k 990) (.a (.v 0) (.v 2)) (.k 990) (.v 1) (.v 2) this k rfl,by have:=h.units;omega⟩
theorem AOk.in1 {m:Nat}{A:Around}(h:AOk (m+1) A):AOk m A.in1:=⟨h.handled,by have:=h.depth;show A.depth+m≤990;exact lq1 [_,_] (.a (.v 0) (.v 1)) (.k 990) (.a (.v 0) (.a (.v 1) (.k 1))) (.k 990) this rfl,by have:=h.units;show A.units+1+12*m≤9800;exact lq1 [_,_] (.a (.a (.v 0) (.k 1)) (.m 12 (.v 1))) (.k 9800) (.a (.v 0) (.m 12 (.a (.v 1) (.k 1)))) (.k 9800) this rfl⟩
theorem AOk.deeper {m:Nat}{A:Around}(h:AOk (m+1) A) (env:Env):AOk m (A.deeper env):=⟨h.handled,by have:=h.depth;show A.depth+1+m≤990;exact lq1 [_,_] (.a (.a (.v 0) (.k 1)) (.v 1)) (.k 990) (.a (.v 0) (.a (.v 1) (.k 1))) (.k 990) this rfl,by have:=h.units;show A.units+3+12*m≤9800;exact lq1 [_,_] (.a (.a (.v 0) (.k 3)) (.m 12 (.v 1))) (.k 9800) (.a (.v 0) (.m 12 (.a (.v 1) (.k 1)))) (.k 9800) this rfl⟩
theorem AOk.room {m:Nat}{A:Around}(h:AOk m A):A.depth<recursionLimit:=by have:=h.depth;show A.depth<1000;exact lq1 [_,_] (.a (.v 0) (.k 1)) (.k 1000) (.a (.v 0) (.v 1)) (.k 990) this rfl
theorem AOk.cunits {m:Nat}{A:Around}(h:AOk m A):A.units<cLine:=by have:=h.units;show A.units<9900;exact lq1 [_,_] (.a (.v 0) (.k 1)) (.k 9900) (.a (.v 0) (.m 12 (.v 1))) (.k 9800) this rfl
structure EnvR (b:BS) (kp:Kp) (ρ:List Addr) (sc:Scope) (g:Ctx) (env:Env):Prop where
 lf:nth ρ g.lf=some env.locals
 kind:env.scope.kind=.function
 gl:env.globals=mainGlobals
 bu:env.builtins=builtinsNs
 kl:∀ n,sc.names.lookup n=some .local→env.kindOf n=some .local
 kc:∀ n,sc.names.lookup n=some .cell→env.kindOf n=some .cell
 kf:∀ n,sc.names.lookup n=some .free→env.kindOf n=some .free∨env.kindOf n=some .cell
 kg:∀ n,sc.names.lookup n=some .globalImplicit→env.kindOf n=some .globalImplicit
 cells:CellsR sc g.cells env.cells ρ
 tb:∀ n,(n=Str.ofString "inner"∨n=Str.ofString "take")→(sc.names.lookup n=some .local∨sc.names.lookup n=some .cell)→∃ c P,env.code=.ref c∧(c,P)∈b.tabs∧b.tq P=env.qual++n
theorem EnvR.mono {b:BS}{kp kp':Kp}{ρ ρ':List Addr}{sc:Scope}{g:Ctx}{env:Env}(h:EnvR b kp ρ sc g env) (k:Le kp ρ kp' ρ'):EnvR b kp' ρ' sc g env:=
 {h with lf:=k.rho _ _ h.lf,cells:=h.cells.mono k.rho }
noncomputable def Back {α:Type}(b:BS) (kp:Kp) (ρ:List Addr) (W':St) (R:Kp→List Addr→α→Prop) (Q:α→Shared→Prop):Prop:=
 ∀ kp' ρ' y s',Le kp ρ kp' ρ'→SR b kp' ρ' W' s'→R kp' ρ' y→Q y s'
theorem Back.mono {α:Type}{b:BS}{kp kp₁:Kp}{ρ ρ₁:List Addr}{W':St}{R:Kp→List Addr→α→Prop}{Q:α→Shared→Prop}(h:Back b kp ρ W' R Q) (k:Le kp ρ kp₁ ρ₁):Back b kp₁ ρ₁ W' R Q:=
 fun kp' ρ' y s' l r x=>h kp' ρ' y s' (k.trans l) r x
noncomputable def FlR (kp:Kp) (ρ:List Addr):Fl→Flow→Prop
 | .next,f=>f=.next
 | .cont,f=>f=.cont
 | .ret v,f=>∃ x,f=.ret x∧VR kp ρ v x
noncomputable def OptR (kp:Kp) (ρ:List Addr):Option V→Option Value→Prop
 | none,o=>o=none
 | some v,o=>∃ x,o=some x∧VR kp ρ v x
noncomputable def CallBack (Q:Value→Shared→Prop) (E:Value→Shared→Prop) (r:Result) (s':Shared):Prop:=match r with
 | .ok (.ret v)=>Q v s'
 | .ok ux=>False
 | .error e=>E e s'
noncomputable abbrev Sev (b:BS) (m:Nat) (r:Ops):Prop:=∀ {sc g e n env W v W' A kp ρ s}{Q:Value→Shared→Prop}{E:Value→Shared→Prop},r.ev g ((cmp ce n).e sc e) W=some (v,W')→EnvR b kp ρ sc g env→AOk m A→SR b kp ρ W s →
  Back b kp ρ W' (fun kp ρ y=>VR kp ρ v y) Q→wpAny (model b.prog b.w) A (eval e env) Q E s
noncomputable abbrev Stst (b:BS) (m:Nat) (r:Ops):Prop:=∀ {sc g e n env W t W' A kp ρ s}{Q:Bool→Shared→Prop}{E:Value→Shared→Prop},r.tst g ((cmp ce n).t sc e) W=some (t,W')→EnvR b kp ρ sc g env→AOk m A→SR b kp ρ W s →
  Back b kp ρ W' (fun ux uy y=>y=t) Q→wpAny (model b.prog b.w) A (isTrue e env (eval e env)) Q E s
noncomputable abbrev Ststs (b:BS) (m:Nat) (r:Ops):Prop:=∀ {sc g es n env W t W' A kp ρ s op}{Q:Bool→Shared→Prop}{E:Value→Shared→Prop},r.tsts g (isAnd op) ((cmp ce n).ts sc es) W=some (t,W')→EnvR b kp ρ sc g env→AOk m A→SR b kp ρ W s →
  Back b kp ρ W' (fun ux uy y=>y=t) Q→wpAny (model b.prog b.w) A (allTrue op es env) Q E s
noncomputable abbrev Sevs (b:BS) (m:Nat) (r:Ops):Prop:=∀ {sc g es n env W vs W' A kp ρ s pos}{Q:List Value→Shared→Prop}{E:Value→Shared→Prop},r.evs g ((cmp ce n).es sc es) W=some (vs,W')→EnvR b kp ρ sc g env→AOk m A→SR b kp ρ W s →
  Back b kp ρ W' (fun kp ρ ys=>VRs kp ρ vs ys) Q→wpAny (model b.prog b.w) A (spliced (backTo pos (starEach es env))) Q E s
noncomputable abbrev Sex (b:BS) (m:Nat) (r:Ops):Prop:=∀ {sc g st n env W f W' A kp ρ s}{Q:Flow→Shared→Prop}{E:Value→Shared→Prop},r.ex g ((cmp ce n).s sc st) W=some (f,W')→EnvR b kp ρ sc g env→AOk m A→SR b kp ρ W s →
  Back b kp ρ W' (fun kp ρ y=>FlR kp ρ f y) Q→wpAny (model b.prog b.w) A (exec st env) Q E s
noncomputable abbrev Sexs (b:BS) (m:Nat) (r:Ops):Prop:=∀ {sc g ss n env W f W' A kp ρ s}{Q:Flow→Shared→Prop}{E:Value→Shared→Prop},r.exs g ((cmp ce n).ss sc ss) W=some (f,W')→EnvR b kp ρ sc g env→AOk m A→SR b kp ρ W s →
  Back b kp ρ W' (fun kp ρ y=>FlR kp ρ f y) Q→wpAny (model b.prog b.w) A (execs ss env) Q E s
noncomputable abbrev Swhl (b:BS) (m:Nat) (r:Ops):Prop:=∀ {sc g t bd n env W f W' A kp ρ s}{R:Result→Shared→Prop},r.whl g ((cmp ce n).t sc t) ((cmp ce n).ss sc bd) W=some (f,W')→EnvR b kp ρ sc g env→AOk m A→SR b kp ρ W s →
  Back b kp ρ W' (fun kp ρ y=>FlR kp ρ f y) (fun y s'=>R (.ok y) s')→codeAny (model b.prog b.w) A (.whileLoop t bd [] env) R s
noncomputable abbrev Sfrs (b:BS) (m:Nat) (r:Ops):Prop:=∀ {sc g nm p c x i it bd n env W f W' A kp ρ s}{R:Result→Shared→Prop},r.frs g c x i ((cmp ce n).ss sc bd) W=some (f,W')→tgt ce sc (.Name nm p)=some (c,x)→nth ρ i=some it→EnvR b kp ρ sc g env→AOk m A→SR b kp ρ W s →
  Back b kp ρ W' (fun kp ρ y=>FlR kp ρ f y) (fun y s'=>R (.ok y) s')→codeAny (model b.prog b.w) A (.forLoop (.Name nm p) (.ref it) bd [] env) R s
noncomputable abbrev Scpl (b:BS) (m:Nat) (r:Ops):Prop:=∀ {sc g elt nm p c x i it ifs acc ac n env iter W W' A kp ρ s sc' ps}{R:Result→Shared→Prop},r.cpl g ((cmp ce n).e sc elt) c x i ((cmp ce n).ts sc ifs) acc W=some W'→fewIfs ifs=true→tgt ce sc (.Name nm p)=some (c,x)→nth ρ i=some it→nth ρ acc=some ac→EnvR b kp ρ sc g env→AOk m A→SR b kp ρ W s →
  (∀ kp' ρ' s',Le kp ρ kp' ρ'→SR b kp' ρ' W' s'→R (.ok .next) s')→codeAny (model b.prog b.w) A (.compLoop (.ListComp elt [⟨.Name nm p,iter,ifs,0⟩] sc' ps) 0 (.ref it) (.ref ac) env) R s
noncomputable abbrev Suse (b:BS) (m:Nat) (r:Ops):Prop:=∀ {sc g elt gens sc' ps n env W v W₁ W' A kp ρ s nm p x}{Q:Unit→Shared→Prop}{E:Value→Shared→Prop},r.ev g ((cmp ce n).e sc (.ListComp elt gens sc' ps)) W=some (v,W₁)→stName g false x v W₁=some W'→tgt ce sc (.Name nm p)=some (false,x) →
  EnvR b kp ρ sc g env→AOk m A→SR b kp ρ W s→(∀ kp' ρ' s',Le kp ρ kp' ρ'→SR b kp' ρ' W' s'→Q () s')→wpAny (model b.prog b.w) A (evalThenUse (.ListComp elt gens sc' ps) env (assign (.Name nm p) env)) Q E s
noncomputable abbrev Scall (b:BS) (m:Nat) (r:Ops):Prop:=∀ {f vs W v W' fx xs A kp ρ s}{Q:Value→Shared→Prop}{E:Value→Shared→Prop},r.call f vs W=some (v,W')→VR kp ρ f fx→VRs kp ρ vs xs→AOk m A→SR b kp ρ W s →
  Back b kp ρ W' (fun kp ρ y=>VR kp ρ v y) Q→wpAny (model b.prog b.w) A (PySem.call fx xs []) Q E s
noncomputable abbrev ScallC (b:BS) (m:Nat) (r:Ops):Prop:=∀ {f vs W v W' fx xs A kp ρ s}{Q:Value→Shared→Prop}{E:Value→Shared→Prop},r.call f vs W=some (v,W')→noB f=true→VR kp ρ f fx→VRs kp ρ vs xs→AOk m A→SR b kp ρ W s →
  Back b kp ρ W' (fun kp ρ y=>VR kp ρ v y) Q→codeAny (model b.prog b.w) A (.call fx ⟨xs,[]⟩) (CallBack Q E) s
noncomputable abbrev Snxt (b:BS) (m:Nat) (r:Ops):Prop:=∀ {i it W o W' A kp ρ s j mj}{Q:Option Value→Shared→Prop}{E:Value→Shared→Prop},r.nxt i W=some (o,W')→nth ρ i=some it→nth W j=some (.ns mj)→AOk m A→SR b kp ρ W s →
  Back b kp ρ W' (fun kp ρ y=>OptR kp ρ o y) Q→wpAny (model b.prog b.w) A (pyNext (.ref it)) Q E s
structure Sound (b:BS) (m:Nat) (r:Ops):Prop where
 bad:∀ g W,r.ev g .bad W=none
 badT:∀ g W,r.tst g .bad W=none
 badS:∀ g W,r.ex g .bad W=none
 ev:Sev b m r
 tst:Stst b m r
 tsts:Ststs b m r
 evs:Sevs b m r
 ex:Sex b m r
 exs:Sexs b m r
 whl:Swhl b m r
 frs:Sfrs b m r
 cpl:Scpl b m r
 use:Suse b m r
 call:Scall b m r
 callC:ScallC b m r
 nxt:Snxt b m r
section
variable {b:BS}{kp:Kp}{ρ:List Addr}{W:St}{s:Shared}{sc:Scope}{g:Ctx}{env:Env}{A:Around}{E:Value→Shared→Prop}
theorem SR.obj (R:SR b kp ρ W s) {i:Nat}{o:O}(h:nth W i=some o) (ha:alive o=true):∃ a ob,nth ρ i=some a∧s.heap.get? a=some ob∧OR kp ρ o ob:=R.rel i o h ha
theorem SR.at (R:SR b kp ρ W s) {i:Nat}{o:O}{a:Addr}(h:nth W i=some o) (ha:alive o=true) (hr:nth ρ i=some a):∃ ob,s.heap.get? a=some ob∧OR kp ρ o ob:=by
 refine bC fun hN=>?_;refine Q23 (R.rel i o h ha) ?_;intro c ob h1 h2 h3;rw[hr] at h1;obtain rfl:=sI h1;refine hN ?_;exact ⟨ob,h2,h3⟩
theorem nsR_ns {i:Nat}{m:List (Nat × V)}{a:Addr}(R:SR b kp ρ W s) (h:nth W i=some (.ns m)) (hr:nth ρ i=some a):∃ mm,s.heap.Ns a mm∧NsR kp ρ m mm:=by
 refine bC fun hN=>?_;obtain ⟨ob,h1,mm,h2,h3⟩:=R.at h rfl hr;refine hN ?_;exact ⟨mm,h2.ns h1,h3⟩
theorem ld_loc {n:Str}{x:Nat}{v:V}{Q:Value→Shared→Prop}(hi:idx n tab=some x) (hk:sc.names.lookup n=some .local) (e:ldLoc g x W=some v) (EN:EnvR b kp ρ sc g env) (R:SR b kp ρ W s)
  (h:∀ y,VR kp ρ v y→Q y s):wpAny (model b.prog b.w) A (loadName env n) Q E s:=by
 refine bC fun hN=>?_;revert e;refine ONs ?_;intro m hm e
 ·refine Q12 (nsR_ns R hm EN.lf) ?_;intro mm h1 h2;refine Q12 (h2 n x v hi e) ?_;intro y h3 h4;refine hN ?_;exact wpAny_loadName_local EN.kind (EN.kl n hk) h1 h3 (h y h4)
theorem notClassdict {n:Str}{x:Nat}(hi:idx n tab=some x):(n==("__classdict__":Str))=false:=by
 cases q:n==("__classdict__":Str) with
 | false=>rfl
 | true=>
  rw[eq_of_beq q] at hi;have:idx ("__classdict__":Str) tab=none:=by decide +kernel
  rw[this] at hi;exact nn hi
theorem ld_cel {n:Str}{x:Nat}{v:V}{Q:Value→Shared→Prop}(hi:idx n tab=some x) (hk:sc.names.lookup n=some .free∨sc.names.lookup n=some .cell) (e:ldCel g x W=some v) (EN:EnvR b kp ρ sc g env) (R:SR b kp ρ W s)
  (h:∀ y,VR kp ρ v y→Q y s):wpAny (model b.prog b.w) A (loadName env n) Q E s:=by
 refine bC fun hN=>?_;revert e;refine Bo ?_;intro l q e
 ·revert e;refine OCell ?_;intro w hm e
  ·subst e;refine Q12 (EN.cells n x l hi hk q) ?_;intro a h1 h2;obtain ⟨ob,h3,y,h4,h5⟩:=R.at hm rfl h1;refine Q12 (h5 _ rfl) ?_;intro z h6 h7;subst h6;have kk:env.kindOf n=some .free∨env.kindOf n=some .cell:=hk.elim (EN.kf n) fun k=>.inr (EN.kc n k);rcases kk with kk | kk
   ·refine hN ?_;exact wpAny_loadName_free EN.kind kk h2 ⟨ob,h3,h4⟩ (h _ h7) (notClassdict hi)
   ·refine hN ?_;exact wpAny_loadName_cell EN.kind kk h2 ⟨ob,h3,h4⟩ (h _ h7)
theorem tgt_inv {n:Str}{p:Pos}{c:Bool}{x:Nat}(ht:tgt ce sc (.Name n p)=some (c,x)):idx n tab=some x∧((c=false∧sc.names.lookup n=some .local)∨(c=true∧sc.names.lookup n=some .cell)):=by
 have ht':(match nameOf ce sc n with
  | .loc i=>some (false,i)
  | .cel i=>match sc.names.lookup n with
   | some .cell=>some (true,i)
   | ux=>none
  | ux=>none)=some (c,x):=ht
 unfold nameOf at ht';show idx n ce.tab=some x∧_;cases q:idx n ce.tab with
 | none=>rw[q] at ht';cases ht'
 | some i=>
  rw[q] at ht';cases k:sc.names.lookup n with
  | none=>rw[k] at ht';cases ht'
  | some kk=>
   rw[k] at ht';cases kk<;>dsimp only at ht'<;>first
    |(cases ht';exact ⟨rfl,.inl ⟨rfl,rfl⟩⟩)
    |(cases ht';exact ⟨rfl,.inr ⟨rfl,rfl⟩⟩)
    |(cases l:look n ce.glob with
      | none=>rw[l] at ht';cases ht'
      | some c=>rw[l] at ht';cases ht')
    | cases ht'
theorem st_name {n:Str}{p:Pos}{c:Bool}{x:Nat}{v:V}{y:Value}{W':St}{Q:Unit→Shared→Prop}(ht:tgt ce sc (.Name n p)=some (c,x)) (e:stName g c x v W=some W') (EN:EnvR b kp ρ sc g env) (R:SR b kp ρ W s)
  (hv:VR kp ρ v y) (h:∀ s',SR b kp ρ W' s'→Q () s'):wpAny (model b.prog b.w) A (storeName env n y) Q E s:=by
 refine bC fun hN=>?_;obtain ⟨hi,⟨rfl,hk⟩ | ⟨rfl,hk⟩⟩:=tgt_inv ht
 ·revert e;refine ONs ?_;intro m hm e
  ·obtain rfl:=sI e;obtain ⟨ob,h1,mm,h2,h3⟩:=R.at hm rfl EN.lf;refine hN ?_;refine wpAny_storeName_local (EN.kl n hk) (h2.ns h1) (fun h' hn hs=>h _ ?_) (by rw[EN.kind];rfl);refine Q12 (LCg.ns_obj hn) ?_;intro ob' h4 h5;exact R.upd (htk:=Nat.le_succ _) hm rfl EN.lf hs.extBut (by rw[hs.1];exact R.sz) h4 ⟨_,h5,h3.put hi hv⟩
 ·revert e;refine Bo ?_;intro l q2 e
  ·revert e;refine OCell ?_;intro v₀ hm e
   ·obtain rfl:=sI e;refine Q12 (EN.cells n x l hi (.inr hk) q2) ?_;intro a h1 h2;obtain ⟨ob,h3,z,h4,h5⟩:=R.at hm rfl h1;refine hN ?_;refine wpAny_storeName_cell EN.kind (EN.kc n hk) h2 ⟨ob,h3,h4⟩ fun h' hc hs=>h { s with heap:=h' } ?_;refine Q12 hc ?_;intro ob' h6 h7;exact R.upd (tk:=s.toks) hm rfl h1 hs.extBut (by rw[hs.1];exact R.sz) h6 ⟨_,h7,fun w q=>by cases q;exact ⟨y,rfl,hv⟩⟩
end
end Mine
end
section
open PySem PySem.W PySem.Spec PySem.Calls PyProof.Rows
namespace Mine
section
variable {kp:Kp}{ρ:List Addr}{x:Value}{xs:List Value}{P:Value→Prop}{R:List Value→Prop}
theorem VR.cn (h:VR kp ρ .none x) (k:P .none):P x:=by cases h;exact k
theorem VR.cb {b:Bool}(h:VR kp ρ (.bool b) x) (k:P (.bool b)):P x:=by cases h;exact k
theorem VR.ci {i:Int}(h:VR kp ρ (.int i) x) (k:∀ t,P (.int i t)):P x:=by cases h;exact k _
theorem VR.cs {s:List Nat}(h:VR kp ρ (.str s) x) (k:∀ t,P (.str ⟨s.toArray⟩ t)):P x:=by cases h;exact k _
theorem VR.cB {b:B}(h:VR kp ρ (.bi b) x) (k:P (biV b)):P x:=by cases h;exact k
theorem VR.ct {a:Addr}(h:VR kp ρ (.st a) x) (k:P (.ref a)):P x:=by cases h;exact k
theorem VR.cr {l:Nat}(h:VR kp ρ (.ref l) x) (k:∀ a,Mine.nth ρ l=some a→P (.ref a)):P x:=by cases h;exact k _ (by assumption)
theorem VR.cI {c d:Nat}(h:VR kp ρ (.inst c d) x) (k:∀ a dx,Mine.nth ρ d=some dx→kp a=some (instObj c dx)→P (.ref a)):P x:=by cases h;exact k _ _ (by assumption) (by assumption)
theorem VR.cu {vs:List V}(h:VR kp ρ (.tup vs) x) (k:∀ a xs n,kp a=some { cls:=.type "tuple",data:=.seq xs.toArray n }→VRs kp ρ vs xs→P (.ref a)):P x:=by cases h;exact k _ _ _ (by assumption) (by assumption)
theorem VR.cg {a b c:Int}(h:VR kp ρ (.range a b c) x) (k:∀ r t u v,kp r=some { cls:=.type "range",dict:=Option.none,data:=.fields #[.int a t,.int b u,.int c v],slots:=#[] }→P (.ref r)):P x:=by cases h;exact k _ _ _ _ (by assumption)
theorem VR.cf {ps:List Nat}{body:List S}{cl:List (Nat × Nat)}(h:VR kp ρ (.clo ps body cl) x) (k:∀ f,CloOk kp ρ ps body cl f→P (.ref f)):P x:=by cases h;exact k _ (by assumption)
theorem VR.cm {f self:V}(h:VR kp ρ (.meth f self) x) (k:∀ a x y,kp a=some (methodObj x y)→VR kp ρ f x→VR kp ρ self y→P (.ref a)):P x:=by cases h with | meth a b c=>exact k _ _ _ a b c
theorem VR.ck {vs:List V}(h:VR kp ρ (.klst vs) x) (k:∀ a xs,(∃ ob n,kp a=some ob∧ob.cls=.type "list"∧ob.data=.seq xs.toArray n)→VRs kp ρ vs xs→P (.ref a)):P x:=by cases h;exact k _ _ (by assumption) (by assumption)
theorem VRs.c0 (h:VRs kp ρ [] xs) (k:R []):R xs:=by cases h;exact k
theorem VRs.c1 {v:V}{vs:List V}(h:VRs kp ρ (v::vs) xs) (k:∀ x xs,VR kp ρ v x→VRs kp ρ vs xs→R (x::xs)):R xs:=by cases h;exact k _ _ (by assumption) (by assumption)
end
theorem bk {b:BS}{kp:Kp}{ρ:List Addr}{Q:Value→Shared→Prop}{a v:V}{c W':St}(e:some (a,c)=some (v,W')) (h:Back b kp ρ W' (fun kp ρ y=>VR kp ρ v y) Q):Back b kp ρ c (fun kp ρ y=>VR kp ρ a y) Q:=by cases e;exact h
section
variable {b:BS}{kp:Kp}{ρ:List Addr}{W:St}{s:Shared}{A:Around}{E:Value→Shared→Prop}
theorem eqI_iff {a b:Int}:eqI a b=true↔a=b:=by unfold eqI;exact decide_eq_true_iff
theorem leI_iff {a b:Int}:leI a b=true↔a≤b:=by unfold leI;exact decide_eq_true_iff
theorem ltI_iff {a b:Int}:ltI a b=true↔a<b:=by unfold ltI;exact decide_eq_true_iff
theorem smallI_iff {a:Int}:smallI a=true↔-1000000≤a∧a≤1000000:=by
 unfold smallI;rw[Bool.and_eq_true,leI_iff,leI_iff]
theorem ble_iff {a b:Nat}:Nat.ble a b=true↔a≤b:=⟨nL,nB⟩
theorem intBits_small {a:Int}(h:smallI a=true):Builtin.Int.intBits a≤64:=by
 have:=smallI_iff.mp h;exact intBits_le_64 (by omega) (by omega)
theorem back_tok {v:V}{y:Tok→Value}{Q:Value→Shared→Prop}(R:SR b kp ρ W s) (B:Back b kp ρ W (fun kp ρ y=>VR kp ρ v y) Q) (hv:∀ t,VR kp ρ v (y t)):Q (y s.toks) { s with toks:=s.toks+1 }:=
 B kp ρ _ _ (Le.refl _ _) (R.tok (htk:=Nat.le_succ _)) (hv _)
theorem s_binI {op:Operator}{x y z:Int}{t u:Tok}{Q:Value→Shared→Prop}(e:binI op x y=some z) (R:SR b kp ρ W s)
  (B:Back b kp ρ W (fun kp ρ v=>VR kp ρ (.int z) v) Q):wpAny (model b.prog b.w) A (binaryOp op (.int x t) (.int y u)) Q E s:=by
 have hq:∀ z',z'=z→Q (.int z' s.toks) { s with toks:=s.toks+1 }:=fun z' h=>by subst h;exact back_tok (y:=fun t=>.int z' t) R B fun t=>.int _ _
 cases op
 case Add=>obtain rfl:=sI e;exact PyProof.Rows.add_int (hq _ rfl)
 case Sub=>obtain rfl:=sI e;exact PyProof.Rows.sub_int (hq _ rfl)
 case Mult=>
  change (bif smallI x&&smallI y then some (x*y) else none)=some z at e;revert e;refine Bt ?_;intro q e;obtain rfl:=sI e;exact PyProof.Rows.mul_int (hq _ rfl) (IntMulOk.of_left (intBits_small (al q)))
 case Mod=>
  cases q:eqI y 0 with
  | true=>exact nn ((congrArg (fun c=>bif c then none else some (Int.fmod x y)) q).symm.trans e)
  | false=>
   replace e:=(congrArg (fun c=>bif c then none else some (Int.fmod x y)) q).symm.trans e;obtain rfl:=sI e;exact PyProof.Rows.mod_int' (fun h=>by rw[eqI_iff.mpr h] at q;cases q) (hq _ rfl)
 case FloorDiv=>
  cases q:(eqI y 0||!smallI y) with
  | true=>exact nn ((congrArg (fun c=>bif c then none else bif smallI x then some (Int.fdiv x y) else none) q).symm.trans e)
  | false=>
   replace e:(bif smallI x then some (Int.fdiv x y) else none)=some z:=(congrArg (fun c=>bif c then none else bif smallI x then some (Int.fdiv x y) else none) q).symm.trans e;rw[Bool.or_eq_false_iff] at q;revert e;refine Bt ?_;intro q2 e;obtain rfl:=sI e;have sy:=smallI_iff.mp (by simpa using q.2);exact PyProof.Rows.floordiv_int (fun h=>by rw[eqI_iff.mpr h] at q;cases q.1) (hq _ rfl) (.inl (PyProof.noPylong_small (by omega)))
 case Pow=>
  cases x with
  | negSucc n=>exact nn e
  | ofNat n=>
  cases y with
  | negSucc k=>exact nn e
  | ofNat k=>
   change (bif Nat.ble n 2&&Nat.ble k 40 then some (Int.ofNat (n^k)) else none)=some z at e;revert e;refine Bt ?_;intro q e;obtain rfl:=sI e;have q1:=al q;have q2:=ar q;have h1:=ble_iff.mp q1;have h2:=ble_iff.mp q2;refine PyProof.Rows.pow_int (Int.natCast_nonneg k) ?_ (hq _ ?_)
   ·have:Builtin.Int.intBits (Int.ofNat n)≤64:=intBits_le_64 (by show -(2^64:Int)<(n:Int);omega) (by show (n:Int)<2^64;omega);have h3:(Builtin.Int.intBits (Int.ofNat n):Int)*(k:Int)≤64*40:=Int.mul_le_mul (by omega) (by omega) (by omega) (by omega);exact Int.le_trans h3 (by decide)
   ·show (Int.ofNat n)^k=Int.ofNat (n^k);exact (Int.natCast_pow n k).symm
 case LShift=>
  cases x with
  | negSucc n=>exact nn e
  | ofNat n=>
  cases y with
  | negSucc k=>exact nn e
  | ofNat k=>
   change (bif Nat.ble k 40&&smallI (.ofNat n) then some (Int.ofNat (n*2^k)) else none)=some z at e;revert e;refine Bt ?_;intro q e;obtain rfl:=sI e;have q1:=al q;have q2:=ar q;have h1:=ble_iff.mp q1;have h2:=smallI_iff.mp q2;refine PyProof.Rows.lshift_int_small (Int.natCast_nonneg k) (by show (k:Int)≤1000000;omega) ?_ (hq _ ?_)
   ·show n<2^64;have:(n:Int)≤1000000:=h2.2;omega
   ·show Int.ofNat n*2^k=Int.ofNat (n*2^k);simp
 case RShift=>
  cases x with
  | negSucc n=>exact nn e
  | ofNat n=>
  cases y with
  | negSucc k=>exact nn e
  | ofNat k=>
   change (bif Nat.ble k 40 then some (Int.ofNat (n/2^k)) else none)=some z at e;revert e;refine Bt ?_;intro q e;obtain rfl:=sI e;refine PyProof.Rows.rshift_int (Int.natCast_nonneg k) (hq _ ?_);show Int.fdiv (Int.ofNat n) (2^k)=Int.ofNat (n/2^k);rw[Int.fdiv_eq_ediv_of_nonneg _ (by exact Int.le_of_lt (Int.pow_pos (by decide)))];simp
 case BitAnd=>
  cases x with
  | negSucc n=>exact nn e
  | ofNat n=>
  cases y with
  | negSucc k=>exact nn e
  | ofNat k=>
   obtain rfl:=sI e;exact PyProof.Rows.and_int (hq _ rfl)
 case BitXor=>obtain rfl:=sI e;exact PyProof.Rows.xor_int (hq _ rfl)
 all_goals exact nn e
theorem SR.isList (R:SR b kp ρ W s) {l:Nat}{vs:List V}{a:Addr}(h:nth W l=some (.list vs)) (hr:nth ρ l=some a):
  ∃ xs n,IsL s.heap a (List.toArray xs) n∧VRs kp ρ vs xs:=by
 refine bC fun hN=>?_;obtain ⟨ob,h1,xs,n,h2,h3⟩:=R.at h rfl hr;subst h2;refine hN ?_;exact ⟨xs,n,h1,h3⟩
theorem isList_of {h:Heap}{a:Addr}{xs:List Value}{n:Nat}(e:IsL h a xs.toArray n):h.IsList a xs.toArray:=⟨_,e,rfl,n,rfl⟩
theorem SR.turn (R:SR b kp ρ W s) {l:Nat}{vs us:List V}{a:Addr}{xs ys:List Value}{n tk:Nat}(f:Array Value→Array Value) (h:nth W l=some (.list vs)) (hr:nth ρ l=some a) (hx:IsL s.heap a xs.toArray n) (e:f xs.toArray=ys.toArray)
  (hu:VRs kp ρ us ys) (htk:s.toks≤tk:=by exact Nat.le.refl):SR b kp ρ (setAt W l (.list us)) { s with heap:=s.heap.update a (Obj.mapSeq f),toks:=tk }:=
 R.upd (tk:=tk) h rfl hr (Heap.SameBut.update ..).extBut (by rw[(Heap.SameBut.update ..).1];exact R.sz) (IsL.update hx f) ⟨ys,_,by rw[e],hu⟩ htk
theorem repN_VRs {kp:Kp}{ρ:List Addr}{vs:List V}{xs:List Value}(h:VRs kp ρ vs xs):∀ n:Nat,VRs kp ρ (repN n vs) (List.flatten (List.replicate n xs)):=by
 intro z0;induction z0 with
 | zero=>
  exact .nil
 | succ n ih0=>
  rw[KF,List.replicate_succ,List.flatten_cons];exact h.app (ih0)
theorem foldl_app (xs:Array Value):∀ (n:Nat) (a:Array Value),(List.replicate n xs).foldl (fun x y=>x++y) a=a++(List.flatten (List.replicate n xs.toList)).toArray:=by
 intro z0;induction z0 with
 | zero=>
  intro a;simp
 | succ n ih0=>
  intro a;rw[List.replicate_succ,List.foldl_cons,ih0,List.replicate_succ,List.flatten_cons];apply Array.ext';simp
theorem fits_of {x:Int}(hlo:-(2^63:Int)≤x) (hhi:x<2^63):¬ (!Builtin.List.listFitsIndex x)=true:=by
 simp[Builtin.List.listFitsIndex];omega
theorem back_list {vs:List V}{xs:List Value}{Q:Value→Shared→Prop}(R:SR b kp ρ W s) (B:Back b kp ρ (W++[.list vs]) (fun kp ρ y=>VR kp ρ (.ref (len W)) y) Q) (h:VRs kp ρ vs xs) (n:Nat):
  Q (.ref s.heap.objs.size) { s with heap:=s.heap.push (listOf xs.toArray n) }:=
 B kp (ρ++[s.heap.objs.size]) _ _ (leR _ _ _)
  (R.alloc (tk:=s.toks) (fun ux uy e=>Heap.get?_push_of_some _ e) (Nat.le_refl _) (Heap.get?_push_size _ rfl) ⟨xs,n,rfl,h.mono (leR _ _ _)⟩)
  (.ref (by rw[← R.len,nth_app_len];rfl))
set_option maxRecDepth 100000 in
theorem s_binop {op:Operator}{a c v:V}{x y:Value}{W':St}{m:Nat}{Q:Value→Shared→Prop}(e:binop op a c W=some (v,W')) (ha:VR kp ρ a x) (hc:VR kp ρ c y) (_hA:AOk (m+1) A) (R:SR b kp ρ W s)
  (B:Back b kp ρ W' (fun kp ρ y=>VR kp ρ v y) Q):wpAny (model b.prog b.w) A (binaryOp op x y) Q E s:=by
 revert ha;apply onK_i e<;>clear e
 ·
  intro i e ha;revert e;refine OInt ?_;rintro j rfl e;apply VR.ci ha;intro ux;apply VR.ci hc;intro ux;revert e;refine Bo ?_;intro z q e;replace B:=bk e B;exact s_binI q R B
 ·
  intro p e ha;revert e;refine OStr ?_;rintro q rfl e;apply VR.cs ha;intro ux;apply VR.cs hc;intro ux;have o:=isAdd_i (bt e);subst o;replace e:=bv e;revert e;refine Bt ?_;intro z e;replace B:=bk e B;have hz:=ble_iff.mp z;rw[len_eq,len_eq] at hz;refine wpAny_with_toks (Nat.le_refl s.toks) (PyProof.Rows.add_str (fun t' tk htk=>?_) ?_)
  ·refine B kp ρ _ _ (Le.refl _ _) (R.tok htk) ?_;have:(({ cps:=p.toArray }:Str)++{ cps:=q.toArray })={ cps:=(p++q).toArray }:=by
    show Str.mk _=_;simp
   rw[this];exact .str _ _
  ·show p.toArray.size+q.toArray.size≤sizeLine;rw[List.size_toArray,List.size_toArray];exact lT hz (by decide)
 ·
  intro l e ha;revert e;refine ORef ?_;rintro m' rfl e;apply VR.cr ha;intro ux hl;apply VR.cr hc;intro ux hm;have o:=isAdd_i (bt e);subst o;replace e:=bv e;refine bC fun hN8=>?_;revert e;refine OL ?_;intro p e1 e;revert e;refine OL ?_;intro q e2 e;revert e;refine Bt ?_;intro z e;replace B:=bk e B;have hz:=ble_iff.mp z;refine Q22 (R.isList e1 hl) ?_;intro xs n h1 h2;refine Q22 (R.isList e2 hm) ?_;intro ys n' h3 h4;have hsz:xs.toArray.size+ys.toArray.size≤sizeLine:=by
   rw[List.size_toArray,List.size_toArray,h2.length,h4.length];exact lT hz (by decide)
  refine hN8 ?_;refine concat_meets ⟨_,h1,rfl⟩ ⟨_,h3,rfl⟩ noFill_list_add seq_list_add PySem.F.slot_list_add PySem.F.entry_list_add (PySem.F.args_list_add_2 _ _) (list_addW _ _ xs.toArray ys.toArray n n' none none #[] #[] hsz) ⟨h1,h3,?_⟩;have:xs.toArray++ys.toArray=(xs++ys).toArray:=by simp
  rw[this];exact back_list R B (h2.app h4) 0
set_option maxRecDepth 100000 in
theorem s_mul {xs:List Value}{k:Nat}{l:Addr}{nn:Nat}{u:Tok}{vs:List V}{Q:Value→Shared→Prop}(h1:s.heap.get? l=some { cls:=.type "list",dict:=none,data:=.seq xs.toArray nn,slots:=#[] }) (hk:k≤1000) (hp:len vs≤1000)
  (h2:VRs kp ρ vs xs) (R:SR b kp ρ W s) (B:Back b kp ρ (W++[.list (repN k vs)]) (fun kp ρ y=>VR kp ρ (.ref (len W)) y) Q):wpAny (model b.prog b.w) A (binaryOp .Mult (.ref l) (.int (Int.ofNat k) u)) Q E s:=by
 have hx:xs.toArray.size≤1000:=by rw[List.size_toArray,h2.length];exact hp
 have hm:xs.toArray.size*k≤1000000:=Nat.mul_le_mul hx hk;have hk':(Int.ofNat k).toNat=k:=rfl;have e0:Int.ofNat k=(k:Int):=rfl;refine wpAny_binaryOp_repeat_ref (T:="list") (U:="int") (by decide) ⟨_,h1,rfl⟩ (fun s'=>typeIs_int s' _ u) noFill_list_mul F.fills_int_mul F.slot_int_rmul repeat_list F.slot_int_index.lookup
  (call_meets F.slot_int_rmul (typeIs_int s _ u) F.entry_int_rmul (F.args_int_rmul_2 _ _) (int___rmul___int_list _ u _ xs.toArray nn)
   ⟨h1,rfl,⟨_,h1,rfl⟩,call_meets F.slot_list_mul ⟨_,h1,rfl⟩ F.entry_list_mul (F.args_list_mul_2 _ _)
    (AutoListH.list___mul___list_int_3 _ xs.toArray nn _ u ?_ ?_ ?_)
    ⟨h1,?_⟩⟩)
 ·rw[e0];have a1:-(2^63:Int)≤(k:Int):=by omega
  have a2:(k:Int)<2^63:=by omega
  exact fits_of a1 a2
 ·rw[hk'];omega
 ·rw[hk'];intro h;have h':xs.toArray.size*k>sizeLine:=of_decide_eq_true h;have:sizeLine=16777216:=by decide
  exact Nat.not_le_of_lt (lq2 [_,_] (.a (.v 0) (.k 1)) (.k 16777216) (.a (.v 0) (.k 1)) (.v 1) (.v 1) (.k 1000000) h' hm rfl) (Nat.le_of_eq this.symm)
 ·rw[foldl_app,hk'];have eb:(#[]:Array Value)++(List.flatten (List.replicate (if xs.toArray.isEmpty=true then 0 else k) xs.toArray.toList)).toArray=(List.flatten (List.replicate k xs)).toArray:=by
   cases xs with
   | nil=>simp
   | cons a r=>simp
  rw[eb];exact back_list R B (repN_VRs h2 k) 0
end
section
variable {b:BS}{kp:Kp}{ρ:List Addr}{W:St}{s:Shared}{A:Around}{E:Value→Shared→Prop}
theorem nbeq (x y:Nat):Nat.beq x y=(x==y):=by
 cases h:x==y with
 | true=>exact Nat.beq_eq ▸ (by simpa using h)
 | false=>exact Bool.eq_false_iff.mpr fun q=>by rw[nE q,beq_self_eq_true] at h;cases h
theorem beqL_eq:∀ (a c:List Nat),beqL a c=(a==c)
 | [],[]=>rfl
 | [],ux::uy=>rfl
 | ux::uy,[]=>rfl
 | x::r,y::t=>by
  dsimp only[Ys,Yt];simp only[beqL_eq r t,nbeq];rfl
theorem eqV_at {v w:V}{x y:Value}{t:Bool}(h1:VR kp ρ v x) (h2:VR kp ρ w y) (e:eqV v w=some t) (A:Around) (s:Shared):SeqAt.EqAt A s x y t:=by
 revert h1;apply onK_i e<;>clear e
 ·intro i e h1;revert e;refine OInt ?_;rintro j rfl e;apply VR.ci h1;intro ux;apply VR.ci h2;intro ux;obtain rfl:=sI e;exact (MeetsSeq.EqGives.int _ _ _ _).at A s
 ·intro p e h1;revert e;refine OStr ?_;rintro q rfl e;apply VR.cs h1;intro t1;apply VR.cs h2;intro t2;obtain rfl:=sI e;have:=(SeqRoads2.EqGives.str (Str.mk p.toArray) (Str.mk q.toArray) t1 t2).at A s;simp only[beqL_eq];exact this
 ·intro ux e;exact nn e
theorem eqEl_at:∀ {vs ws:List V}{xs ys:List Value}{t:Bool},VRs kp ρ vs xs→VRs kp ρ ws ys→eqEl vs ws=some t →
  xs.length=ys.length∧∃ e:Nat→Bool,(∀ (A:Around) (s:Shared) j (h1:j<xs.length) (h2:j<ys.length),SeqAt.EqAt A s xs[j] ys[j] (e j))∧(List.range xs.length).all e=t:=by
 intro vs;induction vs with
 | nil=>
  intro ws xs ys t h1 h2 e;apply VRs.c0 h1;cases ws with
  | nil=>apply VRs.c0 h2;obtain rfl:=sI e;exact ⟨rfl,fun ux=>true,fun ux uy j h1 uz=>absurd h1 (Nat.not_lt_zero _),rfl⟩
  | cons ux uy=>exact nn e
 | cons v vs ih=>
  intro ws xs ys t h1 h2 e;cases ws with
  | nil=>exact nn e
  | cons w ws=>
   apply VRs.c1 h1;intro ux uy a1 a2;apply VRs.c1 h2;intro ux uy b1 b2;revert e;refine Bo ?_;intro t1 q1 e;revert e;refine Bo ?_;intro u1 q2 e;obtain rfl:=sI e;obtain ⟨hl,e',h3,h4⟩:=ih a2 b2 q2;refine ⟨by rw[List.length_cons,List.length_cons,hl],fun j=>match j with | 0=>t1 | j+1=>e' j,?_,?_⟩
   ·intro A s j k1 k2;cases j with
    | zero=>exact eqV_at a1 b1 q1 A s
    | succ j=>exact h3 A s j (Nat.lt_of_succ_lt_succ k1) (Nat.lt_of_succ_lt_succ k2)
   ·simp only[List.length_cons,List.range_succ_eq_map,List.all_cons,List.all_map];simp only[← h4];rfl
theorem eqVs_at {vs ws:List V}{xs ys:List Value}{t:Bool}(h1:VRs kp ρ vs xs) (h2:VRs kp ρ ws ys) (e:eqVs vs ws=some t):
  (xs.length≠ys.length∧t=false)∨(xs.length=ys.length∧∃ e:Nat→Bool,(∀ (A:Around) (s:Shared) j (h1:j<xs.length) (h2:j<ys.length),SeqAt.EqAt A s xs[j] ys[j] (e j))∧(List.range xs.length).all e=t):=by
 unfold eqVs at e;cases q:Nat.beq (len vs) (len ws) with
 | true=>rw[q] at e;exact .inr (eqEl_at h1 h2 e)
 | false=>
  rw[q] at e;obtain rfl:=sI e;refine .inl ⟨fun h=>?_,rfl⟩;simp only[h1.length,h2.length] at h;rw[h] at q;rw[Nat.beq_refl] at q;cases q
theorem inInts_at:∀ {vs:List V}{xs:List Value}{i:Int}{t:Bool},VRs kp ρ vs xs→inInts i vs=some t→∃ ns,IntsAre xs ns∧ns.any (·==i)=t:=by
 intro vs;induction vs with
 | nil=>intro xs i t h e;apply VRs.c0 h;obtain rfl:=sI e;exact ⟨[],.nil,rfl⟩
 | cons v vs ih=>
  intro xs i t h e;apply VRs.c1 h;intro ux uy a1 a2;revert e;refine OInt ?_;rintro j rfl e
  ·apply VR.ci a1;intro u;revert e;refine Bo ?_;intro t' q e
   ·obtain rfl:=sI e;refine Q12 (ih a2 q) ?_;intro ns h1 h2;refine ⟨j::ns,.cons j u h1,?_⟩;simp only[List.any_cons,h2];have:(j==i)=eqI j i:=by
     cases z:eqI j i with
     | true=>rw[eqI_iff.mp z];exact beq_self_eq_true _
     | false=>exact Bool.eq_false_iff.mpr fun w=>by rw[eqI_iff.mpr (eq_of_beq w)] at z;cases z
    rw[this]
theorem eqI_beq (a c:Int):(a==c)=eqI a c:=by
 cases z:eqI a c with
 | true=>rw[eqI_iff.mp z];exact beq_self_eq_true _
 | false=>exact Bool.eq_false_iff.mpr fun w=>by rw[eqI_iff.mpr (eq_of_beq w)] at z;cases z
theorem s_cmpI {op:CmpOp}{i j:Int}{t u:Tok}{r:Bool}{Q:Value→Shared→Prop}(e:cmpI op i j=some r) (h:Q (.bool r) s):wpAny (model b.prog b.w) A (compareOp op (.int i t) (.int j u)) Q E s:=by
 cases op
 case Lt=>obtain rfl:=sI e;exact PyProof.Rows.lt_int h
 case Gt=>obtain rfl:=sI e;exact PyProof.Rows.gt_int h
 case LtE=>obtain rfl:=sI e;exact PyProof.Rows.le_int h
 case GtE=>obtain rfl:=sI e;exact PyProof.Rows.ge_int h
 case Eq=>obtain rfl:=sI e;exact PyProof.Rows.eq_int (by rw[eqI_beq];exact h)
 case NotEq=>obtain rfl:=sI e;exact PyProof.Rows.ne_int (by show Q (.bool (!(i==j))) s;rw[eqI_beq];exact h)
 all_goals exact nn e
theorem s_eqL {l m:Addr}{xs ys:List Value}{p q:List V}{t:Bool}{n:Nat}{Q:Value→Shared→Prop}(h1:s.heap.IsList l xs.toArray) (h2:VRs kp ρ p xs) (h3:s.heap.IsList m ys.toArray) (h4:VRs kp ρ q ys) (hA:AOk n A)
  (e:eqVs p q=some t) (h:Q (.bool t) s):wpAny (model b.prog b.w) A (compareOp .Eq (.ref l) (.ref m)) Q E s:=by
 refine bC fun hN=>?_;rcases eqVs_at h2 h4 e with ⟨ne,rfl⟩ | ⟨el,f,h5,h6⟩
 ·refine hN ?_;exact SeqAt.eq_list_lengthsAt h1 h3 (by rw[List.size_toArray,List.size_toArray];exact bne_iff_ne.mpr ne) hA.cunits h
 ·refine hN ?_;refine SeqAt.eq_listAt (e:=f) h1 h3 (by rw[List.size_toArray,List.size_toArray];exact el) hA.cunits (fun j k1 k2=>?_) (by rw[List.size_toArray,h6];exact h);rw[List.size_toArray] at k1 k2;exact h5 A.in1 s j k1 k2
theorem s_neL {l m:Addr}{xs ys:List Value}{p q:List V}{t:Bool}{n:Nat}{Q:Value→Shared→Prop}(h1:s.heap.IsList l xs.toArray) (h2:VRs kp ρ p xs) (h3:s.heap.IsList m ys.toArray) (h4:VRs kp ρ q ys) (hA:AOk n A)
  (e:eqVs p q=some t) (h:Q (.bool (!t)) s):wpAny (model b.prog b.w) A (compareOp .NotEq (.ref l) (.ref m)) Q E s:=by
 refine bC fun hN=>?_;rcases eqVs_at h2 h4 e with ⟨ne,rfl⟩ | ⟨el,f,h5,h6⟩
 ·refine hN ?_;exact SeqAt.RcNeAt.lists_lengths h1 h3 (by rw[List.size_toArray,List.size_toArray];exact bne_iff_ne.mpr ne) hA.cunits b.prog b.w E Q h
 ·refine hN ?_;refine SeqAt.RcNeAt.lists (e:=f) h1 h3 (by rw[List.size_toArray,List.size_toArray];exact el) hA.cunits (fun j k1 k2=>?_) b.prog b.w E Q (by rw[List.size_toArray,h6];exact h);rw[List.size_toArray] at k1 k2;exact h5 A.in1 s j k1 k2
theorem isNone_is {v:V}{x:Value}(h:VR kp ρ v x):(x==Value.none)=isNone v:=
 VR.rec (motive_1:=fun v x ux=>(x==Value.none)=isNone v) (motive_2:=fun ux uy uz=>True) rfl (fun ux=>rfl) (fun ux uy=>rfl) (fun ux uy=>rfl) (fun b=>by cases b<;>rfl) (fun ux=>rfl) (fun ux=>rfl) (fun ux uy=>rfl) (fun ux uy uz=>rfl) (fun ux=>rfl) (fun ux=>rfl) (fun ux uy uz uw ut=>rfl) (fun ux uy uz=>rfl) trivial (fun ux uy uz uw=>trivial) h
theorem s_inS {p q:List Nat}{t u:Tok}{Q:Value→Shared→Prop}(h:Q (.bool (isIn p q)) s):wpAny (model b.prog b.w) A (compareOp .In (.str (mkS p) t) (.str (mkS q) u)) Q E s:=by
 refine PySem.P.in_str ?_;have:(!(Builtin.Str.occurrences (mkS q) (mkS p) 0 (mkS q).length 1).isEmpty)=isIn p q:=rfl;exact h
theorem s_cmp {op:CmpOp}{a c:V}{x y:Value}{t:Bool}{m:Nat}{Q:Value→Shared→Prop}(e:cmpop op a c W=some t) (ha:VR kp ρ a x) (hc:VR kp ρ c y) (hA:AOk m A) (R:SR b kp ρ W s)
  (h:Q (.bool t) s):wpAny (model b.prog b.w) A (compareOp op x y) Q E s:=by
 cases z:isIs op with
 | true=>
  have o:=isIs_i z;subst o;have o:=isNone_i (bt e);subst o;apply VR.cn hc;obtain rfl:isNone a=t:=sI e;refine is_none ?_;rw[isNone_is ha];exact h
 | false=>
 replace e:=cf z e;cases z2:isIn2 op with
 | true=>
  have o:=isIn2_i z2;subst o;revert ha;apply onK_i (i:=fun i=>onRef c fun l=>onL (nth W l) (inInts i)) (s:=fun x=>onStr c fun y=>some (isIn x y)) (l:=fun ux=>none) e<;>clear e
  ·intro i e ha;revert e;refine ORef ?_;rintro l rfl e;apply VR.ci ha;intro u;apply VR.cr hc;intro ux hl;refine bC fun hN6=>?_;revert e;refine OL ?_;intro vs hv e;refine Q22 (R.isList hv hl) ?_;intro xs n h1 h2;refine Q12 (inInts_at h2 e) ?_;intro ns h3 h4;refine hN6 ?_;exact in_list_ints (isList_of h1) h3 (by rw[h4];exact h)
  ·intro p e ha;revert e;refine OStr ?_;rintro q rfl e;apply VR.cs ha;intro ux;apply VR.cs hc;intro ux;obtain rfl:=sI e;exact s_inS h
  ·intro ux e;exact nn e
 | false=>
 replace e:=cf z2 e;revert ha;apply onK_i e<;>clear e
 ·intro i e ha;revert e;refine OInt ?_;rintro j rfl e;apply VR.ci ha;intro ux;apply VR.ci hc;intro ux;exact s_cmpI e h
 ·intro p e ha;revert e;refine OStr ?_;rintro q rfl e;apply VR.cs ha;intro ux;apply VR.cs hc;intro ux;revert h;apply eqNe_i e<;>clear e
  ·intro e h;obtain rfl:=sI e;refine PySem.P.eq_str ?_;rw[beqL_eq] at h;exact h
  ·intro u e h;obtain rfl:=sI e;refine PySem.P.ne_str ?_;rw[beqL_eq] at h;exact h
 ·intro l e ha;revert e;refine ORef ?_;rintro m' rfl e;apply VR.cr ha;intro ux hl;apply VR.cr hc;intro ux hm;refine bC fun hN13=>?_;revert e;refine OL ?_;intro p e1 e;revert e;refine OL ?_;intro q e2 e;refine Q22 (R.isList e1 hl) ?_;intro xs n h1 h2;refine Q22 (R.isList e2 hm) ?_;intro ys n' h3 h4;refine hN13 ?_;revert h;apply eqNe_i e<;>clear e
  ·intro e h;exact s_eqL (isList_of h1) h2 (isList_of h3) h4 hA e h
  ·intro t' q' h;exact s_neL (isList_of h1) h2 (isList_of h3) h4 hA q' h
set_option tactic.hygienic true in
theorem s_tru {v:V}{x:Value}{t:Bool}{m:Nat}{Q:Bool→Shared→Prop}(e:truthyV v W=some t) (hv:VR kp ρ v x) (_hA:AOk m A) (R:SR b kp ρ W s)
  (h:∀ tk,s.toks≤tk→Q t { s with toks:=tk }):wpAny (model b.prog b.w) A (truthy x) Q E s:=by
 have h0:Q t s:=h s.toks (Nat.le_refl _);cases v
 case none=>apply VR.cn hv;obtain rfl:=sI e;exact wpAny_pure h0
 case bool b=>apply VR.cb hv;obtain rfl:=sI e;exact wpAny_pure h0
 case int i=>
  apply VR.ci hv;intro ux;obtain rfl:=sI e;refine PyProof.Rows.truthy_int ?_;show Q (!(i==0)) s;exact h0
 case str p=>
  apply VR.cs hv;intro u;revert e;refine Bt ?_;intro z e;obtain rfl:=sI e;have hz:=ble_iff.mp z;have hs:strMax=1000000:=rfl;have hl:(mkS p).length=len p:=by show p.toArray.size=len p;rw[List.size_toArray,len_eq]
  refine PySem.P.truthy_str ?_ ?_
  ·rw[hl];omega
  ·refine hl.symm ▸ ?_;have:(((len p:Nat):Int) != 0)=!Nat.beq (len p) 0:=by
    rw[nbeq];cases q:len p with
    | zero=>rfl
    | succ n=>simp[bne];omega
   rw[this];exact h _ (by exact lq0 [_] (.v 0) (.a (.a (.v 0) (.k 1)) (.k 1)) rfl)
 case ref l=>
  apply VR.cr hv;intro ux hl
  ·refine bC fun hN6=>?_;revert e;refine OL ?_;intro vs hvs e;revert e;refine Bt ?_;intro z e;obtain rfl:=sI e;have hz:=ble_iff.mp z;have hs:lstMax=100000:=rfl;refine Q22 (R.isList hvs hl) ?_;intro xs n h1 h2;have hx:xs.toArray.size=len vs:=by rw[List.size_toArray,h2.length]
   refine hN6 ?_;refine wpAny_truthy_list (isList_of h1) (by rw[hx];omega) ?_;have:(!xs.toArray.isEmpty)=!Nat.beq (len vs) 0:=by
    rw[nbeq,← hx];cases xs<;>simp
   simp only[this];exact h _ (by exact lq0 [_] (.v 0) (.a (.a (.v 0) (.k 1)) (.k 1)) rfl)
 all_goals exact nn e
theorem s_sub {a i v:V}{x y:Value}{value slice:Expr}{Q:Value→Shared→Prop}(e:getSub a i W=some v) (ha:VR kp ρ a x) (hi:VR kp ρ i y) (R:SR b kp ρ W s)
  (hs:∀ o k,(subscripted slice false o k)=operate [o,k] (getItem o k)) (h:∀ y,VR kp ρ v y→Q y s):wpAny (model b.prog b.w) A (subscriptTail value slice x y) Q E s:=by
 revert e;refine ORef ?_;rintro l rfl e;revert e;refine ONat ?_;rintro n rfl e
 ·apply VR.cr ha;intro ux hl;apply VR.ci hi;intro u
  ·refine bC fun hN2=>?_;revert e;refine OL ?_;intro vs hvs e;revert e;refine Bt ?_;intro q e;have e':nth vs n=some v:=e;refine Q22 (R.isList hvs hl) ?_;intro xs nn h1 h2;refine Q12 (h2.nth e') ?_;intro z h3 h4;have hz:=ble_iff.mp q;have hl':lstMax=100000:=rfl;refine hN2 ?_;exact tail_any (isList_of h1).typeIs PySem.slot_list_getitem.lookup (wpAny_getItem_list (isList_of h1) (Int.natCast_nonneg n) (by show (n:Int)<2^63;omega) (by show xs.toArray[n]?=some z;rw[List.getElem?_toArray];exact h3) (h z h4)) (hs _ _)
theorem s_setSub {a i v:V}{x y z:Value}{W':St}{Q:Unit→Shared→Prop}(e:setSub a i v W=some W') (ha:VR kp ρ a x) (hi:VR kp ρ i y) (hv:VR kp ρ v z) (R:SR b kp ρ W s)
  (h:∀ s',SR b kp ρ W' s'→Q () s'):wpAny (model b.prog b.w) A (setItem x y z) Q E s:=by
 revert e;refine ORef ?_;rintro l rfl e;revert e;refine ONat ?_;rintro n rfl e
 ·apply VR.cr ha;intro ux hl;apply VR.ci hi;intro u
  ·refine bC fun hN2=>?_;revert e;refine OL ?_;intro vs hvs e;revert e;refine Bt ?_;intro q e;obtain rfl:=sI e;have q1:=al q;have q2:=ar q;have hz:=ble_iff.mp q1;have hz2:n<len vs:=nL q2;have hl':lstMax=100000:=rfl;refine Q22 (R.isList hvs hl) ?_;intro xs nn h1 h2;have hx:xs.toArray.size=len vs:=by rw[List.size_toArray,h2.length]
   refine hN2 ?_;refine ki_setAt h1 (Int.natCast_nonneg n) (by show (n:Int)<2^63;omega) (by show (n:Int) < _;rw[hx];omega) (h { s with heap:=_ } ?_);exact R.turn (tk:=s.toks) (ys:=xs.set n z) _ hvs hl h1 (by show xs.toArray.setIfInBounds n z=_;simp) (h2.set hv n)
theorem clipN (a n:Nat):max (0:Int) (min (if (a:Int)<0 then (a:Int)+n else a) n)=((min a n:Nat):Int):=by
 rw[if_neg (by omega)];omega
theorem sr_nat (a c:Nat):sliceRange (a:Int) (c:Int) 1=(List.range (c-a)).map (fun k=>a+k):=by
 have e:(if (a:Int)<(c:Int) then ((c:Int)-a+1-1)/1 else 0).toNat=c-a:=by split<;>omega
 unfold sliceRange;dsimp only;rw[if_pos (by decide:(1:Int)>0),e];exact List.map_congr_left fun k ux=>by omega
theorem idx_nat (a c n:Nat):Builtin.Str.strSliceIndices (some (a:Int)) (some (c:Int)) 1 n=(List.range (min c n-min a n)).map (fun k=>min a n+k):=by
 rw[← sr_nat,← clipN a n,← clipN c n];rfl
theorem pickA {α:Type}(l:List α) (a c:Nat):(Builtin.Str.strSliceIndices (some (a:Int)) (some (c:Int)) 1 l.length).filterMap (l[·]?)=sliceL a c l:=by
 have hm:min a l.length+(min c l.length-min a l.length)≤l.length:=by
  rcases Nat.le_total (min a l.length) (min c l.length) with q | q
  ·rw[Nat.add_sub_of_le q];exact Nat.min_le_right _ _
  ·rw[Nat.sub_eq_zero_of_le q];exact Nat.min_le_right _ _
 simp only[idx_nat,StrLaws.picks l _ _ hm];unfold sliceL;rw[List.drop_take];rcases Nat.le_total a l.length with h | h
 ·rw[Nat.min_eq_left h,List.take_eq_take_iff,List.length_drop,Nat.sub_min_sub_right,Nat.sub_min_sub_right,Nat.min_assoc,Nat.min_self]
 ·simp only[Nat.min_eq_right h,List.drop_of_length_le (Nat.le_refl _),List.drop_of_length_le h,List.take_nil]
theorem picked (x:Str) (a c:Nat):(Builtin.Str.strSliceIndices (some (a:Int)) (some (c:Int)) 1 x.length).filterMap (x.cps[·]?)=sliceL a c x.cps.toList:=by
 have:=pickA x.cps.toList a c;simp only[Array.getElem?_toList] at this;exact this
theorem pick_eq (items:Array Value) (lo hi:Option Int):slicePick items lo hi none=((Builtin.Str.strSliceIndices lo hi 1 items.size).filterMap (items[·]?)).toArray:=rfl
theorem pickL (xs:List Value) (a c:Nat):((Builtin.Str.strSliceIndices (some (a:Int)) (some (c:Int)) 1 xs.toArray.size).filterMap (xs.toArray[·]?)).toArray=(sliceL a c xs).toArray:=by
 simp only[List.size_toArray,List.getElem?_toArray,pickA]
set_option tactic.hygienic true in
theorem bnd_R {v:V}{x:Value}{d n:Nat}(h:VR kp ρ v x) (e:bnd v d=some n):∃ o:Option (Int × Tok),x=partValue o∧IsPart x (o.map (·.1))∧((o=none∧n=d)∨∃ t,o=some ((n:Int),t)):=by
 cases v
 case none=>apply VR.cn h;exact ⟨none,rfl,.none,.inl ⟨rfl,(sI e).symm⟩⟩
 case int m=>
  cases m with
  | negSucc ux=>exact nn e
  | ofNat m=>
  apply VR.ci h;intro t;have:=sI (bv e);exact ⟨some (.ofNat m,t),rfl,.int _ _,.inr ⟨t,by rw[← this];rfl⟩⟩
 all_goals exact nn e
theorem sl_ie {lo hi:V}{xl xh:Value}{n m k:Nat}(h1:VR kp ρ lo xl) (h2:VR kp ρ hi xh) (e1:bnd lo 0=some n) (e2:bnd hi k=some m):
  ∃ ol oh:Option (Int × Tok),(xl=partValue ol∧IsPart xl (ol.map (·.1)))∧(xh=partValue oh∧IsPart xh (oh.map (·.1)))∧Builtin.Str.strSliceIndices (ol.map (·.1)) (oh.map (·.1)) 1 k=Builtin.Str.strSliceIndices (some (n:Int)) (some (m:Int)) 1 k:=by
 refine Q13 (bnd_R h1 e1) ?_;intro ol a1 a2 a3;refine Q13 (bnd_R h2 e2) ?_;intro oh b1 b2 b3;refine ⟨ol,oh,⟨a1,a2⟩,⟨b1,b2⟩,?_⟩;clear a1 a2 b1 b2 h1 h2 e1 e2;rcases a3 with ⟨rfl,rfl⟩ | ⟨ux,rfl⟩<;>rcases b3 with ⟨rfl,rfl⟩ | ⟨ux,rfl⟩
 ·exact (StrLaws.sliceIdx_none_lo _ _).trans (StrLaws.sliceIdx_none_hi _ _)
 ·exact StrLaws.sliceIdx_none_lo _ _
 ·exact StrLaws.sliceIdx_none_hi _ _
 ·rfl
theorem idx_len {a c n:Nat}(h:(Builtin.Str.strSliceIndices (some (a:Int)) (some (c:Int)) 1 n).length=n):n=0∨(a=0∧n≤c):=by
 simp only[idx_nat,List.length_map,List.length_range] at h;rcases Nat.eq_zero_or_pos n with z | z
 ·exact .inl z
 ·have h1:n≤min c n:=lT (Nat.le_of_eq h.symm) (Nat.sub_le _ _);refine .inr ⟨?_,lT h1 (Nat.min_le_left _ _)⟩;rcases Nat.eq_zero_or_pos a with q | q
  ·exact q
  ·exact absurd h (Nat.ne_of_lt (Nat.lt_of_lt_of_le (Nat.sub_lt (Nat.lt_of_lt_of_le z h1) (Nat.lt_min.mpr ⟨q,z⟩)) (Nat.min_le_right _ _)))
theorem slice_whole {a c:Nat}{q:List α}(h:q.length=0∨(a=0∧q.length≤c)):sliceL a c q=q:=by
 rcases h with h | ⟨rfl,h⟩
 ·rw[List.length_eq_zero_iff.mp h];simp[sliceL]
 ·simp[sliceL,List.take_of_length_le h]
theorem slc_inv {lo hi:V}{k L:Nat}{f:Nat→Nat→β}{y:β}(e:(do let l ← bnd lo 0;let h ← bnd hi k;bif Nat.ble k L then some (f l h) else none)=some y):∃ n m,bnd lo 0=some n∧bnd hi k=some m∧k≤L∧f n m=y:=by
 cases e1:bnd lo 0 with
 | none=>rw[e1] at e;exact nn e
 | some n=>
 cases e2:bnd hi k with
 | none=>rw[e1,e2] at e;exact nn e
 | some m=>
 rw[e1,e2] at e;exact ⟨n,m,rfl,rfl,ble_iff.mp (bt e),sI (bv e)⟩
theorem s_slcL {lo hi:V}{xl xh:Value}{n m:Nat}{vs:List V}{xs:List Value}{a:Addr}{value slice:Expr}{ops:List Value}{Q:Value→Shared→Prop}(e1:bnd lo 0=some n) (e2:bnd hi (len vs)=some m) (z:len vs≤lstMax) (h1:VR kp ρ lo xl) (h2:VR kp ρ hi xh) (k2:VRs kp ρ vs xs) (R:SR b kp ρ W s)
  (R':SR b kp ρ W { s with heap:=s.heap.push { cls:=.type "slice",data:=.fields #[xl,xh,.none] } })
  (k1:(s.heap.push { cls:=.type "slice",data:=.fields #[xl,xh,.none] }).IsList a xs.toArray)
  (ho:subscripted slice false (.ref a) (.ref s.heap.objs.size)=operate ops (getItem (.ref a) (.ref s.heap.objs.size)))
  (B:Back b kp ρ (W++[.list (sliceL n m vs)]) (fun kp ρ y=>VR kp ρ (.ref (len W)) y) Q):
  wpAny (model b.prog b.w) A (subscriptTail value slice (.ref a) (.ref s.heap.objs.size)) Q E { s with heap:=s.heap.push { cls:=.type "slice",data:=.fields #[xl,xh,.none] } }:=by
 refine Q23 (sl_ie h1 h2 e1 e2) ?_;intro ol oh bl bh ie;have hx:xs.toArray.size=len vs:=by rw[List.size_toArray,k2.length]
 have hb:xs.toArray.size≤sizeLine:=by rw[hx];exact lT z (by decide)
 refine tail_any (Heap.IsList.typeIs (s:={ s with heap:=s.heap.push { cls:=.type "slice",data:=.fields #[xl,xh,.none] } }) k1) PySem.slot_list_getitem.lookup ?_ ho;refine wpAny_getItem_list_slice (lo:=ol.map (·.1)) (hi:=oh.map (·.1)) (st:=none) k1 (Heap.IsSliceOf.new _ xl xh .none) bl.2 bh.2 .none (by decide) ?_ hb;rw[pick_eq,hx,ie,← hx,pickL];refine B kp (ρ++[_]) _ _ (leR _ _ _) (R'.alloc (tk:=s.toks) (fun ux uy e=>Heap.get?_push_of_some _ e) (Nat.le_refl _) (Heap.get?_push_size _ rfl) ⟨_,0,rfl,?_⟩) (.ref (by rw[← R.len,nth_app_len];rfl));exact ((k2.take m).drop n).mono (leR _ _ _)
set_option tactic.hygienic true in
theorem s_slc {a lo hi v:V}{x xl xh:Value}{W':St}{value slice:Expr}{Q:Value→Shared→Prop}(e:getSlc a lo hi W=some (v,W')) (ha:VR kp ρ a x) (h1:VR kp ρ lo xl) (h2:VR kp ρ hi xh) (R:SR b kp ρ W s)
  (hs:∀ o k,∃ ops,subscripted slice false o k=operate ops (getItem o k))
  (B:Back b kp ρ W' (fun kp ρ y=>VR kp ρ v y) Q):
  wpAny (model b.prog b.w) A (subscriptTail value slice x (.ref s.heap.objs.size)) Q E { s with heap:=s.heap.push { cls:=.type "slice",data:=.fields #[xl,xh,.none] } }:=by
 refine Q11 (hs x (.ref s.heap.objs.size)) ?_;intro ops ho;have R':SR b kp ρ W { s with heap:=s.heap.push { cls:=.type "slice",data:=.fields #[xl,xh,.none] } }:=R.ext (tk:=s.toks) (fun ux uy e=>Heap.get?_push_of_some _ e) (by rw[Heap.size_push];exact lT R.sz (Nat.le_succ _));clear hs;cases a
 case str q=>
  refine Q24 (slc_inv e) ?_;intro n m e1 e2 hz e;replace B:=bk (congrArg some e) B;revert ho;apply VR.cs ha;intro t ho;refine Q23 (sl_ie h1 h2 e1 e2) ?_;intro ol oh bl bh ie;have hq:len q=(mkS q).length:=by show len q=q.toArray.size;rw[List.size_toArray,len_eq]
  rw[hq] at ie;refine tail_any (T:="str") (typeIs_str _ _ t) (by exact PySem.F.slot_str_getitem.lookup) ?_ ho;refine wpAny_getItem_str_slice (l:=ol) (u:=oh) (st:=none) ⟨_,Heap.get?_push_size _ rfl,rfl,?_⟩ rfl ?_
  ·rw[bl.1,bh.1];rfl
  ·unfold sliceMade;split
   ·rename_i hc;have hl:(slicePicked (mkS q) ol oh none).length=(mkS q).length:=eq_of_beq (ar hc);have hw:=slice_whole (q:=q) (idx_len (a:=n) (c:=m) (by rw[← len_eq q,hq,← ie];exact hl));rw[hw] at B;exact B kp ρ _ _ (Le.refl _ _) R' (.str _ _)
   ·have pe:(slicePicked (mkS q) ol oh none).filterMap ((mkS q).cps[·]?)=sliceL n m q:=(congrArg _ ie).trans (picked _ _ _);refine pe.symm ▸ ?_;refine ⟨?_,B kp ρ _ _ (Le.refl _ _) (R'.ext (htk:=Nat.le_succ _) (tk:=s.toks+1) (fun ux uy e=>e) R'.sz) (.str _ _)⟩;show (sliceL n m q).toArray.size≤sizeLine;rw[List.size_toArray];unfold sliceL;rw[List.length_drop,List.length_take];rw[len_eq] at hz;exact lT (lT (Nat.sub_le _ _) (Nat.min_le_right _ _)) (lT hz (by decide))
 case ref l=>
  ·revert e;refine OL ?_;intro vs hvs e;refine Q24 (slc_inv e) ?_;intro n m e1 e2 hz e;replace B:=bk (congrArg some e) B;revert ho;apply VR.cr ha;intro a hl ho;refine Q22 (R'.isList hvs hl) ?_;intro xs ux k1 k2;exact s_slcL e1 e2 hz h1 h2 k2 R R' (isList_of k1) ho B
 case klst ws=>
  refine Q24 (slc_inv e) ?_;intro n m e1 e2 hz e;replace B:=bk (congrArg some e) B;revert ho;apply VR.ck ha;intro a xs g k2 ho;refine Q23 g ?_;intro ob nn g1 g2 g3;exact s_slcL e1 e2 hz h1 h2 k2 R R' ⟨ob,R'.keep _ _ g1,g2,nn,g3⟩ ho B
 all_goals exact nn e
end
theorem owner_ci:Manifest.owners.lookup (String.ofList ['r','o','t','a','r','e','t','i','_','e','l','b','a','l','l','a','c'].reverse)=some Manifest.sig_callable_iterator:=by kernel_rfl
theorem slot_ci_next:Slot "callable_iterator" "__next__" "callable_iterator.__next__":=
 .of (owner:="callable_iterator") (n:="__next__") (by rw[typeLookup_type,builtinLookup_eq_fast];kernel_rfl) (by decide +kernel) (by decide +kernel) (by decide +kernel)
  (by first | exact .inl (by decide +kernel) | exact .inr (by decide +kernel)) (by rw[isSubtype_type];kernel_rfl)
theorem entry_ci_next:entryFor table "callable_iterator.__next__"=some Builtin.«callable_iterator.__next__»:=entryFor_of_tree (by kernel_rfl)
theorem args_ci_next (a:Value):argsOk "callable_iterator.__next__" ⟨[a],[]⟩:=by
 unfold argsOk;rw[signature?_of (id:="callable_iterator.__next__") (n:=['_','_','t','x','e','n','_','_']) (o:=['r','o','t','a','r','e','t','i','_','e','l','b','a','l','l','a','c']) (by kernel_rfl) owner_ci];kernel_rfl
theorem slot_ci_iter:Slot "callable_iterator" "__iter__" "callable_iterator.__iter__":=
 .of (owner:="callable_iterator") (n:="__iter__") (by rw[typeLookup_type,builtinLookup_eq_fast];kernel_rfl) (by decide +kernel) (by decide +kernel) (by decide +kernel)
  (by first | exact .inl (by decide +kernel) | exact .inr (by decide +kernel)) (by rw[isSubtype_type];kernel_rfl)
theorem args_ci_iter (a:Value):argsOk "callable_iterator.__iter__" ⟨[a],[]⟩:=by
 unfold argsOk;rw[signature?_of (id:="callable_iterator.__iter__") (n:=['_','_','r','e','t','i','_','_']) (o:=['r','o','t','a','r','e','t','i','_','e','l','b','a','l','l','a','c']) (by kernel_rfl) owner_ci];kernel_rfl
theorem entry_ci_iter:entryFor table "callable_iterator.__iter__"=some Builtin.«dict_keyiterator.__iter__»:=
 entryFor_alias (id':="dict_keyiterator.__iter__") (by kernel_rfl) (by first | rfl | decide +kernel | (unfold String.splitOn;simp +decide [String.splitOnAux])) (by decide +kernel) (by kernel_rfl)
section
variable {prog:Program}{w:World}{A:Around}{E:Value→Shared→Prop}{s:Shared}
noncomputable abbrev ciObj (f se:Value):Obj:={ cls:=.type "callable_iterator",dict:=none,data:=.fields #[f,se,.bool false],slots:=#[] }
theorem ci_type {it:Addr}{f se:Value}(h:s.heap.get? it=some (ciObj f se)):s.TypeIs (.ref it) "callable_iterator":=⟨_,h,rfl⟩
theorem ci_iter {it:Addr}{f se:Value}{Q:Value→Shared→Prop}(hit:s.heap.get? it=some (ciObj f se)) (h:Q (.ref it) s):wpAny (model prog w) A (pyIter (.ref it)) Q E s:=by
 refine wpAny_pyIter_slot (ci_type hit) slot_ci_iter (wpAny_call_entry slot_ci_iter (ci_type hit) entry_ci_iter ?_ (args_ci_iter _));show wpAny _ _ (ret (.ref it)) _ _ s;exact wpAny_pure ⟨_,rfl,"callable_iterator",_,ci_type hit,slot_ci_next.lookup,h⟩
theorem callBorrowed_of {f:Value}{pos:List Value}{Q:Value→Shared→Prop}(h:wpAny (model prog w) A (PySem.call f pos []) Q E s):wpAny (model prog w) A (callBorrowed f pos) Q E s:=fun Γ p hΓ=>by
 have q:=h Γ p hΓ;unfold PySem.call at q;rw[Sem.wp_runValue] at q;unfold callBorrowed;rw[Sem.wp_call];refine wpCode_mono (fun r s' hr=>?_) q;cases r with
 | error e=>exact hr
 | ok fl=>
  cases fl with
  | ret v=>exact hr
  | _=>exact hr.elim
theorem borrows_meth {m fa:Addr}{sv:Value}{fo:Obj}{fd:FuncData}{Q:Bool→Shared→Prop}(hm:s.heap.get? m=some (methodObj (.ref fa) sv)) (hf:s.heap.get? fa=some fo) (hd:fo.data=.func fd) (h:Q true s):
  wpAny (model prog w) A (borrowsExactly (.ref m)) Q E s:=by
 refine wpAny_bind (wpAny_load hm ?_);show wpAny _ _ (load fa >>= _) _ _ s;refine wpAny_bind (wpAny_load hf ?_);rw[hd];exact wpAny_pure h
theorem ci_next {it m fa:Addr}{t:Tok}{sv:Value}{Q:Option Value→Shared→Prop}(hh:A.handled=none) (hit:s.heap.get? it=some (ciObj (.ref m) (.str ⟨#[]⟩ t)))
  (hm:s.heap.get? m=some (methodObj (.ref fa) sv)) (hf:∃ fo fd,s.heap.get? fa=some fo∧fo.data=.func fd)
  (hc:wpAny (model prog w) A.in1 (PySem.call (.ref m) [] []) (fun r s'=>∃ m t fa sv,s'.heap.get? it=some (ciObj (.ref m) (.str ⟨#[]⟩ t))∧s'.heap.get? m=some (methodObj (.ref fa) sv)∧(∃ fo fd,s'.heap.get? fa=some fo∧fo.data=.func fd) ∧
   ∃ x u,r=.str x u∧(x.cps≠#[]→Q (some r) s')∧(x.cps=#[]→∀ h',Heap.ExtBut it s'.heap h'→s'.heap.objs.size≤h'.objs.size→Q none { s' with heap:=h' })) (fun ux uy=>False) s):
  wpAny (model prog w) A (pyNext (.ref it)) Q E s:=by
 obtain ⟨fo,fd,hf,hfd⟩:=hf;refine wpAny_bind (wpAny_attempt (wpAny_callSpecial?_slot (name:=Str.ofString "__next__") (ci_type hit) slot_ci_next
  (wpAny_call_entry slot_ci_next (ci_type hit) entry_ci_next ?_ (args_ci_next _))))
 show wpAny _ _ (field (.ref it) 2 >>= _) _ _ s;refine wpAny_bind (wpAny_field hit rfl (x:=.bool false) rfl ?_);show wpAny _ _ (field (.ref it) 0 >>= _) _ _ s;refine wpAny_bind (wpAny_field hit rfl (x:=.ref m) rfl ?_);refine wpAny_bind (wpAny_attempt ?_);refine wpAny_bind (borrows_meth hm hf hfd ?_);rw[if_pos rfl];refine callBorrowed_of (wpAny_mono hc (fun r s' hr=>?_) (fun ux uy x=>x.elim));obtain ⟨m,t,fa,sv,hit',hm',⟨fo',fd',hf',hfd'⟩,x,u,rfl,q1,q2⟩:=hr;show wpAny _ _ (field (.ref it) 2 >>= _) _ _ s';refine wpAny_bind (wpAny_field hit' rfl (x:=.bool false) rfl ?_);show wpAny _ _ (field (.ref it) 1 >>= _) _ _ s';refine wpAny_bind (wpAny_field hit' rfl (x:=.str ⟨#[]⟩ t) rfl ?_);refine wpAny_bind (wpAny_holding (eqBool_str ?_));by_cases hx:x.cps=#[]
 ·have e:((Str.mk #[])==x)=true:=by rw[show x=Str.mk x.cps from rfl,hx];exact beq_self_eq_true _
  rw[e];show wpAny _ _ (rule _ >>= _) _ _ s';refine wpAny_bind (wpAny_rule ?_);refine wpAny_bind ?_;show wpAny _ _ (field (.ref it) 0 >>= _) _ _ s';refine wpAny_bind (wpAny_field hit' rfl (x:=.ref m) rfl ?_);refine wpAny_bind ?_;refine wpAny_bind (borrows_meth hm' hf' hfd' ?_);rw[if_pos rfl];refine wpAny_pure ?_;refine wpAny_bind (wpAny_setField hit' rfl (by simp) ?_);refine wpAny_bind (wpAny_setField (Heap.get?_update_self _ hit' rfl) rfl (by simp) ?_);refine wpAny_setField (Heap.get?_update_self _ (Heap.get?_update_self _ hit' rfl) rfl) rfl (by simp) ?_;show wpAny _ _ (newExc (.type "StopIteration") [] >>= _) _ _ _;refine wpAny_bind ?_;simp only[newExc,newTuple];refine wpAny_bind (wpAny_newObj_type ?_ (by size_fits));refine wpAny_bind (m:=firstArgMember _ _) (wpAny_of_eq (a:=Value.none) (by first | rfl | (simp only[firstArgMember];rfl)) ?_)
  refine wpAny_newObj_type ?_ (by size_fits);simp only[raiseNew];refine wpAny_bind (wpAny_handled ?_);rw[show A.in1.handled=none from hh];refine wpAny_bind (wpAny_pure (wpAny_throw ?_));refine wpAny_bind (wpAny_isInstance (T:="StopIteration") (b:=true) ⟨_,Heap.get?_push_size _ rfl,rfl⟩ isSubtype_stop ?_);refine wpAny_pure (q2 hx _ ?_ ?_)
  ·exact ((((Heap.SameBut.update ..).trans (Heap.SameBut.update ..)).trans (Heap.SameBut.update ..)).extBut.push _).push _
  ·rw[Heap.size_push,Heap.size_push,(((Heap.SameBut.update ..).trans (Heap.SameBut.update ..)).trans (Heap.SameBut.update ..)).1];exact lq0 [_] (.v 0) (.a (.a (.v 0) (.k 1)) (.k 1)) rfl
 ·have e:((Str.mk #[])==x)=false:=by
   cases q:(Str.mk #[])==x with
   | false=>rfl
   | true=>exact absurd (by rw[← eq_of_beq q]) hx
  rw[e];show wpAny _ _ (ret (.str x u)) _ _ s';exact wpAny_pure ⟨_,rfl,wpAny_pure (q1 hx)⟩
end
section
variable {b:BS}{kp:Kp}{ρ:List Addr}{W:St}{s:Shared}{A:Around}{E:Value→Shared→Prop}
theorem rng_sz {a c d:Int}(h:(eqI d 1||eqI d (-1))=true):Builtin.Range.rangeSize a c d=rngSz a c d:=by
 unfold Builtin.Range.rangeSize rngSz;rcases Bool.or_eq_true_iff.mp h with h | h
 ·have e:=eqI_iff.mp h;subst e;rw[if_pos (by decide),h,cond_true];by_cases q:a<c
  ·rw[if_pos q,ltI_iff.mpr q,cond_true];omega
  ·rw[if_neg q,show ltI a c=false from by unfold ltI;exact decide_eq_false q,cond_false]
 ·have e:=eqI_iff.mp h;subst e;rw[if_neg (by decide),show eqI (-1) 1=false from by decide,cond_false];by_cases q:c<a
  ·rw[if_pos q,ltI_iff.mpr q,cond_true,show (- -1:Int)=1 from rfl,Int.ediv_one];omega
  ·rw[if_neg q,show ltI c a=false from by unfold ltI;exact decide_eq_false q,cond_false]
theorem fitsLong {x:Int}(h1:-(2^40:Int)≤x) (h2:x≤2^40):Builtin.Range.rangeFitsLong x=true:=by
 unfold Builtin.Range.rangeFitsLong;simp;omega
theorem rng_small {a c d:Int}(ha:smallI a=true) (hc:smallI c=true) (h:(eqI d 1||eqI d (-1))=true):Builtin.Range.small a c d=true:=by
 have h1:=smallI_iff.mp ha;have h2:=smallI_iff.mp hc;have h3:-1≤d∧d≤1:=by
  rcases Bool.or_eq_true_iff.mp h with h | h<;>have e:=eqI_iff.mp h<;>subst e<;>decide
 have h4:0≤rngSz a c d∧rngSz a c d≤2000000:=by
  unfold rngSz;cases eqI d 1 with
  | true=>
   simp only[cond_true];by_cases q:a<c
   ·rw[ltI_iff.mpr q,cond_true];omega
   ·rw[show ltI a c=false from by unfold ltI;exact decide_eq_false q,cond_false];omega
  | false=>
   simp only[cond_false];by_cases q:c<a
   ·rw[ltI_iff.mpr q,cond_true];omega
   ·rw[show ltI c a=false from by unfold ltI;exact decide_eq_false q,cond_false];omega
 unfold Builtin.Range.small;rw[rng_sz h,fitsLong (by omega) (by omega),fitsLong (by omega) (by omega),fitsLong (by omega) (by omega),fitsLong (by omega) (by omega)];by_cases hd:d>0
 ·rw[if_pos hd,fitsLong (by omega) (by omega)];simp
 ·rw[if_neg hd,fitsLong (by omega) (by omega)];simp
theorem SR.get (R:SR b kp ρ W s) {a:Addr}{o:Obj}(h:kp a=some o):s.heap.get? a=some o:=R.keep a o h
theorem back_new {o:O}{ob:Obj}{Q:Value→Shared→Prop}{tk:Nat}(R:SR b kp ρ W s) (h:∀ kp' ρ' s',Le kp ρ kp' ρ'→SR b kp' ρ' (W++[o]) s'→nth ρ' (len W)=some s.heap.objs.size→Q (.ref s.heap.objs.size) s') (hf:ob.isFreed=false) (hO:OR kp (ρ++[s.heap.objs.size]) o ob) (htk:s.toks≤tk:=by exact Nat.le.refl):
  Q (.ref s.heap.objs.size) { s with heap:=s.heap.push ob,toks:=tk }:=
 h kp (ρ++[s.heap.objs.size]) _ (leR _ _ _) (R.alloc (tk:=tk) (fun ux uy e=>Heap.get?_push_of_some _ e) (Nat.le_refl _) (Heap.get?_push_size _ hf) hO htk) (by rw[← R.len,nth_app_len];rfl)
set_option tactic.hygienic true in
theorem s_iter {v:V}{x:Value}{i:Nat}{W':St}{Q:Value→Shared→Prop}(e:iterOf v W=some (i,W')) (hv:VR kp ρ v x) (R:SR b kp ρ W s)
  (h:∀ kp' ρ' it s',Le kp ρ kp' ρ'→SR b kp' ρ' W' s'→nth ρ' i=some it→Q (.ref it) s'):wpAny (model b.prog b.w) A (pyIter x) Q E s:=by
 cases v
 case range a c d=>
  revert e;refine Bt ?_;intro z e;refine Q02 (pj e) ?_;rintro rfl rfl;have z1:=al z;have z2:=ar z;have z3:=al z1;have z4:=ar z1;apply VR.cg hv;intro ux uy uz uw hr;refine wpAny_pyIter_range (R.get hr) (rng_small z3 z4 z2) ?_;refine (rng_sz z2).symm ▸ ?_;exact back_new (tk:=s.toks) R (fun kp' ρ' s' k1 k2 k3=>h kp' ρ' _ s' k1 k2 k3) rfl rfl
 case str p=>
  apply VR.cs hv;intro t;revert e;refine Bt ?_;intro z e;refine Q02 (pj e) ?_;rintro rfl rfl;refine wpAny_pyIter_ascii (x:=mkS p) ?_ ?_
  ·skip
   refine (List.all_toArray).trans ?_;rw[List.all_eq_true] at z ⊢;intro x hx;exact decide_eq_true (nL (z x hx))
  ·exact back_new (tk:=s.toks) R (fun kp' ρ' s' k1 k2 k3=>h kp' ρ' _ s' k1 k2 k3) rfl ⟨t,rfl,rfl⟩
 case ref l=>
  apply VR.cr hv;intro ux hl;replace e:(match nth W l with | some (.list _)=>some (len W,W++[.lit l 0]) | some (.vit _ _) | some (.cit _)=>some (l,W) | _=>none)=some (i,W'):=e
  cases hvs:nth W l with
  | none=>rw[hvs] at e;exact nn e
  | some o=>
  rw[hvs] at e;cases o
  case list vs=>
   refine bC fun hN5=>?_;refine Q02 (pj e) ?_;rintro rfl rfl;refine Q22 (R.isList hvs hl) ?_;intro xs n h1 h2;refine hN5 ?_;refine wpAny_pyIter_list (isList_of h1) ?_;exact back_new (tk:=s.toks) R (fun kp' ρ' s' k1 k2 k3=>h kp' ρ' _ s' k1 k2 k3) rfl ⟨_,nth_app_lt _ hl,rfl,rfl⟩
  case vit l' n=>
   refine Q02 (pj e) ?_;rintro rfl rfl;obtain ⟨ob,h1,a,h2,h3,h4⟩:=R.at hvs rfl hl;exact wpAny_pyIter_revIter ⟨ob,h1,h3,h4⟩ (h kp ρ _ s (Le.refl _ _) R hl)
  case cit f=>
   refine bC fun hN7=>?_;refine Q02 (pj e) ?_;rintro rfl rfl;obtain ⟨ob,h1,x,t,h2,h3⟩:=R.at hvs rfl hl;subst h3;refine hN7 ?_;exact ci_iter h1 (h kp ρ _ s (Le.refl _ _) R hl)
  all_goals exact nn e
 all_goals exact nn e
theorem nth_none_get {vs:List V}{xs:List Value}{n:Nat}(hv:VRs kp ρ vs xs) (h:nth vs n=none):xs.toArray[n]?=none:=by
 refine (List.getElem?_toArray).trans ?_;rw[List.getElem?_eq_none];rw[hv.length];by_cases q:n<len vs
 ·refine bC fun hN1=>?_;refine Q11 (nth_some q) ?_;intro a ha;rw[ha] at h;cases h
 ·exact lq1 [_,_] (.v 0) (.v 1) (.v 0) (.v 1) (Nat.le_of_not_lt q) rfl
theorem nth_get {vs:List V}{xs:List Value}{n:Nat}{v:V}(hv:VRs kp ρ vs xs) (h:nth vs n=some v):∃ x,xs.toArray[n]?=some x∧VR kp ρ v x:=by
 refine Q12 (hv.nth h) ?_;intro x h1 h2;exact ⟨x,by rw[List.getElem?_toArray];exact h1,h2⟩
theorem nxt_end {i j:Nat}{it:Addr}{o:O}{mj:List (Nat × V)}{Q:Option Value→Shared→Prop}(R:SR b kp ρ W s) (ho:nth W i=some o) (ha:alive o=true) (hne:∀ m,o≠.ns m) (hi:nth ρ i=some it) (hj:nth W j=some (.ns mj))
  (h:Back b kp ρ (setAt W i .junk) (fun kp ρ y=>OptR kp ρ none y) Q) {h':Heap}{tk:Nat}(k:Heap.ExtBut it s.heap h') (htk:s.toks≤tk:=by exact Nat.le.refl):Q none { s with heap:=h',toks:=tk }:=by
 have hji:j≠i:=fun q=>by subst q;rw[ho] at hj;cases hj;exact hne _ rfl
 refine Q23 (R.rel j _ hj rfl) ?_;intro a ob h1 h2 h3;have hn:=R.rhoNe ho ha hi hj rfl h1 hji;exact h kp ρ none _ (Le.refl _ _) (R.drop ho ha hi k (R.szBy hj rfl h1 fun o e=>k _ _ hn e) htk) rfl
theorem s_nxtLit {i l n j:Nat}{it:Addr}{o:Option V}{W':St}{mj:List (Nat × V)}{Q:Option Value→Shared→Prop}(ho:nth W i=some (.lit l n)) (e:nxLit i l n W=some (o,W')) (hi:nth ρ i=some it) (hj:nth W j=some (.ns mj)) (hA:A.handled=none) (R:SR b kp ρ W s)
  (h:Back b kp ρ W' (fun kp ρ y=>OptR kp ρ o y) Q):wpAny (model b.prog b.w) A (pyNext (.ref it)) Q E s:=by
 refine bC fun hN=>?_;revert e;refine OL ?_;intro vs hvs e
 ·obtain ⟨ob,h1,a,h2,h3,h4⟩:=R.at ho rfl hi;refine Q22 (R.isList hvs h2) ?_;intro xs c h5 h6;cases hv:nth vs n with
  | some v=>
   rw[hv] at e;refine Q02 (pj e) ?_;rintro rfl rfl;refine Q12 (nth_get h6 hv) ?_;intro x hx hvx;refine hN ?_;refine wpAny_pyNext_list_item ⟨ob,h1,h3,h4⟩ (isList_of h5) hx fun h' g1 g2=>?_;refine Q13 g1 ?_;intro ob' g3 g4 g5;exact h kp ρ _ _ (Le.refl _ _) (R.upd (tk:=s.toks) ho rfl hi g2.extBut (by rw[g2.1];exact R.sz) g3 ⟨a,h2,g4,g5⟩) ⟨x,rfl,hvx⟩
  | none=>
   rw[hv] at e;refine Q02 (pj e) ?_;rintro rfl rfl;refine hN ?_;exact wpAny_pyNext_list_end hA ⟨ob,h1,h3,h4⟩ (isList_of h5) (nth_none_get h6 hv) fun h' g=>nxt_end (tk:=s.toks) R ho rfl (fun ux q=>nomatch q) hi hj h g
theorem s_nxtVit {i l n j:Nat}{it:Addr}{o:Option V}{W':St}{mj:List (Nat × V)}{Q:Option Value→Shared→Prop}(ho:nth W i=some (.vit l n)) (e:nxVit i l n W=some (o,W')) (hi:nth ρ i=some it) (hj:nth W j=some (.ns mj)) (hA:A.handled=none) (R:SR b kp ρ W s)
  (h:Back b kp ρ W' (fun kp ρ y=>OptR kp ρ o y) Q):wpAny (model b.prog b.w) A (pyNext (.ref it)) Q E s:=by
 refine bC fun hN=>?_;revert e;refine OL ?_;intro vs hvs e
 ·obtain ⟨ob,h1,a,h2,h3,h4⟩:=R.at ho rfl hi;refine Q22 (R.isList hvs h2) ?_;intro xs c h5 h6;cases n with
  | zero=>
   refine Q02 (pj e) ?_;rintro rfl rfl;refine hN ?_;exact wpAny_pyNext_rev_end hA ⟨ob,h1,h3,h4⟩ fun h' g=>nxt_end (tk:=s.toks) R ho rfl (fun ux q=>nomatch q) hi hj h g
  | succ n=>
   ·revert e;refine Bo ?_;intro v hv e;refine Q02 (pj e) ?_;rintro rfl rfl;refine Q12 (nth_get h6 hv) ?_;intro x hx hvx;refine hN ?_;refine wpAny_pyNext_rev_item (i:=n) ⟨ob,h1,h3,by rw[h4];simp[rawInt]⟩ (isList_of h5) hx fun h' g1 g2=>?_;refine Q13 g1 ?_;intro ob' g3 g4 g5;exact h kp ρ _ _ (Le.refl _ _) (R.upd (tk:=s.toks) ho rfl hi g2.extBut (by rw[g2.1];exact R.sz) g3 ⟨a,h2,g4,g5⟩) ⟨x,rfl,hvx⟩
theorem s_nxtSit {i n j:Nat}{p:List Nat}{it:Addr}{o:Option V}{W':St}{mj:List (Nat × V)}{Q:Option Value→Shared→Prop}(ho:nth W i=some (.sit p n)) (e:nxSit i p n W=some (o,W')) (hi:nth ρ i=some it) (hj:nth W j=some (.ns mj)) (hA:A.handled=none) (R:SR b kp ρ W s)
  (h:Back b kp ρ W' (fun kp ρ y=>OptR kp ρ o y) Q):wpAny (model b.prog b.w) A (pyNext (.ref it)) Q E s:=by
 refine bC fun hN=>?_;have e:(match nth p n with | some c=>some (some (V.str [c]),setAt W i (.sit p (n+1))) | none=>some (none,setAt W i .junk))=some (o,W'):=e
 obtain ⟨ob,h1,t,h3,h4⟩:=R.at ho rfl hi;cases hc:nth p n with
 | some c=>
  rw[hc] at e;refine Q02 (pj e) ?_;rintro rfl rfl;refine hN ?_;refine wpAny_pyNext_ascii_item ⟨ob,h1,h3,h4⟩ (c:=c) (by rw[← hc,nth_eq];simp) fun h' g1 g2=>?_;refine Q13 g1 ?_;intro ob' g3 g4 g5;exact h kp ρ _ _ (Le.refl _ _) (R.upd (htk:=Nat.le_succ _) (tk:=s.toks+1) ho rfl hi g2.extBut (by rw[g2.1];exact R.sz) g3 ⟨t,g4,g5⟩) ⟨_,rfl,.str [c] _⟩
 | none=>
  rw[hc] at e;refine Q02 (pj e) ?_;rintro rfl rfl;refine hN ?_;exact wpAny_pyNext_ascii_end hA ⟨ob,h1,h3,h4⟩ (by rw[← hc,nth_eq];simp) fun h' g=>nxt_end (tk:=s.toks) R ho rfl (fun ux q=>nomatch q) hi hj h g
theorem s_nxtRit {i j:Nat}{x n c:Int}{it:Addr}{o:Option V}{W':St}{mj:List (Nat × V)}{Q:Option Value→Shared→Prop}(ho:nth W i=some (.rit x n c)) (e:nxRit i x n c W=some (o,W')) (hi:nth ρ i=some it) (hj:nth W j=some (.ns mj)) (hA:A.handled=none) (R:SR b kp ρ W s)
  (h:Back b kp ρ W' (fun kp ρ y=>OptR kp ρ o y) Q):wpAny (model b.prog b.w) A (pyNext (.ref it)) Q E s:=by
 refine bC fun hN=>?_;unfold nxRit at e;refine Q12 (R.at ho rfl hi) ?_;intro ob h1 h3;subst h3;cases q:leI n 0 with
 | true=>
  rw[q,cond_true] at e;refine Q02 (pj e) ?_;rintro rfl rfl;refine hN ?_;exact wpAny_pyNext_range_end hA h1 (leI_iff.mp q) fun h' g=>nxt_end (tk:=s.toks) R ho rfl (fun ux q=>nomatch q) hi hj h g
 | false=>
  rw[q,cond_false] at e;refine Q02 (pj e) ?_;rintro rfl rfl;have hn:0<n:=by
   have:¬ n≤0:=fun z=>by rw[leI_iff.mpr z] at q;cases q
   omega
  refine hN ?_;refine wpAny_pyNext_range_item h1 hn fun h' g1 g2=>?_;exact h kp ρ _ _ (Le.refl _ _) (R.upd (htk:=Nat.le_succ _) (tk:=s.toks+1) ho rfl hi g2.extBut (by rw[g2.1];exact R.sz) g1 rfl) ⟨_,rfl,.int _ _⟩
set_option tactic.hygienic true in
theorem isCallable_inv {G:Sig}{f:V}(h:isCallable G f=true):∃ a self fd,f=.meth (.st a) self∧G.fnd a=some fd:=by
 refine bC fun hN=>?_;cases f
 case meth f self=>
  cases f
  case st a=>
   cases q:G.fnd a with
   | none=>have h:(G.fnd a).isSome=true:=h;rw[q] at h;exact ft h
   | some fd=>refine hN ?_;exact ⟨a,self,fd,rfl,q⟩
  all_goals exact ft h
 all_goals exact ft h
noncomputable def FnObj (b:BS) (G:Sig):Prop:=∀ a fd,G.fnd a=some fd→∃ fo d,b.hb.get? a=some fo∧fo.data=.func d
theorem cit_at {G:Sig}{i:Nat}{f:V}{it:Addr}(HF:FnObj b G) (ho:nth W i=some (.cit f)) (q:isCallable G f=true) (hi:nth ρ i=some it) (R:SR b kp ρ W s):
  ∃ m t fa sv,s.heap.get? it=some (ciObj (.ref m) (.str ⟨#[]⟩ t))∧s.heap.get? m=some (methodObj (.ref fa) sv)∧(∃ fo fd,s.heap.get? fa=some fo∧fo.data=.func fd)∧VR kp ρ f (.ref m):=by
 refine bC fun hN=>?_;refine Q32 (isCallable_inv q) ?_;rintro a self fd rfl hf;obtain ⟨ob,h1,x,t,h2,h3⟩:=R.at ho rfl hi;subst h3;refine Q22 (HF a fd hf) ?_;intro fo d h4 h5;refine hN ?_;revert h1;apply VR.cm h2;intro ux uy uz k1 k2 k3;revert k1;apply VR.ct k2;intro k1 h1;exact ⟨_,t,a,_,h1,R.get k1,⟨fo,d,R.get (R.base _ _ h4),h5⟩,.meth k1 (.st a) k3⟩
set_option tactic.hygienic true in
theorem s_nxt {G:Sig}{m:Nat}{r:Ops}{i:Nat}{it:Addr}{o:Option V}{W':St}{j:Nat}{mj:List (Nat × V)}{Q:Option Value→Shared→Prop}(S:Sound b m r) (HF:FnObj b G) (e:stepNxt G r i W=some (o,W')) (hi:nth ρ i=some it)
  (hj:nth W j=some (.ns mj)) (hA:AOk (m+1) A) (R:SR b kp ρ W s) (h:Back b kp ρ W' (fun kp ρ y=>OptR kp ρ o y) Q):wpAny (model b.prog b.w) A (pyNext (.ref it)) Q E s:=by
 unfold stepNxt at e;cases ho:nth W i with
 | none=>rw[ho] at e;exact nn e
 | some o'=>
 rw[ho] at e;cases o'
 case lit l n=>exact s_nxtLit ho e hi hj hA.handled R h
 case vit l n=>exact s_nxtVit ho e hi hj hA.handled R h
 case sit p n=>exact s_nxtSit ho e hi hj hA.handled R h
 case rit a n c=>exact s_nxtRit ho e hi hj hA.handled R h
 case cit f=>
  revert e;refine Bt ?_;intro q e;obtain ⟨mx,t,fa,sv,h1,h2,h3,h4⟩:=cit_at HF ho q hi R
  ·revert e;refine B1 ?_;intro v W₁ hp e;refine ci_next hA.handled h1 h2 h3 (S.call hp h4 .nil hA.in1 R fun kp' ρ' y s' k1 k2 k3=>?_);revert e;refine OCit ?_;intro f' ho' e
   ·revert e;refine Bt ?_;intro q' e;obtain ⟨mx',t',fa',sv',g1,g2,g3,g4⟩:=cit_at HF ho' q' (k1.rho _ _ hi) k2
    ·revert e;refine OStr ?_;rintro z rfl e;apply VR.cs k3;intro u;refine ⟨mx',t',fa',sv',g1,g2,g3,_,u,rfl,fun hz=>?_,fun hz h' l1 l2=>?_⟩
     ·refine bC fun hN5=>?_;cases z with
      | nil=>exact absurd rfl hz
      | cons c z=>obtain ⟨rfl,rfl⟩:=pj e;refine hN5 ?_;exact h kp' ρ' _ _ k1 k2 ⟨_,rfl,.str _ u⟩
     ·refine bC fun hN6=>?_;cases z with
      | nil=>obtain ⟨rfl,rfl⟩:=pj e;refine hN6 ?_;exact h kp' ρ' _ _ k1 (k2.drop (tk:=s'.toks) ho' rfl (k1.rho _ _ hi) l1 (lT k2.sz l2)) rfl
      | cons c z=>exact nomatch hz
 all_goals exact nn e
end
theorem b1_inv {α β:Type}{o:Option (α × St)}{k:α→St→Option β}{y:β}(e:b1 o k=some y):∃ a W,o=some (a,W)∧k a W=some y:=by
 exact b1i e
noncomputable def GlobOk (b:BS):Prop:=∀ n c,look n glob=some c→∃ x,(∀ kp ρ,VR kp ρ c.v x)∧(nsIn b.K mainGlobals n=some (some x)∨(nsIn b.K mainGlobals n=some none∧bootBuiltins n=some x∧n≠"__name__"))
section
variable {b:BS}{G:Sig}{r:Ops}{m:Nat}{kp:Kp}{ρ:List Addr}{W:St}{s:Shared}{sc:Scope}{g:Ctx}{env:Env}{A:Around}{E:Value→Shared→Prop}
theorem SR.hbGet (R:SR b kp ρ W s) {a:Addr}{o:Obj}(h:b.hb.get? a=some o):s.heap.get? a=some o:=R.keep _ _ (R.base _ _ h)
theorem SR.inK (R:SR b kp ρ W s):b.K.In s.heap:=fun ux uy e=>R.hbGet (b.X _ _ e)
theorem SR.noLimit (R:SR b kp ρ W s):s.heap.NoLimit:=b.T.nolimit.keeps fun ux uy e=>R.hbGet e
set_option tactic.hygienic true in
theorem ev_Const {c:Const}{k:Nat}{p:Pos}{cc:CO}{v:V}{W':St}{Q:Value→Shared→Prop}(e:stepEv G r g ((cmpStep ce cc).e sc (.Constant c k p)) W=some (v,W')) (R:SR b kp ρ W s)
  (h:Back b kp ρ W' (fun kp ρ y=>VR kp ρ v y) Q):wpAny (model b.prog b.w) A (eval (.Constant c k p) env) Q E s:=by
 cases c
 case none=>replace h:=bk e h;exact wpAny_Constant_none (h kp ρ _ _ (Le.refl _ _) R .none)
 case bool t=>replace h:=bk e h;exact wpAny_Constant_bool (h kp ρ _ _ (Le.refl _ _) R (.bool t))
 case int i=>replace h:=bk e h;exact wpAny_Constant_int (h kp ρ _ _ (Le.refl _ _) (R.tok (htk:=Nat.le_succ _)) (.int i _))
 case str t=>
  replace h:=bk e h;refine wpAny_Constant_str (h kp ρ _ _ (Le.refl _ _) (R.tok (htk:=Nat.le_succ _)) ?_);have:t=⟨t.cps.toList.toArray⟩:=by cases t;simp
  conv=>rhs;rw[this]
  exact .str _ _
 all_goals exact nn e
theorem notDbg {n:Str}(h:n≠"__debug__"):(n==("__debug__":Str))=false:=by
 cases q:n==("__debug__":Str) with
 | false=>rfl
 | true=>exact absurd (eq_of_beq q) h
theorem ev_Name {n:Str}{p:Pos}{cc:CO}{v:V}{W':St}{Q:Value→Shared→Prop}(HG:GlobOk b) (e:stepEv G r g ((cmpStep ce cc).e sc (.Name n p)) W=some (v,W')) (EN:EnvR b kp ρ sc g env) (R:SR b kp ρ W s)
  (h:Back b kp ρ W' (fun kp ρ y=>VR kp ρ v y) Q):wpAny (model b.prog b.w) A (eval (.Name n p) env) Q E s:=by
 have e':stepEv G r g (if n="__debug__" then .bad else match nameOf ce sc n with
   | .loc i=>.loc i
   | .cel i=>.cel i
   | .glo c=>.c c
   | .bad=>.bad) W=some (v,W'):=e
 by_cases hd:n="__debug__"
 ·rw[if_pos hd] at e';cases e'
 rw[if_neg hd] at e';have hd':=notDbg hd;unfold nameOf at e';cases q:idx n ce.tab with
 | none=>rw[q] at e';cases e'
 | some i=>
 rw[q] at e';dsimp only at e';cases k:sc.names.lookup n with
 | none=>rw[k] at e';cases e'
 | some kk=>
 rw[k] at e';cases kk
 case «local»=>
  revert e';refine B0 ?_;intro w h1 h2;replace h:=bk h2 h;exact wpAny_Name (ld_loc q k h1 EN R fun y hy=>h kp ρ _ _ (Le.refl _ _) R hy) hd'
 case cell=>
  revert e';refine B0 ?_;intro w h1 h2;replace h:=bk h2 h;exact wpAny_Name (ld_cel q (.inr k) h1 EN R fun y hy=>h kp ρ _ _ (Le.refl _ _) R hy) hd'
 case free=>
  revert e';refine B0 ?_;intro w h1 h2;replace h:=bk h2 h;exact wpAny_Name (ld_cel q (.inl k) h1 EN R fun y hy=>h kp ρ _ _ (Le.refl _ _) R hy) hd'
 case globalImplicit=>
  dsimp only at e';cases l:look n ce.glob with
  | none=>rw[l] at e';cases e'
  | some c=>
  rw[l] at e';cases e';refine Q12 (HG n c l) ?_;intro x h1 h2;have hq:Q x s:=h kp ρ _ _ (Le.refl _ _) R (h1 kp ρ);have hg:s.heap.Ns env.globals b.mg:=by rw[EN.gl];exact b.T.g.keeps fun ux uy e=>R.hbGet e
  rcases h2 with h2 | ⟨h2,h3,h4⟩
  ·exact Name_function_global EN.kind (EN.kg n k) (loadGlobal_global hg (mg_of b.X b.T.g h2) hq) hd'
  ·refine Name_function_global EN.kind (EN.kg n k) (loadGlobal_builtin hg (mg_none_of b.X b.T.g h2) (mb:=b.mb) ?_ ((b.T.builtins n h4).trans h3) hq) hd';rw[EN.bu];exact b.T.b.keeps fun ux uy e=>R.hbGet e
 all_goals cases e'
set_option tactic.hygienic true in
theorem binOp_cases {cc:CO}{a c:PySem.Expr}{op:Operator}{p:Pos}:(∃ es q,a=.List es q∧op=.Mult)∨(cmpStep ce cc).e sc (.BinOp a op c p)=.bin op (cc.e sc a) (cc.e sc c):=by
 cases a
 case List es q=>
  cases op
  case Mult=>exact .inl ⟨es,q,rfl,rfl⟩
  all_goals exact .inr rfl
 all_goals exact .inr rfl
theorem newList_at {vs:List V}{xs:List Value}{Q:Value→Shared→Prop}(hx:VRs kp ρ vs xs) (hz:len vs≤lstMax) (R:SR b kp ρ W s)
  (h:Back b kp ρ (W++[.list vs]) (fun kp ρ y=>VR kp ρ (.ref (len W)) y) Q):wpAny (model b.prog b.w) A (newList xs) Q E s:=by
 refine wpAny_newObj_type (back_list R h hx 0) ?_;show xs.toArray.size≤sizeLine;rw[List.size_toArray,hx.length];exact lT hz (by decide)
theorem ev_BinOp {a c:PySem.Expr}{op:Operator}{p:Pos}{n:Nat}{v:V}{W':St}{Q:Value→Shared→Prop}(S:Sound b m r) (e:stepEv G r g ((cmp ce (n+1)).e sc (.BinOp a op c p)) W=some (v,W')) (EN:EnvR b kp ρ sc g env) (hA:AOk (m+1) A) (R:SR b kp ρ W s)
  (h:Back b kp ρ W' (fun kp ρ y=>VR kp ρ v y) Q):wpAny (model b.prog b.w) A (eval (.BinOp a op c p) env) Q E s:=by
 have hA':=hA.le (Nat.le_succ m);rcases binOp_cases (cc:=cmp ce n) (sc:=sc) (a:=a) (c:=c) (op:=op) (p:=p) with ⟨es,q,rfl,rfl⟩ | z
 ·have e':stepEv G r g (.rep ((cmp ce n).es sc es) ((cmp ce n).e sc c)) W=some (v,W'):=e;dsimp only[Z4] at e';revert e';refine B1 ?_;intro vs W₁ h1 e1;revert e1;refine B1 ?_;intro k W₂ h2 e2
  ·revert e2;refine ONat ?_;rintro k rfl e2;revert e2;refine Bt ?_;intro z e2;replace h:=bk e2 h;have z1:=al z;have z2:=ar z;refine wpAny_BinOp (List_ (S.evs h1 EN hA' R fun kp₁ ρ₁ xs s₁ k1 R1 hx=>?_));refine wpAny_newObj_type ?_ (by
    show xs.toArray.size≤sizeLine;rw[List.size_toArray,hx.length];exact lT (ble_iff.mp z2) (by decide))
   have hf:=R1.keepNew (h':=s₁.heap.push (listOf xs.toArray 0)) (tk:=s₁.toks) (fun ux uy e=>Heap.get?_push_of_some _ e) (Nat.le_refl _) (Heap.get?_push_size _ rfl);have hl:=R1.leK (listOf xs.toArray 0) (Nat.le_refl _);refine S.ev h2 ((EN.mono k1).mono hl) hA' hf fun kp₂ ρ₂ y s₂ k2 R2 hy=>?_;cases hy with
   | int ux u=>
   have hg:=R2.get (k2.kp _ _ (addK_self _ _ _));exact s_mul hg (ble_iff.mp z1) (ble_iff.mp z2) ((hx.mono hl).mono k2) R2 (h.mono ((k1.trans hl).trans k2))
 ·have e':stepEv G r g (.bin op ((cmp ce n).e sc a) ((cmp ce n).e sc c)) W=some (v,W'):=by rw[← z];exact e
  dsimp only[Z3] at e';revert e';refine B1 ?_;intro x W₁ h1 e1;revert e1;refine B1 ?_;intro y W₂ h2 e2;refine wpAny_BinOp (S.ev h1 EN hA' R fun kp₁ ρ₁ xv s₁ k1 R1 hx=>S.ev h2 (EN.mono k1) hA' R1 fun kp₂ ρ₂ yv s₂ k2 R2 hy=>?_);exact s_binop e2 (hx.mono k2) hy hA R2 (h.mono (k1.trans k2))
theorem ev_USub {a:PySem.Expr}{p:Pos}{n:Nat}{v:V}{W':St}{Q:Value→Shared→Prop}(S:Sound b m r) (e:stepEv G r g ((cmp ce (n+1)).e sc (.UnaryOp .USub a p)) W=some (v,W')) (EN:EnvR b kp ρ sc g env) (hA:AOk (m+1) A) (R:SR b kp ρ W s)
  (h:Back b kp ρ W' (fun kp ρ y=>VR kp ρ v y) Q):wpAny (model b.prog b.w) A (eval (.UnaryOp .USub a p) env) Q E s:=by
 have e':stepEv G r g (.neg ((cmp ce n).e sc a)) W=some (v,W'):=e;dsimp only[Z5] at e';revert e';refine B1 ?_;intro x W₁ h1 e1;refine UnaryOp_ (S.ev h1 EN (hA.le (Nat.le_succ m)) R fun kp₁ ρ₁ xv s₁ k1 R1 hx=>?_);revert e1;refine OInt ?_;rintro i rfl e1
 ·refine bC fun hN1=>?_;replace h:=bk e1 h;cases hx with
  | int i t=>refine hN1 ?_;exact PyProof.Rows.neg_int (h.mono k1 kp₁ ρ₁ _ _ (Le.refl _ _) (R1.tok (htk:=Nat.le_succ _)) (.int _ _))
theorem tame_marks {op:CmpOp}{c:PySem.Expr}(h:tame c=true):behindInMarks op c=false:=by cases c<;>first | rfl | exact ft h
theorem ev_Cmp {a c:PySem.Expr}{op:CmpOp}{p:Pos}{n:Nat}{v:V}{W':St}{Q:Value→Shared→Prop}(S:Sound b m r) (e:stepEv G r g ((cmp ce (n+1)).e sc (.Compare a [op] [c] p)) W=some (v,W')) (EN:EnvR b kp ρ sc g env) (hA:AOk (m+1) A) (R:SR b kp ρ W s)
  (h:Back b kp ρ W' (fun kp ρ y=>VR kp ρ v y) Q):wpAny (model b.prog b.w) A (eval (.Compare a [op] [c] p) env) Q E s:=by
 refine bC fun hN=>?_;have hA':=hA.le (Nat.le_succ m);have e':stepEv G r g (if opOk op&&tame c then .cmp op ((cmp ce n).e sc a) ((cmp ce n).e sc c) else .bad) W=some (v,W'):=e;cases z:(opOk op&&tame c) with
 | false=>rw[z] at e';cases e'
 | true=>
 rw[z,if_pos rfl] at e';dsimp only[Z6,ZW] at e';revert e';refine B1 ?_;intro x W₁ h1 e1;revert e1;refine B1 ?_;intro y W₂ h2 e2;revert e2;refine B0 ?_;intro t e3 e4;replace h:=bk e4 h;refine hN ?_;refine wpAny_Compare1 (S.ev h1 EN hA' R fun kp₁ ρ₁ xv s₁ k1 R1 hx=>S.ev h2 (EN.mono k1) hA' R1 fun kp₂ ρ₂ yv s₂ k2 R2 hy=>?_) (tame_marks (ar z));exact s_cmp e3 (hx.mono k2) hy hA R2 (h.mono (k1.trans k2) kp₂ ρ₂ _ _ (Le.refl _ _) R2 (.bool t))
theorem tst_Cmp {a c:PySem.Expr}{op:CmpOp}{p:Pos}{n:Nat}{t:Bool}{W':St}{whole:Sem Value}{Q:Bool→Shared→Prop}(S:Sound b m r) (e:stepTst r g ((cmp ce (n+1)).t sc (.Compare a [op] [c] p)) W=some (t,W')) (EN:EnvR b kp ρ sc g env) (hA:AOk (m+1) A) (R:SR b kp ρ W s)
  (h:Back b kp ρ W' (fun ux uy y=>y=t) Q):wpAny (model b.prog b.w) A (isTrue (.Compare a [op] [c] p) env whole) Q E s:=by
 refine bC fun hN=>?_;have hA':=hA.le (Nat.le_succ m);have e':stepTst r g (if opOk op&&tame c then .cmp op ((cmp ce n).e sc a) ((cmp ce n).e sc c) else .bad) W=some (t,W'):=e;cases z:(opOk op&&tame c) with
 | false=>
  rw[z,if_neg Bool.false_ne_true] at e';cases e'
 | true=>
 rw[z,if_pos rfl] at e';dsimp only[Z6,ZW] at e';revert e';refine B1 ?_;intro x W₁ h1 e1;revert e1;refine B1 ?_;intro y W₂ h2 e2;revert e2;refine B0 ?_;intro t' e3 e4;cases e4;refine hN ?_;refine wpAny_isTrue_Compare1 (S.ev h1 EN hA' R fun kp₁ ρ₁ xv s₁ k1 R1 hx=>S.ev h2 (EN.mono k1) hA' R1 fun kp₂ ρ₂ yv s₂ k2 R2 hy=>?_) (tame_marks (ar z));exact s_cmp e3 (hx.mono k2) hy hA R2 (s_tru (W:=W') rfl (.bool t) hA R2 fun tk htk=>h.mono (k1.trans k2) kp₂ ρ₂ _ _ (Le.refl _ _) (R2.tok htk) rfl)
end
section
variable {b:BS}{G:Sig}{r:Ops}{m:Nat}{kp:Kp}{ρ:List Addr}{W:St}{s:Shared}{sc:Scope}{g:Ctx}{env:Env}{A:Around}{E:Value→Shared→Prop}
theorem ev_IfExp {t a c:PySem.Expr}{p:Pos}{n:Nat}{v:V}{W':St}{Q:Value→Shared→Prop}(S:Sound b m r) (e:stepEv G r g ((cmp ce (n+1)).e sc (.IfExp t a c p)) W=some (v,W')) (EN:EnvR b kp ρ sc g env) (hA:AOk (m+1) A) (R:SR b kp ρ W s)
  (h:Back b kp ρ W' (fun kp ρ y=>VR kp ρ v y) Q):wpAny (model b.prog b.w) A (eval (.IfExp t a c p) env) Q E s:=by
 have hA':=hA.le (Nat.le_succ m);have e':stepEv G r g (.ite ((cmp ce n).t sc t) ((cmp ce n).e sc a) ((cmp ce n).e sc c)) W=some (v,W'):=e;dsimp only[Z8] at e';revert e';refine B1 ?_;intro q W₁ h1 e1;refine IfExp_ (S.tst h1 EN hA' R fun kp₁ ρ₁ x s₁ k1 R1 hx=>?_);subst hx;cases x with
 | true=>exact S.ev e1 (EN.mono k1) hA' R1 (h.mono k1)
 | false=>exact S.ev e1 (EN.mono k1) hA' R1 (h.mono k1)
theorem ev_List {es:List PySem.Expr}{p:Pos}{n:Nat}{v:V}{W':St}{Q:Value→Shared→Prop}(S:Sound b m r) (e:stepEv G r g ((cmp ce (n+1)).e sc (.List es p)) W=some (v,W')) (EN:EnvR b kp ρ sc g env) (hA:AOk (m+1) A) (R:SR b kp ρ W s)
  (h:Back b kp ρ W' (fun kp ρ y=>VR kp ρ v y) Q):wpAny (model b.prog b.w) A (eval (.List es p) env) Q E s:=by
 refine bC fun hN=>?_;have hA':=hA.le (Nat.le_succ m);have e':stepEv G r g (.lst ((cmp ce n).es sc es)) W=some (v,W'):=e;dsimp only[Z9] at e';revert e';refine B1 ?_;intro vs W₁ h1 e1;refine hN ?_;refine List_ (S.evs h1 EN hA' R fun kp₁ ρ₁ xs s₁ k1 R1 hx=>?_);unfold eLst at e1;revert e1;refine Bt ?_;intro z e1;replace h:=bk e1 h;exact newList_at hx (ble_iff.mp z) R1 (h.mono k1)
theorem newTuple_at {vs:List V}{xs:List Value}{Q:Value→Shared→Prop}(hx:VRs kp ρ vs xs) (hz:len vs≤lstMax) (R:SR b kp ρ W s)
  (h:Back b kp ρ W (fun kp ρ y=>VR kp ρ (.tup vs) y) Q):wpAny (model b.prog b.w) A (newTuple xs) Q E s:=by
 refine wpAny_newObj_type ?_ (by
  show xs.toArray.size≤sizeLine;refine List.size_toArray.symm ▸ hx.length.symm ▸ ?_;exact lT hz (by decide))
 have hl:=R.leK (a:=s.heap.objs.size) { cls:=.type "tuple",data:=.seq xs.toArray } (Nat.le_refl _);exact h _ ρ _ _ hl (R.keepNew (tk:=s.toks) (fun ux uy e=>Heap.get?_push_of_some _ e) (Nat.le_refl _) (Heap.get?_push_size _ rfl)) (.tup (addK_self _ _ _) (hx.mono hl))
theorem ev_Tuple {es:List PySem.Expr}{k:Nat}{p:Pos}{n:Nat}{v:V}{W':St}{Q:Value→Shared→Prop}(S:Sound b m r) (e:stepEv G r g ((cmp ce (n+1)).e sc (.Tuple es k p)) W=some (v,W')) (EN:EnvR b kp ρ sc g env) (hA:AOk (m+1) A) (R:SR b kp ρ W s)
  (h:Back b kp ρ W' (fun kp ρ y=>VR kp ρ v y) Q):wpAny (model b.prog b.w) A (eval (.Tuple es k p) env) Q E s:=by
 refine bC fun hN=>?_;have hA':=hA.le (Nat.le_succ m);have e':stepEv G r g (.tup ((cmp ce n).es sc es)) W=some (v,W'):=e;dsimp only[ZA] at e';revert e';refine B1 ?_;intro vs W₁ h1 e1;refine hN ?_;refine Tuple_ (S.evs h1 EN hA' R fun kp₁ ρ₁ xs s₁ k1 R1 hx=>?_);unfold eTup at e1;revert e1;refine Bt ?_;intro z e1;replace h:=bk e1 h;exact newTuple_at hx (ble_iff.mp z) R1 (h.mono k1)
theorem opt_part {o:Option PySem.Expr}{n:Nat}{v:V}{W':St}{Q:Value→Shared→Prop}(S:Sound b m r) (e:eOpt r g ((cmp ce (n+1)).oe sc o) W=some (v,W')) (EN:EnvR b kp ρ sc g env) (hA:AOk m A) (R:SR b kp ρ W s)
  (h:Back b kp ρ W' (fun kp ρ y=>VR kp ρ v y) Q):wpAny (model b.prog b.w) A (evalPart o env) Q E s:=by
 cases o with
 | none=>
  have e':some (V.none,W)=some (v,W'):=e;refine Q02 (pj e') ?_;rintro rfl rfl;have:evalPart none env=pure .none:=rfl;exact wpAny_pure (h kp ρ _ _ (Le.refl _ _) R .none)
 | some x=>
  have e':r.ev g ((cmp ce n).e sc x) W=some (v,W'):=e;have:evalPart (some x) env=eval x env:=rfl;exact S.ev e' EN hA R h
theorem opt_part0 {o:Option PySem.Expr}{v:V}{W':St}(S:Sound b m r) (e:eOpt r g ((cmp ce 0).oe sc o) W=some (v,W')):False:=by
 have e':r.ev g .bad W=some (v,W'):=e;rw[S.bad] at e';exact nn e'
theorem ev_Slice {a:PySem.Expr}{lo hi:Option PySem.Expr}{q p:Pos}{n:Nat}{v:V}{W':St}{Q:Value→Shared→Prop}(S:Sound b m r) (e:stepEv G r g ((cmp ce (n+1)).e sc (.Subscript a (.Slice lo hi none q) p)) W=some (v,W')) (EN:EnvR b kp ρ sc g env) (hA:AOk (m+1) A) (R:SR b kp ρ W s)
  (h:Back b kp ρ W' (fun kp ρ y=>VR kp ρ v y) Q):wpAny (model b.prog b.w) A (eval (.Subscript a (.Slice lo hi none q) p) env) Q E s:=by
 refine bC fun hN=>?_;have hA':=hA.le (Nat.le_succ m);have e':stepEv G r g (.slc ((cmp ce n).e sc a) ((cmp ce n).oe sc lo) ((cmp ce n).oe sc hi)) W=some (v,W'):=e;dsimp only[ZC] at e';revert e';refine B1 ?_;intro x W₁ h1 e1;revert e1;refine B1 ?_;intro l W₂ h2 e2;revert e2;refine B1 ?_;intro u W₃ h3 e3;cases n with
 | zero=>refine hN ?_;exact (opt_part0 S h2).elim
 | succ n=>
 refine hN ?_;refine Subscript_ (S.ev h1 EN hA' R fun kp₁ ρ₁ xv s₁ k1 R1 hx=>wpAny_Slice (opt_part S h2 (EN.mono k1) hA' R1 fun kp₂ ρ₂ lv s₂ k2 R2 hl=>opt_part S h3 (EN.mono (k1.trans k2)) hA' R2 fun kp₃ ρ₃ uv s₃ k3 R3 hu=>?_));have:evalPart none env=pure .none:=rfl;refine wpAny_pure ?_;exact s_slc e3 (hx.mono (k2.trans k3)) (hl.mono k3) hu R3 (fun o k=>⟨_,rfl⟩) (h.mono ((k1.trans k2).trans k3))
noncomputable def SbA (i:PySem.Expr):Prop:=∃ lo hi q,i=.Slice lo hi none q
noncomputable def SbB (ce:CE) (sc:Scope) (cc:CO) (a i:PySem.Expr) (p:Pos):Prop:=(cmpStep ce cc).e sc (.Subscript a i p)=(if tame i then .sub (cc.e sc a) (cc.e sc i) else .bad)∧∀ o k,subscripted i false o k=operate [o,k] (getItem o k)
set_option tactic.hygienic true in
theorem sub_cases {cc:CO}{a i:PySem.Expr}{p:Pos}:SbA i∨SbB ce sc cc a i p:=by
 cases i
 case Slice lo hi st q=>
  cases st with
  | none=>exact .inl ⟨lo,hi,q,rfl⟩
  | some ux=>exact .inr ⟨rfl,fun ux uy=>rfl⟩
 all_goals exact .inr ⟨rfl,fun ux uy=>rfl⟩
theorem ev_Subscript {a i:PySem.Expr}{p:Pos}{n:Nat}{v:V}{W':St}{Q:Value→Shared→Prop}(S:Sound b m r) (e:stepEv G r g ((cmp ce (n+1)).e sc (.Subscript a i p)) W=some (v,W')) (EN:EnvR b kp ρ sc g env) (hA:AOk (m+1) A) (R:SR b kp ρ W s)
  (h:Back b kp ρ W' (fun kp ρ y=>VR kp ρ v y) Q):wpAny (model b.prog b.w) A (eval (.Subscript a i p) env) Q E s:=by
 refine bC fun hN=>?_;have hA':=hA.le (Nat.le_succ m);rcases sub_cases (cc:=cmp ce n) (sc:=sc) (a:=a) (i:=i) (p:=p) with ⟨lo,hi,q,rfl⟩ | ⟨z,hs⟩
 ·refine hN ?_;exact ev_Slice S e EN hA R h
 ·have e':stepEv G r g ((cmpStep ce (cmp ce n)).e sc (.Subscript a i p)) W=some (v,W'):=e;rw[z] at e';cases q:tame i with
  | false=>rw[q] at e';cases e'
  | true=>
  rw[q,if_pos rfl] at e';dsimp only[ZB] at e';revert e';refine B1 ?_;intro x W₁ h1 e1;revert e1;refine B1 ?_;intro y W₂ h2 e2;revert e2;refine B0 ?_;intro u e3 e4;replace h:=bk e4 h;refine hN ?_;refine Subscript_ (S.ev h1 EN hA' R fun kp₁ ρ₁ xv s₁ k1 R1 hx=>S.ev h2 (EN.mono k1) hA' R1 fun kp₂ ρ₂ yv s₂ k2 R2 hy=>?_);exact s_sub e3 (hx.mono k2) hy R2 hs fun w hw=>h.mono (k1.trans k2) kp₂ ρ₂ _ _ (Le.refl _ _) R2 hw
noncomputable def EsA (ce:CE) (sc:Scope) (cc:CO) (x:PySem.Expr) (es:List PySem.Expr):Prop:=(cmpStep ce cc).es sc (x::es)=[.bad]
noncomputable def EsB (ce:CE) (sc:Scope) (cc:CO) (x:PySem.Expr) (es:List PySem.Expr):Prop:=(cmpStep ce cc).es sc (x::es)=cc.e sc x::cc.es sc es∧∀ env,starEach (x::es) env=(false,eval x env)::starEach es env
theorem es_cases {cc:CO}{x:PySem.Expr}{es:List PySem.Expr}:EsA ce sc cc x es∨EsB ce sc cc x es:=by
 cases x
 case Starred=>exact .inl rfl
 all_goals exact .inr ⟨rfl,fun ux=>rfl⟩
theorem s_evs {es:List PySem.Expr}{n:Nat}{vs:List V}{W':St}{pos:Pos}{Q:List Value→Shared→Prop}(S:Sound b m r) (e:stepEvs r g ((cmp ce n).es sc es) W=some (vs,W')) (EN:EnvR b kp ρ sc g env) (hA:AOk (m+1) A) (R:SR b kp ρ W s)
  (h:Back b kp ρ W' (fun kp ρ ys=>VRs kp ρ vs ys) Q):wpAny (model b.prog b.w) A (spliced (backTo pos (starEach es env))) Q E s:=by
 refine bC fun hN=>?_;have hA':=hA.le (Nat.le_succ m);have bad:∀ {y},stepEvs r g [.bad] W=some y→False:=fun q=>by
  dsimp only[ZZ,Za] at q;revert q;refine B1 ?_;intro ux uy q1 uz;rw[S.bad] at q1;exact nn q1
 cases n with
 | zero=>exact (bad e).elim
 | succ n=>
 cases es with
 | nil=>
  have e':some (([]:List V),W)=some (vs,W'):=e;refine Q02 (pj e') ?_;rintro rfl rfl;refine hN ?_;exact spliced_nil (h kp ρ _ _ (Le.refl _ _) R .nil)
 | cons x es=>
  have e':stepEvs r g ((cmpStep ce (cmp ce n)).es sc (x::es)) W=some (vs,W'):=e;rcases es_cases (cc:=cmp ce n) (sc:=sc) (x:=x) (es:=es) with z | ⟨z,hs⟩
  ·unfold EsA at z;rw[z] at e';exact (bad e').elim
  ·rw[z] at e';dsimp only[ZZ,Za] at e';revert e';refine B1 ?_;intro v W₁ h1 e1;revert e1;refine B1 ?_;intro us W₂ h2 e2;refine Q02 (pj e2) ?_;rintro rfl rfl;refine hN ?_;rw[hs];show wpAny _ _ (spliced ((false,eval x env)::backTo pos (starEach es env))) _ _ _;refine spliced_cons (S.ev h1 EN hA' R fun kp₁ ρ₁ xv s₁ k1 R1 hx=>S.evs h2 (EN.mono k1) hA' R1 fun kp₂ ρ₂ xs s₂ k2 R2 hxs=>?_);exact h.mono (k1.trans k2) kp₂ ρ₂ _ _ (Le.refl _ _) R2 (.cons (hx.mono k2) hxs)
noncomputable def TsA (x:PySem.Expr):Prop:=∃ op es p,x=.BoolOp op es p
noncomputable def TsB (x:PySem.Expr):Prop:=∃ a ops cs p,x=.Compare a ops cs p
noncomputable def TsC (ce:CE) (sc:Scope) (cc:CO) (x:PySem.Expr):Prop:=(cmpStep ce cc).t sc x=.bad
noncomputable def TsD (ce:CE) (sc:Scope) (cc:CO) (x:PySem.Expr):Prop:=(cmpStep ce cc).t sc x=notT (cc.e sc x)∧∀ env whole,isTrue x env whole=(do let v ← whole;standAt x.pos;holding [v] (truthy v))
set_option tactic.hygienic true in
theorem t_split {cc:CO}(x:PySem.Expr):TsA x∨TsB x∨TsC ce sc cc x∨TsD ce sc cc x:=by
 cases x
 case BoolOp op es p=>exact .inl ⟨op,es,p,rfl⟩
 case Compare a ops cs p=>exact .inr (.inl ⟨a,ops,cs,p,rfl⟩)
 case UnaryOp op a p=>
  cases op
  case Not=>exact .inr (.inr (.inl rfl))
  all_goals exact .inr (.inr (.inr ⟨rfl,fun ux uy=>rfl⟩))
 case IfExp=>exact .inr (.inr (.inl rfl))
 all_goals exact .inr (.inr (.inr ⟨rfl,fun ux uy=>rfl⟩))
theorem exX {o:Option X}{y:V × St}{C:Prop}(e:stepEv G r g (orX o) W=some y) (k:∀ x,o=some x→stepEv G r g x W=some y→C):C:=by
 cases o with
 | none=>exact nn e
 | some a=>exact k a rfl e
set_option tactic.hygienic true in
theorem att_cases {cc:CO}{a:PySem.Expr}{mm:Str}{p:Pos}:(∃ x xp i,a=.Name x xp∧idx mm tab=some i)∨(cmpStep ce cc).e sc (.Attribute a mm p)=.bad:=by
 cases a
 case Name x xp=>
  cases q:idx mm tab with
  | some i=>exact .inl ⟨x,xp,i,rfl,rfl⟩
  | none=>
   refine .inr ?_;show (match idx mm ce.tab with | some i=>X.att (cc.e sc (.Name x xp)) i | none=>.bad)=.bad
   rw[show idx mm ce.tab=none from q]
 all_goals exact .inr rfl
theorem strLit_i {x:PySem.Expr}{a:List Nat}(h:strLit x=some a):∃ y k p,x=.Constant (.str y) k p∧a=y.cps.toList:=by
 cases x with
 | Constant c k p=>cases c<;>first | exact nn h | exact ⟨_,_,_,rfl,(sI h).symm⟩
 | _=>exact nn h
theorem twoTexts_inv {mm:Str}{es:List PySem.Expr}{a c:List Nat}(h:twoTexts mm es=some (a,c)):mm=Str.ofString "replace"∧∃ x k p y k' p',es=[.Constant (.str x) k p,.Constant (.str y) k' p']∧a=x.cps.toList∧c=y.cps.toList:=by
 rcases es with ux | ⟨x,uy | ⟨y,uz | ⟨z,es⟩⟩⟩
 ·exact nn h
 ·exact nn h
 ·refine bC fun hN1=>?_;by_cases q:mm=Str.ofString "replace"
  ·have h:(if mm=Str.ofString "replace" then b0 (strLit x) fun a=>b0 (strLit y) fun b=>some (a,b) else none)=some (a,c):=h;rw[if_pos q] at h;revert h;refine B0 ?_;intro u h1 h;revert h;refine B0 ?_;intro v h2 h;refine Q02 (pj h) ?_;rintro rfl rfl;refine Q32 (strLit_i h1) ?_;rintro x' k p rfl rfl;refine Q32 (strLit_i h2) ?_;rintro y' k' p' rfl rfl;refine hN1 ?_;exact ⟨q,_,_,_,_,_,_,rfl,rfl,rfl⟩
  ·have h:(if mm=Str.ofString "replace" then b0 (strLit x) fun a=>b0 (strLit y) fun b=>some (a,b) else none)=some (a,c):=h;rw[if_neg q] at h;exact nn h
 ·exact nn h
theorem exX1 {α:Type}{o:Option α}{f:α→X}{y:V × St}{C:Prop}(e:stepEv G r g (orX (o.bind fun a=>some (f a))) W=some y) (k:∀ a,o=some a→stepEv G r g (f a) W=some y→C):C:=by
 cases o with
 | none=>exact nn e
 | some a=>exact k a rfl e
theorem exI {c:Bool}{x:X}{y:V × St}{C:Prop}(e:stepEv G r g (bif c then x else .bad) W=some y) (k:c=true→stepEv G r g x W=some y→C):C:=by
 cases c
 ·exact nn e
 ·exact k rfl e
theorem onA_i {f:PySem.Expr}{k:PySem.Expr→Str→Pos→X}{d:X}{y:V × St}{P:PySem.Expr→Prop}(e:stepEv G r g (onA f k d) W=some y) (k1:∀ o m q,stepEv G r g (k o m q) W=some y→P (.Attribute o m q)) (k2:Nat.beq f.ctorIdx 20=false→stepEv G r g d W=some y→P f):P f:=by
 cases f
 case Attribute=>exact k1 _ _ _ e
 all_goals exact k2 rfl e
theorem comp_i {elt:PySem.Expr}{gens:List Comprehension}{sc':Scope}{p:Pos}{cc:CO}{y:V × St}{P:List Comprehension→Prop}(e:stepEv G r g ((cmpStep ce cc).e sc (.ListComp elt gens sc' p)) W=some y)
  (k:∀ nm q it ifs c x fr cl,compScopeOk sc'=true→tame it=true→fewIfs ifs=true→capOk sc sc'.names=true→noInner sc'.names=true→locOk sc'.names=true→nodupB cl=true→tgt ce sc' (.Name nm q)=some (c,x)→namesBy ce .free sc'.names=some fr→namesBy ce .cell sc'.names=some cl →
   stepEv G r g (.comp (cc.e sc' elt) c x (cc.e sc it) (cc.ts sc' ifs) fr cl) W=some y→P [⟨.Name nm q,it,ifs,0⟩]):P gens:=by
 refine exX e fun s1 h e=>?_;revert h;refine Bt ?_;intro z h;revert h;refine Bo ?_;intro t hg h;refine gen1_i hg ?_;revert h;refine Bt ?_;intro w h;revert h;refine Bo ?_;intro ci h1 h;revert h;refine Bo ?_;intro fr h2 h;revert h;refine Bo ?_;intro cl h3 h;revert h;refine Bt ?_;intro nd h;exact k _ _ _ _ _ _ _ _ (al z) (al w) (ar w) (al (ar z)) (al (ar (ar z))) (ar (ar (ar z))) nd h1 h2 h3 (oe (P:=fun s1=>stepEv G r g s1 W=some y) h.symm e)
theorem stepTst_val {x:X}{g:Ctx}{W:St}(S:Sound b m r) (h:isTest x=false):stepTst r g x W=b1 (r.ev g x W) eTru:=by
 cases x
 case bad=>rw[S.bad];rfl
 all_goals first | rfl | cases h
theorem tst_any {x:PySem.Expr}{n:Nat}{t:Bool}{W':St}{Q:Bool→Shared→Prop}(S:Sound b m r) (e:b1 (r.ev g ((cmp ce n).e sc x) W) eTru=some (t,W')) (hw:∀ env whole,isTrue x env whole=(do let v ← whole;standAt x.pos;holding [v] (truthy v))) (EN:EnvR b kp ρ sc g env) (hA:AOk (m+1) A) (R:SR b kp ρ W s)
  (h:Back b kp ρ W' (fun ux uy y=>y=t) Q):wpAny (model b.prog b.w) A (isTrue x env (eval x env)) Q E s:=by
 refine bC fun hN=>?_;have hA':=hA.le (Nat.le_succ m);revert e;refine B1 ?_;intro v W₁ h1 e1;revert e1;refine B0 ?_;intro q e2 e3;refine Q02 (pj e3) ?_;rintro rfl rfl;refine hN ?_;refine isTrue_plain (S.ev h1 EN hA' R fun kp₁ ρ₁ xv s₁ k1 R1 hx=>?_) (hw _ _);exact s_tru e2 hx hA R1 fun tk htk=>h.mono k1 kp₁ ρ₁ _ _ (Le.refl _ _) (R1.tok htk) rfl
theorem s_tst {x:PySem.Expr}{n:Nat}{t:Bool}{W':St}{Q:Bool→Shared→Prop}(S:Sound b m r) (e:stepTst r g ((cmp ce n).t sc x) W=some (t,W')) (EN:EnvR b kp ρ sc g env) (hA:AOk (m+1) A) (R:SR b kp ρ W s)
  (h:Back b kp ρ W' (fun ux uy y=>y=t) Q):wpAny (model b.prog b.w) A (isTrue x env (eval x env)) Q E s:=by
 have hA':=hA.le (Nat.le_succ m);have bad:∀ {y},stepTst r g .bad W=some y→False:=fun q=>by exact nn q
 cases n with
 | zero=>exact (bad e).elim
 | succ n=>
 have e₀:stepTst r g ((cmpStep ce (cmp ce n)).t sc x) W=some (t,W'):=e;rcases t_split (cc:=cmp ce n) (sc:=sc) x with ⟨op,es,p,rfl⟩ | ⟨a,ops,cs,p,rfl⟩ | z | ⟨z,hw⟩
 ·have e':r.tsts g (isAnd op) ((cmp ce n).ts sc es) W=some (t,W'):=e;exact S.tsts e' EN hA' R h
 ·match ops,cs,e with
  | [op],[c],e=>exact tst_Cmp S e EN hA R h
  | [],ux,e=>exact (bad e).elim
  | [ux],[],e=>exact (bad e).elim
  | [ux],uy::uz::uw,e=>exact (bad e).elim
  | ux::uy::uz,uw,e=>exact (bad e).elim
 ·rw[z] at e₀;exact (bad e₀).elim
 ·rw[z] at e₀;cases q:isTest ((cmp ce n).e sc x) with
  | true=>rw[notT,q] at e₀;exact (bad e₀).elim
  | false=>
   rw[notT,q,cond_false,stepTst_val S q] at e₀;exact tst_any S e₀ hw EN hA R h
theorem s_tsts {es:List PySem.Expr}{n:Nat}{t:Bool}{op:BoolOp}{W':St}{Q:Bool→Shared→Prop}(S:Sound b m r) (e:stepTsts r g (isAnd op) ((cmp ce n).ts sc es) W=some (t,W')) (EN:EnvR b kp ρ sc g env) (hA:AOk (m+1) A) (R:SR b kp ρ W s)
  (h:Back b kp ρ W' (fun ux uy y=>y=t) Q):wpAny (model b.prog b.w) A (allTrue op es env) Q E s:=by
 have hA':=hA.le (Nat.le_succ m);cases n with
 | zero=>
  change stepTsts r g (isAnd op) [.bad] W=some (t,W') at e;dsimp only[ZX,ZY] at e;revert e;refine B1 ?_;intro ux uy q1 uz;rw[S.badT] at q1;exact nn q1
 | succ n=>
 cases es with
 | nil=>
  refine wpAny_pure (sb2 (P:=fun t W'=>Back b kp ρ W' (fun ux uy y=>y=t) Q) e h kp ρ _ _ (Le.refl _ _) R ?_);cases op<;>rfl
 | cons x es=>
  revert e;refine B1 (f:=fun t W=>bif t then (bif isAnd op then r.tsts g (isAnd op) ((cmp ce n).ts sc es) W else some (true,W)) else (bif isAnd op then some (false,W) else r.tsts g (isAnd op) ((cmp ce n).ts sc es) W)) ?_;intro q W₁ h1 e1;have:allTrue op (x::es) env=(do
   match op,← isTrue x env (eval x env) with
   | .And,false=>pure false
   | .Or,true=>pure true
   | ux,uy=>allTrue op es env):=rfl
  refine wpAny_bind (S.tst h1 EN hA' R fun kp₁ ρ₁ y s₁ k1 R1 hy=>?_);replace EN:=EN.mono k1;replace h:=h.mono k1;clear h1 this R k1 hA;subst hy;cases op<;>cases y
  ·exact wpAny_pure (sb2 (P:=fun t W'=>Back b kp₁ ρ₁ W' (fun ux uy y=>y=t) Q) e1 h kp₁ ρ₁ _ _ (Le.refl _ _) R1 rfl)
  ·exact S.tsts (op:=.And) e1 EN hA' R1 h
  ·exact S.tsts (op:=.Or) e1 EN hA' R1 h
  ·exact wpAny_pure (sb2 (P:=fun t W'=>Back b kp₁ ρ₁ W' (fun ux uy y=>y=t) Q) e1 h kp₁ ρ₁ _ _ (Le.refl _ _) R1 rfl)
end
end Mine
end
section
open PySem PySem.W PySem.Spec PySem.Calls PyProof.Rows Builtin Builtin.ObjectAttr
namespace Mine
structure ClsOk (b:BS) (G:Sig):Prop where
 get:findIn b.K (.ref G.cls) "__getattribute__"=some (some (.builtin "object.__getattribute__"))
 hook:findIn b.K (.ref G.cls) "__getattr__"=some none
 set:findIn b.K (.ref G.cls) "__setattr__"=some (some (.builtin "object.__setattr__"))
 over:plainOver b.K G.cls=true
 hasDict:(clsIn b.K G.cls).any (·.hasDict)=true
 att:∀ n i,idx n tab=some i→isAtt G i=true→findIn b.K (.ref G.cls) n=some none
 meth:∀ n i f,idx n tab=some i→lkp i G.meths=some f→findIn b.K (.ref G.cls) n=some (some (.ref f))∧typeIn b.K (.ref f)=some (.type "function")∧specialIn b.K (.ref f) "__get__"=some (some (.builtin "function.__get__")) ∧
  takesIn b.K (.ref f)=some false∧copiedNames.contains n=false
 make:makesIn b.K G.cls=true
 ini:findIn b.K (.ref G.cls) "__init__"=some (some (.ref G.ini))
 iniT:typeIn b.K (.ref G.ini)=some (.type "function")
 keep:keepIn b.K (.ref G.cls)=true
section
variable {b:BS}{G:Sig}{r:Ops}{m:Nat}{kp:Kp}{ρ:List Addr}{W:St}{s:Shared}{sc:Scope}{g:Ctx}{env:Env}{A:Around}{E:Value→Shared→Prop}
theorem isStr_self {n:Str}{t:Tok}:(Value.str n t).isStr n=true:=by simp[Value.isStr]
theorem isStr_ne {n k:Str}{t:Tok}(h:k≠n):(Value.str k t).isStr n=false:=by simp[Value.isStr,h]
theorem DR.noRef {es:List (Nat × V)}{ds:List DictEntry}(h:DR kp ρ es ds):ds.any (·.refKey)=false:=by
 induction h with
 | nil=>rfl
 | cons hj hv h ih=>rw[List.any_cons,ih];rfl
theorem DR.find {n:Str}{i:Nat}(hi:idx n tab=some i) {es:List (Nat × V)}{ds:List DictEntry}(h:DR kp ρ es ds):
  (∀ v,lkp i es=some v→∃ d,ds.find? (·.key.isStr n)=some d∧VR kp ρ v d.val)∧(lkp i es=none→ds.find? (·.key.isStr n)=none):=by
 induction h with
 | nil=>exact ⟨fun ux e=>nn e,fun ux=>rfl⟩
 | @cons j k v' hsh t x m es hj hv h ih=>
  by_cases q:k=n
  ·subst q;rw[hi] at hj;obtain rfl:=sI hj;refine ⟨fun v e=>?_,fun e=>?_⟩
   ·simp only[List.find?_cons,isStr_self];rw[J0] at e;rw[Nat.beq_refl] at e;obtain rfl:=sI e;exact ⟨_,rfl,hv⟩
   ·rw[J0] at e;rw[Nat.beq_refl] at e;cases e
  ·have hne:Nat.beq i j=false:=by
    cases z:Nat.beq i j with
    | false=>rfl
    | true=>
     have:=nE z;subst this;exact absurd (idx_inj hj hi) q
   refine Q02 ih ?_;intro h1 h2;refine ⟨fun v e=>?_,fun e=>?_⟩
   ·rw[J0] at e;rw[hne] at e;refine Q12 (h1 v e) ?_;intro d a c;exact ⟨d,by rw[List.find?_cons,isStr_ne q];exact a,c⟩
   ·rw[J0] at e;rw[hne] at e;simp only[List.find?_cons,isStr_ne q];exact h2 e
theorem DR.put {n:Str}{i:Nat}{v:V}{x:Value}{hsh:Int}{t:Tok}(hi:idx n tab=some i) (hv:VR kp ρ v x) {es:List (Nat × V)}{ds:List DictEntry}(h:DR kp ρ es ds):DR kp ρ (put i v es) (putL n hsh (.str n t) x ds):=by
 induction h with
 | nil=>exact .cons hi hv .nil
 | @cons j k w hs u y m es hj hw h ih=>
  unfold Mine.put putL;by_cases q:k=n
  ·subst q;rw[hi] at hj;obtain rfl:=sI hj;rw[Nat.beq_refl,cond_true];dsimp only;rw[isStr_self,if_pos rfl];exact .cons hi hv h
  ·have hne:Nat.beq i j=false:=by
    cases z:Nat.beq i j with
    | false=>rfl
    | true=>
     have:=nE z;subst this;exact absurd (idx_inj hj hi) q
   rw[hne,cond_false];dsimp only;rw[isStr_ne q,if_neg Bool.false_ne_true];exact .cons hj hw ih
theorem DR.length {es:List (Nat × V)}{ds:List DictEntry}(h:DR kp ρ es ds):ds.length=len es:=by
 induction h with
 | nil=>rfl
 | cons hj hv h ih=>rw[List.length_cons,ih];rfl
theorem len_put (i:Nat) (v:V):∀ es:List (Nat × V),len (put i v es)≤len es+1
 | []=>Nat.le_refl _
 |(j,w)::r=>by
  dsimp only[J1,J2];cases Nat.beq i j with
  | true=>exact Nat.le_succ _
  | false=>exact Nat.succ_le_succ (len_put i v r)
theorem lookIn_some {n:Str}{i k:Nat}{v:V}{es:List (Nat × V)}{ds:List DictEntry}(hi:idx n tab=some i) (h:DR kp ρ es ds) (e:lkp i es=some v):∃ x,lookIn n (dictOf ds k)=some (some x)∧VR kp ρ v x:=by
 refine Q12 ((h.find hi).1 v e) ?_;intro d a c;refine ⟨d.val,?_,c⟩;show (match ds.find? (·.key.isStr n) with | some e=>some (some e.val) | none=>if ds.any (·.refKey) then none else some none)=_
 rw[a]
theorem lookIn_none {n:Str}{i k:Nat}{es:List (Nat × V)}{ds:List DictEntry}(hi:idx n tab=some i) (h:DR kp ρ es ds) (e:lkp i es=none):lookIn n (dictOf ds k)=some none:=by
 have a:=(h.find hi).2 e;show (match ds.find? (·.key.isStr n) with | some e=>some (some e.val) | none=>if ds.any (·.refKey) then none else some none)=_
 refine a.symm ▸ h.noRef.symm ▸ ?_;rfl
theorem lookIn_any {n:Str}{i k:Nat}{es:List (Nat × V)}{ds:List DictEntry}(hi:idx n tab=some i) (h:DR kp ρ es ds):(lookIn n (dictOf ds k)).isSome=true:=by
 refine bC fun hN=>?_;cases q:lkp i es with
 | none=>refine hN ?_;rw[lookIn_none hi h q];rfl
 | some v=>obtain ⟨x,a,ux⟩:=lookIn_some (k:=k) hi h q;refine hN ?_;rw[a];rfl
theorem handed_VR {v:V}{x:Value}(h:VR kp ρ v x):handedIn x=true:=
 VR.rec (motive_1:=fun v x ux=>handedIn x=true) (motive_2:=fun ux uy uz=>True) rfl (fun ux=>rfl) (fun ux uy=>rfl) (fun ux uy=>rfl) (fun b=>by cases b<;>first | rfl | decide +kernel) (fun ux=>rfl) (fun ux=>rfl) (fun ux uy=>rfl) (fun ux uy uz=>rfl) (fun ux=>rfl) (fun ux=>rfl) (fun ux uy uz uw ut=>rfl) (fun ux uy uz=>rfl) trivial (fun ux uy uz uw=>trivial) h
theorem inst_at {c d:Nat}{x:Value}{es:List (Nat × V)}(hv:VR kp ρ (.inst c d) x) (hd:nth W d=some (.dict es)) (R:SR b kp ρ W s):∃ a dx ds k,x=.ref a∧nth ρ d=some dx∧s.heap.get? dx=some (dictOf ds k)∧DR kp ρ es ds∧InstAt s.heap a (instObj c dx) c (some (dictOf ds k)):=by
 apply VR.cI hv;intro ux uy h1 h2;obtain ⟨ob,h3,ds,k,h4,h5⟩:=R.at hd rfl h1;subst h4;exact ⟨_,_,ds,k,rfl,h1,h3,h5,⟨R.get h2,rfl,rfl,h3⟩⟩
theorem beqN {a c:Nat}(h:Nat.beq a c=true):a=c:=nE h
theorem find_own {n:Str}{i k:Nat}{v:V}{es:List (Nat × V)}{ds:List DictEntry}(C:ClsOk b G) (hi:idx n tab=some i) (ha:isAtt G i=true) (h:DR kp ρ es ds) (e:lkp i es=some v):
  ∃ x,findObj b.K G.cls (some (dictOf ds k)) n=some (.value x)∧VR kp ρ v x:=by
 refine bC fun hN=>?_;refine Q12 (lookIn_some (k:=k) hi h e) ?_;intro x a c;refine hN ?_;refine ⟨x,?_,c⟩;refine Q12 (any_some C.hasDict) ?_;intro cd h1 h2;unfold findObj;simp only[h1,Option.bind_some,C.att n i hi ha];simp only[Option.bind_some,PySem.W.ownOf,h2,if_pos,a]
theorem s_getAtt {o v:V}{x:Value}{n:Str}{i:Nat}{expr:Bool}{Q:Value→Shared→Prop}(C:ClsOk b G) (hi:idx n tab=some i) (e:getAtt G o i W=some v) (ho:VR kp ρ o x) (hA:AOk (m+1) A) (R:SR b kp ρ W s)
  (h:Back b kp ρ W (fun kp ρ y=>VR kp ρ v y) Q):wpAny (model b.prog b.w) A (getAttr x n expr) Q E s:=by
 refine bC fun hN=>?_;revert e;refine OInst ?_;rintro c d rfl e
 ·revert e;refine Bt ?_;intro z e;have:=beqN z;subst this
  ·revert e;refine OD ?_;intro es hd e;obtain ⟨a,dx,ds,k,rfl,h1,h2,h3,I⟩:=inst_at ho hd R;cases hw:lkp i es with
   | some w=>
    rw[hw] at e;revert e;refine Bt ?_;intro z2 e;obtain rfl:=sI e;refine Q12 (find_own (k:=k) C hi z2 h3 hw) ?_;intro y f1 f2;refine hN ?_;exact get_value R.inK I C.get f1 (handed_VR f2) (h kp ρ _ _ (Le.refl _ _) (R.tok (htk:=Nat.le_succ _)) f2)
   | none=>
    rw[hw] at e
    ·revert e;refine Bo ?_;intro f hf e;obtain rfl:=sI e;refine Q05 (C.meth n i f hi hf) ?_;intro m1 m2 m3 m4 m5;refine Q12 (any_some C.hasDict) ?_;intro cd q1 q2;have hfo:findObj b.K G.cls (some (dictOf ds k)) n=some (.bind (.builtin "function.__get__") (.ref f)):=by
      unfold findObj;simp only[q1,Option.bind_some,m1];simp only[Option.bind_some,m3,m4,PySem.W.ownOf,q2,if_pos,lookIn_none (k:=k) hi h3 hw,m5,Bool.false_and,Bool.false_eq_true,if_false]
     refine hN ?_;refine get_bind R.inK I C.get hfo C.hook (wpAny_call (fn_get R.inK m2 ?_));have hl:=R.leK (a:=s.heap.objs.size) (methodObj (.ref f) (.ref a)) (Nat.le_refl _);show wpAny _ _ (handedOut (.ref s.heap.objs.size)) _ _ _;exact wpAny_pure (h _ ρ _ _ hl (R.keepNew (htk:=Nat.le_succ _) (tk:=s.toks+1) (fun ux uy e=>Heap.get?_push_of_some _ e) (Nat.le_refl _) (Heap.get?_push_size _ rfl)) (.meth (addK_self _ _ _) (.st f) (ho.mono hl)))
set_option tactic.hygienic true in
theorem osa_raw {prog:Program}{w:World}{K:Frag}{C x:Addr}{R:Result→Shared→Prop}{ox:Obj}{dx:Addr}{name:Str}{tk:Tok}{v:Value}{es:List DictEntry}{n:Nat}(X:K.In s.heap)
  (I:InstAt s.heap x ox C (some (dictOf es n))) (hd:ox.dict=some dx) (hp:plainOver K C=true) (ht:takerIn K C name=some none) (hh:(clsIn K C).any (·.hasDict)=true)
  (hl:(lookIn name (dictOf es n)).isSome=true) (hz:(putL name (PyData.keyHash w.params name) (.str name s.toks) v es).length≤1000)
  (h:R (.ok (.ret .none)) { s with heap:=s.heap.update dx (Obj.putName name (PyData.keyHash w.params name) (.str name s.toks) v),toks:=s.toks+1 }):
  codeAny (model prog w) A (.call (.builtin "object.__setattr__") ⟨[.ref x,.str name tk,v],[]⟩) R s:=by
 refine osa_open X I hp ht fun b=>?_;refine Q12 (any_some hh) ?_;intro cd hc hd';obtain ⟨hx,hcl,hn,D⟩:=I;rw[hd] at D;dsimp only at D;have D':=Heap.get?_update_self (Obj.putName name (PyData.keyHash w.params name) (.str name s.toks) v) D (by rw[putName_dict];rfl);simp only[putName_dict] at D';obtain ⟨oc,odi,oda,osl⟩:=ox;dsimp only at hcl hd;subst hcl hd;refine wpAny_bind (wpAny_pure (wpAny_bind (wpAny_bind (wpAny_loadPart hx (wpAny_bind ((looks_clsIn X hc).here ?_))))));refine hd'.symm ▸ ?_;refine wpAny_pure (a:=some dx) (wpAny_bind (wpAny_pure (wpAny_bind ?_)));refine wpAny_bind (wpAny_bind (wpAny_askSetting (wpAny_pure (wpAny_bind (wpAny_mkText (wpAny_bind (wpAny_loadPart D ?_)))))));unfold lookIn at hl;dsimp only at hl ⊢;have c:(!es.toArray.any (·.key.isStr name)&&es.toArray.any (·.refKey))=false:=by
  refine Array.any_toList ▸ Array.any_toList ▸ ?_;split at hl
  ·rename_i en he;rw[List.any_eq_true.mpr ⟨en,List.mem_of_find?_eq_some he,List.find?_some he⟩];rfl
  ·split at hl
   ·exact ft hl
   ·rename_i z;rw[Bool.not_eq_true] at z;rw[z,Bool.and_false]
 rw[aRefKeyMayBeTheName_at,c];refine wpAny_updatePart D ?_;refine wpAny_bind (wpAny_lookBehind D' (pastItsLine_dict (by rw[List.size_toArray,sizeLine_eq];exact lT hz (nL rfl))) ?_);exact wpAny_pure h
theorem s_setAtt {o v:V}{x y:Value}{n:Str}{i:Nat}{W':St}{Q:Unit→Shared→Prop}(C:ClsOk b G) (hi:idx n tab=some i) (e:setAtt G o i v W=some W') (ho:VR kp ρ o x) (hv:VR kp ρ v y) (R:SR b kp ρ W s)
  (h:∀ s',SR b kp ρ W' s'→Q () s'):wpAny (model b.prog b.w) A (setAttr x n y) Q E s:=by
 revert e;refine OInst ?_;rintro c d rfl e
 ·revert e;refine Bt ?_;intro z e;have z1:=al z;have z2:=ar z;have:=beqN z1;subst this
  ·revert e;refine OD ?_;intro es hd e;revert e;refine Bt ?_;intro z3 e;obtain rfl:=sI e;obtain ⟨a,dx,ds,k,rfl,h1,h2,h3,I⟩:=inst_at ho hd R;refine set_plain R.inK I C.set ?_;have hp:=fun (q:Int) (t:Tok)=>DR.put (hsh:=q) (t:=t) hi hv h3;refine osa_raw (s:={ s with toks:=s.toks+1 }) R.inK I rfl C.over ?_ C.hasDict (lookIn_any hi h3) ?_ (h _ ?_)
   ·unfold takerIn;refine (C.att n i hi z2).symm ▸ ?_;rfl
   ·rw[(hp _ _).length];have:=len_put i v es;have:=ble_iff.mp z3;omega
   ·refine R.upd (htk:=Nat.le_add_right _ 2) (tk:=s.toks+1+1) hd rfl h1 (Heap.SameBut.update ..).extBut (by rw[(Heap.SameBut.update ..).1];exact R.sz) (Heap.get?_update_self _ h2 (by rw[putName_dict];rfl)) ⟨_,_,putName_dict ..,hp _ _⟩
set_option tactic.hygienic true in
theorem s_findM {o:V}{x:Value}{n:Str}{i:Nat}{p:V × List V}{pl:Sem Bool}{Q:Value × List Value→Shared→Prop}(C:ClsOk b G) (hi:idx n tab=some i) (e:findM G o i W=some (some p)) (ho:VR kp ρ o x) (hA:AOk (m+1) A) (R:SR b kp ρ W s)
  (h:∀ f xs,VR kp ρ p.1 f→VRs kp ρ p.2 xs→∀ tk,s.toks≤tk→Q (f,xs) { s with toks:=tk }):wpAny (model b.prog b.w) A (getMethod x n pl) Q E s:=by
 refine bC fun hN=>?_;cases o
 case inst c d=>
  revert e;refine Bt ?_;intro z e;have:=beqN z;subst this
  ·revert e;refine OD ?_;intro es hd e;obtain ⟨a,dx,ds,k,rfl,h1,h2,h3,I⟩:=inst_at ho hd R;cases hw:lkp i es with
   | some w=>
    rw[hw] at e;revert e;refine Bt ?_;intro z2 e;cases e;refine Q12 (find_own (k:=k) C hi z2 h3 hw) ?_;intro y f1 f2;refine hN ?_;refine method_usual R.inK I C.get C.hook (C.att n i hi z2) rfl ?_;exact get_value R.inK I C.get f1 (handed_VR f2) (h y [] f2 .nil _ (Nat.le_succ _))
   | none=>
    rw[hw] at e
    ·revert e;refine Bo ?_;intro f hf e;cases e;refine Q05 (C.meth n i f hi hf) ?_;intro m1 m2 m3 m4 m5;refine hN ?_;exact method_fn R.inK I C.get C.hook m1 m2 (by show (lookIn n (dictOf ds k)).map (·.isSome)=some false;rw[lookIn_none hi h3 hw];rfl) (h (.ref f) [.ref a] (.st f) (.cons ho .nil) s.toks (Nat.le_refl _))
 case str _=>exact nosome e
 case int _=>exact nosome e
 case ref l=>
  revert e;refine OL ?_;intro ux uy e;exact nosome e
 case st a=>exact nosome e
 all_goals exact nn e
end
end Mine
end
section
open PySem PySem.W PySem.Spec PySem.Calls PyProof.Rows Builtin Builtin.Str
namespace Mine
structure NamesOk (G:Sig):Prop where
 join:idx (Str.ofString "join") tab=some G.mJoin
 split:idx (Str.ofString "split") tab=some G.mSplit
 count:idx (Str.ofString "count") tab=some G.mCount
 append:idx (Str.ofString "append") tab=some G.mAppend
 insert:idx (Str.ofString "insert") tab=some G.mInsert
 pop:idx (Str.ofString "pop") tab=some G.mPop
 reverse:idx (Str.ofString "reverse") tab=some G.mReverse
 bitLength:idx (Str.ofString "bit_length") tab=some G.mBitLength
 sub:idx (Str.ofString "sub") tab=some G.mSub
noncomputable def PatOk (b:BS) (G:Sig):Prop:=∀ a code,G.pat a=some code→∀ {kp ρ W s A}{E:Value→Shared→Prop},SR b kp ρ W s →
 (∀ pl (Q:Value × List Value→Shared→Prop),Q (.builtin "re.Pattern.sub",[.ref a]) s→wpAny (model b.prog b.w) A (getMethod (.ref a) (Str.ofString "sub") pl) Q E s) ∧
 (∀ repl text t u out (Q:Value→Shared→Prop),AOk 1 A→G.sub code repl text=some out→len repl≤1000→len text≤1000→(∀ s' t',SR b kp ρ W s'→Q (.str (mkS out) t') s')→wpAny (model b.prog b.w) A (call (.builtin "re.Pattern.sub") [.ref a,.str (mkS repl) t,.str (mkS text) u]) Q E s)
section
variable {b:BS}{G:Sig}{r:Ops}{m:Nat}{kp:Kp}{ρ:List Addr}{W:St}{s:Shared}{sc:Scope}{g:Ctx}{env:Env}{A:Around}{E:Value→Shared→Prop}
noncomputable def bId (G:Sig) (o:V) (m:Nat):String:=match o with
 | .str ux=>bif Nat.beq m G.mJoin then "str.join" else bif Nat.beq m G.mSplit then "str.split" else "str.count"
 | .int ux=>"int.bit_length"
 | .ref ux=>bif Nat.beq m G.mAppend then "list.append" else bif Nat.beq m G.mInsert then "list.insert" else bif Nat.beq m G.mPop then "list.pop" else "list.reverse"
 | ux=>"re.Pattern.sub"
theorem nameIs {n n':Str}{i:Nat}(h:idx n tab=some i) (h':idx n' tab=some i):n=n':=idx_inj h h'
theorem listType {l:Addr}{xs:Array Value}{n:Nat}(h:IsL s.heap l xs n):s.TypeIs (.ref l) "list":=⟨_,h,rfl⟩
theorem listPlain {l:Addr}{xs:Array Value}{n:Nat}(h:IsL s.heap l xs n):∀ a,Value.ref l=.ref a→∃ o,s.heap.get? a=some o∧o.dict=none:=fun a e=>by cases e;exact ⟨_,h,rfl⟩
set_option tactic.hygienic true in
theorem s_findB {o:V}{x:Value}{n:Str}{i:Nat}{pl:Sem Bool}{Q:Value × List Value→Shared→Prop}(NO:NamesOk G) (PO:PatOk b G) (hi:idx n tab=some i) (e:findM G o i W=some none) (ho:VR kp ρ o x) (R:SR b kp ρ W s)
  (h:Q (.builtin (bId G o i),[x]) s):wpAny (model b.prog b.w) A (getMethod x n pl) Q E s:=by
 cases o
 case inst c d=>
  refine bC fun hN1=>?_;replace e:=bv e;revert e;refine OD ?_;intro es hd e;cases hw:lkp i es with
  | some w=>
   rw[hw] at e;exact nomatch (bv e)
  | none=>
   rw[hw] at e;revert e;refine Bo ?_;intro f hf e;exact nomatch e
 case str p=>
  revert h;apply VR.cs ho;intro t h;have z:=bt e;unfold bId at h;dsimp only at h;cases z1:Nat.beq i G.mJoin with
  | true=>
   rw[z1,cond_true] at h;have:=beqN z1;subst this;rw[nameIs hi NO.join]
   with_reducible exact PySem.GM.join h
  | false=>
  rw[z1,cond_false] at h;cases z2:Nat.beq i G.mSplit with
  | true=>
   rw[z2,cond_true] at h;have:=beqN z2;subst this;rw[nameIs hi NO.split]
   with_reducible exact PySem.GM.split h
  | false=>
  rw[z2,cond_false] at h;unfold strM at z;rw[z1,z2,Bool.false_or,Bool.false_or] at z;have:=beqN z;subst this;rw[nameIs hi NO.count]
  with_reducible exact PySem.GM.count h
 case int k=>
  revert h;apply VR.ci ho;intro t h;have z:=bt e;have:=beqN z;subst this;rw[nameIs hi NO.bitLength];exact getMethod_int_bit_length h
 case ref l=>
  revert h;apply VR.cr ho;intro ux hl h
  ·refine bC fun hN7=>?_;revert e;refine OL ?_;intro vs hvs e;refine Q22 (R.isList hvs hl) ?_;intro xs k h1 h2;have z:=bt e;unfold bId at h;dsimp only at h;cases z1:Nat.beq i G.mAppend with
   | true=>
    rw[z1,cond_true] at h;have:=beqN z1;subst this;refine hN7 ?_;rw[nameIs hi NO.append]
    with_reducible exact getMethod_builtin (listType h1) PySem.F.plainAttrs_list PySem.F.slot_list_append PySem.F.type_list_append (listPlain h1) h
   | false=>
   rw[z1,cond_false] at h;cases z2:Nat.beq i G.mInsert with
   | true=>
    rw[z2,cond_true] at h;have:=beqN z2;subst this;refine hN7 ?_;rw[nameIs hi NO.insert]
    with_reducible exact getMethod_builtin (listType h1) PySem.F.plainAttrs_list PySem.F.slot_list_insert PySem.F.type_list_insert (listPlain h1) h
   | false=>
   rw[z2,cond_false] at h;cases z3:Nat.beq i G.mPop with
   | true=>
    rw[z3,cond_true] at h;have:=beqN z3;subst this;refine hN7 ?_;rw[nameIs hi NO.pop]
    with_reducible exact getMethod_builtin (listType h1) PySem.F.plainAttrs_list PySem.F.slot_list_pop PySem.F.type_list_pop (listPlain h1) h
   | false=>
   rw[z3,cond_false] at h;unfold lstM at z;rw[z1,z2,z3,Bool.false_or,Bool.false_or,Bool.false_or] at z;have:=beqN z;subst this;refine hN7 ?_;rw[nameIs hi NO.reverse]
   with_reducible exact getMethod_builtin (listType h1) PySem.F.plainAttrs_list PySem.F.slot_list_reverse PySem.F.type_list_reverse (listPlain h1) h
 case st a=>
  revert h;apply VR.ct ho;intro h;have z:=bt e;have z1:=al z;have z2:=ar z;refine Q11 (Option.isSome_iff_exists.mp z2) ?_;intro code hc;have:=beqN z1;subst this;rw[nameIs hi NO.sub];exact (PO a code hc R).1 pl Q h
 all_goals exact nn e
theorem strsOf_at {vs:List V}{xs:List Value}{ss:List (List Nat)}(h:VRs kp ρ vs xs):strsOf vs=some ss→∃ l:List (Str × Tok),xs=strValues l∧l.map (·.1)=ss.map mkS:=
 VRs.ind (P:=fun vs xs=>∀ ss,strsOf vs=some ss→∃ l:List (Str × Tok),xs=strValues l∧l.map (·.1)=ss.map mkS) (fun ux e=>⟨[],rfl,by rw[← sI e];rfl⟩) (fun v x vs xs h ux ih ss e=>by
  refine bC fun hN=>?_;revert e;refine OStr ?_;rintro p rfl e
  ·revert e;refine Bo ?_;intro us q e;refine hN ?_;rw[← sI e];apply VR.cs h;intro t;exact (ih us q).imp' (fun l=>(mkS p,t)::l) fun l h=>⟨by rw[h.1];rfl,by rw[List.map_cons,List.map_cons,h.2]⟩) h ss
theorem strs_back:∀ (l:List (Str × Tok)) (ss:List (List Nat)),l.map (·.1)=ss.map mkS→VRs kp ρ (ss.map .str) (strValues l)
 | [],[],ux=>.nil
 | [],ux::uy,e=>by cases e
 | ux::uy,[],e=>by cases e
 |(x,t)::l,p::ss,e=>by
  rw[List.map_cons,List.map_cons] at e;have e1:=(List.cons.inj e).1;have e2:=(List.cons.inj e).2;dsimp only at e1;subst e1;exact .cons (.str p t) (strs_back l ss e2)
theorem str_round (x:Str):mkS x.cps.toList=x:=by cases x;simp[mkS]
theorem parts_len (x:Str) (cuts:List Nat) (w:Nat):(partsBetween x cuts w).length≤cuts.length+1:=by
 unfold partsBetween;simp
theorem s_split {p q:List Nat}{t u:Tok}{Q:Value→Shared→Prop}(hq:len q≠0) (hp:len p≤strMax) (R:SR b kp ρ W s)
  (h:Back b kp ρ (W++[.list ((splitS q p).map .str)]) (fun kp ρ y=>VR kp ρ (.ref (len W)) y) Q):wpAny (model b.prog b.w) A (call (.builtin "str.split") [.str (mkS p) t,.str (mkS q) u]) Q E s:=by
 have fin:∀ (l:List (Str × Tok)) (tk:Nat),s.toks≤tk→l.map (·.1)=Txt.split (mkS p) (mkS q)→Q (.ref s.heap.objs.size) { s with heap:=s.heap.push { cls:=.type "list",data:=.seq (strValues l).toArray },toks:=tk }:=fun l tk htk hl=>by
  have e:l.map (·.1)=(splitS q p).map mkS:=by
   rw[hl];unfold splitS;rw[List.map_map]
   conv=>lhs;rw[← List.map_id (Txt.split (mkS p) (mkS q))]
   exact List.map_congr_left fun x ux=>(str_round x).symm
  exact h kp (ρ++[s.heap.objs.size]) _ _ (leR _ _ _)
   (R.alloc (tk:=tk) (fun ux uy e=>Heap.get?_push_of_some _ e) (Nat.le_refl _) (Heap.get?_push_size _ rfl) ⟨strValues l,0,rfl,strs_back l _ e⟩ htk)
   (.ref (by rw[← R.len,nth_app_len];rfl))
 have hl:(mkS p).length=len p:=by show p.toArray.size=len p;rw[List.size_toArray,len_eq]
 have hq':((mkS q).length==0)=false:=by
  have:(mkS q).length=len q:=by show q.toArray.size=len q;rw[List.size_toArray,len_eq]
  rw[this];exact beq_eq_false_iff_ne.mpr hq
 have hs:strMax=1000000:=rfl;have hsl:sizeLine=16777216:=sizeLine_eq;have hx:(mkS p).length≤sizeLine:=by rw[hl];exact lq3 [_,_,_] (.v 0) (.v 1) (.k 16777216) (.v 1) (.v 2) (.k 1000000) (.v 0) (.v 2) (Nat.le_of_eq hsl.symm) (Nat.le_of_eq hs) hp rfl
 have hn:(partsBetween (mkS p) (occurrences (mkS p) (mkS q) 0 (mkS p).length ((mkS p).length+1)) (mkS q).length).length≤sizeLine:=by
  have h1:=parts_len (mkS p) (occurrences (mkS p) (mkS q) 0 (mkS p).length ((mkS p).length+1)) (mkS q).length;have h2:=StrLaws.occ_length_le (mkS p) (mkS q) 0 (mkS p).length ((mkS p).length+1);omega
 cases h1:(decide ((mkS p).length<(mkS q).length)||decide (strKind (mkS p)<strKind (mkS q)))
 ·refine bC fun hN5=>?_;cases hf:(occurrences (mkS p) (mkS q) 0 (mkS p).length ((mkS p).length+1)).isEmpty
  ·refine hN5 ?_;refine call_meets PySem.F.slot_str_split (typeIs_str _ _ _) PySem.F.entry_str_split (PySem.F.args_str_split_2 _ _) (meets_str_split_sep (mkS p) (mkS q) t u h1 hq' hf hx hn) ?_;show wants Q E _ { s with toks:=_,heap:=s.heap.push { cls:=.type "list",data:=.seq (strsFrom s.toks (partsBetween (mkS p) (occurrences (mkS p) (mkS q) 0 (mkS p).length ((mkS p).length+1)) (mkS q).length)).toArray } };rw[strsFrom_eq];exact fin _ _ (Nat.le_add_right _ _) ((numbered_texts _ _).trans ((if_neg (ne_true_of_eq_false h1)).trans (if_neg (ne_true_of_eq_false hf))).symm)
  ·refine hN5 ?_;exact call_meets PySem.F.slot_str_split (typeIs_str _ _ _) PySem.F.entry_str_split (PySem.F.args_str_split_2 _ _) (meets_str_split_not_found (mkS p) (mkS q) t u h1 hq' hf)
    (fin [(mkS p,t)] _ (Nat.le_refl _) ((if_neg (ne_true_of_eq_false h1)).trans (if_pos hf)).symm)
 ·exact call_meets PySem.F.slot_str_split (typeIs_str _ _ _) PySem.F.entry_str_split (PySem.F.args_str_split_2 _ _) (meets_str_split_cannot_occur (mkS p) (mkS q) t u h1)
   (fin [(mkS p,t)] _ (Nat.le_refl _) (if_pos h1).symm)
theorem s_mStr {p:List Nat}{i:Nat}{vs:List V}{v:V}{W':St}{t:Tok}{xs:List Value}{Q:Value→Shared→Prop}(e:mStr G p i vs W=some (v,W')) (hs:VRs kp ρ vs xs) (R:SR b kp ρ W s)
  (h:Back b kp ρ W' (fun kp ρ y=>VR kp ρ v y) Q):wpAny (model b.prog b.w) A (call (.builtin (bId G (.str p) i)) (.str (mkS p) t::xs)) Q E s:=by
 unfold mStr at e;unfold bId;dsimp only;cases z1:Nat.beq i G.mJoin with
 | true=>
  rw[z1,cond_true] at e;rw[cond_true]
  ·revert e;refine OC ?_;rintro v' r rfl e;revert e;refine OE ?_;rintro rfl e;revert e;refine ORef ?_;rintro l rfl e;apply VRs.c1 hs;intro ux uy h1 h2;apply VRs.c0 h2;apply VR.cr h1;intro ux hl
   ·refine bC fun hN2=>?_;revert e;refine OL ?_;intro ws hw e
    ·revert e;refine Bo ?_;intro ss hss e;revert e;refine Bt ?_;intro z e;replace h:=bk e h;refine Q22 (R.isList hw hl) ?_;intro ys k h3 h4;refine Q12 (strsOf_at h4 hss) ?_;intro ll h5 h6;subst h5;refine hN2 ?_;refine wpAny_with_toks (Nat.le_refl s.toks) (PySem.SC.join (isList_of h3) h6 z fun t' tk htk=>?_);refine h kp ρ _ _ (Le.refl _ _) (R.tok htk) ?_;have:Txt.join (mkS p) (ss.map mkS)=mkS (joinS p ss):=(str_round _).symm;rw[this];exact .str _ _
 | false=>
 rw[z1,cond_false] at e;rw[cond_false];cases z2:Nat.beq i G.mSplit with
 | true=>
  rw[z2,cond_true] at e;rw[cond_true]
  ·revert e;refine OC ?_;rintro v' r rfl e;revert e;refine OE ?_;rintro rfl e;revert e;refine OStr ?_;rintro q rfl e;apply VRs.c1 hs;intro ux uy h1 h2;apply VRs.c0 h2;apply VR.cs h1;intro u;cases z:(Nat.beq (len q) 0||!Nat.ble (len p) strMax) with
   | true=>rw[z] at e;exact nn e
   | false=>
   rw[z] at e;replace h:=bk e h;refine Q02 (Bool.or_eq_false_iff.mp z) ?_;intro z3 z4;refine s_split (fun q0=>?_) (ble_iff.mp ?_) R h
   ·rw[q0] at z3;cases z3
   ·cases y:Nat.ble (len p) strMax with
    | true=>rfl
    | false=>rw[y] at z4;cases z4
 | false=>
 rw[z2,cond_false] at e;rw[cond_false];revert e;refine Bt ?_;intro z3 e
 ·revert e;refine OC ?_;rintro v' r rfl e;revert e;refine OE ?_;rintro rfl e;revert e;refine OStr ?_;rintro q rfl e;apply VRs.c1 hs;intro ux uy h1 h2;apply VRs.c0 h2;apply VR.cs h1;intro u;replace h:=bk e h;exact PySem.SC.count (h kp ρ _ _ (Le.refl _ _) (R.tok (htk:=Nat.le_succ _)) (.int _ _))
theorem s_repl {p a c:List Nat}{t u w:Tok}{v:V}{W':St}{Q:Value→Shared→Prop}(e:eRepl a c (.str p) W=some (v,W')) (hu:u≠0) (hv:w≠0) (huv:u≠w) (R:SR b kp ρ W s)
  (h:Back b kp ρ W' (fun kp ρ y=>VR kp ρ v y) Q):wpAny (model b.prog b.w) A (call (.builtin "str.replace") [.str (mkS p) t,.str (mkS a) u,.str (mkS c) w]) Q E s:=by
 have e:(bif Nat.ble (len p) strMax&&Nat.ble (len c) 14&&!beqL a c then some (V.str (replS a c p),W) else none)=some (v,W'):=e;revert e;refine Bt ?_;intro z e;replace h:=bk e h;have z1:=al z;have z2:=ar z;have z3:=al z1;have z4:=ar z1;have hs:strMax=1000000:=rfl;have hp:(mkS p).length=len p:=by show p.toArray.size=len p;rw[List.size_toArray,len_eq]
 have hc:(mkS c).length=len c:=by show c.toArray.size=len c;rw[List.size_toArray,len_eq]
 have hne:(mkS a==mkS c)=false:=by
  cases q:mkS a==mkS c with
  | false=>rfl
  | true=>
   have e1:=eq_of_beq q;have e2:a.toArray=c.toArray:=congrArg Str.cps e1;have e3:a=c:=by simpa using e2
   rw[beqL_eq,e3,beq_self_eq_true] at z2;exact ft z2
 refine wpAny_with_toks (Nat.le_refl s.toks) (PySem.SC.replaceW hu hv huv hne (by rw[hp];have:=ble_iff.mp z3;exact lq2 [_,_] (.v 0) (.k 1048576) (.v 0) (.v 1) (.v 1) (.k 1000000) this (Nat.le_of_eq hs) rfl) (by rw[hc];exact ble_iff.mp z4) fun t' tk htk=>?_);refine h kp ρ _ _ (Le.refl _ _) (R.tok htk) ?_;have:Txt.replace (mkS p) (mkS a) (mkS c)=mkS (replS a c p):=(str_round _).symm;rw[this];exact .str _ _
set_option tactic.hygienic true in
theorem s_mLst {l i:Nat}{a:Addr}{ws:List V}{vs:List V}{v:V}{W':St}{xs:List Value}{Q:Value→Shared→Prop}(hw:nth W l=some (.list ws)) (hl:nth ρ l=some a) (e:mLst G l ws i vs W=some (v,W')) (hs:VRs kp ρ vs xs) (R:SR b kp ρ W s)
  (h:Back b kp ρ W' (fun kp ρ y=>VR kp ρ v y) Q):wpAny (model b.prog b.w) A (call (.builtin (bId G (.ref l) i)) (.ref a::xs)) Q E s:=by
 unfold mLst at e;revert e;refine Bt ?_;intro z e;refine Q22 (R.isList hw hl) ?_;intro ys k h1 h2;have hm:lstMax=100000:=rfl;have hz:ys.toArray.size≤sizeLine:=by
  rw[List.size_toArray,h2.length,sizeLine_eq];have:=ble_iff.mp z;exact lq2 [_,_] (.v 0) (.k 16777216) (.v 0) (.v 1) (.v 1) (.k 100000) this (Nat.le_of_eq hm) rfl
 unfold bId;dsimp only;cases z1:Nat.beq i G.mAppend with
 | true=>
  rw[z1,cond_true] at e;rw[cond_true]
  ·revert e;refine OC ?_;rintro v' r rfl e;revert e;refine OE ?_;rintro rfl e;apply VRs.c1 hs;intro _ _ h3 h4;apply VRs.c0 h4;replace h:=bk e h;refine call_meets PySem.F.slot_list_append (listType h1) PySem.F.entry_list_append (PySem.F.args_list_append_2 _ _) (list_append a ys.toArray k _ hz) ⟨h1,?_⟩;exact h kp ρ _ _ (Le.refl _ _) (R.turn (tk:=s.toks) _ hw hl h1 (ys:=ys++[_]) (by simp) (h2.app (.cons h3 .nil))) .none
 | false=>
 rw[z1,cond_false] at e;rw[cond_false];cases z2:Nat.beq i G.mInsert with
 | true=>
  rw[z2,cond_true] at e;rw[cond_true]
  ·revert e;refine OC ?_;rintro v' r rfl e;revert e;refine ONat ?_;rintro n rfl e;revert e;refine OC ?_;rintro v r rfl e;revert e;refine OE ?_;rintro rfl e;revert e;refine Bt ?_;intro z5 e;have hn:=ble_iff.mp z5;apply VRs.c1 hs;intro _ _ h3 h4;apply VRs.c1 h4;intro _ _ h5 h6;cases h6;apply VR.ci h3;intro u;replace h:=bk e h;rename_i y;obtain ⟨x,hx⟩:∃ x:Int,x=(n:Int):=⟨_,rfl⟩;rw[show Int.ofNat n=x from hx.symm];have hfit:¬ (!Builtin.List.listFitsIndex x)=true:=by
    have:Builtin.List.listFitsIndex x=true:=by
     unfold Builtin.List.listFitsIndex;have h1:-(2^63:Int)≤x:=by omega
     have h2:x<2^63:=by omega
     show (decide (-(2^63:Int)≤x)&&decide (x<2^63))=true;rw[decide_eq_true h1,decide_eq_true h2];rfl
    rw[this];decide
   refine call_meets PySem.F.slot_list_insert (listType h1) PySem.F.entry_list_insert (PySem.F.args_list_insert_3 _ _ _) (AutoSeq1.list_insert_list_int_val_1 a ys.toArray k x u y hfit hz) ⟨h1,?_⟩;refine h kp ρ _ _ (Le.refl _ _) (R.turn (tk:=s.toks) _ hw hl h1 (ys:=ys.take n++y::ys.drop n) ?_ ((h2.take n).app (.cons h5 (h2.drop n)))) .none;have hneg:¬ (x<0):=by omega
   have hnx:x.toNat=n:=by omega
   dsimp only;rw[if_neg hneg,hnx];show (ys.toArray.extract 0 (min n ys.toArray.size)).push y++ys.toArray.extract (min n ys.toArray.size)=_;apply Array.ext';simp;by_cases q:n≤ys.length
   ·rw[Nat.min_eq_left q];rw[List.take_of_length_le (i:=ys.length-n) (by simp)]
   ·have q':ys.length≤n:=by exact lq1 [_,_] (.v 0) (.v 1) (.a (.v 0) (.k 1)) (.v 1) (Nat.lt_of_not_le q) rfl
    rw[Nat.min_eq_right q',List.take_of_length_le (Nat.le_refl _),List.take_of_length_le q',List.drop_eq_nil_of_le (Nat.le_refl _),List.drop_eq_nil_of_le q'];simp
 | false=>
 rw[z2,cond_false] at e;rw[cond_false];cases z3:Nat.beq i G.mPop with
 | true=>
  rw[z3,cond_true] at e;rw[cond_true]
  ·revert e;refine OC ?_;rintro v' r rfl e;revert e;refine OE ?_;rintro rfl e;revert e;refine ONat ?_;rintro n rfl e;have q:=bt e;have:=nE q;subst this;replace e:=bv e;revert e;refine OC ?_;rintro v' r rfl e;apply VRs.c1 hs;intro _ _ h3 h4;apply VRs.c0 h4;apply VR.ci h3;intro u;replace h:=bk e h;cases h2 with
   | cons h5 h6=>
   refine call_meets PySem.F.slot_list_pop (listType h1) PySem.F.entry_list_pop (PySem.F.args_list_pop_2 _ _) (MeetsSeq.list_pop_at a _ k (Int.ofNat 0) u 0 _ (by decide) (by simp[seqIndex?]) (by rfl) hz) ⟨h1,?_⟩;exact h kp ρ _ _ (Le.refl _ _) (R.turn (tk:=s.toks) _ hw hl h1 (by simp) h6) h5
 | false=>
 rw[z3,cond_false] at e;rw[cond_false];revert e;refine Bt ?_;intro z4 e
 ·revert e;refine OE ?_;rintro rfl e;apply VRs.c0 hs;replace h:=bk e h;refine call_meets PySem.F.slot_list_reverse (listType h1) PySem.F.entry_list_reverse (PySem.F.args_list_reverse_1 _) (AutoSeq1.list_reverse_list_0 a ys.toArray k hz) ⟨h1,?_⟩;exact h kp ρ _ _ (Le.refl _ _) (R.turn (tk:=s.toks) _ hw hl h1 (by simp) h2.rev) .none
set_option tactic.hygienic true in
theorem s_meth {o:V}{x:Value}{i:Nat}{vs:List V}{v:V}{W':St}{xs:List Value}{Q:Value→Shared→Prop}(PO:PatOk b G) (e:meth G o i vs W=some (v,W')) (ho:VR kp ρ o x) (hs:VRs kp ρ vs xs) (hA:AOk (m+1) A) (R:SR b kp ρ W s)
  (h:Back b kp ρ W' (fun kp ρ y=>VR kp ρ v y) Q):wpAny (model b.prog b.w) A (call (.builtin (bId G o i)) (x::xs)) Q E s:=by
 cases o
 case str p=>
  apply VR.cs ho;intro t;exact s_mStr e hs R h
 case int k=>
  apply VR.ci ho;intro t;revert e;refine Bt ?_;intro z e
  ·revert e;refine OE ?_;rintro rfl e;revert e;refine ONat ?_;intro n hn e;cases hn;apply VRs.c0 hs;replace h:=bk e h;refine call_int_bit_length (h kp ρ _ _ (Le.refl _ _) (R.tok (htk:=Nat.le_succ _)) ?_);have:((Builtin.Int.intBits (Int.ofNat n):Nat):Int)=Int.ofNat (bitLen n):=by
    unfold Builtin.Int.intBits bitLen;cases n with
    | zero=>rfl
    | succ n=>
     have h1:(Int.ofNat (n+1)==0)=false:=rfl;rw[h1,if_neg Bool.false_ne_true,if_neg (Nat.succ_ne_zero n)];rfl
   rw[this];exact .int _ _
 case ref l=>
  apply VR.cr ho;intro ux hl
  ·revert e;refine OL ?_;intro ws hw e;exact s_mLst hw hl e hs R h
 case st a=>
  apply VR.ct ho;replace e:=bv e
  ·revert e;refine Bo ?_;intro code hc e;revert e;refine OC ?_;rintro u' r rfl e;revert e;refine OC ?_;rintro w' r rfl e;revert e;refine OE ?_;rintro rfl e;revert e;refine OStr ?_;rintro repl rfl e;revert e;refine OStr ?_;rintro text rfl e;apply VRs.c1 hs;intro ux uy h1 h2;apply VRs.c1 h2;intro ux uy h3 h4;apply VRs.c0 h4;apply VR.cs h1;intro t;apply VR.cs h3;intro u;revert e;refine Bt ?_;intro z2 e;have z3:=al z2;have z4:=ar z2
   ·revert e;refine Bo ?_;intro out ho e;replace h:=bk e h;exact (PO a code hc R).2 repl text t u out Q (hA.le (Nat.le_add_left 1 m)) ho (ble_iff.mp z3) (ble_iff.mp z4) fun s' t' R'=>h kp ρ _ s' (Le.refl _ _) R' (.str out t')
 all_goals exact nn e
end
end Mine
end
section
open PySem PySem.W PySem.Spec PySem.Calls PyProof.Rows Builtin
namespace Mine
theorem args_iter2 (a c:Value):argsOk "iter" ⟨[a,c],[]⟩:=by unfold argsOk;kernel_rfl
theorem lookup_method_call:∃ i,typeLookup (.type "method") (Str.ofString "__call__")=pure (some (.builtin i)):=⟨"method.__call__",by rw[typeLookup_type,builtinLookup_eq_fast];kernel_rfl⟩
section
variable {b:BS}{G:Sig}{r:Ops}{m:Nat}{kp:Kp}{ρ:List Addr}{W:St}{s:Shared}{sc:Scope}{g:Ctx}{env:Env}{A:Around}{E:Value→Shared→Prop}
theorem sumInts_at {vs:List V}{xs:List Value}{k:Int}(h:VRs kp ρ vs xs):sumInts vs=some k→∃ ns,IntsAre xs ns∧ns.sum=k:=
 VRs.ind (P:=fun vs xs=>∀ k,sumInts vs=some k→∃ ns,IntsAre xs ns∧ns.sum=k) (fun ux e=>⟨[],.nil,sI e⟩) (fun v x vs xs h ux ih k e=>by
  revert e;refine OInt ?_;rintro i rfl e;revert e;refine Bo ?_;intro u q e;apply VR.ci h;intro t;exact (ih u q).imp' (fun l=>i::l) fun l h=>⟨.cons i t h.1,by rw[List.sum_cons,h.2];exact sI e⟩) h k
theorem s_range {x y z:Int}{t u v:Tok}{tk:Nat}{Q:Value→Shared→Prop}(R:SR b kp ρ W s) (htk:s.toks≤tk)
  (h:Back b kp ρ W (fun kp ρ y'=>VR kp ρ (.range x y z) y') Q):Q (.ref s.heap.objs.size) { s with heap:=s.heap.push { cls:=.type "range",data:=.fields #[.int x t,.int y u,.int z v] },toks:=tk }:=by
 have hl:=R.leK (a:=s.heap.objs.size) { cls:=.type "range",data:=.fields #[.int x t,.int y u,.int z v] } (Nat.le_refl _);exact h _ ρ _ _ hl (R.keepNew (tk:=tk) (fun ux uy e=>Heap.get?_push_of_some _ e) (Nat.le_refl _) (Heap.get?_push_size _ rfl) htk) (.range (addK_self _ _ _))
theorem s_callB {f:B}{vs:List V}{v:V}{W':St}{xs:List Value}{Q:Value→Shared→Prop}(HF:FnObj b G) (e:callB G f vs W=some (v,W')) (hs:VRs kp ρ vs xs) (hA:AOk (m+1) A) (R:SR b kp ρ W s)
  (h:Back b kp ρ W' (fun kp ρ y=>VR kp ρ v y) Q):wpAny (model b.prog b.w) A (call (biV f) xs) Q E s:=by
 have hm:lstMax=100000:=rfl;have hsm:strMax=1000000:=rfl;cases f
 ·revert e;refine OC ?_;rintro v0 r0 rfl e;revert e;refine OE ?_;rintro rfl e;apply VRs.c1 hs;intro ux uy h1 h2;apply VRs.c0 h2;cases v0 with
  | ref l=>
   apply VR.cr h1;intro ux hl;revert e;refine OL ?_;intro ws hw e;revert e;refine Bt ?_;intro z e;replace h:=bk e h;have hz:=ble_iff.mp z;refine Q22 (R.isList hw hl) ?_;intro ys k h3 h4;have hy:ys.toArray.size=len ws:=by rw[List.size_toArray,h4.length]
   refine call_len_list (isList_of h3) (by rw[hy];omega) ?_;rw[hy];exact h kp ρ _ _ (Le.refl _ _) (R.tok (htk:=Nat.le_add_right _ 2)) (.int _ _)
  | str p=>
   apply VR.cs h1;intro t;revert e;refine Bt ?_;intro z e;replace h:=bk e h;have hz:=ble_iff.mp z;have hl:(mkS p).length=len p:=by show p.toArray.size=len p;rw[List.size_toArray,len_eq]
   refine PyProof.Rows.len_str (by rw[hl];omega) ?_;rw[hl];exact h kp ρ _ _ (Le.refl _ _) (R.tok (htk:=Nat.le_add_right _ 2)) (.int _ _)
  | _=>exact nn e
 ·revert e;refine OC ?_;rintro v0 r0 rfl e;revert e;refine OInt ?_;rintro n rfl e;apply VRs.c1 hs;intro ux uy h1 h2;apply VR.ci h1;intro t;rcases r0 with ux | ⟨v1,r1⟩
  ·apply VRs.c0 h2;revert e;refine Bt ?_;intro z e;replace h:=bk e h;exact call_range_1 (s_range R (by exact lq0 [_] (.v 0) (.a (.a (.v 0) (.k 1)) (.k 1)) rfl) h)
  revert e;refine OInt ?_;rintro k rfl e;apply VRs.c1 h2;intro ux uy h3 h4;apply VR.ci h3;intro u;rcases r1 with ux | ⟨v2,r2⟩
  ·apply VRs.c0 h4;revert e;refine Bt ?_;intro z e;replace h:=bk e h;exact call_range_2 (s_range R (by exact Nat.le_succ _) h)
  ·revert e;refine OInt ?_;rintro c rfl e;revert e;refine OE ?_;rintro rfl e;apply VRs.c1 h4;intro ux uy h5 h6;apply VRs.c0 h6;apply VR.ci h5;intro w;revert e;refine Bt ?_;intro z e;replace h:=bk e h;have z1:=al z;have z2:=ar z;have z3:=al z1;have z4:=ar z1;have z5:=eqI_iff.mp z2;have z6:=smallI_iff.mp z3;have z7:=smallI_iff.mp z4;exact call_range_3 (by omega) (s_range R (by exact Nat.le_refl _) h) (.inl (PyProof.noPylong_small (by omega)))
 ·revert e;refine OC ?_;rintro v0 r0 rfl e;revert e;refine ORef ?_;rintro l rfl e;revert e;refine OE ?_;rintro rfl e;apply VRs.c1 hs;intro ux uy h1 h2;apply VRs.c0 h2;apply VR.cr h1;intro ux hl;revert e;refine OL ?_;intro ws hw e;replace h:=bk e h;refine Q22 (R.isList hw hl) ?_;intro ys k h3 h4;refine call_reversed_list (isList_of h3) ?_;refine back_new (o:=.vit l (len ws)) (Q:=Q) (tk:=s.toks) R (fun kp' ρ' s' k1 k2 k3=>h kp' ρ' _ s' k1 k2 (.ref k3)) rfl ⟨_,nth_app_lt _ hl,rfl,?_⟩;rw[List.size_toArray,h4.length];rfl
 ·revert e;refine OC ?_;rintro v0 r0 rfl e;revert e;refine ORef ?_;rintro l rfl e;revert e;refine OE ?_;rintro rfl e;apply VRs.c1 hs;intro ux uy h1 h2;apply VRs.c0 h2;apply VR.cr h1;intro ux hl;revert e;refine OL ?_;intro ws hw e;revert e;refine Bo ?_;intro k q e;replace h:=bk e h;refine Q22 (R.isList hw hl) ?_;intro ys c h3 h4;refine Q12 (sumInts_at h4 q) ?_;intro ns h5 h6;refine Q11 h5.allInts.items ?_;intro is hx;have hl':s.heap.IsList _ (intItems is):=hx ▸ isList_of h3;refine wpAny_with_toks (Nat.le_refl s.toks) (sum_intListG hA.handled hl' fun h' tk t' hk htk=>?_);have e1:ns=is.toList.map (·.1):=by
   rw[← nums_intItems,← hx];exact (show numsOf ys.toArray.toList=ns from h5.numsOf).symm
  have e2:preSum (numAt is) is.size=k:=by
   rw[preSum_eq,List.take_of_length_le (by simp),← e1,h6]
  rw[e2];exact h kp ρ _ _ (Le.refl _ _) (R.ext hk (R.szBy hw rfl hl fun o e=>hk _ _ e) htk) (.int _ _)
 ·revert e;refine OC ?_;rintro v0 r0 rfl e;revert e;refine OInt ?_;rintro x rfl e;revert e;refine OC ?_;rintro v1 r1 rfl e;revert e;refine OInt ?_;rintro y rfl e;revert e;refine OE ?_;rintro rfl e;apply VRs.c1 hs;intro ux uy h1 h2;apply VRs.c1 h2;intro ux uy h3 h4;apply VRs.c0 h4;apply VR.ci h1;intro t;apply VR.ci h3;intro u;revert e;refine Bt ?_;intro z e;replace h:=bk e h;have z1:=al z;have z2:=ar z;have z3:=al z1;have z4:=ar z1;have z5:=ltI_iff.mp z2;have z6:=smallI_iff.mp z3;have z7:=smallI_iff.mp z4;refine divmod_int (by omega) ?_ (.inl (PyProof.noPylong_small (by omega)));have hl:=R.leK (a:=s.heap.objs.size) { cls:=.type "tuple",data:=.seq #[.int (x.fdiv y) s.toks,.int (x.fmod y) (s.toks+1)] } (Nat.le_refl _);exact h _ ρ _ _ hl (R.keepNew (htk:=Nat.le_add_right _ 2) (tk:=s.toks+1+1) (fun ux uy e=>Heap.get?_push_of_some _ e) (Nat.le_refl _) (Heap.get?_push_size _ rfl)) (.tup (xs:=[.int (x.fdiv y) s.toks,.int (x.fmod y) (s.toks+1)]) (addK_self _ _ _) (.cons (.int _ _) (.cons (.int _ _) .nil)))
 ·revert e;refine OC ?_;rintro f r0 rfl e;revert e;refine OC ?_;rintro v1 r1 rfl e;revert e;refine OStr ?_;rintro p rfl e;revert e;refine OE ?_;rintro rfl e;apply VRs.c1 hs;intro ux uy h1 h2;apply VRs.c1 h2;intro ux uy h3 h4;apply VRs.c0 h4;apply VR.cs h3;intro t;rcases p with ux | ⟨uy,uz⟩
  ·refine bC fun hN18=>?_;revert e;refine Bt ?_;intro q e;replace h:=bk e h;refine Q32 (isCallable_inv q) ?_;rintro a self fd rfl hf;refine Q22 (HF a fd hf) ?_;intro fo d h5 h6;refine hN18 ?_;apply VR.cm h1;intro ux uy uz k1 k2 k3;cases k2;refine Q11 lookup_method_call ?_;intro ic hic;refine call_function_entry (by decide +kernel) (by decide +kernel) kdk_entry_iter (args_iter2 _ _) ?_;unfold Builtin.«iter»;refine wpAny_bind (m:=someArgs "iter" 1 2 _) (wpAny_of_eq (a:=[_,_]) (by first | rfl | kernel_rfl!) ?_)
   dsimp only;refine wpAny_bind (wpAny_specialOf (T:="method") ⟨_,R.get k1,rfl⟩ hic ?_);show wpAny _ _ (rule _ >>= _) _ _ _;refine wpAny_bind (wpAny_rule ?_);show wpAny _ _ (newObj (.type "callable_iterator") _ >>= _) _ _ _;refine wpAny_bind (wpAny_newObj_type ?_ (by size_fits));refine wpAny_pure ⟨_,rfl,?_⟩;refine back_new (o:=.cit (.meth (.st a) self)) (Q:=Q) (tk:=s.toks) R (fun kp' ρ' s' k1 k2 k3=>h kp' ρ' _ s' k1 k2 (.ref k3)) rfl ⟨_,t,?_,rfl⟩;exact (VR.meth k1 (.st a) k3).mono (leR _ _ _)
  ·exact nn e
end
end Mine
end
section
open PySem PySem.W PySem.Spec PySem.Calls PyProof.Rows
namespace Mine
section
variable {b:BS}{G:Sig}{r:Ops}{m:Nat}{kp:Kp}{ρ:List Addr}{W:St}{s:Shared}{sc:Scope}{g:Ctx}{env:Env}{A:Around}{E:Value→Shared→Prop}
theorem SR.allocAt (R:SR b kp ρ W s) {a:Addr}{o:O}{ob:Obj}(hB:∀ i x c,nth W i=some x→alive x=true→nth ρ i=some c→c≠a) (hk:kp a=none) (ht:∀ q∈b.tabs,a≠q.2) (hlo:b.hb.objs.size≤a) (hob:s.heap.get? a=some ob)
  (hO:OR kp (ρ++[a]) o ob):SR b kp (ρ++[a]) (W++[o]) s where
 len:=by rw[len_app,len_app,R.len];rfl
 keep:=R.keep
 base:=R.base
 rel:=fun i x e hx=>by
  refine bC fun hN=>?_;rcases nth_app_inv e with e' | ⟨j,rfl,e'⟩
  ·refine Q23 (R.rel i x e' hx) ?_;intro c oc h1 h2 h3;refine hN ?_;exact ⟨c,oc,nth_app_lt _ h1,h2,h3.mono (leR _ _ _)⟩
  ·cases j with
   | zero=>
    obtain rfl:=sI e';refine hN ?_;exact ⟨a,ob,by rw[Nat.add_zero,← R.len,nth_app_len];rfl,hob,hO⟩
   | succ j=>cases e'
 apart:=fun i j x y e1 e2 hx hy q=>by
  have new:∀ j x,nth (W++[o]) j=some x→alive x=true→(nth W j=some x∧∃ c,nth ρ j=some c∧nth (ρ++[a]) j=some c∧c≠a)∨(j=Mine.len W∧nth (ρ++[a]) j=some a):=fun j x e hx=>by
   refine bC fun hN4=>?_;rcases nth_app_inv e with e' | ⟨l,rfl,e'⟩
   ·refine Q23 (R.rel j x e' hx) ?_;intro c oc h1 h2 h3;refine hN4 ?_;exact .inl ⟨e',c,h1,nth_app_lt _ h1,hB j x c e' hx h1⟩
   ·cases l with
    | zero=>refine hN4 ?_;exact .inr ⟨rfl,by rw[Nat.add_zero,← R.len,nth_app_len];rfl⟩
    | succ j=>cases e'
  rcases new i x e1 hx with ⟨w1,c1,r1,n1,l1⟩ | ⟨w1,n1⟩<;>rcases new j y e2 hy with ⟨w2,c2,r2,n2,l2⟩ | ⟨w2,n2⟩
  ·rw[n1,n2] at q;obtain rfl:=sI q;exact R.apart i j x y w1 w2 hx hy (r1.trans r2.symm)
  ·rw[n1,n2] at q;obtain rfl:=sI q;exact absurd rfl l1
  ·rw[n1,n2] at q;obtain rfl:=sI q;exact absurd rfl l2
  ·refine (w1).trans ?_;rw[w2]
 off:=fun i x c e hx hc=>by
  refine bC fun hN7=>?_;rcases nth_app_inv e with e' | ⟨l,rfl,e'⟩
  ·refine Q23 (R.rel i x e' hx) ?_;intro c' oc h1 h2 h3;rw[nth_app_lt _ h1] at hc;obtain rfl:=sI hc;refine hN7 ?_;exact R.off i x _ e' hx h1
  ·cases l with
   | zero=>
    rw[Nat.add_zero,← R.len,nth_app_len] at hc;obtain rfl:=sI hc;refine hN7 ?_;exact ⟨hk,ht⟩
   | succ j=>cases e'
 lo:=fun i c e=>by
  refine bC fun hN10=>?_;rcases nth_app_inv e with e' | ⟨l,rfl,e'⟩
  ·refine hN10 ?_;exact R.lo i c e'
  ·cases l with
   | zero=>cases e';refine hN10 ?_;exact hlo
   | succ j=>cases e'
 kptab:=R.kptab
 tab:=R.tab
 os:=R.os
 gens:=R.gens
 sz:=R.sz
 tk:=R.tk
noncomputable def upFrom:Nat→List α→List Nat
 | ux,[]=>[]
 | n,ux::r=>n::upFrom (n+1) r
theorem nth_upFrom:∀ (l:List α) (n k:Nat),k<len l→nth (upFrom n l) k=some (n+k)
 | [],ux,uy,h=>absurd h (Nat.not_lt_zero _)
 | ux::uy,uz,0,uw=>rfl
 | ux::r,n,k+1,h=>by
  show nth (upFrom (n+1) r) k=_;refine (nth_upFrom r (n+1) k (Nat.lt_of_succ_lt_succ h)).trans ?_
  congr 1
  exact eq0 [_,_] (.a (.a (.v 0) (.k 1)) (.v 1)) (.a (.v 0) (.a (.v 1) (.k 1))) rfl rfl
theorem SR.cells:∀ (cs:List Nat) {ρ:List Addr}{W:St}(base:Nat),SR b kp ρ W s→(∀ i x c,nth W i=some x→alive x=true→nth ρ i=some c→c<base)→(∀ a,base≤a→kp a=none∧(∀ q∈b.tabs,a≠q.2)∧b.hb.objs.size≤a) →
  (∀ k,k<Mine.len cs→∃ v,s.heap.IsCell (base+k) v)→SR b kp (ρ++upFrom base cs) (W++noCells cs) s:=by
 intro z0;induction z0 with
 | nil=>
  intro ρ W base R ux uy uz;show SR b kp (ρ++[]) (W++[]) s;rw[List.append_nil,List.append_nil];exact R
 | cons c cs ih0=>
  intro ρ W base R hB hF hC;refine bC fun hN1=>?_;refine Q22 (hC 0 (Nat.succ_pos _)) ?_;intro v ob h1 h2;refine Q03 (hF base (Nat.le_refl _)) ?_;intro f1 f2 f3;have R':=R.allocAt (o:=.cell none) (fun i x c e ha hc=>Nat.ne_of_lt (hB i x c e ha hc)) f1 f2 f3 h1 ⟨v,h2,fun w q=>nomatch q⟩;have:=ih0 (base+1) R' (fun i x c e ha hc=>by
   rcases nth_app_inv e with e' | ⟨l,rfl,e'⟩
   ·refine Q23 (R.rel i x e' ha) ?_;intro c' oc h3 h4 h5;rw[nth_app_lt _ h3] at hc;obtain rfl:=sI hc;exact Nat.lt_succ_of_lt (hB i x _ e' ha h3)
   ·cases l with
    | zero=>
     rw[Nat.add_zero,← R.len,nth_app_len] at hc;obtain rfl:=sI hc;exact Nat.lt_succ_self _
    | succ j=>cases e') (fun a ha=>hF a (Nat.le_of_succ_le ha)) (fun k hk=>by
   have:=hC (k+1) (Nat.succ_lt_succ hk)
   rwa [show base+(k+1)=base+1+k by exact eq0 [_,_] (.a (.v 0) (.a (.v 1) (.k 1))) (.a (.a (.v 0) (.k 1)) (.v 1)) rfl rfl] at this)
  simp only[List.append_assoc] at this;refine hN1 ?_;exact this
theorem cf_skip {n:Str}{i:Nat}(hi:idx n tab=some i) (names:List (Str × NameKind)) (base:Nat) (acc:List (Str × Addr)) (cs:List Nat) (h:namesBy ce .cell names=some cs) (hn:i ∉ cs):(cellsFrom base names acc).lookup n=acc.lookup n:=by
 refine namesBy_ind (P:=fun l cs=>∀ base acc,i ∉ cs→(cellsFrom base l acc).lookup n=acc.lookup n) (fun ux uy uz=>rfl) (fun nm j r t y yq ih base acc hn=>?_) (fun nm k r t z ih base acc hn=>?_) h base acc hn
 ·refine (ih (base+1) ((nm,base)::acc) fun z=>hn (.tail _ z)).trans ?_;rw[List.lookup_cons];have:(n==nm)=false:=by
   cases w:n==nm with
   | false=>rfl
   | true=>
    rw[← eq_of_beq w,show idx n ce.tab=some i from hi] at y;obtain rfl:=sI y;exact absurd (.head _) hn
  rw[this]
 ·unfold cellsFrom;rw[nkne z,if_neg Bool.false_ne_true];exact ih base acc hn
theorem cf_look {n:Str}{i:Nat}(hi:idx n tab=some i) (names:List (Str × NameKind)) (base k l:Nat) (acc:List (Str × Addr)) (cs:List Nat) (h:namesBy ce .cell names=some cs) (hn:cs.Nodup) (e:lkp i (mkCells k cs)=some l):
  ∃ j,l=k+j∧j<len cs∧(cellsFrom base names acc).lookup n=some (base+j):=by
 refine namesBy_ind (P:=fun names cs=>∀ base k acc,cs.Nodup→lkp i (mkCells k cs)=some l→∃ j,l=k+j∧j<len cs∧(cellsFrom base names acc).lookup n=some (base+j)) (fun ux uy uz uw e=>nn e) (fun nm j r t y yq ih base k acc hn e=>?_) (fun nm kd r t z ih base k acc hn e=>?_) h base k acc hn e
 ·refine Q02 (List.nodup_cons.mp hn) ?_;intro n1 n2;rw[KB,J0] at e;cases w:Nat.beq i j with
  | true=>
   rw[w,cond_true] at e;obtain rfl:=sI e;have:=beqN w;subst this;have:=idx_inj hi y;subst this;refine ⟨0,rfl,Nat.succ_pos _,(cf_skip hi r (base+1) ((n,base)::acc) t yq n1).trans ?_⟩;rw[List.lookup_cons,beq_self_eq_true];rfl
  | false=>
   rw[w,cond_false] at e;refine Q13 (ih (base+1) (k+1) ((nm,base)::acc) n2 e) ?_;intro j' e1 e2 e3;refine ⟨j'+1,e1.trans (Nat.succ_add_eq_add_succ k j'),Nat.succ_lt_succ e2,e3.trans ?_⟩;rw[Nat.succ_add_eq_add_succ base j']
 ·unfold cellsFrom;rw[nkne z,if_neg Bool.false_ne_true];exact ih base k acc hn e
inductive BindsR (kp:Kp) (ρ:List Addr) (sc:Scope) (cs:List Nat):List (Nat × V)→List (Str × Value)→Prop
 | nil:BindsR kp ρ sc cs [] []
 | cons {i:Nat}{v:V}{n:Str}{x:Value}{bs:List (Nat × V)}{xs:List (Str × Value)}:idx n tab=some i→((cs.any (Nat.beq i)=true∧sc.names.lookup n=some .cell)∨(cs.any (Nat.beq i)=false∧sc.names.lookup n=some .local))→VR kp ρ v x →
   BindsR kp ρ sc cs bs xs→BindsR kp ρ sc cs ((i,v)::bs) ((n,x)::xs)
theorem BindsR.mono {kp kp':Kp}{ρ ρ':List Addr}{cs:List Nat}(k:Le kp ρ kp' ρ') {bs:List (Nat × V)}{xs:List (Str × Value)}(h:BindsR kp ρ sc cs bs xs):BindsR kp' ρ' sc cs bs xs:=by
 induction h with
 | nil=>exact .nil
 | cons h1 h2 h3 ux ih=>exact .cons h1 h2 (h3.mono k) ih
theorem bindL_skip {ko:Str→Option NameKind}{n:Str}:∀ {xs:List (Str × Value)}{m:Str→Option Value},(∀ p∈xs,p.1≠n)→bindL ko xs m n=m n
 | [],ux,uy=>rfl
 |(n',v)::r,m,h=>by
  refine (bindL_skip fun p hp=>h p (.tail _ hp)).trans ?_;split
  ·show (if n=n' then some v else m n)=m n;rw[if_neg (Ne.symm (h _ (.head _)))]
  ·rfl
theorem bindC_skip {ko:Str→Option NameKind}{n:Str}:∀ {xs:List (Str × Value)}{m:Str→Option Value},(∀ p∈xs,p.1≠n)→bindC ko xs m n=m n
 | [],ux,uy=>rfl
 |(n',v)::r,m,h=>by
  refine (bindC_skip fun p hp=>h p (.tail _ hp)).trans ?_;split
  ·rfl
  ·show (if n=n' then some v else m n)=m n;rw[if_neg (Ne.symm (h _ (.head _)))]
theorem BindsR.names {cs:List Nat}{bs:List (Nat × V)}{xs:List (Str × Value)}(h:BindsR kp ρ sc cs bs xs):∀ p∈xs,∃ i,idx p.1 tab=some i∧i∈bs.map (·.1):=by
 induction h with
 | nil=>intro p hp;cases hp
 | cons h1 ux uy uz ih=>
  intro p hp;rcases List.mem_cons.mp hp with rfl | hp
  ·exact ⟨_,h1,.head _⟩
  ·refine Q12 (ih p hp) ?_;intro i a c;exact ⟨i,a,.tail _ c⟩
theorem BindsR.fresh {cs:List Nat}{bs:List (Nat × V)}{xs:List (Str × Value)}{n:Str}{i:Nat}(hi:idx n tab=some i) (h:BindsR kp ρ sc cs bs xs) (hn:i ∉ bs.map (·.1)):∀ p∈xs,p.1≠n:=fun p hp e=>by
 refine Q12 (h.names p hp) ?_;intro j a c;rw[e,hi] at a;obtain rfl:=sI a;exact hn c
theorem bound_at {ko:Str→Option NameKind}{cs:List Nat}(hko:∀ n k,sc.names.lookup n=some k→ko n=some k) {bs:List (Nat × V)}{xs:List (Str × Value)}(h:BindsR kp ρ sc cs bs xs):(bs.map (·.1)).Nodup→∀ (m₁ m₂:Str→Option Value) n x,(n,x)∈xs →
  (sc.names.lookup n=some .local→bindL ko xs m₁ n=some x)∧(sc.names.lookup n=some .cell→bindC ko xs m₂ n=some x):=by
 induction h with
 | nil=>intro ux uy uz uw ut hp;cases hp
 | @cons i v n' x' bs xs h1 h2 h3 h4 ih=>
  intro hn m₁ m₂ n x hp;refine Q02 (List.nodup_cons.mp hn) ?_;intro n1 n2;rcases List.mem_cons.mp hp with e | hp
  ·injection e with e1 e2
   subst e1 e2;have fr:=h4.fresh h1 n1;refine (bindL_skip fr).symm ▸ (bindC_skip fr).symm ▸ ?_;refine ⟨fun k=>?_,fun k=>?_⟩
   ·rw[if_pos (hko _ _ k)];show (if n=n then some x else m₁ n)=_;rw[if_pos rfl]
   ·have:ko n≠some .local:=by rw[hko _ _ k];intro q;cases q
    rw[if_neg this];show (if n=n then some x else m₂ n)=_;rw[if_pos rfl]
  ·exact ih n2 _ _ n x hp
theorem NsR.put' {m:List (Nat × V)}{mm:Str→Option Value}{n:Str}{i:Nat}{v:V}{x:Value}(h:NsR kp ρ m mm) (hi:idx n tab=some i) (hx:mm n=some x) (hv:VR kp ρ v x):NsR kp ρ (Mine.put i v m) mm:=fun n' i' v' e1 e2=>by
 by_cases q:n'=n
 ·subst q;rw[hi] at e1;obtain rfl:=sI e1;rw[lkp_put_self] at e2;obtain rfl:=sI e2;exact ⟨x,hx,hv⟩
 ·have:i'≠i:=fun z=>q (idx_inj e1 (z ▸ hi));rw[lkp_put_ne v this] at e2;exact h n' i' v' e1 e2
theorem bind_all {ko:Str→Option NameKind}{L:Addr}{mm:Str→Option Value}{clos:List (Str × Addr)}{cm:Str→Option Value}{cs:List Nat}(hL:nth ρ g.lf=some L) (hmm:s.heap.Ns L mm) (hC:CellsR sc g.cells clos ρ) (hcm:∀ n c,sc.names.lookup n=some .cell→clos.lookup n=some c→s.heap.IsCell c (cm n)) {bs:List (Nat × V)}{xs:List (Str × Value)}
  (h:BindsR kp ρ sc cs bs xs):(∀ n x,(n,x)∈xs→(sc.names.lookup n=some .local→mm n=some x)∧(sc.names.lookup n=some .cell→cm n=some x))→∀ {W W':St},SR b kp ρ W s→(∀ o,nth W g.lf=some o→∃ m,o=.ns m)→(∀ i l,cs.any (Nat.beq i)=true→lkp i g.cells=some l→∃ v,nth W l=some (.cell v)) →
  bindAll g cs bs W=some W'→SR b kp ρ W' s:=by
 induction h with
 | nil=>intro ux W W' R uy uz e;obtain rfl:=sI e;exact R
 | @cons i v n x bs xs h1 h2 h3 h4 ih=>
  intro hx W W' R hf hc e;rw[K9] at e;cases q:stName g (cs.any (Nat.beq i)) i v W with
  | none=>rw[q] at e;exact nn e
  | some W₁=>
  rw[q] at e;simp only[Option.bind_eq_bind,Option.bind_some] at e;refine Q02 (hx n x (.head _)) ?_;intro x1 x2;rcases h2 with ⟨c1,c2⟩ | ⟨c1,c2⟩
  ·rw[c1] at q;revert q;refine Bo ?_;intro l z q;revert q;refine OCell ?_;intro v₀ hl q
   ·obtain rfl:=sI q;refine Q12 (hC n i l h1 (.inr c2) z) ?_;intro a a1 a2;refine Q12 (hcm n a c2 a2) ?_;intro ob o1 o2;have R':=R.upd (h':=s.heap) (tk:=s.toks) (o':=.cell (some v)) hl rfl a1 (fun ux uy uz e=>e) R.sz o1 ⟨_,o2,fun w y=>by obtain rfl:=sI y;exact ⟨x,x2 c2,h3⟩⟩;refine ih (fun n x hp=>hx n x (.tail _ hp)) R' (fun o ho=>?_) (fun i' l' hi' hl'=>?_) e
    ·refine bC fun hN3=>?_;by_cases y:l=g.lf
     ·subst y;refine Q11 (hf _ hl) ?_;intro m hm;cases hm
     ·rw[nth_setAt_ne y] at ho;refine hN3 ?_;exact hf o ho
    ·by_cases y:l=l'
     ·subst y;exact ⟨_,nth_setAt_self hl⟩
     ·rw[nth_setAt_ne y];exact hc i' l' hi' hl'
  ·rw[c1] at q;revert q;refine ONs ?_;intro m hm q
   ·obtain rfl:=sI q;obtain ⟨ob,o1,m₀,o2,o3⟩:=R.at hm rfl hL;refine Q12 (LCg.ns_obj hmm) ?_;intro ob' p1 p2;rw[o1] at p1;obtain rfl:=sI p1;have hns:NsR kp ρ m mm:=by
     have:=o2.ns o1;intro n' i' v' e1 e2;refine Q12 (o3 n' i' v' e1 e2) ?_;intro y y1 y2;exact ⟨y,by rw[← y1];exact congrFun (hmm.eq_nsMap.trans this.eq_nsMap.symm) n',y2⟩
    have R':=R.upd (h':=s.heap) (tk:=s.toks) (o':=.ns (put i v m)) hm rfl hL (fun ux uy uz e=>e) R.sz o1 ⟨mm,p2,hns.put' h1 (x1 c2) h3⟩;refine ih (fun n x hp=>hx n x (.tail _ hp)) R' (fun o ho=>?_) (fun i' l' hi' hl'=>?_) e
    ·rw[nth_setAt_self hm] at ho;obtain rfl:=sI ho;exact ⟨_,rfl⟩
    ·have y:g.lf≠l':=fun y=>by
      subst y;refine Q11 (hc i' _ hi' hl') ?_;intro v' hv';rw[hm] at hv';cases hv'
     rw[nth_setAt_ne y];exact hc i' l' hi' hl'
end
end Mine
end
section
open PySem PySem.W PySem.Spec PySem.Calls PyProof.Rows
set_option genSizeOf false
set_option genInjectivity false
namespace Mine
structure FnIs (b:BS) (a:Addr) (fd:FD) (fo:Obj) (d:FuncData) (body:List Stmt) (N:Nat):Prop where
 get:b.hb.get? a=some fo
 data:fo.data=.func d
 kind:d.scope.kind=.function
 co:d.scope.isCoroutine=false
 gen:d.scope.isGenerator=false
 fb:d.body=.stmts body
 code:b.hb.CodeRec d.code d.qualname
 clos:d.closure=[]
 glob:d.globals=mainGlobals
 bu:d.builtins=builtinsNs
 comp:(cmp ce N).ss d.scope body=fd.body
 cells:namesBy ce .cell d.scope.names=some fd.cells
 cellsN:fd.cells.Nodup
 names:(fd.ps++fd.kw.map (·.1)).Nodup
 tb:∀ n,(n=Str.ofString "inner"∨n=Str.ofString "take")→(d.scope.names.lookup n=some .local∨d.scope.names.lookup n=some .cell)→∃ c P,d.code=.ref c∧(c,P)∈b.tabs∧b.tq P=(d.qualname++".<locals>.")++n
 bind:∀ kp ρ vs xs bs,zipB fd.ps vs fd.df=some bs→VRs kp ρ vs xs→∃ binds,(∀ s:Shared,(∀ a o,b.hb.get? a=some o→s.heap.get? a=some o)→BindsTo s d ⟨xs,[]⟩ binds)∧BindsR kp ρ d.scope fd.cells (bs++fd.kw) binds
structure StatOk (b:BS) (G:Sig) (D:Nat):Prop where
 glob:GlobOk b
 cls:ClsOk b G
 names:NamesOk G
 pat:PatOk b G
 fn:∀ a fd,G.fnd a=some fd→∃ fo d body N,FnIs b a fd fo d body N
 keep:∀ a fd,G.fnd a=some fd→keepIn b.K (.ref a)=true
 ini:(G.fnd G.ini).isSome=true
 rep:G.rep=true→1≤b.tk0
 prim:∀ {f vs W v W' fx xs A kp ρ s}{Q:Value→Shared→Prop}{E:Value→Shared→Prop},G.prim f vs W=some (v,W')→noB f=true∧(VR kp ρ f fx→VRs kp ρ vs xs→AOk D A→SR b kp ρ W s →
  Back b kp ρ W' (fun kp ρ y=>VR kp ρ v y) Q→codeAny (model b.prog b.w) A (.call fx ⟨xs,[]⟩) (CallBack Q E) s)
theorem StatOk.fnObj {b:BS}{G:Sig}{D:Nat}(T:StatOk b G D):FnObj b G:=fun a fd h=>let ⟨fo,d,_,_,x⟩:=T.fn a fd h;⟨fo,d,x.get,x.data⟩
section
variable {b:BS}{G:Sig}{D:Nat}{r:Ops}{m:Nat}{kp:Kp}{ρ:List Addr}{W:St}{s:Shared}{sc:Scope}{g:Ctx}{env:Env}{A:Around}{E:Value→Shared→Prop}
theorem names_idx (names:List (Str × NameKind)) (kd:NameKind) (cs:List Nat) (h:namesBy ce kd names=some cs):∀ i,i∈cs→∃ n,idx n tab=some i:=
 namesBy_ind (P:=fun ux cs=>∀ i,i∈cs→∃ n,idx n tab=some i) (fun i hi=>nomatch hi) (fun nm j r t y yq ih i hi=>(List.mem_cons.mp hi).elim (fun e=>⟨nm,by rw[e];exact y⟩) (ih i)) (fun nm k r t z ih=>ih) h
theorem lkp_mk:∀ (cs:List Nat) (base k i:Nat),cs.Nodup→nth cs k=some i→lkp i (mkCells base cs)=some (base+k)
 | [],ux,uy,uz,uw,e=>by exact nn e
 | c::cs,base,0,i,ux,e=>by
  obtain rfl:=sI e;rw[KB,J0];rw[Nat.beq_refl];rfl
 | c::cs,base,k+1,i,hn,e=>by
  refine Q02 (List.nodup_cons.mp hn) ?_;intro n1 n2;have e':nth cs k=some i:=e;rw[KB,J0];have:Nat.beq i c=false:=by
   cases q:Nat.beq i c with
   | false=>rfl
   | true=>
    have:=beqN q;subst this;rw[nth_eq] at e';exact absurd (List.mem_of_getElem? e') n1
  simp only[this,cond_false,lkp_mk cs (base+1) k i n2 e']
  congr 1
  exact eq0 [_,_] (.a (.a (.v 0) (.k 1)) (.v 1)) (.a (.v 0) (.a (.v 1) (.k 1))) rfl rfl
theorem mk_any:∀ (cs:List Nat) (base i:Nat),cs.any (Nat.beq i)=true→∃ l,lkp i (mkCells base cs)=some l:=by
 intro z0;induction z0 with
 | nil=>
  intro ux uy e;exact ft e
 | cons c cs ih0=>
  intro base i e;rw[KB,J0];cases q:Nat.beq i c with
  | true=>exact ⟨base,rfl⟩
  | false=>
   simp only[List.any_cons,q,Bool.false_or] at e;exact ih0 (base+1) i e
theorem mk_range:∀ (cs:List Nat) (base i l:Nat),lkp i (mkCells base cs)=some l→∃ j,l=base+j∧j<len cs:=by
 intro z0;induction z0 with
 | nil=>
  intro ux uy uz e;exact nn e
 | cons c cs ih0=>
  intro base i l e;rw[KB,J0] at e;cases q:Nat.beq i c with
  | true=>rw[q] at e;obtain rfl:=sI e;exact ⟨0,rfl,Nat.succ_pos _⟩
  | false=>
   rw[q,cond_false] at e;refine Q12 (ih0 (base+1) i l e) ?_;intro j h1 h2;exact ⟨j+1,by exact eq1 [_,_,_] (.v 0) (.a (.v 1) (.a (.v 2) (.k 1))) (.v 0) (.a (.a (.v 1) (.k 1)) (.v 2)) h1 rfl rfl,Nat.succ_lt_succ h2⟩
theorem nth_noCells:∀ (cs:List Nat) (k:Nat),k<len cs→nth (noCells cs) k=some (.cell none)
 | [],ux,h=>absurd h (Nat.not_lt_zero _)
 | ux::uy,0,uz=>rfl
 | ux::cs,k+1,h=>nth_noCells cs k (Nat.lt_of_succ_lt_succ h)
theorem zipB_fst:∀ {ps:List Nat}{vs df:List V}{bs:List (Nat × V)},zipB ps vs df=some bs→bs.map (·.1)=ps
 | [],[],ux,uy,e=>by obtain rfl:=sI e;rfl
 | [],ux::uy,uz,uw,e=>by exact nn e
 | x::xs,v::vs,df,bs,e=>by
  revert e;refine Bo ?_;intro r q e;cases e;rw[List.map_cons,zipB_fst q]
 | x::xs,[],df,bs,e=>by
  revert e;refine Bo ?_;intro v ux e
  ·revert e;refine Bt ?_;intro z e;revert e;refine Bo ?_;intro r q e;cases e;rw[List.map_cons,zipB_fst q]
theorem BindsR.mem {cs:List Nat}{bs:List (Nat × V)}{xs:List (Str × Value)}(h:BindsR kp ρ sc cs bs xs):∀ p∈xs,∃ i,idx p.1 tab=some i∧((cs.any (Nat.beq i)=true∧sc.names.lookup p.1=some .cell)∨(cs.any (Nat.beq i)=false∧sc.names.lookup p.1=some .local)):=by
 induction h with
 | nil=>intro p hp;cases hp
 | cons h1 h2 ux uy ih=>
  intro p hp;rcases List.mem_cons.mp hp with rfl | hp
  ·exact ⟨_,h1,h2⟩
  ·exact ih p hp
noncomputable def fv:Flow→Value
 | .ret v=>v
 | ux=>.none
theorem ret_back {f:Fl}{v:V}{W W':St}{y:Flow}{Q:Value→Shared→Prop}{kp':Kp}{ρ':List Addr}(e:cRet f W=some (v,W')) (hy:FlR kp ρ f y) (R:SR b kp ρ W s) (h:Back b kp ρ W' (fun kp ρ y=>VR kp ρ v y) Q):Q (fv y) s:=by
 refine bC fun hN=>?_;revert e;refine B0 ?_;intro w e1 e2;replace h:=bk e2 h;cases f with
 | next=>
  obtain rfl:=sI e1;have hy':y=.next:=hy;subst hy';refine hN ?_;exact h kp ρ _ _ (Le.refl _ _) R .none
 | cont=>exact nn e1
 | ret u=>
  obtain rfl:=sI e1;refine Q12 hy ?_;rintro x rfl hx;refine hN ?_;exact h kp ρ _ _ (Le.refl _ _) R hx
theorem s_callFD {a:Addr}{fd:FD}{fo:Obj}{d:FuncData}{body:List Stmt}{N:Nat}{vs:List V}{v:V}{W':St}{xs:List Value}{Q:Value→Shared→Prop}(S:Sound b m r) (F:FnIs b a fd fo d body N) (e:callFD r fd vs W=some (v,W')) (hs:VRs kp ρ vs xs) (hA:AOk (m+1) A) (R:SR b kp ρ W s)
  (h:Back b kp ρ W' (fun kp ρ y=>VR kp ρ v y) Q):codeAny (model b.prog b.w) A (.call (.ref a) ⟨xs,[]⟩) (CallBack Q E) s:=by
 unfold callFD at e;revert e;refine B0 ?_;intro bs e1 e;revert e;refine B0 ?_;intro W₄ e2 e;revert e;refine B1 ?_;intro f W₅ e3 e4;refine Q12 (F.bind kp ρ vs xs bs e1 hs) ?_;intro binds hb1 hb2;have hnd:((bs++fd.kw).map (·.1)).Nodup:=by rw[List.map_append,zipB_fst e1];exact F.names
 refine codeAny_call_function hA.room (R.hbGet F.get) F.data F.co F.gen F.fb (F.code.keeps fun ux uy e=>R.hbGet e) (hb1 s (fun ux uy e=>R.hbGet e) _ _ _ _ ?_);refine F.clos.symm ▸ ?_;refine wpAny_with_toks (Nat.le_refl s.toks) (wpAny_newFunctionEnv_cells F.kind (fun x hx=>?_) fun env he s' x htk=>?_)
 ·refine bC fun hN1=>?_;refine Q12 (hb2.mem x hx) ?_;intro i h1 h2;rcases h2 with ⟨h2,h3⟩ | ⟨h2,h3⟩
  ·refine Q11 (mk_any fd.cells 0 i h2) ?_;intro l hl;refine Q13 (cf_look h1 d.scope.names (s.heap.objs.size+1) 0 l [] fd.cells F.cells F.cellsN hl) ?_;intro j ux uy h4;refine hN1 ?_;exact .inr ⟨h3,by rw[h4];rfl⟩
  ·refine hN1 ?_;exact .inl h3
 ·subst he;obtain ⟨⟨⟨h',tk,rfl⟩,hns,hkeep,ux⟩,hcell,hap,hab⟩:=x;refine Q12 (LCg.ns_obj hns) ?_;intro ob o1 o2;have hz:b.hb.objs.size≤h'.objs.size:=lT R.sz (Nat.le_of_lt (Heap.lt_size o1));have R₁:SR b kp ρ W { s with heap:=h',toks:=tk }:=R.ext hkeep hz htk;have lt:∀ i o c,nth W i=some o→alive o=true→nth ρ i=some c→c<s.heap.objs.size:=fun i o c e ha hc=>R.rhoLt e ha hc;have fresh:∀ c,s.heap.objs.size≤c→kp c=none∧(∀ q∈b.tabs,c≠q.2)∧b.hb.objs.size≤c:=fun c hc=>by
   refine ⟨?_,fun q hq z=>?_,lT R.sz hc⟩
   ·cases q:kp c with
    | none=>rfl
    | some ob=>exact absurd (Nat.lt_of_lt_of_le (Heap.lt_size (R.keep _ _ q)) hc) (Nat.lt_irrefl _)
   ·subst z;exact absurd (Nat.lt_of_lt_of_le (R.tabLt hq) hc) (Nat.lt_irrefl _)
  refine Q03 (fresh s.heap.objs.size (Nat.le_refl _)) ?_;intro f1 f2 f3;have R₂:=R₁.allocAt (a:=s.heap.objs.size) (o:=.ns []) (fun i o c e ha hc=>Nat.ne_of_lt (lt i o c e ha hc)) f1 f2 f3 o1 ⟨_,o2,NsR.nil⟩;have R₃:=SR.cells fd.cells (s.heap.objs.size+1) R₂ (fun i o c e ha hc=>by
   rcases nth_app_inv e with e' | ⟨l,rfl,e'⟩
   ·refine Q23 (R.rel i o e' ha) ?_;intro c' oc h3 h4 h5;rw[nth_app_lt _ h3] at hc;obtain rfl:=sI hc;exact Nat.lt_succ_of_lt (lt i o _ e' ha h3)
   ·cases l with
    | zero=>
     rw[Nat.add_zero,← R.len,nth_app_len] at hc;obtain rfl:=sI hc;exact Nat.lt_succ_self _
    | succ j=>cases e') (fun c hc=>fresh c (Nat.le_of_succ_le hc)) (fun k hk=>by
   refine Q11 (nth_some hk) ?_;intro i hi;have hi':i∈fd.cells:=by rw[nth_eq] at hi;exact List.mem_of_getElem? hi
   refine Q11 (names_idx _ _ _ F.cells i hi') ?_;intro n hn;refine Q13 (cf_look hn d.scope.names (s.heap.objs.size+1) 0 _ [] fd.cells F.cells F.cellsN (lkp_mk fd.cells 0 k i F.cellsN hi)) ?_;intro j j1 j2 j3;have:j=k:=by exact eq1 [_,_] (.v 0) (.v 1) (.a (.k 0) (.v 0)) (.a (.k 0) (.v 1)) j1.symm rfl rfl
   subst this;exact ⟨_,hcell n _ j3⟩)
  have hρ:∀ j,j<len fd.cells→nth ((ρ++[s.heap.objs.size])++upFrom (s.heap.objs.size+1) fd.cells) (len W+1+j)=some (s.heap.objs.size+1+j):=fun j hj=>by
   have:len W+1=len (ρ++[s.heap.objs.size]):=by rw[len_app,R.len];rfl
   simp only[this,nth_app_add,nth_upFrom _ _ _ hj]
  have hlf:nth ((ρ++[s.heap.objs.size])++upFrom (s.heap.objs.size+1) fd.cells) (len W)=some s.heap.objs.size:=nth_app_lt _ (by rw[← R.len,nth_app_len];rfl);have hC:CellsR d.scope (mkCells (len W+1) fd.cells) (cellsFrom (s.heap.objs.size+1) d.scope.names []) ((ρ++[s.heap.objs.size])++upFrom (s.heap.objs.size+1) fd.cells):=fun n i l h1 h2 h3=>by
   refine bC fun hN11=>?_;refine Q13 (cf_look h1 d.scope.names (s.heap.objs.size+1) _ l [] fd.cells F.cells F.cellsN h3) ?_;intro j j1 j2 j3;subst j1;refine hN11 ?_;exact ⟨_,hρ j j2,j3⟩
  have leρ:Le kp ρ kp ((ρ++[s.heap.objs.size])++upFrom (s.heap.objs.size+1) fd.cells):=⟨fun ux uy e=>e,fun ux uy e=>nth_app_lt _ (nth_app_lt _ e)⟩;have eW:(W++[O.ns []])++noCells fd.cells=W++(.ns []::noCells fd.cells):=by rw[List.append_assoc];rfl
  rw[eW] at R₃;have R₄:=bind_all (g:=⟨len W,mkCells (len W+1) fd.cells⟩) (sc:=d.scope) (ko:=fun n=>d.scope.names.lookup n) hlf hns hC (fun n c ux hc=>hcell n c hc) (hb2.mono leρ) (bound_at (ko:=fun n=>d.scope.names.lookup n) (fun ux uy h=>h) hb2 hnd _ _) R₃
   (fun o ho=>by rw[nth_app_len] at ho;obtain rfl:=sI ho;exact ⟨_,rfl⟩) (fun i l ux hl=>by
    refine Q12 (mk_range _ _ _ _ hl) ?_;intro j j1 j2;subst j1;refine ⟨none,?_⟩;simp only[← eW,show len W+1=len (W++[O.ns []]) by rw[len_app];rfl,nth_app_add];exact nth_noCells _ _ j2) e2
  have EN:EnvR b kp ((ρ++[s.heap.objs.size])++upFrom (s.heap.objs.size+1) fd.cells) d.scope ⟨len W,mkCells (len W+1) fd.cells⟩ (newEnv d.scope s.heap.objs.size d.globals (cellsFrom (s.heap.objs.size+1) d.scope.names []) (d.qualname++".<locals>.") (some a) d.code none d.builtins):=
   {lf:=hlf,kind:=F.kind,gl:=F.glob,bu:=F.bu,kl:=fun n h=>h,kc:=fun n h=>h,kf:=fun n h=>.inl h,kg:=fun n h=>h,cells:=hC,tb:=F.tb }
  refine ⟨R₄.noLimit,codeAny_func ?_⟩;rw[← F.comp] at e3;refine S.exs e3 EN (hA.deeper _) R₄ fun kp' ρ' y s'' k R' hy=>?_;have:=ret_back (kp':=kp') (ρ':=ρ') e4 hy R' (h.mono (leρ.trans k));cases y<;>exact this
theorem pars_bind {cs:List Nat}(ps:List Nat):∀ (as:List Arg) (vs:List V) (xs:List Value) (bs:List (Nat × V)),ParsR sc cs ps as→zipB ps vs []=some bs→VRs kp ρ vs xs→BindsR kp ρ sc cs bs ((as.map (·.arg)).zip xs)∧xs.length=as.length:=by
 induction ps with
 | nil=>
  intro as vs xs bs h e hv;cases as with
  | cons a as=>exact h.elim
  | nil=>
  cases vs with
  | nil=>apply VRs.c0 hv;obtain rfl:=sI e;exact ⟨.nil,rfl⟩
  | cons=>exact nn e
 | cons p ps ih=>
  intro as vs xs bs h e hv;cases as with
  | nil=>exact h.elim
  | cons a as=>
  cases vs with
  | nil=>exact nn e
  | cons v vs=>
  apply VRs.c1 hv;intro x xs hv hs;revert e;refine Bo ?_;intro r q e;obtain rfl:=sI e;have i:=ih as _ _ r h.2.2 q hs;exact ⟨.cons h.1 h.2.1 hv i.1,congrArg Nat.succ i.2⟩
theorem zip_lookup {n:Str}{x:Value}:∀ {l:List (Str × Value)},(l.map (·.1)).Nodup→(n,x)∈l→l.reverse.lookup n=some x:=fun {l} hn hm=>by
 have h1:∀ {l:List (Str × Value)},(l.map (·.1)).Nodup→(n,x)∈l→l.lookup n=some x:=by
  intro l;induction l with
  | nil=>intro ux h;cases h
  | cons p l ih=>
   intro hn h;obtain ⟨k,y⟩:=p;simp only[List.map_cons] at hn;refine Q02 (List.nodup_cons.mp hn) ?_;intro n1 n2;simp only[List.lookup_cons];rcases List.mem_cons.mp h with e | h
   ·injection e with e1 e2
    subst e1 e2;rw[beq_self_eq_true]
   ·have:(n==k)=false:=by
     cases q:n==k with
     | false=>rfl
     | true=>
      rw[eq_of_beq q] at h;exact absurd (List.mem_map_of_mem (f:=(·.1)) h) n1
    refine this.symm ▸ ?_;exact ih n2 h
 refine h1 ?_ (List.mem_reverse.mpr hm);rw[List.map_reverse];exact List.pairwise_reverse.mpr (hn.imp Ne.symm)
end
end Mine
end
section
open PySem PySem.W PySem.Spec PySem.Calls PyProof.Rows
namespace Mine
theorem zip_has:∀ (names:List Str) (xs:List Value) (pre:List (Str × Value)),names.length=xs.length→∀ n∈names,((pre++names.zip xs).lookup n).isNone=false
 | [],ux,uy,uz,uw,hn=>by cases hn
 | ux::uy,[],uz,h,uw,ut=>by cases h
 | a::names,x::xs,pre,h,n,hn=>by
  by_cases q:n=a
  ·subst q;simp only[List.zip_cons_cons];induction pre with
   | nil=>rw[List.nil_append,List.lookup_cons,beq_self_eq_true];rfl
   | cons p pre ih=>
    obtain ⟨k,y⟩:=p;simp only[List.cons_append,List.lookup_cons];cases n==k with
    | true=>rfl
    | false=>exact ih
  ·have hn':n∈names:=by
    rcases List.mem_cons.mp hn with e | e
    ·exact absurd e q
    ·exact e
   have:=zip_has names xs (pre++[(a,x)]) (Nat.succ.inj h) n hn'
   rwa [List.append_assoc] at this
theorem lookup_skip {pre l:List (Str × Value)}{n:Str}(h:pre.lookup n=none):(pre++l).lookup n=l.lookup n:=by
 induction pre with
 | nil=>rfl
 | cons p pre ih=>
  obtain ⟨k,y⟩:=p;simp only[List.cons_append,List.lookup_cons];simp only[List.lookup_cons] at h;cases q:n==k with
  | true=>rw[q] at h;cases h
  | false=>rw[q] at h;exact ih h
theorem zip_map:∀ (names:List Str) (xs:List Value) (pre:List (Str × Value)),names.length=xs.length→names.Nodup→(∀ n∈names,pre.lookup n=none) →
  names.filterMap (fun n=>((pre++names.zip xs).lookup n).map (n,·))=names.zip xs
 | [],ux,uy,uz,uw,ut=>by simp
 | ux::uy,[],uz,h,uw,ut=>by cases h
 | a::names,x::xs,pre,h,hn,hp=>by
  refine Q02 (List.nodup_cons.mp hn) ?_;intro n1 n2;simp only[List.zip_cons_cons,List.filterMap_cons,lookup_skip (hp a (.head _)),List.lookup_cons,beq_self_eq_true];have e:pre++(a,x)::names.zip xs=(pre++[(a,x)])++names.zip xs:=by rw[List.append_assoc];rfl
  dsimp only[Option.map_some];rw[e,zip_map names xs (pre++[(a,x)]) (Nat.succ.inj h) n2 fun n hn=>by
   refine (lookup_skip (hp n (.tail _ hn))).trans ((List.lookup_cons).trans ?_);have:(n==a)=false:=by
    cases q:n==a with
    | false=>rfl
    | true=>rw[eq_of_beq q] at hn;exact absurd hn n1
   refine (congrArg (fun z=>cond z _ _) (this)).trans ?_;rfl]
theorem bp1 {α β:Type}{z:List α}{i:β}{f:α→β→Sem (ForInStep β)}{γ:Type}{k:β→Sem γ}(h:z=[]):(forIn z i f >>= k)=k i:=by subst h;rfl
theorem bp0 {nm ql bd scp gl cl kws doc pm an cd ct bu kwd de}{as:List Arg}{xs:List Value}{l:List (Str × Value)}(h1:xs.length=(as.map (·.arg)).length)
  (h2:List.filter (fun n=>(List.lookup n ((as.map (·.arg)).zip xs)).isNone) (as.map (·.arg))=[])
  (h3:List.filterMap (fun n=>((((as.map (·.arg)).zip xs).lookup n).map (n,·))) (as.map (·.arg))=l):
  bindArgs ⟨nm,ql,⟨[],as,none,[],kwd,none,de⟩,bd,scp,gl,cl,.none,kws,doc,pm,an,cd,ct,bu⟩ ⟨xs,[]⟩=pure l:=by
 refine (if_neg (c:=(decide (xs.length>(as.map (·.arg)).length)&&true)=true) ?_).trans ?_
 ·rw[h1,Bool.and_true,decide_eq_true_iff];exact Nat.lt_irrefl _
 refine (if_neg (c:=(!(((as.map (·.arg)).take ((as.map (·.arg)).length-(List.drop (0-(as.map (·.arg)).length) ([]:List Value)).length)).filter fun n=>(List.lookup n ((as.map (·.arg)).zip xs)).isNone).isEmpty)=true) ?_).trans ?_
 ·rw[List.drop_nil,List.length_nil,Nat.sub_zero,List.take_of_length_le (Nat.le_refl _),h2];exact Bool.false_ne_true
 refine (bp1 ((congrArg (List.zip _) List.drop_nil).trans List.zip_nil_right)).trans ?_;exact congrArg Sem.pure ((congrArg _ (List.append_nil _)).trans h3)
theorem bind_plain {fd:FuncData}{as:List Arg}{xs:List Value}(hp:plainArgs fd.params=true) (ha:fd.params.args=as) (hd:fd.defaults=.none) (hl:xs.length=as.length) (hn:(as.map (·.arg)).Nodup):
  bindArgs fd ⟨xs,[]⟩=pure ((as.map (·.arg)).zip xs):=by
 have hl':(as.map (·.arg)).length=xs.length:=by rw[List.length_map,hl]
 have h1:=zip_has (as.map (·.arg)) xs [] hl';have h2:=zip_map (as.map (·.arg)) xs [] hl' hn (fun ux uy=>rfl);obtain ⟨nm,ql,ps,bd,scp,gl,cl,dfs,kws,doc,pm,an,cd,ct,bu⟩:=fd;have hp:=(plain_i hp).1;dsimp only at hp ha hd;rw[ha] at hp;subst hp hd;exact bp0 hl'.symm (List.filter_eq_nil_iff.mpr fun n hn=>by rw[show (List.lookup n ((as.map (·.arg)).zip xs)).isNone=_ from h1 n hn];exact Bool.false_ne_true) h2
section
variable {b:BS}{G:Sig}{D:Nat}{r:Ops}{m:Nat}{kp:Kp}{ρ:List Addr}{W:St}{s:Shared}{sc:Scope}{g:Ctx}{env:Env}{A:Around}{E:Value→Shared→Prop}
theorem nodupB_iff:∀ {l:List Nat},nodupB l=true→l.Nodup
 | [],ux=>List.nodup_nil
 | x::r,h=>by
  have h1:=al h;have h2:=ar h;refine List.nodup_cons.mpr ⟨fun hx=>?_,nodupB_iff h2⟩;have:r.any (Nat.beq x)=true:=List.any_eq_true.mpr ⟨x,hx,Nat.beq_refl x⟩;rw[this] at h1;exact ft h1
theorem mem_lookup {n:Str}{k:NameKind}:∀ {l:List (Str × NameKind)},l.lookup n=some k→(n,k)∈l
 | [],h=>by exact nn h
 |(a,c)::l,h=>by
  simp only[List.lookup_cons] at h;cases q:n==a with
  | true=>rw[q] at h;obtain rfl:=sI h;rw[eq_of_beq q];exact .head _
  | false=>rw[q] at h;exact .tail _ (mem_lookup h)
theorem noInner_mem {n:Str}(hn:n=Str.ofString "inner"∨n=Str.ofString "take") {l:List (Str × NameKind)}:noInner l=true→(n,NameKind.local) ∉ l∧(n,NameKind.cell) ∉ l:=by
 induction l with
 | nil=>intro ux;exact ⟨fun h=>(nomatch h),fun h=>(nomatch h)⟩
 | cons p l ih=>
  intro h;obtain ⟨a,c⟩:=p;have h1:=al h;have k:(c != .local&&c != .cell)=false→n≠a:=fun hc e=>by
   subst e;rw[hc,Bool.or_false] at h1;rcases hn with rfl | rfl<;>exact ft h1
  exact ⟨fun hm=>(List.mem_cons.mp hm).elim (fun e=>k (by rw[← show NameKind.local=c from congrArg Prod.snd e];rfl) (congrArg Prod.fst e)) (ih (ar h)).1,
   fun hm=>(List.mem_cons.mp hm).elim (fun e=>k (by rw[← show NameKind.cell=c from congrArg Prod.snd e];rfl) (congrArg Prod.fst e)) (ih (ar h)).2⟩
theorem pars_in {cs ps:List Nat}:∀ {as:List Arg},ParsR sc cs ps as→∀ x∈as.map (·.arg),∃ i,idx x tab=some i∧i∈ps:=by
 induction ps with
 | nil=>intro as h x hx;cases as with | nil=>cases hx | cons ux uy=>exact h.elim
 | cons p ps ih=>
  intro as h x hx;cases as with
  | nil=>exact h.elim
  | cons a as=>
   rcases List.mem_cons.mp hx with rfl | hx
   ·exact ⟨p,h.1,.head _⟩
   ·refine Q12 (ih h.2.2 x hx) ?_;intro i i1 i2;exact ⟨i,i1,.tail _ i2⟩
theorem pars_names {cs ps:List Nat}:∀ {as:List Arg},ParsR sc cs ps as→ps.Nodup→(as.map (·.arg)).Nodup:=by
 induction ps with
 | nil=>intro as h hn;cases as with | nil=>exact List.nodup_nil | cons=>exact h.elim
 | cons p ps ih=>
  intro as h hn;cases as with
  | nil=>exact h.elim
  | cons a as=>
  have n1:=List.nodup_cons.mp hn;refine List.nodup_cons.mpr ⟨fun hm=>?_,ih h.2.2 n1.2⟩;refine Q12 (pars_in h.2.2 _ hm) ?_;intro i i1 i2;exact n1.1 (sI (h.1.symm.trans i1) ▸ i2)
theorem s_callClo {ps:List Nat}{body:List S}{cl:List (Nat × Nat)}{f:Addr}{vs:List V}{v:V}{W':St}{xs:List Value}{Q:Value→Shared→Prop}(S:Sound b m r) (F:CloOk kp ρ ps body cl f) (e:callClo r ps body cl vs W=some (v,W')) (hs:VRs kp ρ vs xs) (hA:AOk (m+1) A) (R:SR b kp ρ W s)
  (h:Back b kp ρ W' (fun kp ρ y=>VR kp ρ v y) Q):codeAny (model b.prog b.w) A (.call (.ref f) ⟨xs,[]⟩) (CallBack Q E) s:=by
 unfold callClo at e;revert e;refine B0 ?_;intro bs e1 e;revert e;refine B0 ?_;intro W₄ e2 e;revert e;refine B1 ?_;intro fl W₅ e3 e4;obtain ⟨name,qual,params,fb,sc,clos,doc,pm,c',ctv,N,h1,⟨oc,ovs,t,h2,h3,h3'⟩,h4,h4',h5,h6,h7,h8,h9,h10,h11,h12⟩:=F;refine Q02 (pars_bind (cs:=[]) ps params.args vs xs bs h5 e1 hs) ?_;intro hb hbl;have hnn:=pars_names h5 (nodupB_iff h4');have hzn:(((params.args.map (·.arg)).zip xs).map (·.1)).Nodup:=by
  rw[List.map_fst_zip (by rw[List.length_map,hbl];exact Nat.le_refl _)];exact hnn
 refine codeAny_call_def hA.room (R.get h1) rfl R.noLimit ⟨c',oc,ovs,t,rfl,R.get h2,h3,h3'⟩ rfl (.of_eq (bind_plain h4 rfl rfl hbl hnn)) h10 (fun x hx=>?_) (fun h' hns hkeep=>?_) h9 h8 h7
 ·refine bC fun hN2=>?_;refine Q12 (hb.mem x hx) ?_;intro i i1 i2;rcases i2 with ⟨i2,ux⟩ | ⟨uy,i2⟩
  ·exact ft i2
  ·refine hN2 ?_;exact i2
 ·refine Q12 (LCg.ns_obj hns) ?_;intro ob o1 o2;have hz:b.hb.objs.size≤h'.objs.size:=lT R.sz (Nat.le_of_lt (Heap.lt_size o1));have R₁:SR b kp ρ W { s with heap:=h',toks:=s.toks+((params.args.map (·.arg)).zip xs).length }:=R.ext hkeep hz (Nat.le_add_right _ _);have f1:kp s.heap.objs.size=none:=by
   cases q:kp s.heap.objs.size with
   | none=>rfl
   | some ob=>exact absurd (Heap.lt_size (R.keep _ _ q)) (Nat.lt_irrefl _)
  have R₂:=R₁.allocAt (a:=s.heap.objs.size) (o:=.ns []) (fun i o c e ha hc=>Nat.ne_of_lt (R.rhoLt e ha hc)) f1 (fun q hq z=>absurd (R.tabLt hq) (by rw[← z];exact Nat.lt_irrefl _)) R.sz o1 ⟨_,o2,NsR.nil⟩;have hlf:nth (ρ++[s.heap.objs.size]) (len W)=some s.heap.objs.size:=by rw[← R.len,nth_app_len];rfl
  have hC:=h12.mono (leR kp ρ s.heap.objs.size).rho;have R₄:=bind_all (g:=⟨len W,cl⟩) (sc:=sc) (cm:=fun ux=>none) (ko:=fun n=>sc.names.lookup n) hlf hns hC (fun n c hc ux=>absurd rfl (h10 _ (mem_lookup hc))) (hb.mono (leR _ _ _))
   (fun n x hx=>⟨fun ux=>zip_lookup hzn hx,fun hc=>absurd rfl (h10 _ (mem_lookup hc))⟩) R₂ (fun o ho=>by rw[nth_app_len] at ho;obtain rfl:=sI ho;exact ⟨_,rfl⟩) (fun i l hi ux=>by exact ft hi) e2
  have EN:EnvR b kp (ρ++[s.heap.objs.size]) sc ⟨len W,cl⟩ (callEnv (fnX name qual params fb sc clos .none .none doc pm none (.ref c') ctv) s.heap.objs.size f):=
   {lf:=hlf,kind:=h7,gl:=rfl,bu:=rfl,kl:=fun n h=>h,kc:=fun n h=>h,kf:=fun n h=>.inl h,kg:=fun n h=>h,cells:=hC,
    tb:=fun n hn hk=>by
     rcases hk with hk | hk
     ·exact absurd (mem_lookup hk) (noInner_mem hn h11).1
     ·exact absurd rfl (h10 _ (mem_lookup hk)) }
  rw[← h6] at e3;refine S.exs e3 EN (hA.deeper _) R₄ fun kp' ρ' y s'' k R' hy=>?_;have:=ret_back (kp':=kp') (ρ':=ρ') e4 hy R' (h.mono ((leR _ _ _).trans k));cases y<;>exact this
theorem AOk.typeCall (h:AOk (m+1) A) (C:Addr) (xs:List Value):AOk m (A.under (.builtin "type.__call__" ⟨.ref C::xs,[]⟩)):=
 ⟨h.handled,by have:=h.depth;show A.depth+1+m≤990;exact lq1 [_,_] (.a (.a (.v 0) (.k 1)) (.v 1)) (.k 990) (.a (.v 0) (.a (.v 1) (.k 1))) (.k 990) this rfl,by have:=h.units;show A.units+1+12*m≤9800;exact lq1 [_,_] (.a (.a (.v 0) (.k 1)) (.m 12 (.v 1))) (.k 9800) (.a (.v 0) (.m 12 (.a (.v 1) (.k 1)))) (.k 9800) this rfl⟩
theorem s_callCls {a:Nat}{vs:List V}{v:V}{W':St}{xs:List Value}{Q:Value→Shared→Prop}(S:Sound b m r) (T:StatOk b G D) (e:callCls G r G.cls vs W=some (v,W')) (hs:VRs kp ρ vs xs) (hA:AOk (m+1) A) (R:SR b kp ρ W s)
  (h:Back b kp ρ W' (fun kp ρ y=>VR kp ρ v y) Q):codeAny (model b.prog b.w) A (.call (.ref G.cls) ⟨xs,[]⟩) (CallBack Q E) s:=by
 unfold callCls at e;revert e;refine B1 ?_;intro w W₁ e1 e2;revert e2;refine Bt ?_;intro z e2;replace h:=bk e2 h;have C:=T.cls;have hK:=R.inK;obtain ⟨hp,gs,d,t,os⟩:=s;refine make_core (makes_of hK C.make) (looks_findIn hK C.ini) (fun self=>bind_fn hK self C.iniT) (.inl rfl) ?_;have R₁:=R.alloc (h':=hp.push emptyDict) (tk:=t) (o:=.dict []) (a:=hp.objs.size) (fun ux uy e=>Heap.get?_push_of_some _ e) (Nat.le_refl _) (Heap.get?_push_size _ rfl) ⟨[],0,rfl,.nil⟩ (Nat.le_refl _);have hsz:(hp.push emptyDict).objs.size=hp.objs.size+1:=Heap.size_push ..;have hget:((hp.push emptyDict).push (instObj G.cls hp.objs.size)).get? (hp.objs.size+1)=some (instObj G.cls hp.objs.size):=by
  exact hsz ▸ (Heap.get?_push_size _ rfl)
 have R₂:=R₁.keepNew (h':=(hp.push emptyDict).push (instObj G.cls hp.objs.size)) (tk:=t) (a:=hp.objs.size+1) (fun ux uy e=>Heap.get?_push_of_some _ e) (by show (hp.push emptyDict).objs.size≤_;rw[hsz];exact Nat.le_refl _) hget (Nat.le_refl _);have hl:=R₁.leK (a:=hp.objs.size+1) (instObj G.cls hp.objs.size) (by show (hp.push emptyDict).objs.size≤_;rw[hsz];exact Nat.le_refl _);have hl':=(leR kp ρ hp.objs.size).trans hl;have hi:VR (addK kp (hp.objs.size+1) (instObj G.cls hp.objs.size)) (ρ++[hp.objs.size]) (.inst G.cls (len W)) (.ref (hp.objs.size+1)):=.inst (by rw[← R.len,nth_app_len];rfl) (addK_self _ _ _);refine codeAny_mono (S.callC (E:=E) (Q:=fun y s'=>y=.none∧Q (.ref (hp.objs.size+1)) s') e1 rfl (.st G.ini) (.cons hi (hs.mono hl')) (hA.typeCall _ _) R₂ fun kp' ρ' y s' k R' hy=>?_) fun r s' hr=>?_
 ·have:y=.none:=by
   have q:w=.none:=by cases w<;>first | rfl | exact ft z
   rw[q] at hy;apply VR.cn hy;rfl
  exact ⟨this,h kp' ρ' _ s' (hl'.trans k) R' (hi.mono k)⟩
 ·rcases r with er | (_ | _ | _ | _)<;>exact hr
set_option tactic.hygienic true in
theorem s_callC {f:V}{fx:Value}{vs:List V}{v:V}{W':St}{xs:List Value}{Q:Value→Shared→Prop}(S:Sound b m r) (T:StatOk b G D) (hD:D≤m) (e:stepCall G r f vs W=some (v,W')) (hn:noB f=true) (hf:VR kp ρ f fx) (hs:VRs kp ρ vs xs) (hA:AOk (m+1) A) (R:SR b kp ρ W s)
  (h:Back b kp ρ W' (fun kp ρ y=>VR kp ρ v y) Q):codeAny (model b.prog b.w) A (.call fx ⟨xs,[]⟩) (CallBack Q E) s:=by
 replace e:(match G.prim f vs W with | some y=>some y | none=>callV G r f vs W)=some (v,W'):=e
 cases hy:G.prim f vs W with
 | some y=>
  rw[hy] at e;replace h:=bk e h;exact (T.prim hy).2 hf hs (hA.le (Nat.le_succ_of_le hD)) R h
 | none=>
  rw[hy] at e;clear hy;cases f
  case bi=>exact ft hn
  case st a=>
   apply VR.ct hf;replace e:(bif Nat.beq a G.cls then callCls G r a vs W else b0 (G.fnd a) fun fd=>callFD r fd vs W)=some (v,W'):=e;cases z:Nat.beq a G.cls with
   | true=>
    replace e:=ct z e;have:=beqN z;subst this;exact s_callCls (a:=0) S T e hs hA R h
   | false=>
    replace e:=cf z e;revert e;refine B0 ?_;intro fd e1 e2;refine Q41 (T.fn a fd e1) ?_;intro fo d body N F;exact s_callFD S F e2 hs hA R h
  case clo=>
   apply VR.cf hf;intro ux F;exact s_callClo S F e hs hA R h
  case meth f' self=>
   revert e;refine Bt ?_;intro z e;apply VR.cm hf;intro ux uy uz k1 k2 k3;exact method_call (R.get k1) (S.callC e z k2 (.cons k3 hs) (hA.le (Nat.le_succ m)) R h)
  all_goals exact nn e
theorem s_call {f:V}{fx:Value}{vs:List V}{v:V}{W':St}{xs:List Value}{Q:Value→Shared→Prop}(S:Sound b m r) (T:StatOk b G D) (hD:D≤m) (e:stepCall G r f vs W=some (v,W')) (hf:VR kp ρ f fx) (hs:VRs kp ρ vs xs) (hA:AOk (m+1) A) (R:SR b kp ρ W s)
  (h:Back b kp ρ W' (fun kp ρ y=>VR kp ρ v y) Q):wpAny (model b.prog b.w) A (PySem.call fx xs []) Q E s:=by
 refine bC fun hN=>?_;cases hn:noB f with
 | true=>
  refine hN ?_;refine wpAny_call (codeAny_mono (s_callC (E:=E) S T hD e hn hf hs hA R h) fun r s' hr=>?_);rcases r with er | (_ | _ | _ | _)<;>exact hr
 | false=>
  cases f with
  | bi c=>
   replace e:(match G.prim (.bi c) vs W with | some y=>some y | none=>callB G c vs W)=some (v,W'):=e
   cases hy:G.prim (.bi c) vs W with
   | some y=>
    have:=(T.prim (fx:=.none) (xs:=[]) (A:=A) (kp:=kp) (ρ:=ρ) (s:=s) (Q:=Q) (E:=E) (v:=y.1) (W':=y.2) hy).1;exact ft this
   | none=>
    rw[hy] at e;refine hN ?_;apply VR.cB hf;exact s_callB T.fnObj e hs hA R h
  | _=>cases hn
end
section
variable {b:BS}{G:Sig}{D:Nat}{r:Ops}{m:Nat}{kp:Kp}{ρ:List Addr}{W:St}{s:Shared}{sc:Scope}{g:Ctx}{env:Env}{A:Around}{E:Value→Shared→Prop}
theorem ev_Attribute {a:PySem.Expr}{mm:Str}{p:Pos}{n:Nat}{v:V}{W':St}{Q:Value→Shared→Prop}(S:Sound b m r) (T:StatOk b G D) (e:stepEv G r g ((cmp ce (n+1)).e sc (.Attribute a mm p)) W=some (v,W')) (EN:EnvR b kp ρ sc g env) (hA:AOk (m+1) A) (R:SR b kp ρ W s)
  (h:Back b kp ρ W' (fun kp ρ y=>VR kp ρ v y) Q):wpAny (model b.prog b.w) A (eval (.Attribute a mm p) env) Q E s:=by
 refine bC fun hN=>?_;have hA':=hA.le (Nat.le_succ m);have e₀:stepEv G r g ((cmpStep ce (cmp ce n)).e sc (.Attribute a mm p)) W=some (v,W'):=e;rcases att_cases (cc:=cmp ce n) (sc:=sc) (a:=a) (mm:=mm) (p:=p) with ⟨x,xp,i,rfl,z⟩ | z
 ·have e':stepEv G r g (match idx mm ce.tab with | some i=>X.att ((cmp ce n).e sc (.Name x xp)) i | none=>.bad) W=some (v,W'):=e
  rw[show idx mm ce.tab=some i from z] at e';dsimp only[ZD] at e';revert e';refine B1 ?_;intro o W₁ h1 e1;revert e1;refine B0 ?_;intro w e2 e3;replace h:=bk e3 h;refine hN ?_;refine Attribute_Name_ (S.ev h1 EN hA' R fun kp₁ ρ₁ ov s₁ k1 R1 ho=>?_);exact s_getAtt T.cls z e2 ho hA R1 (h.mono k1)
 ·rw[z] at e₀;exact nn e₀
theorem star_hd {x:PySem.Expr}{es:List PySem.Expr}{env:Env}{pos:Pos}(h:noStar (x::es)=true) (k:noStar es=true→(backTo pos (starEach es env)).any (·.1)=false):(backTo pos (starEach (x::es) env)).any (·.1)=false:=by
 cases x<;>first | exact k h | exact ft h
theorem star_none {es:List PySem.Expr}{env:Env}{pos:Pos}:noStar es=true→(backTo pos (starEach es env)).any (·.1)=false:=by
 induction es with
 | nil=>intro ux;rfl
 | cons x es ih=>intro h;exact star_hd h ih
theorem ev_args {f:Value}{es:List PySem.Expr}{pos:Pos}{Q:Args→Shared→Prop}(hs:noStar es=true) (h:wpAny (model b.prog b.w) A (spliced (backTo pos (starEach es env))) (fun vs s'=>Q ⟨vs,[]⟩ s') E s):
  wpAny (model b.prog b.w) A (evalArgs f true (backTo pos (starEach es env)) []) Q E s:=by
 cases es with
 | nil=>
  refine wpAny_bind (wpAny_mono h (fun vs s' h'=>?_) fun ux uy x=>x);refine wpAny_bind (wpAny_pure ?_);refine wpAny_holding ?_;exact wpAny_bind (wpAny_pure (wpAny_bind (wpAny_pure (wpAny_pure h'))))
 | cons x es=>
  have e:∃ t,backTo pos (starEach (x::es) env)=(false,eval x env)::t:=by
   cases x
   case Starred=>exact ft hs
   all_goals exact ⟨_,rfl⟩
  refine Q11 e ?_;intro t e;rw[e] at h ⊢;exact evalArgs_plain h
set_option tactic.hygienic true in
theorem base_ok {o:PySem.Expr}{mm:Str}{whole:Sem Value}(h:okBase o=true):attributeBase o mm env whole=whole:=by
 cases o
 case Call f es ks p=>
  cases f
  case Name id q=>
   cases es
   case nil=>
    cases ks
    case nil=>exact ft h
    case cons=>rfl
   case cons=>rfl
  all_goals rfl
 all_goals rfl
theorem mcall_rule {o:PySem.Expr}{name:Str}{apos pos:Pos}{es:List PySem.Expr}{Q:Value→Shared→Prop}(hs:noStar es=true) (hm:mOk o es apos pos=true)
  (h:wpAny (model b.prog b.w) A (eval o env) (fun ov s₁=>∀ pl,wpAny (model b.prog b.w) A (getMethod ov name pl) (fun fx s₂=>wpAny (model b.prog b.w) A (callWith pos fx.1 fx.2 (backTo pos (starEach es env)) []) Q E s₂) E s₁) E s):
  wpAny (model b.prog b.w) A (eval (.Call (.Attribute o name apos) es [] pos) env) Q E s:=by
 have m1:=al hm;have m2:=ar hm;have m3:=al m1;have m4:=ar m1;have e:eval (.Call (.Attribute o name apos) es [] pos) env=(do
  let ov ← attributeBase o name env (eval o env)
  standAt apos.atName
  methodCall o name apos pos env ov (es.length+0) (backTo pos (starEach es env)) []):=rfl
 refine e.symm ▸ (base_ok m3).symm ▸ ?_;refine wpAny_bind (wpAny_mono h (fun ov s₁ h₁=>wpAny_bind (wpAny_standAt ?_)) fun ux uy x=>x);have hf:methodCallForm (es.length+0) (backTo pos (starEach es env)) []=true:=by
  unfold methodCallForm;have h1:(backTo pos (starEach es env)).all (!·.1)=true:=by
   have:=star_none (env:=env) (pos:=pos) hs;rw[List.any_eq_false] at this;rw[List.all_eq_true];intro x hx;have:=this x hx;cases q:x.1 with
   | false=>rfl
   | true=>exact absurd q this
  refine h1.symm ▸ ?_;have h2:es.length<30:=nL m4;simp[h2]
 unfold methodCall;refine hf.symm ▸ ?_;refine wpAny_bind (wpAny_holding ?_);refine wpAny_mono (h₁ _) (fun fx s₂ h₂=>?_) fun ux uy x=>x;have hp:methodCallPos true o env apos pos=pure pos:=by
  unfold methodCallPos;refine m2.symm ▸ ?_;rfl
 refine hp.symm ▸ ?_;exact wpAny_bind (wpAny_pure h₂)
set_option tactic.hygienic true in
theorem keep_ok {f:V}{fx:Value}(T:StatOk b G D) (hc:isCall G f=true) (hf:VR kp ρ f fx) (hb:∀ a o,b.hb.get? a=some o→kp a=some o) (h:Heap) (P:∀ a o,kp a=some o→h.get? a=some o):
  ∃ k,(k=Keeper.frame∨k=Keeper.machine∨k=Keeper.boundFrame)∧Looks (model b.prog b.w) h (keeperOf fx) k:=by
 have hK:b.K.In h:=fun ux uy e=>P _ _ (hb _ _ (b.X _ _ e));cases f
 case bi c=>
  apply VR.cB hf;cases c<;>exact ⟨.machine,.inr (.inl rfl),Looks.of_pure rfl⟩
 case st a=>
  apply VR.ct hf;have hk:keepIn b.K (.ref a)=true:=by
   rcases Bool.or_eq_true_iff.mp hc with z | z
   ·rw[beqN z];exact T.cls.keep
   ·refine Q11 (Option.isSome_iff_exists.mp z) ?_;intro fd hfd;exact T.keep a fd hfd
  refine Q12 (looks_keep (M:=model b.prog b.w) hk hK) ?_;intro k h1 h2;exact ⟨k,h1.elim .inl fun x=>.inr (.inl x),h2⟩
 case clo=>
  apply VR.cf hf;intro ux F;obtain ⟨name,qual,params,fb,sc,clos,doc,pm,c',ctv,N,h1,ux⟩:=F;exact ⟨.frame,.inl rfl,(Looks.ld (part:=none) (P _ _ h1)).andThen .now⟩
 all_goals exact ft hc
theorem call_with {f v:V}{fx:Value}{first:List Value}{fs vs:List V}{es:List PySem.Expr}{pos:Pos}{n:Nat}{W₂ W':St}{Q:Value→Shared→Prop}(S:Sound b m r) (T:StatOk b G D) (hs:noStar es=true) (hv:r.evs g ((cmp ce n).es sc es) W=some (vs,W₂)) (e:eCall G r f (fs++vs) W₂=some (v,W'))
  (hf:VR kp ρ f fx) (hfs:VRs kp ρ fs first) (EN:EnvR b kp ρ sc g env) (hA:AOk m A) (R:SR b kp ρ W s) (h:Back b kp ρ W' (fun kp ρ y=>VR kp ρ v y) Q):
  wpAny (model b.prog b.w) A (callWith pos fx first (backTo pos (starEach es env)) []) Q E s:=by
 unfold eCall at e;revert e;refine Bt ?_;intro z e;refine callWith_of (P:=fun h=>∀ a o,kp a=some o→h.get? a=some o) (by rw[star_none hs];rfl) (fun h P=>keep_ok T z hf R.base h P) (ev_args hs ?_);refine S.evs hv EN hA R fun kp₁ ρ₁ xs s₁ k1 R1 hx=>⟨fun a o e=>R1.keep _ _ (k1.kp _ _ e),?_⟩;exact S.call e (hf.mono k1) ((hfs.mono k1).app hx) hA R1 (h.mono k1)
theorem ev_Call {f:PySem.Expr}{es:List PySem.Expr}{ks:List Keyword}{p:Pos}{n:Nat}{v:V}{W':St}{Q:Value→Shared→Prop}(S:Sound b m r) (T:StatOk b G D) (e:stepEv G r g ((cmp ce (n+1)).e sc (.Call f es ks p)) W=some (v,W')) (EN:EnvR b kp ρ sc g env) (hA:AOk (m+1) A) (R:SR b kp ρ W s)
  (h:Back b kp ρ W' (fun kp ρ y=>VR kp ρ v y) Q):wpAny (model b.prog b.w) A (eval (.Call f es ks p) env) Q E s:=by
 have hA':=hA.le (Nat.le_succ m);refine exI e fun z e1=>?_;clear e;have ns:=ar z;have ks0:=List.isEmpty_iff.mp (al z);clear z;subst ks0;refine onA_i (P:=fun f=>wpAny (model b.prog b.w) A (eval (.Call f es [] p) env) Q E s) e1 (fun o mm q e2=>?_) fun nf e₀=>?_
 ·refine exI e2 fun mk e₀=>?_;clear e1 e2;cases y:twoTexts mm es with
  | some ac=>
   obtain ⟨a,c⟩:=ac;rw[y] at e₀;revert e₀;refine Bt ?_;intro hrep e₀;revert e₀;refine B1 ?_;intro o' W₁ h1 e1;obtain ⟨rfl,x,k,p1,x',k',p2,rfl,rfl,rfl⟩:=twoTexts_inv y;refine mcall_rule ns mk (S.ev h1 EN hA' R fun kp₁ ρ₁ ov s₁ k1 R1 ho pl=>?_);cases o' with
   | str t=>
    apply VR.cs ho;intro tk;refine PySem.GM.replace ?_;refine callWith_builtin rfl (evalArgs_plain (spliced_cons (Constant_str (k:=k) (pos:=p1) (spliced_cons (Constant_str (k:=k') (pos:=p2) (spliced_nil ?_))))));have R2:SR b kp₁ ρ₁ W₁ { s₁ with toks:=s₁.toks+1+1 }:=(R1.tok (htk:=Nat.le_add_right _ 2));have ht:1≤s₁.toks:=lT (T.rep hrep) R1.tk;have:=s_repl (A:=A) (E:=E) (t:=tk) (u:=s₁.toks) (w:=s₁.toks+1) e1 (by show s₁.toks≠0;omega) (by show s₁.toks+1≠0;omega) (by show s₁.toks≠s₁.toks+1;omega) R2 (h.mono k1);exact this
   | _=>exact nn e1
  | none=>
   rw[y] at e₀;refine exX1 (f:=fun i=>.mcall ((cmp ce n).e sc o) i ((cmp ce n).es sc es)) e₀ fun i y e₀=>?_;dsimp only[ZF] at e₀;revert e₀;refine B1 ?_;intro o' W₁ h1 e1;revert e1;refine B0 ?_;intro fo h2 e2;revert e2;refine B1 ?_;intro vs W₂ h3 e3;refine mcall_rule ns mk (S.ev h1 EN hA' R fun kp₁ ρ₁ ov s₁ k1 R1 ho pl=>?_);cases fo with
   | some pf=>
    refine s_findM T.cls y h2 ho hA R1 fun f xs hf hxs tk htk=>?_;exact call_with S T ns h3 e3 hf hxs (EN.mono k1) hA' (R1.tok htk) (h.mono k1)
   | none=>
    refine s_findB T.names T.pat y h2 ho R1 ?_;refine callWith_builtin (star_none ns) (ev_args ns ?_);refine S.evs h3 (EN.mono k1) hA' R1 fun kp₂ ρ₂ xs s₂ k2 R2 hx=>?_;exact s_meth T.pat e3 (ho.mono k2) hx hA R2 (h.mono (k1.trans k2))
 ·clear e1;dsimp only[ZE] at e₀;refine Q22 (b1_inv e₀) ?_;intro f' W₁ h1 e1;refine Q22 (b1_inv e1) ?_;intro vs W₂ h2 e2;refine Call_ (S.ev h1 EN hA' R fun kp₁ ρ₁ fv s₁ k1 R1 hf=>?_) ?_
  ·exact call_with (fs:=[]) S T ns h2 e2 hf .nil (EN.mono k1) hA' R1 (h.mono k1)
  ·clear h2 e2 h1 e1 e₀ S h hA hA' R EN T;cases f
   case Attribute=>exact ft nf.symm
   all_goals rfl
end
section
variable {b:BS}{G:Sig}{D:Nat}{r:Ops}{m:Nat}{kp:Kp}{ρ:List Addr}{W:St}{s:Shared}{sc:Scope}{g:Ctx}{env:Env}{A:Around}{E:Value→Shared→Prop}
theorem nx_inv {o:Option St}{f:Fl}{W':St}(e:nx o=some (f,W')):f=.next∧o=some W':=by
 revert e;refine B0 ?_;intro w h1 h2;refine Q02 (pj h2) ?_;rintro rfl rfl;exact ⟨rfl,h1⟩
theorem ex_Expr {e:PySem.Expr}{p:Pos}{n:Nat}{f:Fl}{W':St}{Q:Flow→Shared→Prop}(S:Sound b m r) (e0:(b1 (r.ev g ((cmp ce n).e sc e) W) fun v W=>bif isNone v then some (Fl.next,W) else none)=some (f,W')) (hs:swapsWith e none p.line env=pure false) (EN:EnvR b kp ρ sc g env) (hA:AOk (m+1) A) (R:SR b kp ρ W s)
  (h:Back b kp ρ W' (fun kp ρ y=>FlR kp ρ f y) Q):wpAny (model b.prog b.w) A (exec (.Expr e p) env) Q E s:=by
 revert e0;refine B1 ?_;intro v W₁ h1 e1;revert e1;refine Bt ?_;intro z e1;refine Q02 (pj e1) ?_;rintro rfl rfl;refine wpAny_Expr (S.ev h1 EN (hA.le (Nat.le_succ m)) R fun kp₁ ρ₁ y s₁ k1 R1 hy=>?_) (by unfold interactive;rw[EN.kind];rfl) hs;cases v with
 | none=>apply VR.cn hy;exact h kp₁ ρ₁ _ _ k1 R1 rfl
 | _=>exact ft z
theorem ex_ret {e:PySem.Expr}{p:Pos}{n:Nat}{f:Fl}{W':St}{Q:Flow→Shared→Prop}(S:Sound b m r) (e0:(b1 (r.ev g ((cmp ce n).e sc e) W) fun v W=>some (Fl.ret v,W))=some (f,W')) (EN:EnvR b kp ρ sc g env) (hA:AOk (m+1) A) (R:SR b kp ρ W s)
  (h:Back b kp ρ W' (fun kp ρ y=>FlR kp ρ f y) Q):wpAny (model b.prog b.w) A (exec (.Return (some e) p) env) Q E s:=by
 refine bC fun hN=>?_;revert e0;refine B1 ?_;intro v W₁ h1 e1;refine Q02 (pj e1) ?_;rintro rfl rfl;refine hN ?_;exact wpAny_Return_some (S.ev h1 EN (hA.le (Nat.le_succ m)) R fun kp₁ ρ₁ y s₁ k1 R1 hy=>h kp₁ ρ₁ _ _ k1 R1 ⟨y,rfl,hy⟩)
theorem comp_bad {e:PySem.Expr}(n:Nat) (h:(∃ x1 x2 x3 x4,e=.SetComp x1 x2 x3 x4)∨(∃ x1 x2 x3 x4 x5,e=.DictComp x1 x2 x3 x4 x5)):(cmp ce n).e sc e=.bad:=by
 rcases h with ⟨ux,uy,uz,uw,rfl⟩ | ⟨ut,uq,u1x,u2x,u3x,rfl⟩<;>cases n<;>rfl
set_option tactic.hygienic true in
theorem swaps_name' {e:PySem.Expr}{x:Str}{q:Pos}{l:Nat}(n:Nat):swapsWith e (some (.Name x q)) l env=pure false∨(cmp ce n).e sc e=.bad ∨
  (∃ elt gens sc' p,e=.ListComp elt gens sc' p∧swapsWith e (some (.Name x q)) l env=pure true∧env.kindOf x=some .local):=by
 cases e
 case ListComp elt gens sc' p=>
  have e:swapsWith (.ListComp elt gens sc' p) (some (.Name x q)) l env=pure (env.blockKind==.function&&env.kindOf x==some .local&&q.line==(PySem.Expr.ListComp elt gens sc' p).pos.line&&!(sc'.names.any fun (n,k)=>n==x&&(k==.local||k==.cell))):=rfl;cases c:(env.blockKind==.function&&env.kindOf x==some .local&&q.line==(PySem.Expr.ListComp elt gens sc' p).pos.line&&!(sc'.names.any fun (n,k)=>n==x&&(k==.local||k==.cell))) with
  | false=>rw[c] at e;exact .inl e
  | true=>
   rw[c] at e;have c1:=al c;have c2:=al c1;have c3:=ar c2;exact .inr (.inr ⟨elt,gens,sc',p,rfl,e,eq_of_beq c3⟩)
 case SetComp=>exact .inr (.inl (comp_bad n (.inl ⟨_,_,_,_,rfl⟩)))
 case DictComp=>exact .inr (.inl (comp_bad n (.inr ⟨_,_,_,_,_,rfl⟩)))
 all_goals exact .inl rfl
theorem ex_asg {e:PySem.Expr}{x:Str}{q p:Pos}{n i:Nat}{c:Bool}{f:Fl}{W':St}{Q:Flow→Shared→Prop}(S:Sound b m r) (ht:tgt ce sc (.Name x q)=some (c,i)) (e0:(b1 (r.ev g ((cmp ce n).e sc e) W) fun v W=>nx (stName g c i v W))=some (f,W')) (EN:EnvR b kp ρ sc g env) (hA:AOk (m+1) A) (R:SR b kp ρ W s)
  (h:Back b kp ρ W' (fun kp ρ y=>FlR kp ρ f y) Q):wpAny (model b.prog b.w) A (exec (.Assign [.Name x q] e p) env) Q E s:=by
 have hA':=hA.le (Nat.le_succ m);revert e0;refine B1 ?_;intro v W₁ h1 e1;refine Q02 (nx_inv e1) ?_;rintro rfl e2;rcases swaps_name' (env:=env) (sc:=sc) (e:=e) (x:=x) (q:=q) (l:=p.line) n with hs | hb | ⟨elt,gens,sc',p',rfl,hs,hl⟩
 ·refine wpAny_Assign_Name (S.ev h1 EN hA' R fun kp₁ ρ₁ y s₁ k1 R1 hy=>?_) hs;exact st_name ht e2 (EN.mono k1) R1 hy fun s' R'=>h kp₁ ρ₁ _ _ k1 R' rfl
 ·rw[hb,S.bad] at h1;exact nn h1
 ·refine (exec_Assign_Name_used _ _ _ _ hs).symm ▸ ?_;obtain ⟨hi,⟨rfl,hk⟩ | ⟨rfl,hk⟩⟩:=tgt_inv ht
  ·refine wpAny_bind (wpAny_standAt (wpAny_bind ?_));exact S.use h1 e2 ht EN hA' R fun kp' ρ' s' k R'=>wpAny_pure (h kp' ρ' _ _ k R' rfl)
  ·refine bC fun hN4=>?_;have:=EN.kc x hk;rw[this] at hl;cases hl
theorem swaps_att {e o:PySem.Expr}{a:Str}{q:Pos}{l:Nat}:swapsWith e (some (.Attribute o a q)) l env=pure false:=by cases e<;>rfl
theorem swaps_sub {e o i:PySem.Expr}{q:Pos}{l:Nat}:swapsWith e (some (.Subscript o i q)) l env=pure false:=by cases e<;>rfl
theorem ex_asgA {e o:PySem.Expr}{a:Str}{q p:Pos}{n i:Nat}{f:Fl}{W':St}{Q:Flow→Shared→Prop}(S:Sound b m r) (T:StatOk b G D) (hi:idx a tab=some i) (e0:(b1 (r.ev g ((cmp ce n).e sc e) W) fun v W=>b1 (r.ev g ((cmp ce n).e sc o) W) fun o W=>nx (setAtt G o i v W))=some (f,W')) (EN:EnvR b kp ρ sc g env) (hA:AOk (m+1) A) (R:SR b kp ρ W s)
  (h:Back b kp ρ W' (fun kp ρ y=>FlR kp ρ f y) Q):wpAny (model b.prog b.w) A (exec (.Assign [.Attribute o a q] e p) env) Q E s:=by
 refine bC fun hN=>?_;have hA':=hA.le (Nat.le_succ m);revert e0;refine B1 ?_;intro v W₁ h1 e1;revert e1;refine B1 ?_;intro ov W₂ h2 e2;refine Q02 (nx_inv e2) ?_;rintro rfl e3;refine hN ?_;refine plainObj_wpAny_Assign_Attribute (S.ev h1 EN hA' R fun kp₁ ρ₁ y s₁ k1 R1 hy=>S.ev h2 (EN.mono k1) hA' R1 fun kp₂ ρ₂ z s₂ k2 R2 hz=>?_) swaps_att;exact s_setAtt T.cls hi e3 hz (hy.mono k2) R2 fun s' R'=>h kp₂ ρ₂ _ _ (k1.trans k2) R' rfl
theorem ex_asgI {e o i:PySem.Expr}{q p:Pos}{n:Nat}{f:Fl}{W':St}{Q:Flow→Shared→Prop}(S:Sound b m r) (e0:(b1 (r.ev g ((cmp ce n).e sc e) W) fun v W=>b1 (r.ev g ((cmp ce n).e sc o) W) fun o W=>b1 (r.ev g ((cmp ce n).e sc i) W) fun i W=>nx (setSub o i v W))=some (f,W')) (EN:EnvR b kp ρ sc g env) (hA:AOk (m+1) A) (R:SR b kp ρ W s)
  (h:Back b kp ρ W' (fun kp ρ y=>FlR kp ρ f y) Q):wpAny (model b.prog b.w) A (exec (.Assign [.Subscript o i q] e p) env) Q E s:=by
 refine bC fun hN=>?_;have hA':=hA.le (Nat.le_succ m);revert e0;refine B1 ?_;intro v W₁ h1 e1;revert e1;refine B1 ?_;intro ov W₂ h2 e2;revert e2;refine B1 ?_;intro iv W₃ h3 e3;refine Q02 (nx_inv e3) ?_;rintro rfl e4;refine hN ?_;refine wpAny_Assign_Subscript (S.ev h1 EN hA' R fun kp₁ ρ₁ y s₁ k1 R1 hy=>S.ev h2 (EN.mono k1) hA' R1 fun kp₂ ρ₂ z s₂ k2 R2 hz=>S.ev h3 (EN.mono (k1.trans k2)) hA' R2 fun kp₃ ρ₃ w s₃ k3 R3 hw=>?_) swaps_sub;exact s_setSub e4 (hz.mono k3) hw (hy.mono (k2.trans k3)) R3 fun s' R'=>h kp₃ ρ₃ _ _ ((k1.trans k2).trans k3) R' rfl
theorem s_iadd {op:Operator}{a c v:V}{x y:Value}{W':St}{Q:Value→Shared→Prop}(hp:(plainV a&&isAdd op)=true) (e:binop op a c W=some (v,W')) (ha:VR kp ρ a x) (hc:VR kp ρ c y) (R:SR b kp ρ W s)
  (B:Back b kp ρ W' (fun kp ρ y=>VR kp ρ v y) Q):wpAny (model b.prog b.w) A (inplaceOp op x y) Q E s:=by
 have p1:=al hp;have p2:=ar hp;cases op
 case Add=>
  clear hp;revert ha p1;apply onK_i e<;>clear e
  ·intro i e ha ux;revert e;refine OInt ?_;rintro j rfl e;apply VR.ci ha;intro ux;apply VR.ci hc;intro ux;refine Q02 (pj e) ?_;rintro rfl rfl;exact wpAny_iadd_int (B kp ρ _ _ (Le.refl _ _) (R.tok (htk:=Nat.le_succ _)) (.int _ _))
  ·intro p e ha ux;revert e;refine OStr ?_;rintro q rfl e;apply VR.cs ha;intro ux;apply VR.cs hc;intro ux;replace e:(bif Nat.ble (len p+len q) strMax then some (V.str (p++q),W) else none)=some (v,W'):=e;revert e;refine Bt ?_;intro z e;replace B:=bk e B;have hz:=ble_iff.mp z;have hm:strMax=1000000:=rfl;rw[len_eq,len_eq] at hz;refine wpAny_with_toks (Nat.le_refl s.toks) (SBL.iadd (fun t' tk ux htk=>?_) ?_)
   ·refine B kp ρ _ _ (Le.refl _ _) (R.tok htk) ?_;have:(({ cps:=p.toArray }:Str)++{ cps:=q.toArray })={ cps:=(p++q).toArray }:=by
     show Str.mk _=_;simp
    refine this.symm ▸ ?_;exact .str _ _
   ·show p.toArray.size+q.toArray.size≤sizeLine;simp only[List.size_toArray,sizeLine_eq];exact lq2 [_,_,_] (.a (.v 0) (.v 1)) (.k 16777216) (.v 2) (.k 1000000) (.a (.v 0) (.v 1)) (.v 2) (Nat.le_of_eq hm) hz rfl
  ·intro l e ha p1;exact ft p1
 all_goals exact ft p2
theorem ld_name {x:Str}{q:Pos}{c:Bool}{i:Nat}{v:V}{Q:Value→Shared→Prop}(ht:tgt ce sc (.Name x q)=some (c,i)) (e:ldName g c i W=some v) (EN:EnvR b kp ρ sc g env) (R:SR b kp ρ W s) (h:∀ y,VR kp ρ v y→Q y s):wpAny (model b.prog b.w) A (loadName env x) Q E s:=by
 refine bC fun hN=>?_;obtain ⟨hi,⟨rfl,hk⟩ | ⟨rfl,hk⟩⟩:=tgt_inv ht
 ·refine hN ?_;exact ld_loc hi hk e EN R h
 ·refine hN ?_;exact ld_cel hi (.inr hk) e EN R h
theorem ex_aug {e:PySem.Expr}{x:Str}{q p:Pos}{op:Operator}{n i:Nat}{c:Bool}{f:Fl}{W':St}{Q:Flow→Shared→Prop}(S:Sound b m r) (ht:tgt ce sc (.Name x q)=some (c,i)) (e0:(b0 (ldName g c i W) fun a=>b1 (r.ev g ((cmp ce n).e sc e) W) fun b W=>xAug g c i op a b W)=some (f,W')) (EN:EnvR b kp ρ sc g env) (hA:AOk (m+1) A) (R:SR b kp ρ W s)
  (h:Back b kp ρ W' (fun kp ρ y=>FlR kp ρ f y) Q):wpAny (model b.prog b.w) A (exec (.AugAssign (.Name x q) op e p) env) Q E s:=by
 refine bC fun hN=>?_;have hA':=hA.le (Nat.le_succ m);revert e0;refine B0 ?_;intro a h0 e1;revert e1;refine B1 ?_;intro v W₁ h1 e2;unfold xAug at e2;revert e2;refine Bt ?_;intro z e2;revert e2;refine B1 ?_;intro u W₂ h2 e3;refine Q02 (nx_inv e3) ?_;rintro rfl e4;refine hN ?_;refine wpAny_AugAssign_Name (ld_name ht h0 EN R fun old hold=>S.ev h1 EN hA' R fun kp₁ ρ₁ y s₁ k1 R1 hy=>s_iadd z h2 (hold.mono k1) hy R1 fun kp₂ ρ₂ w s₂ k2 R2 hw=>?_);exact st_name ht e4 (EN.mono (k1.trans k2)) R2 hw fun s' R'=>h kp₂ ρ₂ _ _ (k1.trans k2) R' rfl
theorem ex_augA {e o:PySem.Expr}{a:Str}{q p:Pos}{op:Operator}{n i:Nat}{f:Fl}{W':St}{Q:Flow→Shared→Prop}(S:Sound b m r) (T:StatOk b G D) (hi:idx a tab=some i) (e0:(b1 (r.ev g ((cmp ce n).e sc o) W) fun o W=>b0 (getAtt G o i W) fun a=>b1 (r.ev g ((cmp ce n).e sc e) W) fun b W=>xAugA G o i op a b W)=some (f,W')) (EN:EnvR b kp ρ sc g env) (hA:AOk (m+1) A) (R:SR b kp ρ W s)
  (h:Back b kp ρ W' (fun kp ρ y=>FlR kp ρ f y) Q):wpAny (model b.prog b.w) A (exec (.AugAssign (.Attribute o a q) op e p) env) Q E s:=by
 refine bC fun hN=>?_;have hA':=hA.le (Nat.le_succ m);revert e0;refine B1 ?_;intro ov W₁ h1 e1;revert e1;refine B0 ?_;intro old h2 e2;revert e2;refine B1 ?_;intro v W₂ h3 e3;unfold xAugA at e3;revert e3;refine Bt ?_;intro z e3;revert e3;refine B1 ?_;intro u W₃ h4 e4;refine Q02 (nx_inv e4) ?_;rintro rfl e5;refine hN ?_;refine wpAny_AugAssign_AttributeAny (S.ev h1 EN hA' R fun kp₁ ρ₁ x s₁ k1 R1 hx=>s_getAtt T.cls hi h2 hx hA R1 fun kp₂ ρ₂ y s₂ k2 R2 hy=>S.ev h3 (EN.mono (k1.trans k2)) hA' R2 fun kp₃ ρ₃ w s₃ k3 R3 hw=>s_iadd z h4 (hy.mono k3) hw R3 fun kp₄ ρ₄ t s₄ k4 R4 ht=>?_);exact s_setAtt T.cls hi e5 (hx.mono ((k2.trans k3).trans k4)) ht R4 fun s' R'=>h kp₄ ρ₄ _ _ (((k1.trans k2).trans k3).trans k4) R' rfl
theorem ex_if {t:PySem.Expr}{p:Pos}{bd el:List Stmt}{n:Nat}{f:Fl}{W':St}{Q:Flow→Shared→Prop}(S:Sound b m r) (e0:(b1 (r.tst g ((cmp ce n).t sc t) W) fun t W=>bif t then r.exs g ((cmp ce n).ss sc bd) W else r.exs g ((cmp ce n).ss sc el) W)=some (f,W')) (EN:EnvR b kp ρ sc g env) (hA:AOk (m+1) A) (R:SR b kp ρ W s)
  (h:Back b kp ρ W' (fun kp ρ y=>FlR kp ρ f y) Q):wpAny (model b.prog b.w) A (exec (.If t bd el p) env) Q E s:=by
 have hA':=hA.le (Nat.le_succ m);revert e0;refine B1 ?_;intro c W₁ h1 e1;refine wpAny_If (S.tst h1 EN hA' R fun kp₁ ρ₁ y s₁ k1 R1 hy=>?_);subst hy;cases y with
 | true=>exact S.exs e1 (EN.mono k1) hA' R1 (h.mono k1)
 | false=>exact S.exs e1 (EN.mono k1) hA' R1 (h.mono k1)
theorem s_exs {ss:List Stmt}{n:Nat}{f:Fl}{W':St}{Q:Flow→Shared→Prop}(S:Sound b m r) (e:stepExs r g ((cmp ce n).ss sc ss) W=some (f,W')) (EN:EnvR b kp ρ sc g env) (hA:AOk (m+1) A) (R:SR b kp ρ W s)
  (h:Back b kp ρ W' (fun kp ρ y=>FlR kp ρ f y) Q):wpAny (model b.prog b.w) A (execs ss env) Q E s:=by
 have hA':=hA.le (Nat.le_succ m);cases n with
 | zero=>
  change stepExs r g [.bad] W=some (f,W') at e;dsimp only[Zq,Zr] at e;revert e;refine B1 ?_;intro ux uy q1 uz;rw[S.badS] at q1;exact nn q1
 | succ n=>
 cases ss with
 | nil=>
  have e':some (Fl.next,W)=some (f,W'):=e;refine Q02 (pj e') ?_;rintro rfl rfl;exact wpAny_execs_nil (h kp ρ _ _ (Le.refl _ _) R rfl)
 | cons st ss=>
  have e':stepExs r g ((cmp ce n).s sc st::(cmp ce n).ss sc ss) W=some (f,W'):=e;dsimp only[Zq,Zr] at e';revert e';refine B1 ?_;intro f₁ W₁ h1 e1;refine wpAny_execs_cons (S.ex h1 EN hA' R fun kp₁ ρ₁ y s₁ k1 R1 hy=>?_);cases f₁ with
  | next=>
   have hy':y=.next:=hy;subst hy';exact S.exs e1 (EN.mono k1) hA' R1 (h.mono k1)
  | cont=>
   have hy':y=.cont:=hy;subst hy';refine Q02 (pj e1) ?_;rintro rfl rfl;exact h kp₁ ρ₁ _ _ k1 R1 rfl
  | ret v=>
   refine Q12 hy ?_;rintro x rfl hx;refine Q02 (pj e1) ?_;rintro rfl rfl;exact h kp₁ ρ₁ _ _ k1 R1 ⟨x,rfl,hx⟩
theorem s_whl {t:PySem.Expr}{bd:List Stmt}{n:Nat}{f:Fl}{W':St}{R0:Result→Shared→Prop}(S:Sound b m r) (e:stepWhl r g ((cmp ce n).t sc t) ((cmp ce n).ss sc bd) W=some (f,W')) (EN:EnvR b kp ρ sc g env) (hA:AOk (m+1) A) (R:SR b kp ρ W s)
  (h:Back b kp ρ W' (fun kp ρ y=>FlR kp ρ f y) (fun y s'=>R0 (.ok y) s')):codeAny (model b.prog b.w) A (.whileLoop t bd [] env) R0 s:=by
 have hA':=hA.le (Nat.le_succ m);revert e;refine B1 ?_;intro c W₁ h1 e1;refine codeAny_of_tree ?_;show wpAny _ A ((whileTurn t bd [] env).onRaise (fun x=>do noteFrame x env;theTreesLotGoes x)) _ _ s;refine wpAny_noted ?_;simp only[whileTurn];refine wpAny_bind (S.tst h1 EN hA' R fun kp₁ ρ₁ y s₁ k1 R1 hy=>?_);subst hy;cases y with
 | false=>
  refine Q02 (pj e1) ?_;rintro rfl rfl;simp only[Bool.false_eq_true,if_false];exact wpAny_bind (wpAny_execs_nil (wpAny_pure (h kp₁ ρ₁ _ _ k1 R1 rfl)))
 | true=>
  simp only[if_true];simp only[cond_true] at e1;revert e1;refine B1 ?_;intro f₁ W₂ h2 e2;refine wpAny_bind (S.exs h2 (EN.mono k1) hA' R1 fun kp₂ ρ₂ y s₂ k2 R2 hy=>?_);cases f₁ with
  | next=>
   have hy':y=.next:=hy;subst hy';exact wpAny_pure ⟨rfl,S.whl e2 (EN.mono (k1.trans k2)) hA' R2 (h.mono (k1.trans k2))⟩
  | cont=>
   have hy':y=.cont:=hy;subst hy';exact wpAny_pure ⟨rfl,S.whl e2 (EN.mono (k1.trans k2)) hA' R2 (h.mono (k1.trans k2))⟩
  | ret v=>
   refine Q12 hy ?_;rintro x rfl hx;refine Q02 (pj e2) ?_;rintro rfl rfl;exact wpAny_pure (h kp₂ ρ₂ _ _ (k1.trans k2) R2 ⟨x,rfl,hx⟩)
theorem isNs_inv {o:Option O}(h:isNs o=true):∃ m,o=some (.ns m):=by
 cases o with
 | none=>exact ft h
 | some o=>cases o<;>first | exact ft h | exact ⟨_,rfl⟩
theorem s_frs {nm:Str}{p:Pos}{c:Bool}{x i:Nat}{it:Addr}{bd:List Stmt}{n:Nat}{f:Fl}{W':St}{R0:Result→Shared→Prop}(S:Sound b m r) (e:stepFrs r g c x i ((cmp ce n).ss sc bd) W=some (f,W')) (ht:tgt ce sc (.Name nm p)=some (c,x)) (hi:nth ρ i=some it) (EN:EnvR b kp ρ sc g env) (hA:AOk (m+1) A) (R:SR b kp ρ W s)
  (h:Back b kp ρ W' (fun kp ρ y=>FlR kp ρ f y) (fun y s'=>R0 (.ok y) s')):codeAny (model b.prog b.w) A (.forLoop (.Name nm p) (.ref it) bd [] env) R0 s:=by
 have hA':=hA.le (Nat.le_succ m);unfold stepFrs at e;revert e;refine Bt ?_;intro z e;refine Q11 (isNs_inv z) ?_;intro mj hj;revert e;refine B1 ?_;intro o W₁ h1 e1;refine codeAny_of_tree ?_;show wpAny _ _ ((forTurn (.Name nm p) (.ref it) bd [] env).onRaise (fun x=>do noteFrame x env;theTreesLotGoes x)) _ _ s;refine wpAny_noted ?_;simp only[forTurn];refine wpAny_bind (wpAny_standAt (wpAny_bind (wpAny_onRaise (wpAny_mono (E:=fun ux uy=>False) (S.nxt h1 hi hj hA' R fun kp₁ ρ₁ y s₁ k1 R1 hy=>?_) (fun ux uy x=>x) fun ux uy x=>x.elim))));unfold frsGo at e1;cases o with
 | none=>
  have hy':y=none:=hy;subst hy';refine Q02 (pj e1) ?_;rintro rfl rfl;exact wpAny_pure ⟨rfl,codeAny_block (wpAny_execs_nil (h kp₁ ρ₁ _ _ k1 R1 rfl))⟩
 | some v=>
  refine Q12 hy ?_;rintro w rfl hw;dsimp only at e1;revert e1;refine B0 ?_;intro W₂ h2 e2;revert e2;refine B1 ?_;intro f₁ W₃ h3 e3;refine wpAny_bind (wpAny_of_eq (a:=()) rfl ?_);refine wpAny_bind ?_;refine wpAny_assign_Name (st_name ht h2 (EN.mono k1) R1 hw fun s₂ R2=>?_);refine wpAny_bind (S.exs h3 (EN.mono k1) hA' R2 fun kp₂ ρ₂ y s₃ k2 R3 hy=>?_);cases f₁ with
  | next=>
   have hy':y=.next:=hy;subst hy';exact wpAny_pure ⟨rfl,S.frs e3 ht ((k1.trans k2).rho _ _ hi) (EN.mono (k1.trans k2)) hA' R3 (h.mono (k1.trans k2))⟩
  | cont=>
   have hy':y=.cont:=hy;subst hy';exact wpAny_pure ⟨rfl,S.frs e3 ht ((k1.trans k2).rho _ _ hi) (EN.mono (k1.trans k2)) hA' R3 (h.mono (k1.trans k2))⟩
  | ret v=>
   refine Q12 hy ?_;rintro x rfl hx;refine Q02 (pj e3) ?_;rintro rfl rfl;exact wpAny_pure (h kp₂ ρ₂ _ _ (k1.trans k2) R3 ⟨x,rfl,hx⟩)
end
section
variable {b:BS}{G:Sig}{D:Nat}{r:Ops}{m:Nat}{kp:Kp}{ρ:List Addr}{W:St}{s:Shared}{sc:Scope}{g:Ctx}{env:Env}{A:Around}{E:Value→Shared→Prop}
noncomputable def closL (env:Env):List (Str × NameKind)→List (Str × Addr)→List (Str × Addr)
 | [],acc=>acc
 |(n,k)::r,acc=>closL env r (if k==.free then (n,(env.cells.lookup n).getD 0)::acc else acc)
theorem Ks {env:Env}{n}{k}{r}{acc}:closL env ((n,k)::r) acc=(closL env r (if k==.free then (n,(env.cells.lookup n).getD 0)::acc else acc)):=rfl
theorem closL_eq {names:List (Str × NameKind)}:∀ {acc:List (Str × Addr)},(∀ n,(n,NameKind.free)∈names→∃ a,env.cells.lookup n=some a) →
  (forIn names acc fun (x:Str × NameKind) (cs:List (Str × Addr))=>(if x.2==.free then do let a ← cellOf env x.1;pure (ForInStep.yield ((x.1,a)::cs)) else pure (ForInStep.yield cs):Sem (ForInStep (List (Str × Addr)))))=pure (closL env names acc):=by
 induction names with
 | nil=>intro acc ux;rfl
 | cons p r ih=>
  intro acc h;obtain ⟨n,k⟩:=p;rw[List.forIn_cons,Ks];cases q:k==NameKind.free with
  | true=>
   rw[if_pos rfl,if_pos rfl];obtain rfl:=eq_of_beq q;refine Q11 (h n (.head _)) ?_;intro a ha;have hc:cellOf env n=pure a:=by unfold cellOf;rw[ha]
   dsimp only;rw[hc,ha];simp only[pure_bind];exact ih fun n hn=>h n (.tail _ hn)
  | false=>
   rw[if_neg Bool.false_ne_true,if_neg Bool.false_ne_true];simp only[pure_bind];exact ih fun n hn=>h n (.tail _ hn)
theorem closL_look {n:Str}{a:Addr}(ha:env.cells.lookup n=some a) {names:List (Str × NameKind)}:∀ {acc:List (Str × Addr)},((n,NameKind.free)∈names∨acc.lookup n=some a)→(closL env names acc).lookup n=some a:=by
 induction names with
 | nil=>intro acc h;exact h.elim (fun h=>nomatch h) id
 | cons p r ih=>
  intro acc h;obtain ⟨k,d⟩:=p;rw[Ks];refine ih ?_;cases q:d==NameKind.free with
  | true=>
   rw[if_pos rfl,List.lookup_cons];cases z:n==k with
   | true=>rw[← eq_of_beq z,ha];exact .inr rfl
   | false=>
    refine h.imp_left fun h=>(List.mem_cons.mp h).elim (fun e=>?_) id;rw[show n=k from congrArg Prod.fst e,beq_self_eq_true] at z;exact nomatch z
  | false=>
   rw[if_neg Bool.false_ne_true];refine h.imp_left fun h=>(List.mem_cons.mp h).elim (fun e=>?_) id;rw[← show NameKind.free=d from congrArg Prod.snd e] at q;exact nomatch q
theorem cap_mem {n:Str}{names:List (Str × NameKind)}:capOk sc names=true→(n,NameKind.free)∈names→sc.names.lookup n=some .free∨sc.names.lookup n=some .cell:=by
 induction names with
 | nil=>intro ux h;exact nomatch h
 | cons p r ih=>
  intro h hm;obtain ⟨k,d⟩:=p;refine (List.mem_cons.mp hm).elim (fun e=>?_) (ih (ar h));have h1:=al h;rw[← show NameKind.free=d from congrArg Prod.snd e,← show n=k from congrArg Prod.fst e] at h1;exact (Bool.or_eq_true_iff.mp h1).elim (fun h=>ft h) fun h=>(Bool.or_eq_true_iff.mp h).elim (fun h=>.inr (of_decide_eq_true h)) (fun h=>.inl (of_decide_eq_true h))
theorem namesBy_mem {kd:NameKind}{n:Str}{names:List (Str × NameKind)}{cs:List Nat}(h:namesBy ce kd names=some cs):(n,kd)∈names→∃ i,idx n tab=some i∧i∈cs:=
 namesBy_ind (P:=fun names cs=>(n,kd)∈names→∃ i,idx n tab=some i∧i∈cs) (fun h=>nomatch h) (fun nm j r t y yq ih hm=>(List.mem_cons.mp hm).elim (fun e=>⟨j,(by rw[show n=nm from congrArg Prod.fst e];exact y),.head _⟩) fun e=>(ih e).elim fun i h=>⟨i,h.1,.tail _ h.2⟩) (fun nm k r t z ih hm=>(List.mem_cons.mp hm).elim (fun e=>absurd (congrArg Prod.snd e:kd=k).symm z) ih) h
theorem cap_has {fr:List Nat}:∀ {fs:List (Nat × Nat)},captured g fr=some fs→(∀ i∈fr,∃ l,lkp i g.cells=some l)∧(∀ i l,lkp i fs=some l→lkp i g.cells=some l):=by
 induction fr with
 | nil=>intro fs h;obtain rfl:=sI h;exact ⟨fun i hi=>(nomatch hi),fun i l e=>nn e⟩
 | cons x fr ih=>
  intro fs h;revert h;refine B0 ?_;intro l h1 h2;revert h2;refine B0 ?_;intro u h3 h4;obtain rfl:=sI h4;refine ⟨fun i hi=>(List.mem_cons.mp hi).elim (fun e=>⟨l,by rw[e];exact h1⟩) ((ih h3).1 i),fun i l' e=>?_⟩;rw[J0] at e;cases q:Nat.beq i x with
  | true=>
   rw[q] at e;obtain rfl:=sI e;rw[beqN q];exact h1
  | false=>rw[q] at e;exact (ih h3).2 i l' e
theorem clos_ok {sc':Scope}{fr:List Nat}{fs:List (Nat × Nat)}(hc:capOk sc sc'.names=true) (hn:namesBy ce .free sc'.names=some fr) (hf:captured g fr=some fs) (EN:EnvR b kp ρ sc g env):
  closureFor sc' env=pure (closL env sc'.names [])∧∀ n i l,idx n tab=some i→sc'.names.lookup n=some .free→lkp i fs=some l→∃ a,nth ρ l=some a∧(closL env sc'.names []).lookup n=some a:=by
 refine Q02 (cap_has hf) ?_;intro c1 c2;have look:∀ n,(n,NameKind.free)∈sc'.names→∃ a,env.cells.lookup n=some a:=fun n hm=>by
  refine bC fun hN1=>?_;refine Q12 (namesBy_mem hn hm) ?_;intro i i1 i2;refine Q11 (c1 i i2) ?_;intro l hl;refine Q12 (EN.cells n i l i1 (cap_mem hc hm) hl) ?_;intro a a1 a2;refine hN1 ?_;exact ⟨a,a2⟩
 refine ⟨?_,fun n i l hi hk hl=>?_⟩
 ·have:=closL_eq (env:=env) (names:=sc'.names) (acc:=[]) look;exact (congrArg (fun t:Sem (List (Str × Addr))=>t >>= fun cs=>pure cs) this).trans (pure_bind _ _)
 ·have hm:=mem_lookup hk;refine Q12 (EN.cells n i l hi (cap_mem hc hm) (c2 i l hl)) ?_;intro a a1 a2;exact ⟨a,a1,closL_look a2 (.inl hm)⟩
theorem among_app {pos:Pos}{cv:Value}(x y:Int) (t u:Tok) (c:Value) {l:List Value}(h:TriplesOk l) (e:codeAmong pos (l++[.int x t,.int y u,c])=some cv):codeAmong pos l=some cv∨cv=c:=by
 fun_induction TriplesOk l with
 | case1=>
  have e':(if x==pos.line&&y==pos.col then some c else codeAmong pos [])=some cv:=e;by_cases q:(x==pos.line&&y==pos.col)=true
  ·rw[if_pos q] at e';exact .inr (sI e').symm
  ·rw[if_neg q] at e';exact nn e'
 | case2 a ux d uy k r ih=>
  have e':(if a==pos.line&&d==pos.col then some k else codeAmong pos (r++[.int x t,.int y u,c]))=some cv:=e;show (if a==pos.line&&d==pos.col then some k else codeAmong pos r)=some cv∨_;by_cases q:(a==pos.line&&d==pos.col)=true
  ·rw[if_pos q] at e' ⊢;exact .inl e'
  ·rw[if_neg q] at e' ⊢;exact ih h e'
 | case3 l h1 h2=>exact h.elim
end
section
variable {b:BS}{G:Sig}{D:Nat}{r:Ops}{m:Nat}{kp:Kp}{ρ:List Addr}{W:St}{s:Shared}{sc:Scope}{g:Ctx}{env:Env}{A:Around}{E:Value→Shared→Prop}
theorem SR.tabNew (R:SR b kp ρ W s) {h':Heap}{tk:Nat}{c P c':Addr}{oc:Obj}(hq:(c,P)∈b.tabs) (k:Heap.ExtBut P s.heap h') (hf:s.heap.objs.size≤c') (hob:h'.get? c'=some oc) (ht:TabInv b (addK kp c' oc) h' P) (htk:s.toks≤tk):SR b (addK kp c' oc) ρ W { s with heap:=h',toks:=tk } where
 len:=R.len
 keep:=fun a o e=>by
  unfold addK at e;by_cases q:a=c'
  ·rw[if_pos q] at e;obtain rfl:=sI e;rw[q];exact hob
  ·rw[if_neg q] at e;exact k _ _ (fun z=>by
    have:=R.kptab _ hq;rw[← z,e] at this;cases this) (R.keep a o e)
 base:=fun a o e=>(R.leK oc hf).kp _ _ (R.base a o e)
 rel:=fun i o e ha=>let ⟨a,ob,h1,h2,h3⟩:=R.rel i o e ha;⟨a,ob,h1,k _ _ ((R.off i o a e ha h1).2 _ hq) h2,h3.mono (R.leK oc hf)⟩
 apart:=R.apart
 off:=fun i o a e ha hc=>by
  have:a≠c':=Nat.ne_of_lt (Nat.lt_of_lt_of_le (R.rhoLt e ha hc) hf);refine ⟨?_,(R.off i o a e ha hc).2⟩;simp[addK,this,(R.off i o a e ha hc).1]
 lo:=R.lo
 kptab:=fun q hq'=>by
  have:q.2≠c':=Nat.ne_of_lt (Nat.lt_of_lt_of_le (R.tabLt hq') hf);simp[addK,this,R.kptab q hq']
 tab:=fun q hq'=>by
  by_cases z:q.2=P
  ·rw[z];exact ht
  ·exact (R.tab q hq').mono (R.leK oc hf).kp fun ux e=>k _ _ z e
 os:=R.os
 gens:=R.gens
 sz:=lT R.sz (Nat.le_of_lt (Nat.lt_of_le_of_lt hf (Heap.lt_size hob)))
 tk:=lT R.tk htk
theorem pars_of {p:Pos}{as:List Arg}:∀ {ps:List (Bool × Nat)},tgts ce sc (as.map fun x=>.Name x.arg p)=some ps→ps.all (!·.1)=true→ParsR sc [] (ps.map (·.2)) as:=by
 induction as with
 | nil=>intro ps h hl;obtain rfl:=sI h;exact trivial
 | cons a as ih=>
  intro ps h hl;revert h;refine Bo ?_;rintro ⟨c,i⟩ q h;revert h;refine Bo ?_;intro t y h;obtain rfl:=sI h;refine Q02 (tgt_inv q) ?_;intro hi hk;refine hk.elim (fun hk=>⟨hi,.inr ⟨rfl,hk.2⟩,ih y (ar hl)⟩) fun hk=>?_;have l1:=al hl;rw[hk.1] at l1;exact ft l1
theorem ann_none {as:List Arg}{e:Env}(h:as.all (·.annotation.isNone)=true):annotationsOf as e=[]:=by
 induction as with
 | nil=>rfl
 | cons a as ih=>
  rw[List.all_cons] at h;have h1:=al h;have h2:=ar h;obtain ⟨n,an,p⟩:=a;cases an with
  | none=>exact ih h2
  | some x=>exact ft h1
theorem plain_def {a:Arguments}{e:Env}(h:plainArgs a=true):a.defaults=[]∧a.kw_defaults=[]∧annTrees a none e=[]:=by
 have h2:=(plain_i h).2;rw[(plain_i h).1];refine ⟨rfl,rfl,?_⟩;show annotationsOf (_++[]++[]++[]++[]) e++[]=[];rw[List.append_nil,List.append_nil,List.append_nil,List.append_nil,List.append_nil];exact ann_none h2
theorem ex_fdef {n:Str}{a:Arguments}{bd:List Stmt}{sc':Scope}{p:Pos}{c:Bool}{i N:Nat}{ps:List (Bool × Nat)}{fr:List Nat}{f:Fl}{W':St}{Q:Flow→Shared→Prop}(S:Sound b m r)
  (e0:(b0 (captured g fr) fun fs=>nx (stName g c i (.clo (ps.map (·.2)) ((cmp ce N).ss sc' bd) fs) W))=some (f,W')) (hn:n=Str.ofString "inner"∨n=Str.ofString "take") (hp:plainArgs a=true) (hk:sc'.kind=.function) (hni:noInner sc'.names=true) (hcap:capOk sc sc'.names=true)
  (hg:sc'.isGenerator=false) (hco:sc'.isCoroutine=false) (ht:tgt ce sc (.Name n p)=some (c,i)) (hts:tgts ce sc' (a.args.map fun x=>.Name x.arg p)=some ps) (hfr:namesBy ce .free sc'.names=some fr) (hcl:namesBy ce .cell sc'.names=some []) (hall:ps.all (!·.1)=true) (hnd:nodupB (ps.map (·.2))=true)
  (EN:EnvR b kp ρ sc g env) (hA:AOk (m+1) A) (R:SR b kp ρ W s) (h:Back b kp ρ W' (fun kp ρ y=>FlR kp ρ f y) Q):wpAny (model b.prog b.w) A (exec (.FunctionDef n a bd [] none [] sc' none n p) env) Q E s:=by
 revert e0;refine B0 ?_;intro fs e1 e2;refine Q02 (nx_inv e2) ?_;rintro rfl e3;refine Q03 (plain_def (e:=env) hp) ?_;intro d1 d2 d3;refine Q02 (clos_ok hcap hfr e1 EN) ?_;intro k1 k2;have hcells:∀ x∈sc'.names,x.2≠.cell:=fun x hx z=>by
  obtain ⟨nm,kd⟩:=x;have z':kd=.cell:=z;subst z';refine Q12 (namesBy_mem hcl hx) ?_;intro j ux hj;cases hj
 have hC:CellsR sc' fs (closL env sc'.names []) ρ:=fun n i l h1 h2 h3=>by
  rcases h2 with h2 | h2
  ·exact k2 n i l h1 h2 h3
  ·exact absurd rfl (hcells _ (mem_lookup h2))
 have hkind:sc.names.lookup n=some .local∨sc.names.lookup n=some .cell:=by
  obtain ⟨ux,⟨uy,hh⟩ | ⟨uz,hh⟩⟩:=tgt_inv ht
  ·exact .inl hh
  ·exact .inr hh
 have hq:qualnameIn env n n=env.qual++n:=by
  unfold qualnameIn;have:(env.kindOf n==some .globalExplicit)=false:=by
   rcases hkind with z | z
   ·rw[EN.kl n z];rfl
   ·rw[EN.kc n z];rfl
  rw[this];rfl
 refine Q23 (EN.tb n hn hkind) ?_;intro cc P t1 t2 t3;refine Q13 (R.tab _ t2) ?_;intro tps u1 u2 u3;have hgs:s.heap.Ns mainGlobals b.mg:=b.T.g.keeps fun ux uy e=>R.hbGet e;have hCd:CodeHd s.heap cc P:=(b.C _ t2).keeps fun ux uy e=>R.hbGet e;obtain ⟨bm,ob,b1,b2,b3,b4,b5,b6⟩:=b.T.bmain;have hgP:mainGlobals≠P:=fun z=>by
  refine Q33 hgs ?_;intro o es ep ho hd ux;rw[z,u1] at ho;obtain rfl:=sI ho;cases hd
 have hbP:bm≠P:=fun z=>by
  have e:=R.hbGet b3;rw[z,u1] at e;obtain rfl:=sI e;cases b4
 have hbG:bm≠mainGlobals:=fun z=>by
  refine Q33 b.T.g ?_;intro o es ep ho hd ux;rw[z,ho] at b3;obtain rfl:=sI b3;rw[hd] at b6;cases b6
 have hB:s.heap.BuiltinsAt b.mg P:=⟨bm,ob,b1,b2,hbG,hbP,R.hbGet b3,b4,b5,b6⟩;refine nestDef_K d1 d2 d3 ?_;rw[hq];have fin:∀ {kp':Kp}{s':Shared}{fa c':Addr}{oc:Obj}{vs:Array Value}{t:Tok}{ctv doc pm:Value},Le kp ρ kp' ρ→SR b kp' ρ W s'→kp' fa=some (fnMade n (env.qual++n) a bd sc' (closL env sc'.names []) doc pm c' ctv)→kp' c'=some oc→oc.data=.fields vs→vs[1]?=some (.str (env.qual++n) t) →
   wpAny (model b.prog b.w) A (storeName env n (.ref fa)) (fun ux s''=>Q .next s'') E s':=fun {kp'}{s'}{fa}{c'}{oc}{vs}{t}{ctv}{doc}{pm} le R' h1 h2 h3 h4=>by
  have F:CloOk kp' ρ (ps.map (·.2)) ((cmp ce N).ss sc' bd) fs fa:=⟨n,env.qual++n,a,bd,sc',_,doc,pm,c',ctv,N,h1,⟨oc,vs,t,h2,h3,h4⟩,hp,hnd,pars_of hts hall,rfl,hk,hg,hco,hcells,hni,hC⟩;exact st_name ht e3 (EN.mono le) R' (.clo F) fun s'' R''=>h kp' ρ _ _ le R'' rfl
 cases hca:codeAmong p tps.toList with
 | none=>
  refine wpAny_with_toks (Nat.le_refl s.toks) (makeFunction_K (mg:=b.mg) k1 EN.gl hgs t1 hCd u1 u2 hca hgP hB fun c' ctv doc h' tk hx hge hlt hrec htb htk=>?_);obtain ⟨c₂,oc,vs,t,e2',hoc,hd,hv⟩:=hrec;cases e2';have ht':TabInv b (addK kp c' oc) h' P:=by
   refine ⟨_,htb,?_,fun pos cv hcv=>?_⟩
   ·have:=TriplesOk_snoc p.line p.col (.ref c') _ u2
    simpa [rawInt] using this
   ·refine bC fun hN12=>?_;have hcv':codeAmong pos (tps.toList++[.int p.line 0,.int p.col 0,.ref c'])=some cv:=by simpa [rawInt] using hcv
    rcases among_app p.line p.col 0 0 (.ref c') u2 hcv' with z | z
    ·obtain ⟨c₃,o₃,v₃,t₃,y1,y2,y3,y4⟩:=u3 pos cv z;refine hN12 ?_;exact ⟨c₃,o₃,v₃,t₃,y1,(R.leK oc hge).kp _ _ y2,y3,y4⟩
    ·refine hN12 ?_;exact ⟨c',oc,vs,t,z,addK_self _ _ _,hd,by rw[t3];exact hv⟩
  have R₁:=R.tabNew (tk:=tk) t2 hx hge hoc ht' htk;have R₂:=R₁.keepNew (h':=h'.push (fnMade n (env.qual++n) a bd sc' (closL env sc'.names []) doc ((b.mg "__name__").getD .none) c' ctv)) (tk:=tk) (a:=h'.objs.size) (fun ux uy e=>Heap.get?_push_of_some _ e) (Nat.le_refl _) (Heap.get?_push_size _ rfl);have l1:=R.leK oc hge;have l2:=R₁.leK (a:=h'.objs.size) (fnMade n (env.qual++n) a bd sc' (closL env sc'.names []) doc ((b.mg "__name__").getD .none) c' ctv) (Nat.le_refl _);exact fin (l1.trans l2) R₂ (addK_self _ _ _) (l2.kp _ _ (addK_self _ _ _)) hd hv
 | some cv=>
  obtain ⟨c',oc,vs,t,z1,z2,z3,z4⟩:=u3 p cv hca;subst z1;refine wpAny_with_toks (Nat.le_refl s.toks) (makeFunction_hit (mg:=b.mg) k1 EN.gl hgs t1 hCd u1 u2 hca hB fun ctv doc h' tk hk' hsz htk=>?_);have R₁:SR b kp ρ W { s with heap:=h',toks:=tk }:=R.ext hk' (lT R.sz hsz) htk;have R₂:=R₁.keepNew (h':=h'.push (fnMade n (env.qual++n) a bd sc' (closL env sc'.names []) doc ((b.mg "__name__").getD .none) c' ctv)) (tk:=tk) (a:=h'.objs.size) (fun ux uy e=>Heap.get?_push_of_some _ e) (Nat.le_refl _) (Heap.get?_push_size _ rfl);have l2:=R₁.leK (a:=h'.objs.size) (fnMade n (env.qual++n) a bd sc' (closL env sc'.names []) doc ((b.mg "__name__").getD .none) c' ctv) (Nat.le_refl _);exact fin l2 R₂ (addK_self _ _ _) (l2.kp _ _ z2) z3 (by rw[← t3];exact z4)
end
section
variable {b:BS}{G:Sig}{D:Nat}{r:Ops}{m:Nat}{kp:Kp}{ρ:List Addr}{W:St}{s:Shared}{sc:Scope}{g:Ctx}{env:Env}{A:Around}{E:Value→Shared→Prop}
noncomputable def cEnv (sc':Scope) (cells:List (Str × Addr)) (C:Addr) (env:Env):Env:=
 {scope:=sc',locals:=C,globals:=env.globals,cells:=cells,qual:=env.qual,func:=none,code:=env.code,frame:=env.frame,builtins:=env.builtins }
theorem comp_env {M:Model}{sc':Scope}{cl:List (Str × Addr)}{Q:Env→Shared→Prop}
  (h:Q (cEnv sc' (cellsFrom (s.heap.objs.size+1) sc'.names cl) s.heap.objs.size env) { s with heap:=pushCells (s.heap.push { cls:=.type "dict",data:=.dict #[] }) sc'.names }):
  wpAny M A (newFunctionEnv sc' env.globals cl [] env.qual none .none (some env)) Q E s:=by
 simp only[newFunctionEnv,Option.isSome_some,if_true];refine wpAny_bind (wpAny_alloc ?_);refine wpAny_bind (wpAny_layCells _ (fun name kind cells=>by cases hkc:kind==NameKind.cell<;>simp[]) _ _ _ _ ?_);rw[show ({ s with heap:=s.heap.push { cls:=.type "dict",data:=.dict #[] } }:Shared).heap.objs.size=s.heap.objs.size+1 from Heap.size_push ..];simp only[List.forIn_nil,pure_bind];exact wpAny_pure h
theorem pushCells_at (names:List (Str × NameKind)) (h:Heap) (cs:List Nat) (e:namesBy ce .cell names=some cs):∀ k,k<len cs→(pushCells h names).IsCell (h.objs.size+k) none:=by
 refine namesBy_ind (P:=fun names cs=>∀ (h:Heap) k,k<len cs→(pushCells h names).IsCell (h.objs.size+k) none) (fun h k hk=>absurd hk (Nat.not_lt_zero _)) (fun nm j r t y yq ih h k hk=>?_) (fun nm kd r t z ih h k hk=>?_) e h
 ·cases k with
  | zero=>exact ⟨_,pushCells_keeps r _ _ _ (Heap.get?_push_size _ rfl),rfl⟩
  | succ k=>
   have:=ih (h.push { cls:=.type "cell",data:=.cell none }) k (Nat.lt_of_succ_lt_succ hk);rw[Heap.size_push,Nat.succ_add_eq_add_succ] at this;exact this
 ·unfold pushCells;rw[nkne z,if_neg Bool.false_ne_true];exact ih h k hk
noncomputable def rlb (env:Env) (p:Str × NameKind):Str × NameKind:=if (p.2==NameKind.free&&env.scope.kind==.function&&env.kindOf p.1==some .cell) then (p.1,NameKind.cell) else p
theorem relabel_look {n:Str}{k:NameKind}{names:List (Str × NameKind)}:names.lookup n=some k →
  (names.map fun (n,k)=>if (k==NameKind.free&&env.scope.kind==.function&&env.kindOf n==some .cell) then (n,NameKind.cell) else (n,k)).lookup n=some k ∨
  (k=.free∧(names.map fun (n,k)=>if (k==NameKind.free&&env.scope.kind==.function&&env.kindOf n==some .cell) then (n,NameKind.cell) else (n,k)).lookup n=some .cell):=by
 show names.lookup n=some k→(names.map (rlb env)).lookup n=some k∨(k=.free∧(names.map (rlb env)).lookup n=some .cell);induction names with
 | nil=>intro h;exact nn h
 | cons p r ih=>
  intro h;obtain ⟨a,c⟩:=p;have hx:(rlb env (a,c)).1=a:=by unfold rlb;split<;>rfl
  have e:((a,c)::r).map (rlb env)=(a,(rlb env (a,c)).2)::r.map (rlb env):=congrArg (·::r.map (rlb env)) (Prod.ext hx rfl:rlb env (a,c)=(a,(rlb env (a,c)).2));rw[List.lookup_cons] at h;rw[e,List.lookup_cons];cases q:n==a with
  | true=>
   rw[q] at h;obtain rfl:=sI h;show some _=some c∨(c=.free∧some _=some NameKind.cell);unfold rlb;by_cases z:(c==NameKind.free&&env.scope.kind==.function&&env.kindOf a==some .cell)=true
   ·rw[if_pos z];exact .inr ⟨eq_of_beq (al (al z)),rfl⟩
   ·rw[if_neg z];exact .inl rfl
  | false=>rw[q] at h;exact ih h
theorem comp_EN {sc':Scope}{cl:List Nat}{fr:List Nat}{fs:List (Nat × Nat)}{ρ':List Addr}{C:Addr}{lf:Nat}(hk:compScopeOk sc'=true) (hcap:capOk sc sc'.names=true) (hni:noInner sc'.names=true) (hfr:namesBy ce .free sc'.names=some fr) (hcl:namesBy ce .cell sc'.names=some cl) (hnd:cl.Nodup)
  (hf:captured g fr=some fs) (EN:EnvR b kp ρ sc g env) (hρ:∀ i a,nth ρ i=some a→nth ρ' i=some a) (hlf:nth ρ' lf=some C) (hcells:∀ j,j<len cl→nth ρ' (lf+1+j)=some (C+1+j)):
  EnvR b kp ρ' sc' ⟨lf,mkCells (lf+1) cl++fs⟩ (cEnv (relabel sc' env) (cellsFrom (C+1) sc'.names (closL env sc'.names [])) C env):=by
 refine Q02 (clos_ok hcap hfr hf EN) ?_;intro k1 k2;have hkind:sc'.kind=.function:=by
  exact scopeFn hk
 have lk:∀ {α:Type}(x:Nat) (l₁ l₂:List (Nat × α)),lkp x (l₁++l₂)=(match lkp x l₁ with | some v=>some v | none=>lkp x l₂):=by
  intro α x l₁ l₂;induction l₁ with
  | nil=>rfl
  | cons p l ih=>
   obtain ⟨y,v⟩:=p;rw[List.cons_append];have e1:lkp x ((y,v)::(l++l₂))=bif Nat.beq x y then some v else lkp x (l++l₂):=rfl;have e2:lkp x ((y,v)::l)=bif Nat.beq x y then some v else lkp x l:=rfl;rw[e1,e2];cases Nat.beq x y with
   | true=>rfl
   | false=>exact ih
 refine { lf:=hlf,kind:=hkind,gl:=EN.gl,bu:=EN.bu,kl:=fun n h=>?_,kc:=fun n h=>?_,kf:=fun n h=>?_,kg:=fun n h=>?_,cells:=fun n i l h1 h2 h3=>?_,tb:=fun n hn h=>?_ }
 ·rcases relabel_look (env:=env) h with z | ⟨z,ux⟩
  ·exact z
  ·cases z
 ·rcases relabel_look (env:=env) h with z | ⟨z,ux⟩
  ·exact z
  ·cases z
 ·rcases relabel_look (env:=env) h with z | ⟨ux,z⟩
  ·exact .inl z
  ·exact .inr z
 ·rcases relabel_look (env:=env) h with z | ⟨z,ux⟩
  ·exact z
  ·cases z
 ·refine bC fun hN7=>?_;rw[lk] at h3;cases q:lkp i (mkCells (lf+1) cl) with
  | some l'=>
   rw[q] at h3;cases h3;refine Q13 (cf_look h1 sc'.names (C+1) (lf+1) l (closL env sc'.names []) cl hcl hnd q) ?_;intro j j1 j2 j3;subst j1;refine hN7 ?_;exact ⟨_,hcells j j2,j3⟩
  | none=>
   rw[q] at h3;dsimp only at h3;have hni:i ∉ cl:=fun hm=>by
    have:cl.any (Nat.beq i)=true:=List.any_eq_true.mpr ⟨i,hm,Nat.beq_refl i⟩;refine Q11 (mk_any cl (lf+1) i this) ?_;intro l' hl';rw[q] at hl';cases hl'
   have hfree:sc'.names.lookup n=some .free:=by
    rcases h2 with h2 | h2
    ·exact h2
    ·refine Q12 (namesBy_mem hcl (mem_lookup h2)) ?_;intro j j1 j2;rw[h1] at j1;obtain rfl:=sI j1;exact absurd j2 hni
   refine Q12 (k2 n i l h1 hfree h3) ?_;intro a a1 a2;refine hN7 ?_;refine ⟨a,hρ _ _ a1,?_⟩;show (cellsFrom (C+1) sc'.names (closL env sc'.names [])).lookup n=some a;rw[cf_skip h1 sc'.names (C+1) _ cl hcl hni];exact a2
 ·refine bC fun hN11=>?_;rcases h with h | h
  ·exact absurd (mem_lookup h) (noInner_mem hn hni).1
  ·exact absurd (mem_lookup h) (noInner_mem hn hni).2
end
section
variable {b:BS}{G:Sig}{D:Nat}{r:Ops}{m:Nat}{kp:Kp}{ρ:List Addr}{W:St}{s:Shared}{sc:Scope}{g:Ctx}{env:Env}{A:Around}{E:Value→Shared→Prop}
noncomputable def isIter:O→Bool
 | .lit ux uy=>true
 | .vit ux uy=>true
 | .sit ux uy=>true
 | .rit ux uy uz=>true
 | .cit ux=>true
 | ux=>false
set_option tactic.hygienic true in
theorem iter_at {v:V}{i:Nat}{W':St}(e:iterOf v W=some (i,W')):∃ o,nth W' i=some o∧isIter o=true∧(W'=W∨∃ o,W'=W++[o]):=by
 have new:∀ (o:O),isIter o=true→some (len W,W++[o])=some (i,W')→∃ o,nth W' i=some o∧isIter o=true∧(W'=W∨∃ o,W'=W++[o]):=fun o h e=>by
  refine Q02 (pj e) ?_;rintro rfl rfl;exact ⟨_,by rw[nth_app_len];rfl,h,.inr ⟨_,rfl⟩⟩
 cases v
 case range=>exact new _ rfl (bv e)
 case str=>exact new _ rfl (bv e)
 case ref l=>
  replace e:(match nth W l with | some (.list _)=>some (len W,W++[.lit l 0]) | some (.vit _ _) | some (.cit _)=>some (l,W) | _=>none)=some (i,W'):=e
  cases h:nth W l with
  | none=>rw[h] at e;exact nn e
  | some o=>
  rw[h] at e;cases o
  case list=>exact new _ rfl e
  case vit=>obtain ⟨rfl,rfl⟩:=pj e;exact ⟨_,h,rfl,.inl rfl⟩
  case cit=>obtain ⟨rfl,rfl⟩:=pj e;exact ⟨_,h,rfl,.inl rfl⟩
  all_goals exact nn e
 all_goals exact nn e
theorem s_iterSelf {i:Nat}{o:O}{it:Addr}{Q:Value→Shared→Prop}(ho:nth W i=some o) (hi:isIter o=true) (hr:nth ρ i=some it) (R:SR b kp ρ W s) (h:Q (.ref it) s):wpAny (model b.prog b.w) A (pyIter (.ref it)) Q E s:=by
 refine bC fun hN=>?_;cases o with
 | lit l k=>obtain ⟨ob,h1,a,h2,h3,h4⟩:=R.at ho rfl hr;refine hN ?_;exact wpAny_pyIter_listiter ⟨ob,h1,h3,h4⟩ h
 | vit l k=>obtain ⟨ob,h1,a,h2,h3,h4⟩:=R.at ho rfl hr;refine hN ?_;exact wpAny_pyIter_revIter ⟨ob,h1,h3,h4⟩ h
 | sit p k=>obtain ⟨ob,h1,t,h3,h4⟩:=R.at ho rfl hr;refine hN ?_;exact wpAny_pyIter_striter_ascii ⟨ob,h1,h3,h4⟩ h
 | rit a k c=>obtain ⟨ob,h1,h3⟩:=R.at ho rfl hr;subst h3;refine hN ?_;exact wpAny_pyIter_rangeiter h1 h
 | cit f=>obtain ⟨ob,h1,x,t,h2,h3⟩:=R.at ho rfl hr;subst h3;refine hN ?_;exact ci_iter h1 h
 | _=>exact ft hi
theorem forIn_tests {ifs:List PySem.Expr}(h:fewIfs ifs=true):(forIn ifs true fun c r=>if r=true then do let ok ← isTrue c env (eval c env);pure (ForInStep.yield ok) else pure (ForInStep.yield r):Sem Bool)=allTrue .And ifs env:=by
 match ifs with
 | []=>rfl
 | [c]=>
  rw[List.forIn_cons,if_pos rfl];have e:∀ op,allTrue op [c] env=(do
   match op,← isTrue c env (eval c env) with
   | .And,false=>pure false
   | .Or,true=>pure true
   | ux,uy=>allTrue op [] env):=fun ux=>rfl
  rw[e];simp only[bind_assoc,pure_bind,List.forIn_nil]
  congr 1
  funext t
  cases t<;>rfl
 | ux::uy::uz=>exact ft h
theorem s_cpl {elt:PySem.Expr}{nm:Str}{p:Pos}{c:Bool}{x i:Nat}{it:Addr}{ifs:List PySem.Expr}{acc:Nat}{ac:Addr}{n:Nat}{iter:PySem.Expr}{W':St}{sc':Scope}{ps:Pos}{R0:Result→Shared→Prop}(S:Sound b m r) (e:stepCpl r g ((cmp ce n).e sc elt) c x i ((cmp ce n).ts sc ifs) acc W=some W')
  (hfew:fewIfs ifs=true) (ht:tgt ce sc (.Name nm p)=some (c,x)) (hi:nth ρ i=some it) (hac:nth ρ acc=some ac) (EN:EnvR b kp ρ sc g env) (hA:AOk (m+1) A) (R:SR b kp ρ W s)
  (h:∀ kp' ρ' s',Le kp ρ kp' ρ'→SR b kp' ρ' W' s'→R0 (.ok .next) s'):codeAny (model b.prog b.w) A (.compLoop (.ListComp elt [⟨.Name nm p,iter,ifs,0⟩] sc' ps) 0 (.ref it) (.ref ac) env) R0 s:=by
 have hA':=hA.le (Nat.le_succ m);unfold stepCpl at e;revert e;refine Bt ?_;intro z e;refine Q11 (isNs_inv z) ?_;intro mj hj;revert e;refine B1 ?_;intro o W₁ h1 e1;refine codeAny_of_tree ?_;show wpAny _ A ((compTurn (.ListComp elt [⟨.Name nm p,iter,ifs,0⟩] sc' ps) 0 (.ref it) (.ref ac) env).onRaise (fun x=>do noteFrame x env;theTreesLotGoes x)) _ _ s;refine wpAny_noted ?_;rw[compTurn_list];refine wpAny_bind (wpAny_standAt (wpAny_bind (S.nxt h1 hi hj hA' R fun kp₁ ρ₁ y s₁ k1 R1 hy=>?_)));unfold cplGo at e1;cases o with
 | none=>
  have hy':y=none:=hy;subst hy';obtain rfl:=sI e1;exact wpAny_pure (h kp₁ ρ₁ _ k1 R1)
 | some v=>
  refine Q12 hy ?_;rintro w rfl hw;dsimp only at e1;revert e1;refine B0 ?_;intro W₂ h2 e2;revert e2;refine B1 ?_;intro t W₃ h3 e3;refine wpAny_bind (wpAny_of_eq (a:=()) rfl ?_);refine wpAny_bind (wpAny_assign_Name (st_name ht h2 (EN.mono k1) R1 hw fun s₂ R2=>?_));refine wpAny_bind ?_;rw[forIn_tests hfew];refine S.tsts (op:=.And) h3 (EN.mono k1) hA' R2 fun kp₂ ρ₂ ok s₃ k2 R3 hok=>?_;subst hok;have k12:=k1.trans k2;cases ok with
  | false=>
   rw[cond_false] at e3;exact wpAny_pure ⟨rfl,S.cpl e3 hfew ht (k12.rho _ _ hi) (k12.rho _ _ hac) (EN.mono k12) hA' R3 fun kp' ρ' s' k R'=>h kp' ρ' s' (k12.trans k) R'⟩
  | true=>
   rw[cond_true] at e3;revert e3;refine B1 ?_;intro v' W₄ h4 e4;refine wpAny_bind (wpAny_bind (S.ev h4 (EN.mono k12) hA' R3 fun kp₃ ρ₃ u s₄ k3 R4 hu=>wpAny_bind ?_));have k123:=k12.trans k3
   ·refine bC fun hN1=>?_;revert e4;refine OL ?_;intro ws hws e4;revert e4;refine Bt ?_;intro zz e4;refine Q22 (R4.isList hws (k123.rho _ _ hac)) ?_;intro ys k g1 g2;have hz:ys.toArray.size≤sizeLine:=by
     rw[List.size_toArray,g2.length,sizeLine_eq];have:=ble_iff.mp zz;have hm:lstMax=100000:=rfl;exact lq2 [_,_] (.v 0) (.k 16777216) (.v 1) (.k 100000) (.v 0) (.v 1) (Nat.le_of_eq hm) this rfl
    refine hN1 ?_;refine call_meets PySem.F.slot_list_append (listType g1) PySem.F.entry_list_append (PySem.F.args_list_append_2 _ _) (list_append ac ys.toArray k _ hz) ⟨g1,?_⟩;have R5:=R4.turn (tk:=s₄.toks) (fun x_1=>x_1.push u) hws (k123.rho _ _ hac) g1 (ys:=ys++[u]) (by simp) (g2.app (.cons hu .nil));exact wpAny_pure (wpAny_pure ⟨rfl,S.cpl e4 hfew ht (k123.rho _ _ hi) (k123.rho _ _ hac) (EN.mono k123) hA' R5 fun kp' ρ' s' k R'=>h kp' ρ' s' (k123.trans k) R'⟩)
end
section
variable {b:BS}{G:Sig}{D:Nat}{r:Ops}{m:Nat}{kp:Kp}{ρ:List Addr}{W:St}{s:Shared}{sc:Scope}{g:Ctx}{env:Env}{A:Around}{E:Value→Shared→Prop}
theorem tame_fold {it:PySem.Expr}(h:tame it=true):∀ x,foldedSetIterable it env x=pure x:=by
 intro x;cases it<;>first | rfl | exact ft h
theorem comp_core {elt it:PySem.Expr}{nm:Str}{q p:Pos}{ifs:List PySem.Expr}{sc':Scope}{ps:Pos}{c:Bool}{x n:Nat}{fr cl:List Nat}{v:V}{W':St}{use:Option (Value→Sem Unit)}{Q0:Value→Shared→Prop}(S:Sound b m r)
  (e:(b1 (r.ev g ((cmp ce n).e sc it) W) fun v W=>eComp r g ((cmp ce n).e sc' elt) c x ((cmp ce n).ts sc' ifs) fr cl v W)=some (v,W')) (hk:compScopeOk sc'=true) (htm:tame it=true) (hfew:fewIfs ifs=true) (hcap:capOk sc sc'.names=true) (hni:noInner sc'.names=true) (hloc:locOk sc'.names=true) (hnd:nodupB cl=true)
  (ht:tgt ce sc' (.Name nm q)=some (c,x)) (hfr:namesBy ce .free sc'.names=some fr) (hcl:namesBy ce .cell sc'.names=some cl) (EN:EnvR b kp ρ sc g env) (hA:AOk (m+1) A) (R:SR b kp ρ W s)
  (H:∀ kp' ρ' s₁ W₀ C j mm ac,Le kp ρ kp' ρ'→SR b kp' ρ' W₀ s₁→nth W₀ j=some (.ns mm)→nth ρ' j=some C→W'=setAt W₀ j .junk→VR kp' ρ' v (.ref ac)→len W≤j→compPost (model b.prog b.w) A E use Q0 (.ref ac) C (.ok .next) s₁):
  wpAny (model b.prog b.w) A (comprehension (.ListComp elt [⟨.Name nm q,it,ifs,0⟩] sc' ps) sc' env p (newList []) false (eval it env) use) Q0 E s:=by
 have hA':=hA.le (Nat.le_succ m);revert e;refine B1 ?_;intro iv W₁ h1 e1;unfold eComp at e1;revert e1;refine B1 ?_;intro i W₂ h2 e2;revert e2;refine B0 ?_;intro fs h3 e3;revert e3;refine B0 ?_;intro W₀ h4 e4;revert e4;refine Bt ?_;intro z e4;refine Q02 (pj e4) ?_;rintro rfl rfl;refine Q11 (isNs_inv z) ?_;intro mm hmm;refine Q02 (clos_ok hcap hfr h3 EN) ?_;intro k1 k2;have hkind:sc'.kind=.function:=by
  exact scopeFn hk
 refine Q13 (iter_at h2) ?_;intro oi hoi hiter hW;refine wpAny_comprehension_free (g:=⟨.Name nm q,it,ifs,0⟩) (gs:=[]) rfl (tame_fold htm) k1 hkind (fun y hy hl=>?_) ?_
 ·unfold locOk at hloc;have:=List.all_eq_true.mp hloc y hy;rw[hl] at this
  simpa using this
 refine S.ev h1 EN hA' R fun kp₁ ρ₁ xv s₁ l1 R1 hx=>?_;refine s_iter h2 hx R1 fun kp₂ ρ₂ ita s₂ l2 R2 hi=>?_;refine wpAny_newObj_type ?_ (by show (#[]:Array Value).size≤sizeLine;rw[sizeLine_eq];decide);refine comp_env ?_;have R3:=R2.alloc (h':=s₂.heap.push (listOf #[] 0)) (tk:=s₂.toks) (o:=.list []) (a:=s₂.heap.objs.size) (fun ux uy e=>Heap.get?_push_of_some _ e) (Nat.le_refl _) (Heap.get?_push_size _ rfl) ⟨[],0,rfl,.nil⟩;have z1:(s₂.heap.push (listOf #[] 0)).objs.size=s₂.heap.objs.size+1:=Heap.size_push ..;refine Q12 (LCg.ns_obj (Heap.Ns.new (s₂.heap.push (listOf #[] 0)) (.type "dict"))) ?_;intro ob o1 o2;have R4:=R3.alloc (h':=(s₂.heap.push (listOf #[] 0)).push { cls:=.type "dict",data:=.dict #[] }) (tk:=s₂.toks) (o:=.ns []) (a:=(s₂.heap.push (listOf #[] 0)).objs.size) (fun ux uy e=>Heap.get?_push_of_some _ e) (Nat.le_refl _) o1 ⟨_,o2,NsR.nil⟩;have z2:((s₂.heap.push (listOf #[] 0)).push { cls:=.type "dict",data:=.dict #[] }).objs.size=s₂.heap.objs.size+2:=by rw[Heap.size_push,z1]
 have a4:nth ((W₂++[O.list []])++[O.ns []]) (len W₂)=some (.list []):=nth_app_lt _ (by rw[nth_app_len];rfl);have r4:nth ((ρ₂++[s₂.heap.objs.size])++[(s₂.heap.push (listOf #[] 0)).objs.size]) (len W₂)=some s₂.heap.objs.size:=nth_app_lt _ (by rw[← R2.len,nth_app_len];rfl);have R5:=R4.ext (h':=pushCells ((s₂.heap.push (listOf #[] 0)).push { cls:=.type "dict",data:=.dict #[] }) sc'.names) (tk:=s₂.toks) (pushCells_keeps sc'.names _) (R4.szBy a4 rfl r4 fun o e=>pushCells_keeps sc'.names _ _ _ e);have fresh:∀ a,s₂.heap.objs.size+2≤a→kp₂ a=none∧(∀ q∈b.tabs,a≠q.2)∧b.hb.objs.size≤a:=fun a ha=>by
  refine ⟨?_,fun q hq y=>?_,lT R2.sz (lT (Nat.le_add_right _ 2) ha)⟩
  ·cases y:kp₂ a with
   | none=>rfl
   | some ob=>exact absurd (Nat.lt_of_lt_of_le (Heap.lt_size (R2.keep _ _ y)) (lT (Nat.le_add_right _ 2) ha)) (Nat.lt_irrefl _)
  ·subst y;exact absurd (Nat.lt_of_lt_of_le (R2.tabLt hq) (lT (Nat.le_add_right _ 2) ha)) (Nat.lt_irrefl _)
 have R6:=SR.cells cl (s₂.heap.objs.size+2) R5 (fun i o c e ha hc=>by have:=R4.rhoLt e ha hc;rw[← z2];exact this) fresh (fun k hk=>⟨none,by
  have:=pushCells_at sc'.names ((s₂.heap.push (listOf #[] 0)).push { cls:=.type "dict",data:=.dict #[] }) cl hcl k hk;rw[z2] at this;exact this⟩)
 have eW:((W₂++[O.list []])++[O.ns []])++noCells cl=W₂++(.list []::.ns []::noCells cl):=by rw[List.append_assoc,List.append_assoc];rfl
 rw[eW] at R6;rw[z1] at R6;have hρ:∀ i a,nth ρ₂ i=some a→nth (((ρ₂++[s₂.heap.objs.size])++[s₂.heap.objs.size+1])++upFrom (s₂.heap.objs.size+2) cl) i=some a:=fun i a e=>nth_app_lt _ (nth_app_lt _ (nth_app_lt _ e));have hl2:len W₂+1=len (ρ₂++[s₂.heap.objs.size]):=by rw[len_app,R2.len];rfl
 have hlf:nth (((ρ₂++[s₂.heap.objs.size])++[s₂.heap.objs.size+1])++upFrom (s₂.heap.objs.size+2) cl) (len W₂+1)=some (s₂.heap.objs.size+1):=nth_app_lt _ (by rw[hl2,nth_app_len];rfl);have hac:nth (((ρ₂++[s₂.heap.objs.size])++[s₂.heap.objs.size+1])++upFrom (s₂.heap.objs.size+2) cl) (len W₂)=some s₂.heap.objs.size:=nth_app_lt _ (nth_app_lt _ (by rw[← R2.len,nth_app_len];rfl));have hcs:∀ j,j<len cl→nth (((ρ₂++[s₂.heap.objs.size])++[s₂.heap.objs.size+1])++upFrom (s₂.heap.objs.size+2) cl) (len W₂+1+1+j)=some (s₂.heap.objs.size+1+1+j):=fun j hj=>by
  have:len W₂+1+1=len ((ρ₂++[s₂.heap.objs.size])++[s₂.heap.objs.size+1]):=by rw[len_app,← hl2];rfl
  rw[this,nth_app_add,nth_upFrom _ _ _ hj]
 have l3:Le kp₂ ρ₂ kp₂ (((ρ₂++[s₂.heap.objs.size])++[s₂.heap.objs.size+1])++upFrom (s₂.heap.objs.size+2) cl):=⟨fun ux uy e=>e,hρ⟩;have EN':=comp_EN hk hcap hni hfr hcl (nodupB_iff hnd) h3 (EN.mono (l1.trans l2)) hρ hlf hcs;have hoi':nth (W₂++(.list []::.ns []::noCells cl)) i=some oi:=nth_app_lt _ hoi;have loop:∀ {cenv:Env},cenv=cEnv (relabel sc' env) (cellsFrom (s₂.heap.objs.size+1+1) sc'.names (closL env sc'.names [])) (s₂.heap.objs.size+1) env →
   codeAny (model b.prog b.w) A (.compLoop (.ListComp elt [⟨.Name nm q,it,ifs,0⟩] sc' ps) 0 (.ref ita) (.ref s₂.heap.objs.size) cenv) (compPost (model b.prog b.w) A E use Q0 (.ref s₂.heap.objs.size) (s₂.heap.objs.size+1)) { s₂ with heap:=pushCells ((s₂.heap.push (listOf #[] 0)).push { cls:=.type "dict",data:=.dict #[] }) sc'.names }:=fun {cenv} hc=>by
  subst hc;refine S.cpl h4 hfew ht (hρ _ _ hi) hac EN' hA' R6 fun kp' ρ' s' l R'=>?_;exact H kp' ρ' s' W₀ _ _ mm _ (((l1.trans l2).trans l3).trans l) R' hmm (l.rho _ _ hlf) rfl (.ref (l.rho _ _ hac)) (by
   have:=R.len;have g1:len ρ≤len ρ₂:=by
    refine bC fun hN9=>?_;by_cases y:len ρ=0
    ·exact Nat.not_le_of_lt (lq1 [_,_] (.a (.k 0) (.k 1)) (.v 0) (.a (.v 1) (.k 1)) (.v 0) (Nat.lt_of_not_le hN9) rfl) (Nat.le_of_eq y)
    ·refine Q11 (nth_some (l:=ρ) (i:=len ρ-1) (by exact lq1 [_,_] (.a (.v 0) (.k 1)) (.v 1) (.a (.v 0) (.k 1)) (.v 1) (Nat.le_of_eq (Nat.sub_add_cancel (lq1 [_,_] (.k 1) (.v 0) (.a (.v 1) (.k 1)) (.v 0) (Nat.lt_of_not_le hN9) rfl))) rfl)) ?_;intro a ha;have:=nth_lt ((l1.trans l2).rho _ _ ha);omega
   have:=R2.len;omega)
 have lp:=loop rfl;show codeAny _ _ _ (compPost _ _ _ _ _ _ _) _;have e0:(s₂.heap.push (listOf #[] 0)).objs.size=s₂.heap.objs.size+1:=z1;dsimp only;rw[show ({ cls:=.type "list",dict:=none,data:=.seq ([]:List Value).toArray }:Obj)=listOf #[] 0 from rfl];simp only[e0];exact codeAny_compStart_list lp (s_iterSelf hoi' hiter (hρ _ _ hi) R6 lp)
end
section
variable {b:BS}{G:Sig}{D:Nat}{r:Ops}{m:Nat}{kp:Kp}{ρ:List Addr}{W:St}{s:Shared}{sc:Scope}{g:Ctx}{env:Env}{A:Around}{E:Value→Shared→Prop}
theorem ev_Comp {elt:PySem.Expr}{gens:List Comprehension}{sc':Scope}{ps:Pos}{n:Nat}{v:V}{W':St}{Q:Value→Shared→Prop}(S:Sound b m r) (e:stepEv G r g ((cmp ce (n+1)).e sc (.ListComp elt gens sc' ps)) W=some (v,W')) (EN:EnvR b kp ρ sc g env) (hA:AOk (m+1) A) (R:SR b kp ρ W s)
  (h:Back b kp ρ W' (fun kp ρ y=>VR kp ρ v y) Q):wpAny (model b.prog b.w) A (eval (.ListComp elt gens sc' ps) env) Q E s:=by
 refine comp_i (cc:=cmp ce n) (P:=fun gens=>wpAny (model b.prog b.w) A (eval (.ListComp elt gens sc' ps) env) Q E s) e ?_;clear e;intro nm q it ifs c x fr cl k1 k2 k3 k4 k5 k6 k7 k8 k9 k10 e₀
 ·rw[eval_ListComp];refine comp_core (use:=none) (Q0:=Q) S e₀ k1 k2 k3 k4 k5 k6 k7 k8 k9 k10 EN hA R fun kp' ρ' s₁ W₀ C j mm ac le R' hmm hC hW hv ux=>?_;refine Q12 (nsR_ns R' hmm hC) ?_;intro m' hns ux;subst hW;exact ⟨m',hns,fun h' hs=>h kp' ρ' _ _ le (R'.drop (tk:=s₁.toks) hmm rfl hC hs.extBut (by rw[hs.1];exact R'.sz)) hv⟩
theorem setAt_comm {α:Type}{i j:Nat}{x y:α}(h:i≠j):∀ (l:List α),setAt (setAt l i x) j y=setAt (setAt l j y) i x:=fun l=>by
 rw[setAt_eq,setAt_eq,setAt_eq,setAt_eq];exact List.set_comm _ _ h
theorem s_use {elt:PySem.Expr}{gens:List Comprehension}{sc':Scope}{ps p:Pos}{nm:Str}{n x:Nat}{v:V}{W₁ W':St}{Q:Unit→Shared→Prop}(S:Sound b m r) (e:stepEv G r g ((cmp ce n).e sc (.ListComp elt gens sc' ps)) W=some (v,W₁)) (e2:stName g false x v W₁=some W') (ht:tgt ce sc (.Name nm p)=some (false,x)) (EN:EnvR b kp ρ sc g env) (hA:AOk (m+1) A) (R:SR b kp ρ W s)
  (h:∀ kp' ρ' s',Le kp ρ kp' ρ'→SR b kp' ρ' W' s'→Q () s'):wpAny (model b.prog b.w) A (evalThenUse (.ListComp elt gens sc' ps) env (assign (.Name nm p) env)) Q E s:=by
 cases n with
 | zero=>exact nn e
 | succ n=>
 refine comp_i (cc:=cmp ce n) (P:=fun gens=>wpAny (model b.prog b.w) A (evalThenUse (.ListComp elt gens sc' ps) env (assign (.Name nm p) env)) Q E s) e ?_;clear e;intro nm' q it ifs c x' fr cl k1 k2 k3 k4 k5 k6 k7 k8 k9 k10 e₀
 ·rw[arm_evalThenUse_ListComp];refine wpAny_bind (comp_core (use:=some (assign (.Name nm p) env)) (Q0:=fun ux s'=>wpAny (model b.prog b.w) A (pure ()) Q E s') S e₀ k1 k2 k3 k4 k5 k6 k7 k8 k9 k10 EN hA R fun kp' ρ' s₁ W₀ C j mm ac le R' hmm hC hW hv hj=>?_);subst hW;have hlt:g.lf<len W:=by have:=nth_lt EN.lf;rw[R.len] at this;exact this
  have hne:j≠g.lf:=by omega
  revert e2;refine ONs ?_;intro mf hmf e2;rw[nth_setAt_ne hne] at hmf
  ·obtain rfl:=sI e2;refine wpAny_assign_Name (st_name (W:=W₀) (W':=setAt W₀ g.lf (.ns (put x v mf))) ht (by show onNs (nth W₀ g.lf) _=_;rw[hmf];rfl) (EN.mono le) R' hv fun s'' R''=>?_);have hmm':nth (setAt W₀ g.lf (.ns (put x v mf))) j=some (.ns mm):=by rw[nth_setAt_ne (Ne.symm hne)];exact hmm
   refine Q12 (nsR_ns R'' hmm' hC) ?_;intro m' hns ux;refine ⟨m',hns,fun h' hs=>wpAny_pure (h kp' ρ' _ le ?_)⟩;have:=R''.drop (tk:=s''.toks) hmm' rfl hC hs.extBut (by rw[hs.1];exact R''.sz);rw[setAt_comm hne];exact this
end
section
variable {b:BS}{G:Sig}{D:Nat}{r:Ops}{m:Nat}{kp:Kp}{ρ:List Addr}{W:St}{s:Shared}{sc:Scope}{g:Ctx}{env:Env}{A:Around}{E:Value→Shared→Prop}
theorem ex_while {t:PySem.Expr}{p:Pos}{bd:List Stmt}{n:Nat}{f:Fl}{W':St}{Q:Flow→Shared→Prop}(S:Sound b m r) (e0:r.whl g ((cmp ce n).t sc t) ((cmp ce n).ss sc bd) W=some (f,W')) (EN:EnvR b kp ρ sc g env) (hA:AOk (m+1) A) (R:SR b kp ρ W s)
  (h:Back b kp ρ W' (fun kp ρ y=>FlR kp ρ f y) Q):wpAny (model b.prog b.w) A (exec (.While t bd [] p) env) Q E s:=
 wpAny_While (S.whl e0 EN (hA.le (Nat.le_succ m)) R fun kp' ρ' y s' k R' hy=>h kp' ρ' y s' k R' hy)
theorem ex_for {it:PySem.Expr}{nm:Str}{q p:Pos}{bd:List Stmt}{n x:Nat}{c:Bool}{f:Fl}{W':St}{Q:Flow→Shared→Prop}(S:Sound b m r) (htm:tame it=true) (ht:tgt ce sc (.Name nm q)=some (c,x)) (e0:(b1 (r.ev g ((cmp ce n).e sc it) W) fun v W=>b1 (iterOf v W) fun i W=>r.frs g c x i ((cmp ce n).ss sc bd) W)=some (f,W')) (EN:EnvR b kp ρ sc g env) (hA:AOk (m+1) A) (R:SR b kp ρ W s)
  (h:Back b kp ρ W' (fun kp ρ y=>FlR kp ρ f y) Q):wpAny (model b.prog b.w) A (exec (.For (.Name nm q) it bd [] p) env) Q E s:=by
 refine bC fun hN=>?_;have hA':=hA.le (Nat.le_succ m);revert e0;refine B1 ?_;intro v W₁ h1 e1;revert e1;refine B1 ?_;intro i W₂ h2 e2;refine hN ?_;refine wpAny_For (S.ev h1 EN hA' R fun kp₁ ρ₁ xv s₁ k1 R1 hx=>s_iter h2 hx R1 fun kp₂ ρ₂ ita s₂ k2 R2 hi=>?_) (tame_fold htm);exact S.frs e2 ht hi (EN.mono (k1.trans k2)) hA' R2 fun kp' ρ' y s' k R' hy=>h kp' ρ' y s' ((k1.trans k2).trans k) R' hy
theorem tgt_n {t:PySem.Expr}{a:Bool × Nat}{P:PySem.Expr→Prop}(q:tgt ce sc t=some a) (k:∀ nm p,P (.Name nm p)):P t:=by
 cases t
 case Name=>exact k _ _
 all_goals exact nn q
theorem tgts_each {ts:List PySem.Expr}:∀ {l:List (Bool × Nat)},tgts ce sc ts=some l→(assignEach ts env).length=l.length∧(assignEach ts env).findIdx? (·.1)=none:=by
 induction ts with
 | nil=>intro l e;obtain rfl:=sI e;exact ⟨rfl,rfl⟩
 | cons t ts ih=>
  intro l e;revert e;refine Bo ?_;intro a q e;revert e;refine Bo ?_;intro u y e;obtain rfl:=sI e;refine tgt_n (P:=fun t=>(assignEach (t::ts) env).length=(a::u).length∧(assignEach (t::ts) env).findIdx? (·.1)=none) q fun nm p=>⟨congrArg Nat.succ (ih y).1,?_⟩;show List.findIdx? _ ((false,assign (.Name nm p) env)::assignEach ts env)=none;rw[List.findIdx?_cons,(ih y).2];rfl
theorem in_order {W':St}{Q:Unit→Shared→Prop}{ts:List PySem.Expr}:∀ {l:List (Bool × Nat)}{vs:List V}{xs:List Value}{W:St}{s:Shared},tgts ce sc ts=some l→stNames g l vs W=some W'→VRs kp ρ vs xs→EnvR b kp ρ sc g env→SR b kp ρ W s→(∀ s',SR b kp ρ W' s'→Q () s') →
  wpAny (model b.prog b.w) A (assignInOrder ((assignEach ts env).map (·.2)) xs) Q E s:=by
 induction ts with
 | nil=>
  intro l vs xs W s e e2 hv EN R h;obtain rfl:=sI e;cases vs with
  | nil=>apply VRs.c0 hv;obtain rfl:=sI e2;exact wpAny_pure (h _ R)
  | cons=>exact nn e2
 | cons t ts ih=>
  intro l vs xs W s e e2 hv EN R h;revert e;refine Bo ?_;rintro ⟨c,x⟩ q e;revert e;refine Bo ?_;intro u y e;obtain rfl:=sI e;cases vs with
  | nil=>exact nn e2
  | cons v vs=>
  revert e2;refine Bo ?_;intro W₁ z e2;apply VRs.c1 hv;intro x1 xs1 h1 h2;refine tgt_n (P:=fun t=>tgt ce sc t=some (c,x)→wpAny (model b.prog b.w) A (assignInOrder ((assignEach (t::ts) env).map (·.2)) (x1::xs1)) Q E s) q (fun nm p q=>?_) q;show wpAny _ _ (do holding _ (assign (.Name nm p) env _);assignInOrder ((assignEach ts env).map (·.2)) _) _ _ _;refine wpAny_bind (wpAny_holding (wpAny_assign_Name (st_name q z EN R h1 fun s' R'=>?_)));exact ih y e2 h2 EN R' h
theorem stNames_len {l:List (Bool × Nat)}:∀ {vs:List V}{W W':St},stNames g l vs W=some W'→l.length=len vs:=by
 induction l with
 | nil=>intro vs W W' e;cases vs with | nil=>rfl | cons=>exact nn e
 | cons p l ih=>
  intro vs W W' e;cases vs with
  | nil=>exact nn e
  | cons v vs=>
  revert e;refine Bo ?_;intro W₁ z e;exact congrArg Nat.succ (ih e)
set_option tactic.hygienic true in
theorem ex_asgT {e:PySem.Expr}{ts:List PySem.Expr}{k:Nat}{q p:Pos}{n:Nat}{l:List (Bool × Nat)}{f:Fl}{W':St}{Q:Flow→Shared→Prop}(S:Sound b m r) (hc:isCallE e=true) (ht:tgts ce sc ts=some l) (e0:(b1 (r.ev g ((cmp ce n).e sc e) W) fun v W=>xAsgT g l v W)=some (f,W')) (EN:EnvR b kp ρ sc g env) (hA:AOk (m+1) A) (R:SR b kp ρ W s)
  (h:Back b kp ρ W' (fun kp ρ y=>FlR kp ρ f y) Q):wpAny (model b.prog b.w) A (exec (.Assign [.Tuple ts k q] e p) env) Q E s:=by
 have hA':=hA.le (Nat.le_succ m);revert e0;refine B1 ?_;intro v W₁ h1 e1;refine Assign_Tuple (S.ev h1 EN hA' R fun kp₁ ρ₁ y s₁ k1 R1 hy=>?_) (by cases e<;>first | rfl | cases hc) (by cases e<;>first | rfl | exact ft hc)
 ·refine bC fun hN1=>?_;revert e1;refine OTup ?_;rintro vs rfl e1;revert e1;refine Bt ?_;intro z e1;refine Q02 (nx_inv e1) ?_;rintro rfl e2;refine Q11 (isNs_inv z) ?_;intro mf hmf;have EN1:=EN.mono k1;refine hN1 ?_;apply VR.cu hy;intro _ _ _ g1 g2;rename_i a xs c;refine Q02 (tgts_each (env:=env) ht) ?_;intro t1 t2;refine assign_Tuple_tuple hA.handled (items:=xs.toArray) ⟨_,R1.get g1,rfl,_,rfl⟩ (by rw[t1,stNames_len e2,List.size_toArray,g2.length]) t2 fun h' hx=>?_;have kk:∀ a o,s₁.heap.get? a=some o→h'.get? a=some o:=fun a o e=>hx a o (Nat.ne_of_lt (Heap.lt_size e)) e;have R2:SR b kp₁ ρ₁ W₁ { s₁ with heap:=h' }:=R1.ext (tk:=s₁.toks) kk (R1.szBy hmf rfl EN1.lf fun o e=>kk _ _ e);exact in_order (xs:=xs) ht e2 g2 EN1 R2 fun s' R'=>h kp₁ ρ₁ _ _ k1 R' rfl
end
section
variable {b:BS}{G:Sig}{D:Nat}{r:Ops}{m:Nat}{kp:Kp}{ρ:List Addr}{W:St}{s:Shared}{sc:Scope}{g:Ctx}{env:Env}{A:Around}{E:Value→Shared→Prop}
set_option tactic.hygienic true in
theorem s_ev {e:PySem.Expr}{n:Nat}{v:V}{W':St}{Q:Value→Shared→Prop}(S:Sound b m r) (T:StatOk b G D) (h0:stepEv G r g ((cmp ce n).e sc e) W=some (v,W')) (EN:EnvR b kp ρ sc g env) (hA:AOk (m+1) A) (R:SR b kp ρ W s)
  (h:Back b kp ρ W' (fun kp ρ y=>VR kp ρ v y) Q):wpAny (model b.prog b.w) A (eval e env) Q E s:=by
 cases n with
 | zero=>exact nn h0
 | succ n=>
 cases e
 case Constant c k p=>exact ev_Const h0 R h
 case Name x p=>exact ev_Name T.glob h0 EN R h
 case BinOp a op c p=>exact ev_BinOp S h0 EN hA R h
 case UnaryOp op a p=>
  cases op
  case USub=>exact ev_USub S h0 EN hA R h
  all_goals exact nn h0
 case Compare a ops cs p=>
  match ops,cs,h0 with
  | [op],[c],h0=>exact ev_Cmp S h0 EN hA R h
  | [],ux,h0=>exact nn h0
  | [ux],[],h0=>exact nn h0
  | [ux],uy::uz::uw,h0=>exact nn h0
  | ux::uy::uz,uw,h0=>exact nn h0
 case IfExp t a c p=>exact ev_IfExp S h0 EN hA R h
 case List es p=>exact ev_List S h0 EN hA R h
 case Tuple es k p=>exact ev_Tuple S h0 EN hA R h
 case Subscript a i p=>exact ev_Subscript S h0 EN hA R h
 case Attribute a mm p=>exact ev_Attribute S T h0 EN hA R h
 case Call f es ks p=>exact ev_Call S T h0 EN hA R h
 case ListComp elt gens sc' ps=>exact ev_Comp S h0 EN hA R h
 all_goals exact nn h0
end
section
variable {b:BS}{G:Sig}{D:Nat}{r:Ops}{m:Nat}{kp:Kp}{ρ:List Addr}{W:St}{s:Shared}{sc:Scope}{g:Ctx}{env:Env}{A:Around}{E:Value→Shared→Prop}
theorem exIf {c:Bool}{x:S}{y:Fl × St}(e:stepEx G r g (if c=true then x else .bad) W=some y):c=true∧stepEx G r g x W=some y:=by
 cases c
 ·exact nn e
 ·exact ⟨rfl,e⟩
theorem exB {o:Option S}{y:Fl × St}{C:Prop}(e:stepEx G r g (orB o) W=some y) (k:∀ s,o=some s→stepEx G r g s W=some y→C):C:=by
 cases o with
 | none=>exact nn e
 | some a=>exact k a rfl e
theorem ex1 {α:Type}{o:Option α}{f:α→S}{y:Fl × St}{C:Prop}(e:stepEx G r g (orB (o.bind fun a=>some (f a))) W=some y) (k:∀ a,o=some a→stepEx G r g (f a) W=some y→C):C:=by
 cases o with
 | none=>exact nn e
 | some a=>exact k a rfl e
theorem on5_i {t:PySem.Expr}{n:Str→Pos→S}{u:List PySem.Expr→Nat→Pos→S}{a:PySem.Expr→Str→Pos→S}{s:PySem.Expr→PySem.Expr→Pos→S}{c:PySem.Expr→List PySem.Expr→List Keyword→Pos→S}{y:Fl × St}{P:PySem.Expr→Prop}(e:stepEx G r g (on5 t n u a s c) W=some y)
  (k1:∀ x q,stepEx G r g (n x q) W=some y→P (.Name x q)) (k2:∀ x k q,stepEx G r g (u x k q) W=some y→P (.Tuple x k q)) (k3:∀ x m q,stepEx G r g (a x m q) W=some y→P (.Attribute x m q)) (k4:∀ x z q,stepEx G r g (s x z q) W=some y→P (.Subscript x z q)) (k5:∀ x z w q,stepEx G r g (c x z w q) W=some y→P (.Call x z w q)):P t:=by
 cases t
 case Name=>exact k1 _ _ e
 case Tuple=>exact k2 _ _ _ e
 case Attribute=>exact k3 _ _ _ e
 case Subscript=>exact k4 _ _ _ e
 case Call=>exact k5 _ _ _ _ e
 all_goals exact nn e
theorem s_ex {st:Stmt}{n:Nat}{f:Fl}{W':St}{Q:Flow→Shared→Prop}(S:Sound b m r) (T:StatOk b G D) (h0:stepEx G r g ((cmp ce n).s sc st) W=some (f,W')) (EN:EnvR b kp ρ sc g env) (hA:AOk (m+1) A) (R:SR b kp ρ W s)
  (h:Back b kp ρ W' (fun kp ρ y=>FlR kp ρ f y) Q):wpAny (model b.prog b.w) A (exec st env) Q E s:=by
 cases n with
 | zero=>exact nn h0
 | succ n=>
 cases st with
 | Expr e p=>exact on5_i (P:=fun e=>wpAny (model b.prog b.w) A (exec (.Expr e p) env) Q E s) h0 (fun ux uy e=>nn e) (fun ux uy uz e=>nn e) (fun ux uy uz e=>nn e) (fun ux uy uz e=>nn e) fun f' es ks q h0=>ex_Expr (n:=n) S h0 rfl EN hA R h
 | Return o p=>
  cases o with
  | none=>exact wpAny_Return_none (sb2 (P:=fun f W'=>Back b kp ρ W' (fun kp ρ y=>FlR kp ρ f y) Q) h0 h kp ρ _ _ (Le.refl _ _) R ⟨.none,rfl,.none⟩)
  | some e=>exact ex_ret (n:=n) S h0 EN hA R h
 | While t bd el p=>
  cases el with
  | nil=>exact ex_while (n:=n) S h0 EN hA R h
  | cons=>exact nn h0
 | If t bd el p=>exact ex_if (n:=n) S h0 EN hA R h
 | Continue p=>exact wpAny_Continue (sb2 (P:=fun f W'=>Back b kp ρ W' (fun kp ρ y=>FlR kp ρ f y) Q) h0 h kp ρ _ _ (Le.refl _ _) R rfl)
 | For t it bd el p=>
  cases el with
  | cons=>exact nn h0
  | nil=>exact on5_i (P:=fun t=>wpAny (model b.prog b.w) A (exec (.For t it bd [] p) env) Q E s) h0 (fun nm q h0=>ex1 (exIf h0).2 fun ci y e=>ex_for (n:=n) S (exIf h0).1 y e EN hA R h) (fun ux uy uz e=>nn e) (fun ux uy uz e=>nn e) (fun ux uy uz e=>nn e) fun ux uy uz uw e=>nn e
 | AugAssign t op e p=>exact on5_i (P:=fun t=>wpAny (model b.prog b.w) A (exec (.AugAssign t op e p) env) Q E s) h0 (fun nm q h0=>ex1 h0 fun ci y e1=>ex_aug (n:=n) S y e1 EN hA R h) (fun ux uy uz e=>nn e) (fun o a q h0=>ex1 h0 fun i y e1=>ex_augA (n:=n) S T y e1 EN hA R h) (fun ux uy uz e=>nn e) fun ux uy uz uw e=>nn e
 | Assign ts e p=>
  cases ts with
  | nil=>exact nn h0
  | cons t us=>
  cases us with
  | cons=>exact nn h0
  | nil=>
   exact on5_i (P:=fun t=>wpAny (model b.prog b.w) A (exec (.Assign [t] e p) env) Q E s) h0 (fun nm q h0=>ex1 h0 fun ci y e1=>ex_asg (n:=n) S y e1 EN hA R h) (fun us k q h0=>ex1 (exIf h0).2 fun l y e1=>ex_asgT (n:=n) S (exIf h0).1 y e1 EN hA R h)
    (fun o a q h0=>ex1 h0 fun i y e1=>ex_asgA (n:=n) S T y e1 EN hA R h) (fun o i q h0=>ex_asgI (n:=n) S (exIf h0).2 EN hA R h) fun ux uy uz uw e=>nn e
 | FunctionDef nm a bd decos rets tps sc' tsc nm' p=>
  refine exB h0 fun s1 e e1=>?_;clear h0;revert e;refine Bt ?_;intro z e;refine fd_i (P:=fun decos rets tps tsc nm'=>wpAny (model b.prog b.w) A (exec (.FunctionDef nm a bd decos rets tps sc' tsc nm' p) env) Q E s) z ?_;intro z2 z3 hk z5 z6 z7 z8;revert e;refine Bo ?_;intro ci y1 e;revert e;refine Bo ?_;intro ps y2 e;revert e;refine Bo ?_;intro fr y3 e;revert e;refine Bo ?_;intro cl y4 e;revert e;refine Bt ?_;intro w e;have y4:namesBy ce .cell sc'.names=some []:=y4.trans (congrArg some (List.isEmpty_iff.mp (al w)));exact ex_fdef (N:=n) S (oe (P:=fun s1=>stepEx G r g s1 W=some (f,W')) e.symm e1) z2 z3 hk z5 z6 z7 z8 y1 y2 y3 y4 (al (ar w)) (ar (ar w)) EN hA R h
 | _=>exact nn h0
end
section
variable {b:BS}{G:Sig}{D:Nat}{r:Ops}{m:Nat}
theorem sound_step (T:StatOk b G D) (S:Sound b m r) (hD:D≤m):Sound b (m+1) (step G r) where
 bad _ _:=rfl
 badT _ _:=rfl
 badS _ _:=rfl
 ev h0 EN hA R h:=s_ev S T h0 EN hA R h
 tst h0 EN hA R h:=s_tst S h0 EN hA R h
 tsts h0 EN hA R h:=s_tsts S h0 EN hA R h
 evs h0 EN hA R h:=s_evs S h0 EN hA R h
 ex h0 EN hA R h:=s_ex S T h0 EN hA R h
 exs h0 EN hA R h:=s_exs S h0 EN hA R h
 whl h0 EN hA R h:=s_whl S h0 EN hA R h
 frs h0 ht hi EN hA R h:=s_frs S h0 ht hi EN hA R h
 cpl h0 hf ht hi ha EN hA R h:=s_cpl S h0 hf ht hi ha EN hA R h
 use h0 h1 ht EN hA R h:=s_use S h0 h1 ht EN hA R h
 call h0 hf hs hA R h:=s_call S T hD h0 hf hs hA R h
 callC h0 hn hf hs hA R h:=s_callC S T hD h0 hn hf hs hA R h
 nxt h0 hi hj hA R h:=s_nxt S T.fnObj h0 hi hj hA R h
theorem sound_fail:Sound b m opsFail where
 bad _ _:=rfl
 badT _ _:=rfl
 badS _ _:=rfl
 ev h _ _ _ _:=nn h
 tst h _ _ _ _:=nn h
 tsts h _ _ _ _:=nn h
 evs h _ _ _ _:=nn h
 ex h _ _ _ _:=nn h
 exs h _ _ _ _:=nn h
 whl h _ _ _ _:=nn h
 frs h _ _ _ _ _ _:=nn h
 cpl h _ _ _ _ _ _ _ _:=nn h
 use h _ _ _ _ _ _:=nn h
 call h _ _ _ _ _:=nn h
 callC h _ _ _ _ _ _:=nn h
 nxt h _ _ _ _ _:=nn h
theorem sound_ops (T:StatOk b G D):∀ n,Sound b (D+n) (ops G n):=by
 intro z0;induction z0 with
 | zero=>
  exact sound_fail
 | succ n ih0=>
  rw[ops_succ];exact sound_step T (ih0) (Nat.le_add_right _ _)
end
end Mine
end
section
open PySem PySem.W PySem.Spec PySem.Calls PyProof.Rows PySem.Builtin.Re
namespace Mine
theorem run_done {m:Sre.M}(h:m.outcome.isSome=true):∀ n,m.runFor n=m:=by
 intro z0;induction z0 with
 | zero=>
  exact rfl
 | succ n ih0=>
  exact if_pos h
theorem run_succ {m:Sre.M}{n:Nat}(h:¬ m.outcome.isSome=true):m.runFor (n+1)=m.step.runFor n:=if_neg h
theorem run_add:∀ (a b:Nat) (m:Sre.M),(m.runFor a).runFor b=m.runFor (a+b):=by
 intro z0;induction z0 with
 | zero=>
  intro b m;rw[Nat.zero_add];rfl
 | succ a ih0=>
  intro b m;rw[show a+1+b=(a+b)+1 by exact eq0 [_,_] (.a (.a (.v 0) (.k 1)) (.v 1)) (.a (.a (.v 0) (.v 1)) (.k 1)) rfl rfl];by_cases h:m.outcome.isSome=true
  ·rw[run_done h,run_done h,run_done h]
  ·rw[run_succ h,run_succ h,ih0 b]
section
variable {M:Model}{A:Around}{E:Value→Shared→Prop}{s:Shared}
theorem rdC {turns:Nat}{m:Sre.M}:reDrive (turns+1) m=(if (m.runFor reTurnSteps).outcome.isSome then pure (m.runFor reTurnSteps) else do rule "sre.turn";reDrive turns (m.runFor reTurnSteps)):=rfl
theorem drive {Q:Sre.M→Shared→Prop}:∀ (k turns:Nat) (m:Sre.M),k<turns→((m.runFor (4*(k+1))).outcome).isSome=true→Q (m.runFor (4*(k+1))) s→wpAny M A (reDrive turns m) Q E s
 | k,0,m,h,ux,uy=>absurd h (Nat.not_lt_zero _)
 | k,turns+1,m,h,ho,hq=>by
  rw[rdC];by_cases z:(m.runFor reTurnSteps).outcome.isSome=true
  ·rw[if_pos z];have e:m.runFor (4*(k+1))=m.runFor reTurnSteps:=by
    rw[show 4*(k+1)=reTurnSteps+4*k by show _=4+4*k;exact eq0 [_] (.m 4 (.a (.v 0) (.k 1))) (.a (.k 4) (.m 4 (.v 0))) rfl rfl,← run_add,run_done z]
   rw[e] at hq;exact wpAny_pure hq
  ·rw[if_neg z];cases k with
   | zero=>exact absurd ho z
   | succ k=>
    have e:m.runFor (4*(k+1+1))=(m.runFor reTurnSteps).runFor (4*(k+1)):=by
     rw[run_add]
     congr 1
     show _=4+4*(k+1);exact eq0 [_] (.m 4 (.a (.a (.v 0) (.k 1)) (.k 1))) (.a (.k 4) (.m 4 (.a (.v 0) (.k 1)))) rfl rfl
    rw[e] at ho hq;exact wpAny_bind (wpAny_rule (drive k turns _ (Nat.lt_of_succ_lt_succ h) ho hq))
theorem run_end {Q:Option Sre.M→Shared→Prop}{m:Sre.M}(ho:(m.runFor 4096).outcome.isSome=true)
  (hq:match (m.runFor 4096).outcome with | some .matched=>Q (some (m.runFor 4096)) s | some .failed=>Q none s | _=>False):wpAny M A (reRunToEnd m) Q E s:=by
 refine wpAny_bind (drive 1023 (2^64) m (by decide) ho ?_);show wpAny M A _ Q E s;generalize m.runFor 4096=f at *;refine wpAny_bind (wpAny_forIn_list _ (fun ux uy s'=>s'=s) (fun ux s'=>wpAny M A _ Q E s') (fun i rest b s' e=>?_) (fun b s' e=>?_) _ _ rfl)
 ·subst e;split
  ·exact wpAny_bind (wpAny_rule (wpAny_pure rfl))
  ·exact wpAny_pure rfl
 ·subst e;split at hq
  ·rename_i h;rw[h];exact wpAny_pure hq
  ·rename_i h;rw[h];exact wpAny_pure hq
  ·exact hq.elim
end
end Mine
end
section
open PySem PySem.W PySem.Spec PySem.Calls PyProof.Rows PySem.Builtin PySem.Builtin.Re
namespace Mine
section
variable {M:Model}{A:Around}{E:Value→Shared→Prop}{s:Shared}
noncomputable def IsPat (h:Heap) (p c:Addr) (items:Array Value):Prop:=∃ x0 x1 n sl d cl,h.get? p=some { cls:=.type "re.Pattern",dict:=none,data:=.fields #[x0,x1,.int 0 0,.none,.none,.ref c,.int 0 0],slots:=#[] }∧h.get? c=some ⟨cl,d,.seq items n,sl⟩
noncomputable def patCode (items:Array Value):Array Nat:=(items.map reRawOf).map (·.toNat)
theorem whole {p c:Addr}{items:Array Value}{t:Str}{u:Tok}{Q:ReTarget→Shared→Prop}(hp:IsPat s.heap p c items) (h:Q ⟨.ref p,.str t u,patCode items,t.cps,0,0,0,t.cps.size⟩ s):wpAny M A (reWholeTarget (.ref p) (.str t u)) Q E s:=by
 obtain ⟨x0,x1,n,sl,d,cl,h1,h2⟩:=hp;refine wpAny_bind (wpAny_fieldsOf h1 rfl ?_);refine wpAny_bind (wpAny_of_eq (a:=(t.cps,0)) rfl ?_);refine wpAny_bind (wpAny_of_eq (a:=()) rfl ?_);refine wpAny_bind ?_;refine wpAny_bind (wpAny_seqItems h2 rfl ?_);exact wpAny_pure (wpAny_pure h)
end
theorem pat_attrs:PlainAttrs "re.Pattern":=
 ⟨⟨"object.__getattribute__",by rw[typeLookup_type,builtinLookup_eq_fast];kernel_rfl,by decide +kernel⟩,by rw[typeLookup_type,builtinLookup_eq_fast];kernel_rfl⟩
theorem owner_pat:Manifest.owners.lookup (String.ofList ['n','r','e','t','t','a','P','.','e','r'].reverse)=some Manifest.sig_re_Pattern:=by kernel_rfl
theorem slot_pat_sub:Slot "re.Pattern" "sub" "re.Pattern.sub":=
 .of (owner:="re.Pattern") (n:="sub") (by rw[typeLookup_type,builtinLookup_eq_fast];kernel_rfl) (by decide +kernel) (by decide +kernel) (by decide +kernel)
  (by first | exact .inl (by decide +kernel) | exact .inr (by decide +kernel)) (by rw[isSubtype_type];kernel_rfl)
theorem type_pat_sub:typeOf (.builtin "re.Pattern.sub")=pure (.type "method_descriptor"):=by show builtinType _=_;rw[builtinType_eq_fast];kernel_rfl
theorem entry_pat_sub:entryFor table "re.Pattern.sub"=some Builtin.«re.Pattern.sub»:=entryFor_of_tree (by kernel_rfl)
theorem entry_pat_loop:entryFor table "re.Pattern.sub.loop"=some Builtin.«re.Pattern.sub.loop»:=entryFor_of_tree (by kernel_rfl)
theorem args_pat_sub (a b c:Value):argsOk "re.Pattern.sub" ⟨[a,b,c],[]⟩:=by
 unfold argsOk;rw[signature?_of (id:="re.Pattern.sub") (n:=['b','u','s']) (o:=['n','r','e','t','t','a','P','.','e','r']) (by kernel_rfl) owner_pat];kernel_rfl
theorem plain_pat_loop:plainId "re.Pattern.sub.loop"=true:=by decide +kernel
theorem flat_join:∀ ls:List (List Nat),Txt.join (mkS []) (ls.map mkS)=mkS ls.flatten:=by
 intro ls;show Builtin.Str.glued _ _=_;rw[StrLaws.glued_eq_join];induction ls with
 | nil=>rfl
 | cons x r ih=>
  cases r with
  | nil=>show mkS x=mkS (x++[]);rw[List.append_nil]
  | cons y r=>
   show mkS x++mkS []++Str.join (mkS []) ((y::r).map mkS)=_;rw[ih];show (⟨(x.toArray++#[])++(y::r).flatten.toArray⟩:Str)=⟨(x++(y::r).flatten).toArray⟩;simp
theorem join_len:∀ (ls:List (List Nat)) (acc:Nat),(∀ p∈ls,p.length≤1000)→(ls.map mkS).foldl (·+·.length+(mkS []).length) acc≤acc+1000*ls.length:=by
 intro z0;induction z0 with
 | nil=>
  intro acc ux;simp
 | cons x r ih0=>
  intro acc h;have h1:=ih0 (acc+(mkS x).length+(mkS []).length) (fun p hp=>h p (List.mem_cons_of_mem _ hp));have h2:=h x (List.mem_cons_self ..);have h3:(mkS x).length=x.length:=by show x.toArray.size=_;simp
  have h4:(mkS []).length=0:=rfl;simp only[List.map_cons,List.foldl_cons,List.length_cons];rw[h3,h4] at h1 ⊢;exact lq2 [_,_,_,_] (.v 0) (.a (.v 1) (.m 1000 (.a (.v 2) (.k 1)))) (.v 3) (.k 1000) (.v 0) (.a (.a (.a (.v 1) (.v 3)) (.k 0)) (.m 1000 (.v 2))) h2 h1 rfl
theorem flat_ok {ls:List (List Nat)}(h:∀ p∈ls,p.length≤1000) (hl:ls.length≤10000):JoinOk (mkS []) (ls.map mkS)=true:=by
 have:=join_len ls 0 h;unfold JoinOk;rw[Bool.not_eq_true'];unfold Builtin.Str.tooLong;rw[List.foldl_toArray];simp only[decide_eq_false_iff_not];show ¬ _>2^24;omega
theorem slice_arr (l:List Nat) (a b:Nat):(⟨(mkS l).cps.extract a b⟩:Str)=mkS (sliceL a b l):=by
 show (⟨l.toArray.extract a b⟩:Str)=⟨((l.take b).drop a).toArray⟩
 congr 1
 simp[List.extract_toArray,List.drop_take]
theorem slice_nil {l:List Nat}{a b:Nat}(h:b≤a):sliceL a b l=[]:=by
 show (l.take b).drop a=[];rw[List.drop_eq_nil_iff];rw[List.length_take];omega
theorem slice_len (l:List Nat) (a b:Nat):(sliceL a b l).length≤l.length:=by
 show ((l.take b).drop a).length≤_;rw[List.length_drop,List.length_take];omega
section
variable {b:BS}{kp:Kp}{ρ:List Addr}{W:St}{s0:Shared}{A:Around}{E:Value→Shared→Prop}
theorem IsPat.up {h h':Heap}{p c:Addr}{items:Array Value}(x:IsPat h p c items) (k:∀ a o,h.get? a=some o→h'.get? a=some o):IsPat h' p c items:=
 x.elim fun x0 h=>h.elim fun x1 h=>h.elim fun n h=>h.elim fun sl h=>h.elim fun d h=>h.elim fun cl h=>⟨x0,x1,n,sl,d,cl,k _ _ h.1,k _ _ h.2⟩
theorem sub_fin {A':Around}{kk:Int}{L:Addr}{ps:List (List Nat)}{l:List (Str × Tok)}{nn:Nat}{h:Heap}{tk:Nat}{jt:Tok}{Q:Value→Shared→Prop}(R:SR b kp ρ W s0)
  (k:∀ a o,s0.heap.get? a=some o→h.get? a=some o) (hz:s0.heap.objs.size≤h.objs.size)
  (hl:h.get? L=some { cls:=.type "list",dict:=none,data:=.seq (strValues l).toArray nn,slots:=#[] }) (hp:l.map (·.1)=ps.map mkS) (h1:∀ p∈ps,p.length≤1000) (h2:ps.length≤10000) (htk:s0.toks≤tk)
  (hq:∀ s' t',SR b kp ρ W s'→Q (.str (mkS ps.flatten) t') s'):
  wpAny (model b.prog b.w) A (do
   let text ← if ((← seqItems? (.ref L)).getD #[]).isEmpty then pure (.str (mkS []) jt)
    else call (.builtin (if (0==0) then "str.join" else "bytes.join")) [.str (mkS []) jt,.ref L]
   if false=true then ret (← holding [text] do newTuple [text,← mkInt kk]) else ret text) (fun fin s'=>match fin with | .done f=>CallBack Q E (.ok f) s' | .again c'=>c'.quiet=true∧codeAny (model b.prog b.w) A' c' (CallBack Q E) s') E { s0 with heap:=h,toks:=tk }:=by
 have R':SR b kp ρ W { s0 with heap:=h,toks:=tk }:=R.ext k (lT R.sz hz) htk;refine wpAny_bind (wpAny_seqItems hl rfl ?_);cases hps:ps with
 | nil=>
  subst hps;have:l=[]:=by cases l with | nil=>rfl | cons ux uy=>cases hp
  subst this;exact wpAny_pure (hq _ _ R')
 | cons x r=>
  have hl0:((strValues l).toArray.isEmpty)=false:=by
   cases l with
   | nil=>rw[hps] at hp;cases hp
   | cons y z=>rfl
  show wpAny _ _ (if (strValues l).toArray.isEmpty=true then _ else _) _ _ _;rw[hl0,if_neg (by decide)];refine wpAny_bind ?_;refine wpAny_with_toks (Nat.le_refl tk) (PySem.SC.join ⟨_,hl,rfl,_,rfl⟩ hp (flat_ok h1 h2) fun t' tk' htk'=>?_);rw[flat_join];exact wpAny_pure (hq _ _ (R'.tok htk'))
end
section
variable {b:BS}{kp:Kp}{ρ:List Addr}{W:St}{s0:Shared}{A:Around}{E:Value→Shared→Prop}
noncomputable abbrev lstO (xs:List Value) (n:Nat):Obj:={ cls:=.type "list",dict:=none,data:=.seq xs.toArray n,slots:=#[] }
theorem ext_upd {h₀ h:Heap}{L:Addr}{f:Obj→Obj}(k:∀ a o,h₀.get? a=some o→h.get? a=some o) (hL:h₀.objs.size≤L):∀ a o,h₀.get? a=some o→(h.update L f).get? a=some o:=fun a o e=>by
 have:a≠L:=Nat.ne_of_lt (Nat.lt_of_lt_of_le (Heap.lt_size e) hL);exact (Heap.SameBut.update h L f).extBut a o this (k a o e)
theorem map_push {l:List (Str × Tok)}{ps:List (List Nat)}(h:l.map (·.1)=ps.map mkS) (x:List Nat) (t:Tok):(l++[(mkS x,t)]).map (·.1)=(ps++[x]).map mkS:=by
 rw[List.map_append,List.map_append,h];rfl
theorem push_vals (l:List (Str × Tok)) (x:Str) (t:Tok):(strValues l).toArray.push (.str x t)=(strValues (l++[(x,t)])).toArray:=by
 unfold strValues;simp
theorem beq_nat (a b:Nat):(a==b)=Nat.beq a b:=by
 cases q:Nat.beq a b with
 | true=>rw[nE q];exact beq_self_eq_true b
 | false=>exact beq_false_of_ne (Nat.ne_of_beq_eq_false q)
theorem push_lst {h:Heap}{L:Addr}{l:List (Str × Tok)}{nn:Nat}(hl:h.get? L=some (lstO (strValues l) nn)) (x:Str) (t:Tok):(h.update L (Obj.mapSeq fun y=>y.push (.str x t))).get? L=some (lstO (strValues (l++[(x,t)])) (nn+1)):=by
 refine (Heap.get?_update_self _ hl rfl).trans ?_;show some (Obj.mk _ _ (.seq ((strValues l).toArray.push (.str x t)) (if (((strValues l).toArray.push (.str x t)).size==(strValues l).toArray.size)=true then nn else nn+1)) _)=_;rw[push_vals,if_neg (by simp[strValues])]
structure LpA (s0:Shared) (L:Addr) (ps:List (List Nat)) (l:List (Str × Tok)) (m:Nat) (h:Heap) (tk:Nat):Prop where
 k:∀ a o,s0.heap.get? a=some o→h.get? a=some o
 lw:s0.heap.objs.size≤L
 z:s0.heap.objs.size≤h.objs.size
 o:h.get? L=some (lstO (strValues l) m)
 mp:l.map (·.1)=ps.map mkS
 p:∀ p∈ps,p.length≤1000
 tk:s0.toks≤tk
theorem LpA.step {α:Type}{L:Addr}{ps:List (List Nat)}{l:List (Str × Tok)}{m:Nat}{h:Heap}{tk tk':Nat}{x:List Nat}{t:Tok}{F:Unit→Sem α}{Q:α→Shared→Prop}(P:LpA s0 L ps l m h tk) (ht:tk≤tk') (hx:x.length≤1000) (hn:ps.length≤10000)
  (k:∀ h',LpA s0 L (ps++[x]) (l++[(mkS x,t)]) (m+1) h' tk'→wpAny (model b.prog b.w) A (F ()) Q E { s0 with heap:=h',toks:=tk' }):wpAny (model b.prog b.w) A (updateSeq L (·.push (.str (mkS x) t)) >>= F) Q E { s0 with heap:=h,toks:=tk' }:=by
 have len':l.length=ps.length:=by have:=congrArg List.length P.mp;simpa using this
 have hz:(strValues l).toArray.size≤10000:=by simp only[strValues,List.size_toArray,List.length_map];rw[len'];exact hn
 refine wpAny_bind (wpAny_updateSeq P.o rfl (k _ ⟨ext_upd P.k P.lw,P.lw,?_,push_lst P.o _ _,map_push P.mp _ _,?_,lT P.tk ht⟩) ?_ ?_)
 ·rw[(Heap.SameBut.update _ _ _).1];exact P.z
 ·intro y hy;rcases List.mem_append.mp hy with hy | hy
  ·exact P.p y hy
  ·rw[List.mem_singleton.mp hy];exact hx
 ·exact lT hz (nL rfl)
 ·show ((strValues l).toArray.push _).size≤2^24+1;rw[Array.size_push];exact Nat.succ_le_succ (lT hz (nL rfl))
theorem sub_out {o:Option Sre.Outcome}{F:Found}{x rest:List Nat}{K:Found→Option (List Nat)}(e:(match (match o with | some .matched=>some (some F) | some .failed=>some none | ux=>none) with | none=>none | some none=>some x | some (some f)=>K f)=some rest):(o=some .matched∧K F=some rest)∨(o=some .failed∧some x=some rest):=by
 cases o with
 | none=>exact nn e
 | some oc=>cases oc<;>first | exact nn e | exact .inl ⟨rfl,e⟩ | exact .inr ⟨rfl,e⟩
theorem sub_loop {code:List Nat}(R:SR b kp ρ W s0) {p c L:Addr}{items:Array Value}{text repl:List Nat}{t u:Tok}{Q:Value→Shared→Prop}(hp:IsPat s0.heap p c items) (hc:patCode items=code.toArray) (ht:text.length≤1000) (hr:repl.length≤1000):
  ∀ (n:Nat) (ps:List (List Nat)) (l:List (Str × Tok)) (m done start:Nat) (must:Bool) (rest:List Nat) (k:Nat) (tk:Nat) (h:Heap),
  subAll (nextF code.toArray text.toArray) text repl n done start must=some rest→LpA s0 L ps l m h tk→ps.length+2*n≤10000 →
  (∀ s' t',SR b kp ρ W s'→Q (.str (mkS (ps.flatten++rest)) t') s') →
  codeAny (model b.prog b.w) A (.builtin "re.Pattern.sub.loop" ⟨[.ref p,.str (mkS text) u,.str (mkS repl) t,rawInt 0,rawInt 0,rawInt k,rawInt done,rawInt start,.bool must,.ref L,.bool false],[]⟩) (CallBack Q E) { s0 with heap:=h,toks:=tk }:=by
 intro z0;induction z0 with
 | zero=>
  intro ux uy uz uw ut uq u1x u2x u3x u4x e u6x u7x u8x;exact nn e
 | succ n ih0=>
  intro ps l m done start must rest k tk h e P h2 hq;refine codeAny_builtin entry_pat_loop ?_;rw[Around.under_plainId plain_pat_loop];show wpAny _ _ (Builtin.«re.Pattern.sub.loop» _) _ _ _;unfold Builtin.«re.Pattern.sub.loop»;have hp':IsPat h p c items:=hp.up P.k;refine wpAny_bind (whole hp' ?_);refine wpAny_bind ?_;refine wpAny_bind (wpAny_of_eq (a:=some (mkS repl)) rfl (wpAny_pure ?_));refine wpAny_bind ?_;show wpAny _ _ (reNextFound _ _ _) _ _ _;refine hc.symm ▸ ?_;have tsz:(mkS text).cps.size=len text:=by show text.toArray.size=_;rw[List.size_toArray,len_eq]
  rw[KJ] at e;have st:((start:Int)).toNat=start:=Int.toNat_natCast start;have dt:((done:Int)).toNat=done:=Int.toNat_natCast done;generalize hm0:(Sre.forSearch code.toArray text.toArray 0 start text.toArray.size must).runFor 4096=m0;have nf:nextF code.toArray text.toArray start must=(match m0.outcome with | some .matched=>some (some ⟨m0.start,m0.handed⟩) | some .failed=>some none | ux=>none):=by rw[← hm0];rfl
  rw[nf] at e;have go:∀ (Q':Option Sre.M→Shared→Prop) s',(match m0.outcome with | some .matched=>Q' (some m0) s' | some .failed=>Q' none s' | _=>False)→wpAny (model b.prog b.w) A.in1 (reRunToEnd (Sre.forSearch code.toArray (mkS text).cps 0 ((start:Int)).toNat (mkS text).cps.size must)) Q' E s':=fun Q' s' hh=>by
   refine run_end ?_ ?_
   ·show ((Sre.forSearch code.toArray text.toArray 0 start text.toArray.size must).runFor 4096).outcome.isSome=true;rw[hm0];split at hh
    ·rename_i z;rw[z];rfl
    ·rename_i z;rw[z];rfl
    ·exact hh.elim
   ·show match ((Sre.forSearch code.toArray text.toArray 0 start text.toArray.size must).runFor 4096).outcome with | some .matched=>Q' (some ((Sre.forSearch code.toArray text.toArray 0 start text.toArray.size must).runFor 4096)) s' | some .failed=>Q' none s' | _=>False
    rw[hm0];exact hh
  refine go _ _ ?_;rcases sub_out e with ⟨ho,e⟩ | ⟨ho,e⟩
  ·rw[ho];dsimp only;revert e;refine Bo ?_;intro r hs e;obtain rfl:=sI e;refine dt.symm ▸ ?_;have tail:∀ (ps':List (List Nat)) (l':List (Str × Tok)) (m':Nat) (h':Heap) (tk':Nat),LpA s0 L ps' l' m' h' tk'→ps'.length+2*n+1≤10000→ps'.flatten=ps.flatten++sliceL done m0.start text →
     wpAny (model b.prog b.w) A.in1 (do updateSeq L (·.push (.str (mkS repl) t));again (.builtin "re.Pattern.sub.loop" ⟨[.ref p,.str (mkS text) u,.str (mkS repl) t,rawInt 0,rawInt 0,rawInt (k+1),rawInt m0.handed,rawInt m0.handed,.bool (m0.handed==m0.start),.ref L,.bool false],[]⟩))
      (fun fin s'=>match fin with | .done f=>CallBack Q E (.ok f) s' | .again c'=>c'.quiet=true∧codeAny (model b.prog b.w) A c' (CallBack Q E) s') (fun e s'=>CallBack Q E (.error e) s') { s0 with heap:=h',toks:=tk' }:=fun ps' l' m' h' tk' P' h2' hfl=>by
    refine P'.step (Nat.le_refl _) hr (lT (lT (Nat.le_add_right _ _) (Nat.le_succ _)) h2') fun h'' P''=>?_;refine wpAny_pure ⟨plainId_quiet plain_pat_loop _,?_⟩;rw[beq_nat,show ((k:Int)+1)=((k+1:Nat):Int) from rfl];refine ih0 (ps'++[repl]) (l'++[(mkS repl,t)]) (m'+1) m0.handed m0.handed (Nat.beq m0.handed m0.start) r (k+1) tk' _ hs P'' ?_ ?_
    ·rw[List.length_append,List.length_singleton,Nat.add_right_comm];exact h2'
    ·intro s' t' R';have:=hq s' t' R';rw[List.flatten_append,hfl,show [repl].flatten=repl from List.append_nil repl,List.append_assoc,List.append_assoc];rw[List.append_assoc] at this;exact this
   by_cases hd:done<m0.start
   ·rw[if_pos hd];refine wpAny_bind ?_;show wpAny _ _ (mkStr ⟨(mkS text).cps.extract done m0.start⟩) _ _ _;rw[slice_arr];have sl:=lT (slice_len text done m0.start) ht;refine wpAny_mkStr ?_ (by show (sliceL done m0.start text).toArray.size≤2^24;rw[List.size_toArray];exact lT sl (nL rfl));refine P.step (Nat.le_succ _) sl (lT (Nat.le_add_right _ _) h2) fun h'' P''=>tail _ _ _ _ _ P'' ?_ ?_
    ·rw[List.length_append,List.length_singleton,Nat.add_right_comm ps.length];exact h2
    ·rw[List.flatten_append];exact congrArg _ (List.append_nil _)
   ·rw[if_neg hd];exact tail ps l m h tk P (Nat.le_of_succ_le h2) (by rw[slice_nil (Nat.le_of_not_lt hd),List.append_nil])
  ·rw[ho];dsimp only;obtain rfl:=sI e;have fin:∀ (ps':List (List Nat)) (l':List (Str × Tok)) (m':Nat) (h':Heap) (tk':Nat),LpA s0 L ps' l' m' h' tk'→ps'.length≤10000→ps'.flatten=ps.flatten++sliceL done (len text) text →
     wpAny (model b.prog b.w) A.in1 (do
      let joiner ← reSlice (mkS text).cps 0 0 0
      let text ← if ((← seqItems? (.ref L)).getD #[]).isEmpty then pure joiner
       else call (.builtin (if (0==0) then "str.join" else "bytes.join")) [joiner,.ref L]
      if false=true then ret (← holding [text] do newTuple [text,← mkInt k]) else ret text)
      (fun fin s'=>match fin with | .done f=>CallBack Q E (.ok f) s' | .again c'=>c'.quiet=true∧codeAny (model b.prog b.w) A c' (CallBack Q E) s') (fun e s'=>CallBack Q E (.error e) s') { s0 with heap:=h',toks:=tk' }:=fun ps' l' m' h' tk' P' h2' hfl=>by
    refine wpAny_bind ?_;show wpAny _ _ (mkStr ⟨(mkS text).cps.extract 0 0⟩) _ _ _;rw[slice_arr,slice_nil (Nat.le_refl 0)];refine wpAny_mkStr ?_ (by show (0:Nat)≤2^24;exact Nat.zero_le _);exact sub_fin (s0:=s0) (tk:=tk'+1) R P'.k P'.z P'.o P'.mp P'.p h2' (Nat.le_succ_of_le P'.tk) (fun s' t' R'=>by rw[hfl];exact hq s' t' R')
   show wpAny _ _ (if done<(mkS text).cps.size then _ else _) _ _ _;simp only[tsz];by_cases hd:done<len text
   ·rw[if_pos hd];refine wpAny_bind ?_;show wpAny _ _ (mkStr ⟨(mkS text).cps.extract done (len text)⟩) _ _ _;rw[slice_arr];have sl:=lT (slice_len text done (len text)) ht;refine wpAny_mkStr ?_ (by show (sliceL done (len text) text).toArray.size≤2^24;rw[List.size_toArray];exact lT sl (nL rfl));refine P.step (Nat.le_succ _) sl (lT (Nat.le_add_right _ _) h2) fun h'' P''=>fin _ _ _ _ _ P'' ?_ ?_
    ·rw[List.length_append,List.length_singleton];exact lT (Nat.add_le_add_left (Nat.le_add_left 1 (2*n+1)) _) h2
    ·rw[List.flatten_append];exact congrArg _ (List.append_nil _)
   ·rw[if_neg hd];exact fin ps l m h tk P (lT (Nat.le_add_right _ _) h2) (by rw[slice_nil (Nat.le_of_not_lt hd),List.append_nil])
end
theorem str_no_call:typeLookup (.type "str") (Str.ofString "__call__")=pure none:=by rw[typeLookup_type,builtinLookup_eq_fast];kernel_rfl
theorem named_sub (a b:Value):reNamed "re.Pattern.sub" "sub" ["repl","string","count"] 2 [a,b] []=pure [some a,some b,none]:=by rfl
section
variable {b:BS}{kp:Kp}{ρ:List Addr}{W:St}{s:Shared}{A:Around}{E:Value→Shared→Prop}
theorem no92 {repl:List Nat}(h:repl.any (Nat.beq 92)=false):(mkS repl).cps.contains 92=false:=by
 show repl.toArray.contains 92=false;rw[List.contains_toArray];rw[List.any_eq_false] at h;cases q:repl.contains 92 with
 | false=>rfl
 | true=>exact absurd (Nat.beq_refl 92) (h 92 (List.contains_iff_mem.mp q))
theorem pat_sub (R:SR b kp ρ W s) {p c:Addr}{items:Array Value}{code text repl out:List Nat}{t u:Tok}{Q:Value→Shared→Prop}(hp:IsPat s.heap p c items) (hc:patCode items=code.toArray)
  (e:reSub code repl text=some out) (hr:len repl≤1000) (ht:len text≤1000) (hq:∀ s' t',SR b kp ρ W s'→Q (.str (mkS out) t') s'):
  wpAny (model b.prog b.w) A (call (.builtin "re.Pattern.sub") [.ref p,.str (mkS repl) t,.str (mkS text) u]) Q E s:=by
 have hT:s.TypeIs (.ref p) "re.Pattern":=by obtain ⟨x0,x1,n,sl,d,cl,h1,h2⟩:=hp;exact ⟨_,h1,rfl⟩
 unfold reSub at e;cases h92:repl.any (Nat.beq 92) with
 | true=>rw[h92] at e;exact nn e
 | false=>
 rw[h92,cond_false] at e;rw[len_eq] at hr ht;refine wpAny_call (codeAny_call_builtin slot_pat_sub.plain entry_pat_sub (slot_pat_sub.check _ _ _ _ _ _ _ _ hT (args_pat_sub _ _ _) ?_));show wpAny _ _ (reSubstitute "re.Pattern.sub" "sub" false _) _ _ _;dsimp only;refine wpAny_bind (wpAny_of_eq (named_sub _ _) ?_);refine wpAny_bind (wpAny_of_eq (a:=(0:Int)) rfl ?_);refine wpAny_bind (wpAny_specialOf (typeIs_str _ _ _) str_no_call ?_);refine wpAny_bind (wpAny_of_eq (a:=some (mkS repl)) rfl ?_);refine wpAny_bind (m:=pure (!(mkS repl).cps.contains 92)) ?_;rw[no92 h92];refine wpAny_pure ?_;refine wpAny_bind (m:=pure (Value.str (mkS repl) t,0)) (wpAny_pure ?_);refine wpAny_bind (wpAny_holding (whole hp ?_));refine wpAny_bind (m:=newList []) (wpAny_newList ?_ (Nat.zero_le _));refine wpAny_pure ⟨plainId_quiet plain_pat_loop _,?_⟩;refine sub_loop (s0:=s) R hp hc ht hr (2*len text+3) [] [] 0 0 0 false out 0 s.toks _ e ⟨fun a o h=>Heap.get?_push_of_some _ h,Nat.le_refl _,?_,Heap.get?_push_size _ rfl,rfl,fun ux h=>(nomatch h),Nat.le_refl _⟩ ?_ hq
 ·rw[Heap.size_push];exact Nat.le_succ _
 ·rw[len_eq];show 0+_≤_;omega
theorem pat_ok {G:Sig}(hs:∀ a code repl text out,G.pat a=some code→G.sub code repl text=some out→len text≤1000→reSub code repl text=some out) (h:∀ a code,G.pat a=some code→∃ c items,IsPat b.hb a c items∧patCode items=code.toArray):PatOk b G:=fun a code hc kp ρ W s A E R=>by
 refine bC fun hN=>?_;refine Q22 (h a code hc) ?_;intro c items h1 h2;have h1':IsPat s.heap a c items:=h1.up fun a o e=>R.keep _ _ (R.base _ _ e);refine hN ?_;refine ⟨fun pl Q hq=>?_,fun repl text t u out Q hA e hr ht hq=>pat_sub R h1' h2 (hs a code repl text out hc e ht) hr ht hq⟩;obtain ⟨x0,x1,n,sl,d,cl,e1,e2⟩:=h1';exact getMethod_builtin ⟨_,e1,rfl⟩ pat_attrs slot_pat_sub type_pat_sub (fun a e=>by cases e;exact ⟨_,e1,rfl⟩) hq
end
end Mine
end
section
open PySem PySem.W PySem.Spec PySem.Calls PyProof.Rows
set_option genSizeOf false
set_option genInjectivity false
namespace Mine
mutual
noncomputable def inV (p:Nat→Bool):V→Bool
 | .ref l=>p l
 | .inst ux d=>p d
 | .tup vs=>inVs p vs
 | .clo ux uy cl=>cl.all fun q=>p q.2
 | .meth f self=>inV p f&&inV p self
 | .klst ux=>false
 | ux=>true
noncomputable def inVs (p:Nat→Bool):List V→Bool
 | []=>true
 | v::vs=>inV p v&&inVs p vs
end
mutual
noncomputable def renV (f:Nat→Nat):V→V
 | .ref l=>.ref (f l)
 | .inst c d=>.inst c (f d)
 | .tup vs=>.tup (renVs f vs)
 | .clo ps body cl=>.clo ps body (cl.map fun q=>(q.1,f q.2))
 | .meth x self=>.meth (renV f x) (renV f self)
 | v=>v
noncomputable def renVs (f:Nat→Nat):List V→List V
 | []=>[]
 | v::vs=>renV f v::renVs f vs
end
noncomputable def inD (p:Nat→Bool):List (Nat × V)→Bool
 | []=>true
 |(ux,v)::r=>inV p v&&inD p r
noncomputable def renD (f:Nat→Nat):List (Nat × V)→List (Nat × V)
 | []=>[]
 |(x,v)::r=>(x,renV f v)::renD f r
noncomputable def inO (p:Nat→Bool):O→Bool
 | .list vs=>inVs p vs
 | .cell (some v)=>inV p v
 | .ns m=>inD p m
 | .dict m=>inD p m
 | .lit l ux=>p l
 | .vit l ux=>p l
 | .cit v=>inV p v
 | ux=>true
noncomputable def renO (f:Nat→Nat):O→O
 | .list vs=>.list (renVs f vs)
 | .cell (some v)=>.cell (some (renV f v))
 | .ns m=>.ns (renD f m)
 | .dict m=>.dict (renD f m)
 | .lit l i=>.lit (f l) i
 | .vit l i=>.vit (f l) i
 | .cit v=>.cit (renV f v)
 | o=>o
theorem YM {p:Nat→Bool}{l}:inV p (.ref l)=p l:=rfl
theorem YN {p:Nat→Bool}{c d}:inV p (.inst c d)=p d:=rfl
theorem YO {p:Nat→Bool}{i}:inV p (.int i)=true:=rfl
theorem YP {p:Nat→Bool}{i}:inV p (.str i)=true:=rfl
theorem YQ {p:Nat→Bool}:inV p .none=true:=rfl
theorem YT {p:Nat→Bool}:inVs p []=true:=rfl
theorem YU {p:Nat→Bool}{v vs}:inVs p (v::vs)=(inV p v&&inVs p vs):=rfl
theorem YV {p:Nat→Bool}:inD p []=true:=rfl
theorem YW {p:Nat→Bool}{x v r}:inD p ((x,v)::r)=(inV p v&&inD p r):=rfl
theorem YZ {p:Nat→Bool}{m}:inO p (.dict m)=inD p m:=rfl
theorem Ya {f:Nat→Nat}{l}:renV f (.ref l)=.ref (f l):=rfl
theorem Yb {f:Nat→Nat}{c d}:renV f (.inst c d)=.inst c (f d):=rfl
theorem Yc {f:Nat→Nat}{i}:renV f (.int i)=.int i:=rfl
theorem Yd {f:Nat→Nat}{i}:renV f (.str i)=.str i:=rfl
theorem Ye {f:Nat→Nat}:renV f .none=.none:=rfl
theorem Yh {f:Nat→Nat}:renVs f []=[]:=rfl
theorem Yi {f:Nat→Nat}{v vs}:renVs f (v::vs)=renV f v::renVs f vs:=rfl
theorem Yj {f:Nat→Nat}:renD f []=[]:=rfl
theorem Yk {f:Nat→Nat}{x v r}:renD f ((x,v)::r)=(x,renV f v)::renD f r:=rfl
theorem Yn {f:Nat→Nat}{m}:renO f (.dict m)=.dict (renD f m):=rfl
theorem Yo {p:Nat→Bool}{a b cl}:inV p (.clo a b cl)=(cl.all fun q=>p q.2):=rfl
theorem Yp {f:Nat→Nat}{a b cl}:renV f (.clo a b cl)=.clo a b (cl.map fun q=>(q.1,f q.2)):=rfl
theorem Yq {p:Nat→Bool}{v}:inO p (.cell (some v))=inV p v:=rfl
theorem Yr {f:Nat→Nat}{v}:renO f (.cell (some v))=.cell (some (renV f v)):=rfl
noncomputable def Kept (ob:Obj):Prop:=ob.data=.plain∨(ob.cls=.type "tuple"∧∃ xs n,ob.data=.seq xs n)∨(∃ vs,ob.data=.fields vs∧(ob.cls=.type "range"∨ob.cls=.type "method"∨∃ q t,vs[1]?=some (.str q t)))∨∃ fd,ob.data=.func fd
noncomputable def isCit:O→Bool
 | .cit ux=>true
 | ux=>false
theorem kept_seq {ob:Obj}{xs:Array Value}{n:Nat}(e:ob.data=.seq xs n) (h:ob.cls≠.type "tuple"):¬ Kept ob:=by
 unfold Kept;rw[e];rintro (e | ⟨e,_⟩ | ⟨vs,e,_⟩ | ⟨fd,e⟩)
 ·exact Data.noConfusion e
 ·exact h e
 ·exact Data.noConfusion e
 ·exact Data.noConfusion e
theorem kept_fld {ob:Obj}{a:Value}{i:Int}{l:List Value}(e:ob.data=.fields (a::.int i 0::l).toArray) (h:(ob.cls==.type "range"||ob.cls==.type "method")=false):¬ Kept ob:=by
 unfold Kept;rw[e];rintro (e | ⟨_,xs,n,e⟩ | ⟨vs,e,e2⟩ | ⟨fd,e⟩)
 ·exact Data.noConfusion e
 ·exact Data.noConfusion e
 ·have:=Data.fields.inj e;subst this;rcases e2 with e2 | e2 | ⟨q,t,e2⟩
  ·rw[e2] at h;exact absurd h (by decide)
  ·rw[e2] at h;exact absurd h (by decide)
  ·exact Value.noConfusion (sI e2)
 ·exact Data.noConfusion e
theorem kept_oth {ob:Obj}(h:(match ob.data with | .plain=>true | .seq ux uy=>true | .fields ux=>true | .func ux=>true | ux=>false)=false):¬ Kept ob:=by
 rintro (e | ⟨_,xs,n,e⟩ | ⟨vs,e,_⟩ | ⟨fd,e⟩)<;>(rw[e] at h;exact ft h.symm)
theorem notKept {kp:Kp}{ρ:List Addr}{o:O}{ob:Obj}(h:OR kp ρ o ob) (ha:alive o=true) (hc:isCit o=false):¬ Kept ob:=by
 cases o with
 | list vs=>
  refine Q22 h ?_;rintro xs n rfl ux;exact kept_seq rfl (show Value.type "list"≠Value.type "tuple" by decide)
 | cell v=>
  refine Q12 h ?_;intro x e0 ux;exact kept_oth (by rw[e0])
 | ns m=>
  refine Q12 h ?_;rintro mm ⟨es,ep,e0,ux⟩ uy;exact kept_oth (by rw[e0])
 | dict m=>
  refine Q22 h ?_;rintro es n rfl ux;exact kept_oth rfl
 | lit l i=>
  refine Q13 h ?_;intro a ux e1 e0;exact kept_fld e0 (by rw[e1];decide)
 | vit l i=>
  refine Q13 h ?_;intro a ux e1 e0;exact kept_fld e0 (by rw[e1];decide)
 | sit s i=>
  refine Q12 h ?_;intro t e1 e0;exact kept_fld e0 (by rw[e1];decide)
 | rit a n c=>
  have h:ob=_:=h;subst h;exact kept_fld (a:=rawInt a) (i:=n) (l:=[rawInt c]) rfl (show (Value.type "range_iterator"==Value.type "range"||Value.type "range_iterator"==Value.type "method")=false by decide)
 | cit v=>exact ft hc.symm
 | junk=>exact ft ha
structure Tr (kp:Kp) (ρ:List Addr) (kp':Kp) (ρ':List Addr) (p:Nat→Bool) (f:Nat→Nat):Prop where
 kp:∀ a o,kp a=some o→Kept o→kp' a=some o
 rho:∀ l a,p l=true→nth ρ l=some a→nth ρ' (f l)=some a
section
variable {kp kp':Kp}{ρ ρ':List Addr}{p:Nat→Bool}{f:Nat→Nat}
theorem lkp_ren {i l:Nat}:∀ {cl:List (Nat × Nat)},lkp i (cl.map fun q=>(q.1,f q.2))=some l→(cl.all fun q=>p q.2)=true→∃ l0,lkp i cl=some l0∧l=f l0∧p l0=true
 | [],e,ux=>by exact nn e
 |(y,v)::r,e,h=>by
  rw[List.all_cons,Bool.and_eq_true] at h;simp only[List.map_cons,J0] at e ⊢;cases q:Nat.beq i y with
  | true=>rw[q] at e;obtain rfl:=sI e;exact ⟨v,rfl,rfl,h.1⟩
  | false=>rw[q] at e;exact lkp_ren e h.2
theorem CloOk.tr (T:Tr kp ρ kp' ρ' p f) {ps:List Nat}{body:List S}{cl:List (Nat × Nat)}{a:Addr}(h:CloOk kp ρ ps body cl a) (hi:(cl.all fun q=>p q.2)=true):CloOk kp' ρ' ps body (cl.map fun q=>(q.1,f q.2)) a:=by
 refine bC fun hN=>?_;obtain ⟨name,qual,params,fb,sc,clos,doc,pm,c',ctv,N,h1,⟨oc,vs,t,h2,h3,h3'⟩,h4,h4',h5,h6,h7,h8,h9,h10,h11,h12⟩:=h;refine hN ?_;refine ⟨name,qual,params,fb,sc,clos,doc,pm,c',ctv,N,T.kp _ _ h1 (.inr (.inr (.inr ⟨_,rfl⟩))),⟨oc,vs,t,T.kp _ _ h2 (.inr (.inr (.inl ⟨vs,h3,.inr (.inr ⟨_,_,h3'⟩)⟩))),h3,h3'⟩,h4,h4',h5,h6,h7,h8,h9,h10,h11,?_⟩;intro n i l e1 e2 e3;refine Q13 (lkp_ren e3 hi) ?_;rintro l0 e4 rfl e5;refine Q12 (h12 n i l0 e1 e2 e4) ?_;intro x e6 e7;exact ⟨x,T.rho _ _ e5 e6,e7⟩
theorem VR.tr (T:Tr kp ρ kp' ρ' p f) {v:V}{x:Value}(h:VR kp ρ v x):inV p v=true→VR kp' ρ' (renV f v) x:=
 VR.rec (motive_1:=fun v x ux=>inV p v=true→VR kp' ρ' (renV f v) x) (motive_2:=fun vs xs ux=>inVs p vs=true→VRs kp' ρ' (renVs f vs) xs) (fun ux=>.none) (fun b ux=>.bool b) (fun i t ux=>.int i t) (fun s t ux=>.str s t) (fun b ux=>.bi b) (fun a ux=>.st a) (fun h e=>.ref (T.rho _ _ e h)) (fun h1 h2 e=>.inst (T.rho _ _ e h1) (T.kp _ _ h2 (.inl rfl))) (fun h1 ux ih e=>.tup (T.kp _ _ h1 (.inr (.inl ⟨rfl,_,_,rfl⟩))) (ih e)) (fun h ux=>.range (T.kp _ _ h (.inr (.inr (.inl ⟨_,rfl,.inl rfl⟩))))) (fun h e=>.clo (h.tr T e)) (fun h1 ux uy i1 i2 e=>.meth (T.kp _ _ h1 (.inr (.inr (.inl ⟨_,rfl,.inr (.inl rfl)⟩)))) (i1 (al e)) (i2 (ar e))) (fun ux uy uz e=>ft e) (fun ux=>.nil) (fun ux uy i1 i2 e=>.cons (i1 (al e)) (i2 (ar e))) h
theorem VRs.tr (T:Tr kp ρ kp' ρ' p f) {v:List V}{x:List Value}(h:VRs kp ρ v x):inVs p v=true→VRs kp' ρ' (renVs f v) x:=
 VRs.ind (P:=fun vs xs=>inVs p vs=true→VRs kp' ρ' (renVs f vs) xs) (fun ux=>.nil) (fun ux uy uz uw a ut ih e=>.cons (a.tr T (al e)) (ih (ar e))) h
theorem lkp_renD {i:Nat}{v:V}:∀ {m:List (Nat × V)},lkp i (renD f m)=some v→inD p m=true→∃ v0,lkp i m=some v0∧v=renV f v0∧inV p v0=true
 | [],e,ux=>by exact nn e
 |(y,w)::r,e,h=>by
  have h1:=al h;have h2:=ar h;rw[Yk,J0] at e;rw[J0];cases q:Nat.beq i y with
  | true=>rw[q] at e;obtain rfl:=sI e;exact ⟨w,rfl,rfl,h1⟩
  | false=>rw[q] at e;exact lkp_renD e h2
theorem DR.tr (T:Tr kp ρ kp' ρ' p f) {m:List (Nat × V)}{es:List DictEntry}(h:DR kp ρ m es) (e:inD p m=true):DR kp' ρ' (renD f m) es:=by
 induction h with
 | nil=>exact .nil
 | cons h1 h2 ux ih=>exact .cons h1 (h2.tr T (al e)) (ih (ar e))
theorem OR.tr (T:Tr kp ρ kp' ρ' p f) {o:O}{ob:Obj}(h:OR kp ρ o ob) (i:inO p o=true):OR kp' ρ' (renO f o) ob:=by
 cases o with
 | list ux=>exact h.imp fun xs h=>h.imp fun n h=>⟨h.1,h.2.tr T i⟩
 | cell c=>cases c with
  | none=>exact h.imp fun x h=>⟨h.1,fun w q=>nn q⟩
  | some v=>exact h.imp fun x h=>⟨h.1,fun w q=>sI q ▸ (h.2 v rfl).imp fun y h=>⟨h.1,h.2.tr T i⟩⟩
 | ns ux=>exact h.imp fun mm h=>⟨h.1,fun n j v e1 e2=>by
   refine bC fun hN1=>?_;refine Q13 (lkp_renD e2 i) ?_;intro v0 a b c;refine hN1 ?_;exact (h.2 n j v0 e1 a).imp fun x h=>⟨h.1,b ▸ h.2.tr T c⟩⟩
 | dict ux=>exact h.imp fun xs h=>h.imp fun n h=>⟨h.1,h.2.tr T i⟩
 | lit ux uy=>exact h.imp fun a h=>⟨T.rho _ _ i h.1,h.2⟩
 | vit ux uy=>exact h.imp fun a h=>⟨T.rho _ _ i h.1,h.2⟩
 | sit ux uy=>exact h
 | rit ux uy uz=>exact h
 | cit ux=>exact h.imp fun x h=>h.imp fun t h=>⟨h.1.tr T i,h.2⟩
 | junk=>exact trivial
end
noncomputable def Un (ρ:List Addr) (W:St) (σ:List Nat) (a:Addr):Prop:=∃ i o,nth W i=some o∧alive o=true∧i ∉ σ∧nth ρ i=some a
open Classical in
noncomputable def addU (kp:Kp) (ρ:List Addr) (W:St) (σ:List Nat) (h:Heap):Kp:=fun a=>if Un ρ W σ a then h.get? a else kp a
open Classical in
noncomputable def subU (kp:Kp) (ρ:List Addr) (W:St) (σ:List Nat):Kp:=fun a=>if Un ρ W σ a then none else kp a
section
variable {b:BS}{kp kp':Kp}{ρ ρ':List Addr}{W:St}{s:Shared}{σ:List Nat}{h:Heap}
theorem addU_in {a:Addr}(e:Un ρ W σ a):addU kp ρ W σ h a=h.get? a:=if_pos e
theorem addU_out {a:Addr}(e:¬ Un ρ W σ a):addU kp ρ W σ h a=kp a:=if_neg e
theorem subU_in {a:Addr}(e:Un ρ W σ a):subU kp ρ W σ a=none:=if_pos e
theorem subU_out {a:Addr}(e:¬ Un ρ W σ a):subU kp ρ W σ a=kp a:=if_neg e
theorem SR.unKp (R:SR b kp ρ W s) {a:Addr}(e:Un ρ W σ a):kp a=none:=let ⟨i,o,h1,h2,_,h4⟩:=e;(R.off i o a h1 h2 h4).1
theorem SR.kpUn (R:SR b kp ρ W s) {a:Addr}{o:Obj}(e:kp a=some o):¬ Un ρ W σ a:=fun u=>by rw[R.unKp u] at e;exact nn e
theorem SR.leAdd (R:SR b kp ρ W s) {a:Addr}{o:Obj}(e:kp a=some o):addU kp ρ W σ s.heap a=some o:=by rw[addU_out (R.kpUn e)];exact e
structure Sel (W:St) (σ:List Nat) (p:Nat→Bool) (f:Nat→Nat) (W0:St):Prop where
 nd:σ.Nodup
 len:len W0=len σ
 obj:∀ j o0,nth W0 j=some o0→alive o0=true→∃ i o,nth σ j=some i∧nth W i=some o∧alive o=true∧inO p o=true∧o0=renO f o
 idx:∀ j i,nth σ j=some i→p i=true∧f i=j∧∃ o,nth W i=some o
 sel:∀ l,p l=true→nth σ (f l)=some l
noncomputable def rho0 (ρ:List Addr) (σ:List Nat):List Addr:=σ.map fun i=>(nth ρ i).getD 0
theorem nth_map {α β:Type}(g:α→β):∀ (l:List α) (i:Nat),nth (l.map g) i=(nth l i).map g
 | [],ux=>rfl
 | ux::uy,0=>rfl
 | ux::r,i+1=>nth_map g r i
theorem nth_rho0 {j i:Nat}{a:Addr}(h1:nth σ j=some i) (h2:nth ρ i=some a):nth (rho0 ρ σ) j=some a:=by
 unfold rho0;rw[nth_map,h1];show some ((nth ρ i).getD 0)=_;rw[h2];rfl
theorem SR.into {p:Nat→Bool}{f:Nat→Nat}{W0:St}(R:SR b kp ρ W s) (Z:Sel W σ p f W0):SR b (addU kp ρ W σ s.heap) (rho0 ρ σ) W0 s:=by
 have rh:∀ l a,p l=true→nth ρ l=some a→nth (rho0 ρ σ) (f l)=some a:=fun l a h1 h2=>nth_rho0 (Z.sel l h1) h2;have T:Tr (addU kp ρ W σ s.heap) ρ (addU kp ρ W σ s.heap) (rho0 ρ σ) p f:=⟨fun ux uy e uz=>e,rh⟩;have L:Le kp ρ (addU kp ρ W σ s.heap) ρ:=⟨fun a o e=>R.leAdd e,fun ux uy e=>e⟩;have key:∀ j o0,nth W0 j=some o0→alive o0=true→∃ i o a ob,nth σ j=some i∧nth W i=some o∧alive o=true∧nth ρ i=some a∧nth (rho0 ρ σ) j=some a∧s.heap.get? a=some ob∧OR (addU kp ρ W σ s.heap) (rho0 ρ σ) o0 ob:=fun j o0 h1 h2=>by
  refine bC fun hN1=>?_;refine Q25 (Z.obj j o0 h1 h2) ?_;rintro i o e1 e2 e3 e4 rfl;refine Q23 (R.rel i o e2 e3) ?_;intro a ob q1 q2 q3;refine hN1 ?_;exact ⟨i,o,a,ob,e1,e2,e3,q1,nth_rho0 e1 q1,q2,(q3.mono L).tr T e4⟩
 have notUn:∀ i o a,nth W i=some o→alive o=true→i∈σ→nth ρ i=some a→¬ Un ρ W σ a:=fun i o a h1 h2 h3 h4 ⟨i',o',q1,q2,q3,q4⟩=>by
  have:=R.apart i i' o o' h1 q1 h2 q2 (h4.trans q4.symm);subst this;exact q3 h3
 have memσ:∀ {j i:Nat},nth σ j=some i→i∈σ:=fun {j i} e=>by rw[nth_eq] at e;exact List.mem_of_getElem? e
 exact {
  len:=by unfold rho0;rw[len_eq,List.length_map,← len_eq,Z.len]
  keep:=fun a o e=>by
   by_cases u:Un ρ W σ a
   ·rw[addU_in u] at e;exact e
   ·rw[addU_out u] at e;exact R.keep a o e
  base:=fun a o e=>R.leAdd (R.base a o e)
  rel:=fun j o0 h1 h2=>by obtain ⟨ux,uy,a,ob,uz,uw,ut,uq,e⟩:=key j o0 h1 h2;exact ⟨a,ob,e⟩
  apart:=fun j j' o o' h1 h1' h2 h2' e=>by
   refine bC fun hN4=>?_;obtain ⟨i,o1,a,ob,e1,e2,e3,e4,e5,ux⟩:=key j o h1 h2;obtain ⟨i',o1',a',ob',e1',e2',e3',e4',e5',ux⟩:=key j' o' h1' h2';rw[e5,e5'] at e;obtain rfl:=sI e;have:=R.apart i i' o1 o1' e2 e2' e3 e3' (e4.trans e4'.symm);subst this;refine hN4 ?_;rw[← (Z.idx j i e1).2.1,← (Z.idx j' i e1').2.1]
  off:=fun j o0 a h1 h2 h3=>by
   refine bC fun hN5=>?_;obtain ⟨i,o1,a',ob,e1,e2,e3,e4,e5,ux⟩:=key j o0 h1 h2;rw[h3] at e5;obtain rfl:=sI e5;refine Q02 (R.off i o1 a e2 e3 e4) ?_;intro q1 q2;refine hN5 ?_;exact ⟨by rw[addU_out (notUn i o1 a e2 e3 (memσ e1) e4)];exact q1,q2⟩
  lo:=fun j a e=>by
   cases q:nth σ j with
   | none=>unfold rho0 at e;rw[nth_map,q] at e;exact nn e
   | some i=>
    obtain ⟨ux,uy,o,ho⟩:=Z.idx j i q;have hl:i<Mine.len ρ:=by rw[R.len];exact nth_lt ho
    refine Q11 (nth_some hl) ?_;intro a' ha;rw[nth_rho0 q ha] at e;obtain rfl:=sI e;exact R.lo i _ ha
  kptab:=fun q hq=>by
   rw[addU_out]
   ·exact R.kptab q hq
   ·rintro ⟨i,o,q1,q2,q3,q4⟩;exact (R.off i o _ q1 q2 q4).2 q hq rfl
  tab:=fun q hq=>(R.tab q hq).mono (fun a o e=>R.leAdd e) (fun ux e=>e)
  os:=R.os
  gens:=R.gens
  sz:=R.sz
  tk:=R.tk }
structure Ret (W:St) (σ:List Nat) (W0' W':St) (new:List Nat) (p':Nat→Bool) (f':Nat→Nat):Prop where
 len:len W'=len W+len new
 f1:∀ j,p' j=true→nth σ j=some (f' j)∨∃ k,nth new k=some j∧f' j=Mine.len W+k
 newR:∀ k j,nth new k=some j→j<Mine.len W0'
 obj:∀ i o',nth W' i=some o'→alive o'=true→(nth W i=some o'∧i ∉ σ)∨∃ j o0,f' j=i∧p' j=true∧nth W0' j=some o0∧alive o0=true∧inO p' o0=true∧o'=renO f' o0
 cit:∀ i o,nth W i=some o→alive o=true→i ∉ σ→isCit o=false
theorem SR.unObj (R:SR b kp ρ W s) {a:Addr}(u:Un ρ W σ a):∃ ob i o,s.heap.get? a=some ob∧nth W i=some o∧alive o=true∧i ∉ σ∧OR kp ρ o ob:=by
 refine bC fun hN=>?_;refine Q24 u ?_;intro i o h1 h2 h3 h4;refine Q23 (R.rel i o h1 h2) ?_;intro a' ob q1 q2 q3;rw[h4] at q1;rw[← sI q1] at q2;refine hN ?_;exact ⟨ob,i,o,q2,h1,h2,h3,q3⟩
theorem SR.outK {kp2:Kp}{ρ2 ρ0':List Addr}{p p':Nat→Bool}{f f':Nat→Nat}{W0 W0' W':St}{new:List Nat}{s':Shared}(R:SR b kp ρ W s) (R':SR b kp' ρ0' W0' s') (Y:Ret W σ W0' W' new p' f') (un:∀ a ob,Un ρ W σ a→s.heap.get? a=some ob→kp' a=some ob)
  (L1:Le kp ρ kp2 ρ2) (T:Tr kp' ρ0' kp2 ρ2 p' f') (ln:Mine.len ρ2=Mine.len W') (i2:∀ a,Un ρ W σ a→kp2 a=none) (o2:∀ a,¬ Un ρ W σ a→kp2 a=kp' a) (lo:∀ i a,nth ρ2 i=some a→b.hb.objs.size≤a):SR b kp2 ρ2 W' s':=by
 have unk:∀ a,Un ρ W σ a→kp' a=none→False:=fun a u e=>by
  refine Q32 (R.unObj u) ?_;intro ob ux uy q uz;rw[un a ob u q] at e;exact nn e.symm
 have key:∀ i o',nth W' i=some o'→alive o'=true→∃ a ob,nth ρ2 i=some a∧(s'.heap.get? a=some ob∧OR kp2 ρ2 o' ob)∧(kp2 a=none∧∀ q∈b.tabs,a≠q.2) ∧
   ((nth W i=some o'∧nth ρ i=some a∧Un ρ W σ a)∨∃ j o0,f' j=i∧nth W0' j=some o0∧alive o0=true∧nth ρ0' j=some a∧kp' a=none):=fun i o' h1 h2=>by
  refine bC fun hN2=>?_;rcases Y.obj i o' h1 h2 with ⟨h3,h4⟩ | ⟨j,o0,h3,h4,h5,h6,h7,h8⟩
  ·refine Q23 (R.rel i o' h3 h2) ?_;intro a ob q1 q2 q3;have u:Un ρ W σ a:=⟨i,o',h3,h2,h4,q1⟩;refine hN2 ?_;exact ⟨a,ob,L1.rho _ _ q1,⟨R'.keep _ _ (un a ob u q2),q3.mono L1⟩,⟨i2 a u,(R.off i o' a h3 h2 q1).2⟩,.inl ⟨h3,q1,u⟩⟩
  ·refine Q23 (R'.rel j o0 h5 h6) ?_;intro a ob q1 q2 q3;refine Q02 (R'.off j o0 a h5 h6 q1) ?_;intro q4 q5;refine hN2 ?_;exact ⟨a,ob,h3 ▸ T.rho j a h4 q1,⟨q2,h8 ▸ q3.tr T h7⟩,⟨(o2 a fun u=>unk a u q4).trans q4,q5⟩,.inr ⟨j,o0,h3,h5,h6,q1,q4⟩⟩
 exact {
  len:=ln
  keep:=fun a o e=>by
   by_cases u:Un ρ W σ a
   ·rw[i2 a u] at e;exact nn e
   ·rw[o2 a u] at e;exact R'.keep a o e
  base:=fun a o e=>L1.kp _ _ (R.base a o e)
  rel:=fun i o' h1 h2=>(key i o' h1 h2).imp fun ux z=>z.imp fun ux z=>⟨z.1,z.2.1⟩
  apart:=fun i i' o o' h1 h1' h2 h2' e=>by
   refine Q24 (key i o h1 h2) ?_;intro a ux e1 uy uz e2;refine Q24 (key i' o' h1' h2') ?_;intro a' ux e1' uy uz e2';rw[e1,e1'] at e;have e:=sI e;clear e1 e1' key;subst e;rcases e2 with ⟨q1,q2,q3⟩ | ⟨j,o0,q1,q2,q3,q4,q5⟩<;>rcases e2' with ⟨q1',q2',q3'⟩ | ⟨j',o0',q1',q2',q3',q4',q5'⟩
   ·exact R.apart i i' o o' q1 q1' h2 h2' (q2.trans q2'.symm)
   ·exact (unk _ q3 q5').elim
   ·exact (unk _ q3' q5).elim
   ·rw[← q1,← q1',R'.apart j j' o0 o0' q2 q2' q3 q3' (q4.trans q4'.symm)]
  off:=fun i o' a h1 h2 h3=>by
   refine bC fun hN7=>?_;refine Q24 (key i o' h1 h2) ?_;intro a' ux e1 uy e5 uz;rw[h3] at e1;refine hN7 ?_;rw[sI e1];exact e5
  lo:=lo
  kptab:=fun q hq=>by
   by_cases u:Un ρ W σ q.2
   ·exact i2 _ u
   ·rw[o2 _ u];exact R'.kptab q hq
  tab:=fun q hq=>(R'.tab q hq).imp fun ps z=>⟨z.1,z.2.1,fun pos cv e=>(z.2.2 pos cv e).imp fun c' z=>z.imp fun oc z=>z.imp fun vs z=>z.imp fun t z=>⟨z.1,T.kp _ _ z.2.1 (.inr (.inr (.inl ⟨vs,z.2.2.1,.inr (.inr ⟨_,_,z.2.2.2⟩)⟩))),z.2.2⟩⟩
  os:=R'.os
  gens:=R'.gens
  sz:=R'.sz
  tk:=R'.tk }
theorem SR.out {p p':Nat→Bool}{f f':Nat→Nat}{W0 W0' W':St}{new:List Nat}{ρ0':List Addr}{s':Shared}(R:SR b kp ρ W s) (Z:Sel W σ p f W0) (R':SR b kp' ρ0' W0' s') (L:Le (addU kp ρ W σ s.heap) (rho0 ρ σ) kp' ρ0') (Y:Ret W σ W0' W' new p' f'):
  SR b (subU kp' ρ W σ) (ρ++rho0 ρ0' new) W' s'∧Le kp ρ (subU kp' ρ W σ) (ρ++rho0 ρ0' new)∧Tr kp' ρ0' (subU kp' ρ W σ) (ρ++rho0 ρ0' new) p' f':=by
 have L1:Le kp ρ (subU kp' ρ W σ) (ρ++rho0 ρ0' new):=⟨fun a o e=>by
  rw[subU_out (R.kpUn e)];exact L.kp _ _ (R.leAdd e),fun i a e=>nth_app_lt _ e⟩
 have un:∀ a ob,Un ρ W σ a→s.heap.get? a=some ob→kp' a=some ob:=fun a ob u e=>L.kp _ _ (by rw[addU_in u];exact e);have nk:∀ a o,kp' a=some o→Kept o→¬ Un ρ W σ a:=fun a o e k u=>by
  obtain ⟨ob,i,o1,q2,h1,h2,h3,q3⟩:=R.unObj u;rw[un a ob u q2] at e;rw[← sI e] at k;exact notKept q3 h2 (Y.cit i o1 h1 h2 h3) k
 have rr:∀ l a,p' l=true→nth ρ0' l=some a→nth (ρ++rho0 ρ0' new) (f' l)=some a:=fun l a h1 h2=>by
  rcases Y.f1 l h1 with h | ⟨k,h3,h4⟩
  ·obtain ⟨ux,uy,o,ho⟩:=Z.idx _ _ h;have hl:f' l<Mine.len ρ:=by rw[R.len];exact nth_lt ho
   refine Q11 (nth_some hl) ?_;intro a' ha;have:=L.rho _ _ (nth_rho0 h ha);rw[h2] at this;rw[sI this];exact nth_app_lt _ ha
  ·rw[h4,← R.len,nth_app_add];exact nth_rho0 h3 h2
 have T:Tr kp' ρ0' (subU kp' ρ W σ) (ρ++rho0 ρ0' new) p' f':=⟨fun a o e k=>by rw[subU_out (nk a o e k)];exact e,rr⟩;refine ⟨R.outK (p:=p) (f:=f) (W0:=W0) R' Y un L1 T ?_ (fun ux u=>subU_in u) (fun ux u=>subU_out u) fun i a e=>?_,L1,T⟩
 ·rw[len_app,Y.len,R.len]
  congr 1
  unfold rho0;rw[len_eq,List.length_map,← len_eq]
 ·refine bC fun hN7=>?_;rcases nth_app_inv e with e | ⟨k,ux,e⟩
  ·refine hN7 ?_;exact R.lo i a e
  ·cases q:nth new k with
   | none=>unfold rho0 at e;rw[nth_map,q] at e;exact nn e
   | some j=>
    have hj:=Y.newR k j q;rw[← R'.len] at hj;refine Q11 (nth_some hj) ?_;intro a' ha;rw[nth_rho0 q ha] at e;refine hN7 ?_;rw[← sI e];exact R'.lo j _ ha
theorem Sound.carry {m:Nat}{r:Ops}{p p':Nat→Bool}{f f':Nat→Nat}{W0 W0' W':St}{new:List Nat}{fv v0:V}{vs:List V}{fx:Value}{xs:List Value}{A:Around}{Q E:Value→Shared→Prop}
  (S:Sound b m r) (hc:r.call (renV f fv) (renVs f vs) W0=some (v0,W0')) (hb:noB (renV f fv)=true) (Z:Sel W σ p f W0) (Y:Ret W σ W0' W' new p' f') (hfv:inV p fv=true) (hvs:inVs p vs=true) (hv:inV p' v0=true)
  (h1:VR kp ρ fv fx) (h2:VRs kp ρ vs xs) (hA:AOk m A) (R:SR b kp ρ W s) (h:Back b kp ρ W' (fun kp ρ y=>VR kp ρ (renV f' v0) y) Q):codeAny (model b.prog b.w) A (.call fx ⟨xs,[]⟩) (CallBack Q E) s:=by
 have L:Le kp ρ (addU kp ρ W σ s.heap) ρ:=⟨fun a o e=>R.leAdd e,fun ux uy e=>e⟩;have T:Tr (addU kp ρ W σ s.heap) ρ (addU kp ρ W σ s.heap) (rho0 ρ σ) p f:=⟨fun ux uy e uz=>e,fun l a h1 h2=>nth_rho0 (Z.sel l h1) h2⟩;refine S.callC hc hb ((h1.mono L).tr T hfv) ((VRs.mono L h2).tr T hvs) hA (R.into Z) ?_;intro kp' ρ' y s' L' R' hy;refine Q03 (R.out Z R' L' Y) ?_;intro R2 L2 T2;exact h _ _ y s' L2 R2 (hy.tr T2 hv)
end
end Mine
end
section
open PySem PySem.Sre
namespace Mine
section
noncomputable def C1:Array Nat:=#[14,4,0,1,1,6,1,16,46,1]
noncomputable abbrev at1 (T:Array Nat) (lim p pc pos handed:Nat) (om ma:Bool) (frames:List Sre.Frame) (weight:Nat) (ans:Option Bool) (seen:Seen) (oc:Option Sre.Outcome):Sre.M:=
 {code:=C1,text:=T,lim:=lim,start:=p,lastStart:=lim,wholeText:=false,mustAdvance:=ma,pc:=pc,pos:=pos,handed:=handed,outermost:=om,marks:=#[],lastmark:=-1,lastindex:=-1,loops:=#[],inner:=none,frames:=frames,weight:=weight,answer:=ans,seen:=seen,outcome:=oc }
noncomputable abbrev fs1 (p:Nat) (om:Bool):Sre.Frame:={ wait:=.nextStart,pc:=5,pos:=p,outermost:=om }
noncomputable abbrev St1 (T:Array Nat) (lim p:Nat) (om ma:Bool) (seen:Seen):Sre.M:=at1 T lim p 5 p p om ma [fs1 p om] 1 none seen none
variable {T:Array Nat}{lim p:Nat}{om ma:Bool}{seen:Seen}
theorem s1_at (h:(p==0||T.getD (p-1) 0==10)=true):(St1 T lim p om ma seen).step=at1 T lim p 7 p p om ma [fs1 p om] 1 none ((seen.add 6).add 44) none:=by
 show (if (p==0||T.getD (p-1) 0==10)=true then _ else _)=_;rw[if_pos h];rfl
theorem s1_no (h:(p==0||T.getD (p-1) 0==10)=false):(St1 T lim p om ma seen).step=at1 T lim p 5 p p om ma [fs1 p om] 1 (some false) ((seen.add 6).add 44) none:=by
 show (if (p==0||T.getD (p-1) 0==10)=true then _ else _)=_;rw[h,if_neg Bool.false_ne_true];rfl
theorem s1_lit_end (h:lim≤p):(at1 T lim p 7 p p om ma [fs1 p om] 1 none seen none).step=at1 T lim p 7 p p om ma [fs1 p om] 1 (some false) (seen.add 16) none:=by
 show (if lim≤p then _ else _)=_;rw[if_pos h];rfl
theorem s1_lit_no (h:¬ lim≤p) (h2:(T.getD p 0==46)=false):(at1 T lim p 7 p p om ma [fs1 p om] 1 none seen none).step=at1 T lim p 7 p p om ma [fs1 p om] 1 (some false) (seen.add 16) none:=by
 show (if lim≤p then _ else _)=_;rw[if_neg h];show (match (Except.ok (T.getD p 0==46,seen.add 16):Except String (Bool × Seen)) with | .error why=>_ | .ok (false,seen)=>_ | .ok (true,seen)=>_)=_
 rw[h2];rfl
theorem s1_lit_yes (h:¬ lim≤p) (h2:(T.getD p 0==46)=true):(at1 T lim p 7 p p om ma [fs1 p om] 1 none seen none).step=at1 T lim p 9 (p+1) p om ma [fs1 p om] 1 none (seen.add 16) none:=by
 show (if lim≤p then _ else _)=_;rw[if_neg h];show (match (Except.ok (T.getD p 0==46,seen.add 16):Except String (Bool × Seen)) with | .error why=>_ | .ok (false,seen)=>_ | .ok (true,seen)=>_)=_
 rw[h2];rfl
theorem s1_suc:(at1 T lim p 9 (p+1) p om ma [fs1 p om] 1 none seen none).step=at1 T lim p 9 (p+1) (p+1) om ma [fs1 p om] 1 (some true) (seen.add 1) none:=by
 show (if (om&&((false&&p+1 != lim)||(ma&&p+1==p)))=true then _ else _)=_;have:(p+1==p)=false:=beq_false_of_ne (by omega);rw[this,Bool.and_false,Bool.false_and,Bool.or_false,Bool.and_false,if_neg Bool.false_ne_true];rfl
theorem s1_next {pc hd:Nat}(h:p<lim):(at1 T lim p pc p hd om ma [fs1 p om] 1 (some false) seen none).step=St1 T lim (p+1) false false seen:=by
 show (if p<lim then _ else _)=_;rw[if_pos h];rfl
theorem s1_over {pc hd:Nat}(h:¬ p<lim):(at1 T lim p pc p hd om ma [fs1 p om] 1 (some false) seen none).step=at1 T lim p 5 p hd om ma [] 0 (some false) seen none:=by
 show (if p<lim then _ else _)=_;rw[if_neg h];rfl
theorem s1_fail {q hd:Nat}:(at1 T lim p 5 q hd om ma [] 0 (some false) seen none).step=at1 T lim p 5 q hd om ma [] 0 (some false) seen (some .failed):=rfl
theorem s1_yes {hd:Nat}:(at1 T lim p 9 (p+1) hd om ma [fs1 p om] 1 (some true) seen none).step.step=at1 T lim p 5 p hd om ma [] 0 (some true) seen (some .matched):=rfl
end
theorem runD {m:Sre.M}(h:m.outcome.isSome=true):∀ n,m.runFor n=m:=by
 intro z0;induction z0 with
 | zero=>
  exact rfl
 | succ n ih0=>
  exact if_pos h
theorem runS {m:Sre.M}{n:Nat}(h:m.outcome=none):m.runFor (n+1)=m.step.runFor n:=if_neg (by rw[h];exact Bool.false_ne_true)
noncomputable def Res (w:Nat) (o:Option Nat) (m:Sre.M):Prop:=match o with
 | some q=>m.outcome=some .matched∧m.start=q∧m.handed=q+w
 | none=>m.outcome=some .failed
theorem beqN2 (a b:Nat):(a==b)=Nat.beq a b:=by
 cases q:Nat.beq a b with
 | true=>rw[nE q];exact beq_self_eq_true b
 | false=>exact beq_false_of_ne (Nat.ne_of_beq_eq_false q)
theorem getDA (T:List Nat) (i:Nat):T.toArray.getD i 0=T.getD i 0:=by simp
theorem prev_cond (T:List Nat) (p:Nat):(p==0||T.toArray.getD (p-1) 0==10)=Nat.beq (prevAt T p) 10:=by
 cases p with
 | zero=>rfl
 | succ p=>
  rw[getDA,beqN2,beqN2];rfl
theorem drop_cons {T:List Nat}{p c:Nat}{r:List Nat}(h:T.drop p=c::r):p<T.length∧T.getD p 0=c∧T.drop (p+1)=r:=by
 have hp:p<T.length:=by
  rcases Nat.lt_or_ge p T.length with h1 | h1
  ·exact h1
  ·rw[List.drop_eq_nil_iff.mpr h1] at h;cases h
 rw[List.drop_eq_getElem_cons hp] at h;injection h with h1 h2
 exact ⟨hp,by rw[List.getD_eq_getElem?_getD,List.getElem?_eq_getElem hp,← h1];rfl,h2⟩
theorem q1C {prev p c:Nat}{r:List Nat}:q1 prev p (c::r)=(bif Nat.beq prev 10&&Nat.beq c 46 then some p else q1 c (p+1) r):=rfl
theorem run1 {T:List Nat}:∀ (l:List Nat) (p:Nat),T.drop p=l→p≤T.length→∀ (om ma:Bool) (seen:Seen) (F:Nat),4*l.length+8≤F→Res 1 (q1 (prevAt T p) p l) ((St1 T.toArray T.length p om ma seen).runFor F):=by
 intro z0;induction z0 with
 | nil=>
  intro p h hp om ma seen F hF;refine bC fun hN=>?_;have hp2:T.length≤p:=List.drop_eq_nil_iff.mp h;obtain ⟨F,rfl⟩:∃ G,F=G+5:=⟨F-5,by exact (Nat.sub_add_cancel (lq1 [_,_] (.k 5) (.v 0) (.a (.m 4 (.v 1)) (.k 8)) (.v 0) hF rfl)).symm⟩;cases hc:Nat.beq (prevAt T p) 10 with
  | true=>
   refine hN ?_;rw[runS rfl,s1_at (by rw[prev_cond];exact hc),runS rfl,s1_lit_end hp2,runS rfl,s1_over (by exact Nat.not_lt_of_le (lq1 [_,_] (.v 0) (.v 1) (.v 0) (.v 1) hp2 rfl)),runS rfl,s1_fail,runD rfl];rfl
  | false=>
   refine hN ?_;rw[runS rfl,s1_no (by rw[prev_cond];exact hc),runS rfl,s1_over (by exact Nat.not_lt_of_le (lq1 [_,_] (.v 0) (.v 1) (.v 0) (.v 1) hp2 rfl)),runS rfl,s1_fail,runD rfl];rfl
 | cons c r ih0=>
  intro p h hp om ma seen F hF;refine Q03 (drop_cons h) ?_;intro h1 h2 h3;rw[List.length_cons] at hF;obtain ⟨F,rfl⟩:∃ G,F=G+5:=⟨F-5,by exact (Nat.sub_add_cancel (lq1 [_,_] (.k 5) (.v 0) (.a (.m 4 (.a (.v 1) (.k 1))) (.k 8)) (.v 0) hF rfl)).symm⟩;have pv:prevAt T (p+1)=c:=h2;rw[q1C];cases hc:Nat.beq (prevAt T p) 10 with
  | true=>
   rw[runS rfl,s1_at (by rw[prev_cond];exact hc),runS rfl];cases h46:Nat.beq c 46 with
   | true=>
    rw[s1_lit_yes (by exact Nat.not_le_of_lt (lq1 [_,_] (.a (.v 0) (.k 1)) (.v 1) (.a (.v 0) (.k 1)) (.v 1) h1 rfl)) (by rw[getDA,h2,beqN2];exact h46),runS rfl,s1_suc,runS rfl,runS rfl,s1_yes,runD rfl];exact ⟨rfl,rfl,rfl⟩
   | false=>
    rw[s1_lit_no (by exact Nat.not_le_of_lt (lq1 [_,_] (.a (.v 0) (.k 1)) (.v 1) (.a (.v 0) (.k 1)) (.v 1) h1 rfl)) (by rw[getDA,h2,beqN2];exact h46),runS rfl,s1_next h1];have:=ih0 (p+1) h3 h1 false false ((((seen.add 6).add 44)).add 16) (F+2) (by exact lq1 [_,_] (.a (.m 4 (.v 0)) (.k 8)) (.a (.v 1) (.k 2)) (.a (.m 4 (.a (.v 0) (.k 1))) (.k 8)) (.a (.v 1) (.k 5)) hF rfl);rw[pv] at this;exact this
  | false=>
   rw[runS rfl,s1_no (by rw[prev_cond];exact hc),runS rfl,s1_next h1];have:=ih0 (p+1) h3 h1 false false ((seen.add 6).add 44) (F+3) (by exact lq1 [_,_] (.a (.m 4 (.v 0)) (.k 8)) (.a (.v 1) (.k 3)) (.a (.m 4 (.a (.v 0) (.k 1))) (.k 8)) (.a (.v 1) (.k 5)) hF rfl);rw[pv] at this;exact this
noncomputable def ocs (m:Sre.M):Option (Option Found):=match m.outcome with
 | some .matched=>some (some ⟨m.start,m.handed⟩)
 | some .failed=>some none
 | ux=>none
theorem res_next {w:Nat}{o:Option Nat}{m:Sre.M}(h:Res w o m):ocs m=some (fnd w o):=by
 unfold ocs;cases o with
 | none=>rw[show m.outcome=some .failed from h];rfl
 | some q=>
  refine Q03 h ?_;intro h1 h2 h3;rw[h1,h2,h3];rfl
theorem say_fail {m:Sre.M}(hf:m.frames=[]) (ho:m.outcome=none):(m.say false).runFor 4096={ (m.say false) with outcome:=some .failed }:=by
 rw[show (4096:Nat)=4095+1 from rfl,runS (m:=m.say false) ho];have:(m.say false).step={ (m.say false) with outcome:=some .failed }:=by
  obtain ⟨code,text,lim,start,lastStart,wt,ma,pc,pos,handed,om,marks,lm,li,loops,inner,frames,weight,answer,seen,oc⟩:=m;dsimp only at hf ho;subst hf ho;rfl
 rw[this,runD rfl]
theorem nextF1 {T:List Nat}{start:Nat}{must:Bool}(hl:T.length≤1000):nextF C1 T.toArray start must=some (find1 T start):=by
 show ocs ((Sre.forSearch C1 T.toArray 0 start T.toArray.size must).runFor 4096)=_;by_cases hs:T.length≤start
 ·have e:find1 T start=none:=by unfold find1;rw[List.drop_eq_nil_iff.mpr hs];rfl
  have:Sre.forSearch C1 T.toArray 0 start T.toArray.size must=(Sre.M.say { code:=C1,text:=T.toArray,lim:=T.length,start:=start,pc:=5,pos:=start,handed:=start,marks:=#[],mustAdvance:=must,seen:=({}:Seen).add 14 } false):=by
   rw[List.size_toArray];show (if (decide (start>T.length)||decide (T.length-start<1))=true then _ else _)=_;rw[if_pos (by simp;omega)];rfl
  rw[this,say_fail rfl rfl,e];rfl
 ·have:Sre.forSearch C1 T.toArray 0 start T.toArray.size must=St1 T.toArray T.length start true must (({}:Seen).add 14):=by
   rw[List.size_toArray];show (if (decide (start>T.length)||decide (T.length-start<1))=true then _ else _)=_;rw[if_neg (by simp;omega)];rfl
  rw[this];have:=run1 (T:=T) (T.drop start) start rfl (by exact lq1 [_,_] (.v 0) (.v 1) (.a (.v 0) (.k 1)) (.v 1) (Nat.lt_of_not_le hs) rfl) true must (({}:Seen).add 14) 4096 (by rw[List.length_drop];omega);rw[res_next this];rfl
section
noncomputable def C2:Array Nat:=#[14,9,4,1,2,16,10,16,13,0,7,7,16,13,16,10,15,18,5,16,10,15,13,11,16,13,5,5,0,16,10,1,15,2,0,1]
noncomputable abbrev at2 (T:Array Nat) (lim p pc pos handed:Nat) (om ma:Bool) (frames:List Sre.Frame) (weight:Nat) (ans:Option Bool) (seen:Seen) (oc:Option Sre.Outcome):Sre.M:=
 {code:=C2,text:=T,lim:=lim,start:=p,lastStart:=lim,wholeText:=false,mustAdvance:=ma,pc:=pc,pos:=pos,handed:=handed,outermost:=om,marks:=#[],lastmark:=-1,lastindex:=-1,loops:=#[],inner:=none,frames:=frames,weight:=weight,answer:=ans,seen:=seen,outcome:=oc }
noncomputable abbrev fs2 (p:Nat) (om:Bool):Sre.Frame:={ wait:=.nextStart,pc:=10,pos:=p,outermost:=om }
noncomputable abbrev kp2:Sre.Kept:={ lastmark:=-1,lastindex:=-1,whole:=false,marks:=#[] }
noncomputable abbrev br2 (p pc:Nat) (om:Bool):Sre.Frame:={ wait:=.nextBranch,pc:=pc,pos:=p,outermost:=om,kept:=kp2 }
noncomputable abbrev ln2 (p:Nat) (om:Bool):Sre.Frame:={ wait:=.lookNot,pc:=26,pos:=p,outermost:=om,kept:=kp2 }
noncomputable abbrev St2 (T:Array Nat) (lim p:Nat) (om ma:Bool) (seen:Seen):Sre.M:=at2 T lim p 10 p p om ma [fs2 p om] 1 none seen none
variable {T:Array Nat}{lim p:Nat}{om ma:Bool}{seen:Seen}
theorem s2_br:(St2 T lim p om ma seen).step=at2 T lim p 12 p p om ma [br2 p 11 om,fs2 p om] 2 none (seen.add 7) none:=rfl
theorem l12_no (h:¬ lim≤p) (h2:(T.getD (p) 0==13)=false):(at2 T lim p 12 (p) p om false [br2 p 11 om,fs2 p om] 2 none seen none).step=at2 T lim p 12 (p) p om false [br2 p 11 om,fs2 p om] 2 (some false) (seen.add 16) none:=by
 show (if lim≤p then _ else _)=_;rw[if_neg h];show (match (Except.ok (T.getD (p) 0==13,seen.add 16):Except String (Bool × Seen)) with | .error why=>_ | .ok (false,seen)=>_ | .ok (true,seen)=>_)=_
 rw[h2];rfl
theorem l12_yes (h:¬ lim≤p) (h2:(T.getD (p) 0==13)=true):(at2 T lim p 12 (p) p om false [br2 p 11 om,fs2 p om] 2 none seen none).step=at2 T lim p 14 (p+1) p om false [br2 p 11 om,fs2 p om] 2 none (seen.add 16) none:=by
 show (if lim≤p then _ else _)=_;rw[if_neg h];show (match (Except.ok (T.getD (p) 0==13,seen.add 16):Except String (Bool × Seen)) with | .error why=>_ | .ok (false,seen)=>_ | .ok (true,seen)=>_)=_
 rw[h2];rfl
theorem l14_end (h:lim≤p+1):(at2 T lim p 14 (p+1) p om false [br2 p 11 om,fs2 p om] 2 none seen none).step=at2 T lim p 14 (p+1) p om false [br2 p 11 om,fs2 p om] 2 (some false) (seen.add 16) none:=by
 show (if lim≤p+1 then _ else _)=_;rw[if_pos h];rfl
theorem l14_no (h:¬ lim≤p+1) (h2:(T.getD (p+1) 0==10)=false):(at2 T lim p 14 (p+1) p om false [br2 p 11 om,fs2 p om] 2 none seen none).step=at2 T lim p 14 (p+1) p om false [br2 p 11 om,fs2 p om] 2 (some false) (seen.add 16) none:=by
 show (if lim≤p+1 then _ else _)=_;rw[if_neg h];show (match (Except.ok (T.getD (p+1) 0==10,seen.add 16):Except String (Bool × Seen)) with | .error why=>_ | .ok (false,seen)=>_ | .ok (true,seen)=>_)=_
 rw[h2];rfl
theorem l14_yes (h:¬ lim≤p+1) (h2:(T.getD (p+1) 0==10)=true):(at2 T lim p 14 (p+1) p om false [br2 p 11 om,fs2 p om] 2 none seen none).step=at2 T lim p 16 (p+1+1) p om false [br2 p 11 om,fs2 p om] 2 none (seen.add 16) none:=by
 show (if lim≤p+1 then _ else _)=_;rw[if_neg h];show (match (Except.ok (T.getD (p+1) 0==10,seen.add 16):Except String (Bool × Seen)) with | .error why=>_ | .ok (false,seen)=>_ | .ok (true,seen)=>_)=_
 rw[h2];rfl
theorem l19_no (h:¬ lim≤p) (h2:(T.getD (p) 0==10)=false):(at2 T lim p 19 (p) p om false [br2 p 18 om,fs2 p om] 2 none seen none).step=at2 T lim p 19 (p) p om false [br2 p 18 om,fs2 p om] 2 (some false) (seen.add 16) none:=by
 show (if lim≤p then _ else _)=_;rw[if_neg h];show (match (Except.ok (T.getD (p) 0==10,seen.add 16):Except String (Bool × Seen)) with | .error why=>_ | .ok (false,seen)=>_ | .ok (true,seen)=>_)=_
 rw[h2];rfl
theorem l19_yes (h:¬ lim≤p) (h2:(T.getD (p) 0==10)=true):(at2 T lim p 19 (p) p om false [br2 p 18 om,fs2 p om] 2 none seen none).step=at2 T lim p 21 (p+1) p om false [br2 p 18 om,fs2 p om] 2 none (seen.add 16) none:=by
 show (if lim≤p then _ else _)=_;rw[if_neg h];show (match (Except.ok (T.getD (p) 0==10,seen.add 16):Except String (Bool × Seen)) with | .error why=>_ | .ok (false,seen)=>_ | .ok (true,seen)=>_)=_
 rw[h2];rfl
theorem l24_yes (h:¬ lim≤p) (h2:(T.getD (p) 0==13)=true):(at2 T lim p 24 (p) p om false [br2 p 23 om,fs2 p om] 2 none seen none).step=at2 T lim p 26 (p+1) p om false [br2 p 23 om,fs2 p om] 2 none (seen.add 16) none:=by
 show (if lim≤p then _ else _)=_;rw[if_neg h];show (match (Except.ok (T.getD (p) 0==13,seen.add 16):Except String (Bool × Seen)) with | .error why=>_ | .ok (false,seen)=>_ | .ok (true,seen)=>_)=_
 rw[h2];rfl
theorem l29_end (h:lim≤p+1):(at2 T lim p 29 (p+1) (p+1) false false [ln2 (p+1) om,br2 p 23 om,fs2 p om] 3 none seen none).step=at2 T lim p 29 (p+1) (p+1) false false [ln2 (p+1) om,br2 p 23 om,fs2 p om] 3 (some false) (seen.add 16) none:=by
 show (if lim≤p+1 then _ else _)=_;rw[if_pos h];rfl
theorem l29_no (h:¬ lim≤p+1) (h2:(T.getD (p+1) 0==10)=false):(at2 T lim p 29 (p+1) (p+1) false false [ln2 (p+1) om,br2 p 23 om,fs2 p om] 3 none seen none).step=at2 T lim p 29 (p+1) (p+1) false false [ln2 (p+1) om,br2 p 23 om,fs2 p om] 3 (some false) (seen.add 16) none:=by
 show (if lim≤p+1 then _ else _)=_;rw[if_neg h];show (match (Except.ok (T.getD (p+1) 0==10,seen.add 16):Except String (Bool × Seen)) with | .error why=>_ | .ok (false,seen)=>_ | .ok (true,seen)=>_)=_
 rw[h2];rfl
theorem alt12:(at2 T lim p 12 p p om false [br2 p 11 om,fs2 p om] 2 (some false) seen none).step=at2 T lim p 19 p p om false [br2 p 18 om,fs2 p om] 2 none seen none:=rfl
theorem alt14:(at2 T lim p 14 (p+1) p om false [br2 p 11 om,fs2 p om] 2 (some false) seen none).step=at2 T lim p 19 p p om false [br2 p 18 om,fs2 p om] 2 none seen none:=rfl
theorem alt19:(at2 T lim p 19 p p om false [br2 p 18 om,fs2 p om] 2 (some false) seen none).step=at2 T lim p 24 p p om false [br2 p 23 om,fs2 p om] 2 none seen none:=rfl
theorem nota:(at2 T lim p 26 (p+1) p om false [br2 p 23 om,fs2 p om] 2 none seen none).step=at2 T lim p 29 (p+1) (p+1) false false [ln2 (p+1) om,br2 p 23 om,fs2 p om] 3 none (seen.add 5) none:=rfl
theorem notb:(at2 T lim p 29 (p+1) (p+1) false false [ln2 (p+1) om,br2 p 23 om,fs2 p om] 3 (some false) seen none).step=at2 T lim p 32 (p+1) (p+1) om false [br2 p 23 om,fs2 p om] 2 none seen none:=rfl
theorem jmp16:(at2 T lim p 16 (p+1+1) p om false [br2 p 11 om,fs2 p om] 2 none seen none).step=at2 T lim p 35 (p+1+1) p om false [br2 p 11 om,fs2 p om] 2 none (seen.add 15) none:=rfl
theorem jmp21:(at2 T lim p 21 (p+1) p om false [br2 p 18 om,fs2 p om] 2 none seen none).step=at2 T lim p 35 (p+1) p om false [br2 p 18 om,fs2 p om] 2 none (seen.add 15) none:=rfl
theorem jmp32:(at2 T lim p 32 (p+1) (p+1) om false [br2 p 23 om,fs2 p om] 2 none seen none).step=at2 T lim p 35 (p+1) (p+1) om false [br2 p 23 om,fs2 p om] 2 none (seen.add 15) none:=rfl
theorem suc1:(at2 T lim p 35 (p+1+1) p om false [br2 p 11 om,fs2 p om] 2 none seen none).step=at2 T lim p 35 (p+1+1) (p+1+1) om false [br2 p 11 om,fs2 p om] 2 (some true) (seen.add 1) none:=by
 show (if (om&&((false&&(p+1+1) != lim)||(false&&(p+1+1)==p)))=true then _ else _)=_;rw[Bool.false_and,Bool.false_and,Bool.or_false,Bool.and_false,if_neg Bool.false_ne_true];rfl
theorem fin1:(at2 T lim p 35 (p+1+1) (p+1+1) om false [br2 p 11 om,fs2 p om] 2 (some true) seen none).step.step.step=at2 T lim p 10 p (p+1+1) om false [] 0 (some true) seen (some .matched):=rfl
theorem suc2:(at2 T lim p 35 (p+1) p om false [br2 p 18 om,fs2 p om] 2 none seen none).step=at2 T lim p 35 (p+1) (p+1) om false [br2 p 18 om,fs2 p om] 2 (some true) (seen.add 1) none:=by
 show (if (om&&((false&&(p+1) != lim)||(false&&(p+1)==p)))=true then _ else _)=_;rw[Bool.false_and,Bool.false_and,Bool.or_false,Bool.and_false,if_neg Bool.false_ne_true];rfl
theorem fin2:(at2 T lim p 35 (p+1) (p+1) om false [br2 p 18 om,fs2 p om] 2 (some true) seen none).step.step.step=at2 T lim p 10 p (p+1) om false [] 0 (some true) seen (some .matched):=rfl
theorem suc3:(at2 T lim p 35 (p+1) (p+1) om false [br2 p 23 om,fs2 p om] 2 none seen none).step=at2 T lim p 35 (p+1) (p+1) om false [br2 p 23 om,fs2 p om] 2 (some true) (seen.add 1) none:=by
 show (if (om&&((false&&(p+1) != lim)||(false&&(p+1)==p)))=true then _ else _)=_;rw[Bool.false_and,Bool.false_and,Bool.or_false,Bool.and_false,if_neg Bool.false_ne_true];rfl
theorem fin3:(at2 T lim p 35 (p+1) (p+1) om false [br2 p 23 om,fs2 p om] 2 (some true) seen none).step.step.step=at2 T lim p 10 p (p+1) om false [] 0 (some true) seen (some .matched):=rfl
end
theorem inset2 (c:Nat) (seen:Seen):Sre.inSet C2 c C2.size 5 true seen=.ok (Nat.beq c 10||Nat.beq c 13,bif Nat.beq c 10 then seen.add 16 else bif Nat.beq c 13 then (seen.add 16).add 16 else ((seen.add 16).add 16).add 0):=by
 show (if (c==10)=true then Except.ok (true,seen.add 16) else if (c==13)=true then Except.ok (true,(seen.add 16).add 16) else Except.ok (!true,((seen.add 16).add 16).add 0))=_;rw[beqN2,beqN2];cases Nat.beq c 10 with
 | true=>rfl
 | false=>cases Nat.beq c 13<;>rfl
theorem adm {T:List Nat}{m:Sre.M}(hc:m.code=C2) (ht:m.text=T.toArray) (hl:m.lim=T.length):∀ (l:List Nat) (p:Nat),T.drop p=l→p≤T.length→∀ (fuel:Nat) (seen:Seen),l.length<fuel→∃ seen',Sre.M.admitted m fuel p seen=.ok ((q2 p l).map (·.1),seen'):=by
 intro z0;induction z0 with
 | nil=>
  intro p h hp fuel seen hf;obtain ⟨fuel,rfl⟩:∃ g,fuel=g+1:=⟨fuel-1,by exact (Nat.sub_add_cancel (lq1 [_,_] (.k 1) (.v 0) (.a (.v 1) (.k 1)) (.v 0) hf rfl)).symm⟩;have hp2:T.length≤p:=List.drop_eq_nil_iff.mp h;exact ⟨seen,if_pos (show m.lim≤p by rw[hl];exact hp2)⟩
 | cons c r ih0=>
  intro p h hp fuel seen hf;obtain ⟨fuel,rfl⟩:∃ g,fuel=g+1:=⟨fuel-1,by exact (Nat.sub_add_cancel (lq1 [_,_] (.k 1) (.v 0) (.a (.v 1) (.k 1)) (.v 0) hf rfl)).symm⟩;refine Q03 (drop_cons h) ?_;intro h1 h2 h3;simp only[List.length_cons] at hf;have e0:Sre.M.admitted m (fuel+1) p seen=_:=if_neg (show ¬ m.lim≤p by rw[hl];exact Nat.not_le_of_lt (lq1 [_,_] (.a (.v 0) (.k 1)) (.v 1) (.a (.v 0) (.k 1)) (.v 1) h1 rfl));rw[e0,hc,ht,getDA,h2,inset2];dsimp only[Km,Kn];cases z:Nat.beq c 10 with
  | true=>exact ⟨_,rfl⟩
  | false=>
   cases z2:Nat.beq c 13 with
   | true=>exact ⟨_,rfl⟩
   | false=>
    refine Q11 (ih0 (p+1) h3 h1 fuel (((seen.add 16).add 16).add 0) (Nat.le_of_succ_le_succ ‹_›)) ?_;intro s' e;exact ⟨s',e⟩
theorem q2_at:∀ {l:List Nat}{p q w:Nat},q2 p l=some (q,w)→∃ c r,l.drop (q-p)=c::r∧p≤q∧((c=10∧w=1)∨(c=13∧w=w2 r))
 | [],ux,uy,uz,h=>by exact nn h
 | c::r,p,q,w,h=>by
  refine bC fun hN=>?_;rw[Kn] at h;cases z:Nat.beq c 10 with
  | true=>rw[z,cond_true] at h;refine Q02 (pj h) ?_;rintro rfl rfl;refine hN ?_;exact ⟨c,r,by simp,Nat.le_refl _,.inl ⟨nE z,rfl⟩⟩
  | false=>
   rw[z,cond_false] at h;cases z2:Nat.beq c 13 with
   | true=>rw[z2,cond_true] at h;refine Q02 (pj h) ?_;rintro rfl rfl;refine hN ?_;exact ⟨c,r,by simp,Nat.le_refl _,.inr ⟨nE z2,rfl⟩⟩
   | false=>
    rw[z2,cond_false] at h;refine Q23 (q2_at h) ?_;intro c' r' h1 h2 h3;refine hN ?_;refine ⟨c',r',?_,by exact lq1 [_,_] (.v 0) (.v 1) (.a (.v 0) (.k 1)) (.v 1) h2 rfl,h3⟩;simp only[show q-p=(q-(p+1))+1 by exact eq2 [_,_,_,_] (.v 0) (.a (.v 1) (.k 1)) (.a (.v 0) (.v 2)) (.v 3) (.v 3) (.a (.v 1) (.a (.v 2) (.k 1))) (Nat.sub_add_cancel (lq1 [_,_] (.v 0) (.v 1) (.a (.v 0) (.k 1)) (.v 1) h2 rfl)) (Nat.sub_add_cancel (lq1 [_,_] (.a (.v 0) (.k 1)) (.v 1) (.a (.v 0) (.k 1)) (.v 1) h2 rfl)).symm rfl rfl,List.drop_succ_cons];exact h1
theorem run2 {T:List Nat}{q c:Nat}{r:List Nat}{w:Nat}(h:T.drop q=c::r) (hw:(c=10∧w=1)∨(c=13∧w=w2 r)) (seen:Seen) (F:Nat) (hF:20≤F):Res w (some q) ((St2 T.toArray T.length q true false seen).runFor F):=by
 obtain ⟨F,rfl⟩:∃ G,F=G+20:=⟨F-20,by exact (Nat.sub_add_cancel (lq1 [_] (.k 20) (.v 0) (.k 20) (.v 0) hF rfl)).symm⟩;refine Q03 (drop_cons h) ?_;intro h1 h2 h3;have n1:¬ T.length≤q:=by exact Nat.not_le_of_lt (lq1 [_,_] (.a (.v 0) (.k 1)) (.v 1) (.a (.v 0) (.k 1)) (.v 1) h1 rfl)
 rcases hw with ⟨rfl,rfl⟩ | ⟨rfl,rfl⟩
 ·rw[runS rfl,s2_br,runS rfl,l12_no n1 (by rw[getDA,h2];rfl),runS rfl,alt12,runS rfl,l19_yes n1 (by rw[getDA,h2];rfl),runS rfl,jmp21,runS rfl,suc2,runS rfl,runS rfl,runS rfl,fin2,runD rfl];exact ⟨rfl,rfl,rfl⟩
 ·rw[runS rfl,s2_br,runS rfl,l12_yes n1 (by rw[getDA,h2];rfl),runS rfl];have no:(T.length≤q+1∨(T.getD (q+1) 0==10)=false)→w2 r=1→Res (w2 r) (some q) ((at2 T.toArray T.length q 14 (q+1) q true false [br2 q 11 true,fs2 q true] 2 none (Seen.add (seen.add 7) 16) none).step.runFor (F+17)):=fun hh hw=>by
   rw[hw];have e14:(at2 T.toArray T.length q 14 (q+1) q true false [br2 q 11 true,fs2 q true] 2 none (Seen.add (seen.add 7) 16) none).step=at2 T.toArray T.length q 14 (q+1) q true false [br2 q 11 true,fs2 q true] 2 (some false) (Seen.add (Seen.add (seen.add 7) 16) 16) none:=by
    by_cases z:T.length≤q+1
    ·exact l14_end z
    ·exact l14_no z (by rw[getDA];exact hh.resolve_left z)
   have e29:∀ sn,(at2 T.toArray T.length q 29 (q+1) (q+1) false false [ln2 (q+1) true,br2 q 23 true,fs2 q true] 3 none sn none).step=at2 T.toArray T.length q 29 (q+1) (q+1) false false [ln2 (q+1) true,br2 q 23 true,fs2 q true] 3 (some false) (Seen.add sn 16) none:=fun sn=>by
    by_cases z:T.length≤q+1
    ·exact l29_end z
    ·exact l29_no z (by rw[getDA];exact hh.resolve_left z)
   rw[e14,runS rfl,alt14,runS rfl,l19_no n1 (by rw[getDA,h2];rfl),runS rfl,alt19,runS rfl,l24_yes n1 (by rw[getDA,h2];rfl),runS rfl,nota,runS rfl,e29,runS rfl,notb,runS rfl,jmp32,runS rfl,suc3,runS rfl,runS rfl,runS rfl,fin3,runD rfl];exact ⟨rfl,rfl,rfl⟩
  cases r with
  | nil=>
   have:T.length≤q+1:=List.drop_eq_nil_iff.mp h3;exact no (.inl this) rfl
  | cons d r'=>
   refine Q03 (drop_cons h3) ?_;intro g1 g2 g3;cases z:Nat.beq d 10 with
   | true=>
    have hw:w2 (d::r')=2:=by show (bif d.beq 10 then 2 else 1)=_;rw[z];rfl
    rw[hw,l14_yes (by exact Nat.not_le_of_lt (lq1 [_,_] (.a (.a (.v 0) (.k 1)) (.k 1)) (.v 1) (.a (.a (.v 0) (.k 1)) (.k 1)) (.v 1) g1 rfl)) (by rw[getDA,g2,beqN2];exact z),runS rfl,jmp16,runS rfl,suc1,runS rfl,runS rfl,runS rfl,fin1,runD rfl];exact ⟨rfl,rfl,rfl⟩
   | false=>
    have hw:w2 (d::r')=1:=by show (bif d.beq 10 then 2 else 1)=_;rw[z];rfl
    exact no (.inr (by rw[g2,beqN2];exact z)) hw
noncomputable abbrev M0 (T:List Nat) (start:Nat) (must:Bool):Sre.M:={ code:=C2,text:=T.toArray,lim:=T.length,start:=start,pc:=10,pos:=start,handed:=start,marks:=#[],mustAdvance:=must,seen:=({}:Seen).add 14 }
theorem nextF2 {T:List Nat}{start:Nat}{must:Bool}:nextF C2 T.toArray start must=some (find2 T start):=by
 show ocs ((Sre.forSearch C2 T.toArray 0 start T.toArray.size must).runFor 4096)=_;by_cases hs:T.length≤start
 ·have e:find2 T start=none:=by unfold find2;rw[List.drop_eq_nil_iff.mpr hs];rfl
  have:Sre.forSearch C2 T.toArray 0 start T.toArray.size must=Sre.M.say (M0 T start must) false:=by
   show (if (decide (start>T.length)||decide (T.length-start<1))=true then _ else _)=_;rw[if_pos (by simp;omega)];rfl
  rw[this,say_fail rfl rfl,e];rfl
 ·refine Q11 (adm (T:=T) (m:={ M0 T start must with lastStart:=T.length }) rfl rfl rfl (T.drop start) start rfl (by exact lq1 [_,_] (.v 0) (.v 1) (.a (.v 0) (.k 1)) (.v 1) (Nat.lt_of_not_le hs) rfl) (T.length+1-start) (({}:Seen).add 14) (by rw[List.length_drop];exact lq2 [_,_,_,_] (.a (.v 0) (.k 1)) (.v 1) (.a (.v 0) (.v 2)) (.v 3) (.a (.v 3) (.k 1)) (.a (.v 1) (.v 2)) (Nat.le_of_eq (Nat.sub_add_cancel (lq1 [_,_] (.v 0) (.v 1) (.a (.v 0) (.k 1)) (.v 1) (Nat.lt_of_not_le hs) rfl))) (Nat.le_add_of_sub_le (Nat.le_refl _)) rfl)) ?_;intro sn ha;have:Sre.forSearch C2 T.toArray 0 start T.toArray.size must=(match Sre.M.admitted { M0 T start must with lastStart:=T.length } (T.length+1-start) start (({}:Seen).add 14) with
    | .ok (some s,seen)=>Sre.M.attemptAt { { M0 T start must with lastStart:=T.length } with mustAdvance:=false,seen } s true
    | .ok (none,seen)=>Sre.M.say { { M0 T start must with lastStart:=T.length } with seen } false
    | .error why=>Sre.M.stick { M0 T start must with lastStart:=T.length } why):=by
   show (if (decide (start>T.length)||decide (T.length-start<1))=true then _ else _)=_;rw[if_neg (by simp;omega)];rfl
  rw[this,ha];cases hq:q2 start (T.drop start) with
  | none=>
   have e:find2 T start=none:=by unfold find2;rw[hq];rfl
   rw[e];show ocs ((Sre.M.say _ false).runFor 4096)=_;rfl
  | some qw=>
   obtain ⟨q,w⟩:=qw;have e:find2 T start=some ⟨q,q+w⟩:=by unfold find2;rw[hq];rfl
   refine e.symm ▸ ?_;refine Q23 (q2_at hq) ?_;intro c r g1 g2 g3;have g1:T.drop q=c::r:=by
    rw[List.drop_drop,show start+(q-start)=q by exact eq1 [_,_,_] (.a (.v 0) (.v 1)) (.v 2) (.a (.v 1) (.v 0)) (.v 2) (Nat.sub_add_cancel (lq1 [_,_] (.v 0) (.v 1) (.v 0) (.v 1) g2 rfl)) rfl rfl] at g1;exact g1
   show ocs ((St2 T.toArray T.length q true false sn).runFor 4096)=_;rw[res_next (run2 g1 g3 sn 4096 (by decide))];rfl
theorem subQ_eq {fd:List Nat→Nat→Option Found}{text repl:List Nat}{nf:Nat→Bool→Option (Option Found)}(h:∀ start must,nf start must=some (fd text start)):∀ (n done start:Nat) (must:Bool),subAll nf text repl n done start must=subQ fd text repl n done start
 | 0,ux,uy,uz=>rfl
 | n+1,done,start,must=>by
  rw[KJ,Kq,h];cases fd text start with
  | none=>rfl
  | some f=>
   dsimp only;rw[subQ_eq h];cases subQ fd text repl n f.handed f.handed<;>rfl
theorem subTab_eq {code repl text out:List Nat}(h:subTab code repl text=some out) (ht:len text≤1000):reSub code repl text=some out:=by
 unfold subTab at h;unfold reSub;cases z:repl.any (Nat.beq 92) with
 | true=>rw[z] at h;exact nn h
 | false=>
 rw[z,cond_false] at h;simp only[cond_false];cases z1:beqL code code1 with
 | true=>
  have e:code=code1:=by rw[beqL_eq] at z1;exact eq_of_beq z1
  refine h ▸ e.symm ▸ ?_;exact subQ_eq (fun start must=>nextF1 (by rw[len_eq] at ht;exact ht)) _ _ _ _
 | false=>
 rw[z1,cond_false] at h;cases z2:beqL code code2 with
 | true=>
  have e:code=code2:=by rw[beqL_eq] at z2;exact eq_of_beq z2
  refine h ▸ e.symm ▸ ?_;exact subQ_eq (fun start must=>nextF2) _ _ _ _
 | false=>rw[z2] at h;exact nn h
end Mine
end
section
open PySem PySem.W PyProof.Rows
set_option maxHeartbeats 8000000
namespace Mine
open_top hd for PySem.Challenge.rw_sw0066_01
end Mine
end
section
open PySem PySem.W PySem.Spec PySem.Calls PyProof.Rows
namespace Mine
noncomputable def parC (sc:Scope) (cs:List Nat) (p:Nat) (a:Str):Bool:=decide (idx a tab=some p)&&bif cs.any (Nat.beq p) then decide (sc.names.lookup a=some .cell) else decide (sc.names.lookup a=some .local)
theorem parC_iff {sc:Scope}{cs:List Nat}{p:Nat}{a:Str}(h:parC sc cs p a=true):idx a tab=some p∧((cs.any (Nat.beq p)=true∧sc.names.lookup a=some .cell)∨(cs.any (Nat.beq p)=false∧sc.names.lookup a=some .local)):=by
 have h2:=ar h;refine ⟨of_decide_eq_true (al h),?_⟩;cases q:cs.any (Nat.beq p) with
 | true=>rw[q] at h2;exact .inl ⟨rfl,of_decide_eq_true h2⟩
 | false=>rw[q] at h2;exact .inr ⟨rfl,of_decide_eq_true h2⟩
noncomputable def parsC (sc:Scope) (cs:List Nat):List Nat→List Arg→Bool
 | [],[]=>true
 | p::ps,a::as=>parC sc cs p a.arg&&parsC sc cs ps as
 | ux,uy=>false
section
variable {b:BS}{kp:Kp}{ρ:List Addr}{sc:Scope}{cs:List Nat}
theorem parsC_R {ps:List Nat}:∀ {as:List Arg},parsC sc cs ps as=true→ParsR sc cs ps as:=by
 induction ps with
 | nil=>intro as h;cases as with | nil=>exact trivial | cons=>exact ft h
 | cons p ps ih=>
  intro as h;cases as with
  | nil=>exact ft h
  | cons a as=>
  have h1:=parC_iff (al h);exact ⟨h1.1,h1.2,ih (ar h)⟩
noncomputable def isV0:Value→Bool
 | .none=>true
 | ux=>false
noncomputable def isFn:ScopeKind→Bool
 | .function=>true
 | ux=>false
noncomputable def natsEq:Option (List Nat)→List Nat→Bool
 | some a,b=>beqL a b
 | none,ux=>false
noncomputable def hasBody:FuncBody→Bool
 | .stmts ux=>true
 | ux=>false
noncomputable def fnB (K:Frag) (fd:FD) (d:FuncData):Bool:=
 isFn d.scope.kind&&!d.scope.isCoroutine&&!d.scope.isGenerator&&codeIn K d.code d.qualname&&d.closure.isEmpty&&Nat.beq d.globals mainGlobals&&Nat.beq d.builtins builtinsNs &&
 natsEq (namesBy ce .cell d.scope.names) fd.cells&&nodupB fd.cells&&nodupB (fd.ps++fd.kw.map (·.1))
noncomputable def noTb (sc:Scope):Bool:=(match sc.names.lookup (Str.ofString "inner") with | some .local=>false | some .cell=>false | ux=>true)&&(match sc.names.lookup (Str.ofString "take") with | some .local=>false | some .cell=>false | ux=>true)
noncomputable def plainB (fd:FD) (d:FuncData):Bool:=plainArgs d.params&&isV0 d.defaults&&parsC d.scope fd.cells fd.ps d.params.args
theorem fnIs_of {a:Addr}{fd:FD}{fo:Obj}{d:FuncData}{body:List Stmt}(N:Nat) (h1:b.K.lookup a=some fo) (h2:fo.data=.func d) (h3:d.body=.stmts body) (h4:fnB b.K fd d=true) (h5:(cmp ce N).ss d.scope body=fd.body)
  (tb:∀ n,(n=Str.ofString "inner"∨n=Str.ofString "take")→(d.scope.names.lookup n=some .local∨d.scope.names.lookup n=some .cell)→∃ c P,d.code=.ref c∧(c,P)∈b.tabs∧b.tq P=(d.qualname++".<locals>.")++n)
  (bd:∀ kp ρ vs xs bs,zipB fd.ps vs fd.df=some bs→VRs kp ρ vs xs→∃ binds,(∀ s:Shared,(∀ a o,b.hb.get? a=some o→s.heap.get? a=some o)→BindsTo s d ⟨xs,[]⟩ binds)∧BindsR kp ρ d.scope fd.cells (bs++fd.kw) binds):FnIs b a fd fo d body N:=by
 refine bC fun hN=>?_;unfold fnB at h4;simp only[Bool.and_eq_true,Bool.not_eq_true'] at h4;obtain ⟨⟨⟨⟨⟨⟨⟨⟨⟨k1,k2⟩,k3⟩,k4⟩,k5⟩,k6⟩,k7⟩,k8⟩,k9⟩,k10⟩:=h4;refine hN ?_;exact {
  get:=b.X _ _ h1
  data:=h2
  kind:=by cases q:d.scope.kind<;>rw[q] at k1<;>first | rfl | exact ft k1
  co:=k2
  gen:=k3
  fb:=h3
  code:=codeRec_of b.X k4
  clos:=List.isEmpty_iff.mp k5
  glob:=nE k6
  bu:=nE k7
  comp:=h5
  cells:=by
   unfold natsEq at k8;split at k8
   ·rename_i q;rw[q,eq_of_beq ((beqL_eq _ _).symm.trans k8)]
   ·exact ft k8
  cellsN:=nodupB_iff k9
  names:=nodupB_iff k10
  tb:=tb
  bind:=bd }
theorem no_tb {sc:Scope}{n:Str}{P:Prop}(h:noTb sc=true) (hn:n=Str.ofString "inner"∨n=Str.ofString "take") (hk:sc.names.lookup n=some .local∨sc.names.lookup n=some .cell):P:=by
 have h1:=al h;have h2:=ar h;rcases hn with rfl | rfl
 ·rcases hk with hk | hk<;>rw[hk] at h1<;>exact ft h1
 ·rcases hk with hk | hk<;>rw[hk] at h2<;>exact ft h2
theorem bd_plain {fd:FD}{d:FuncData}(h:plainB fd d=true) (hn:fd.ps.Nodup) (hdf:fd.df=[]) (hkw:fd.kw=[]):
  ∀ kp ρ vs xs bs,zipB fd.ps vs fd.df=some bs→VRs kp ρ vs xs→∃ binds,(∀ s:Shared,(∀ a o,b.hb.get? a=some o→s.heap.get? a=some o)→BindsTo s d ⟨xs,[]⟩ binds)∧BindsR kp ρ d.scope fd.cells (bs++fd.kw) binds:=by
 intro kp ρ vs xs bs e hs;unfold plainB at h;simp only[Bool.and_eq_true] at h;obtain ⟨⟨h1,h2⟩,h3⟩:=h;rw[hdf] at e;obtain ⟨h4,h5⟩:=pars_bind _ _ _ _ _ (parsC_R h3) e hs;refine ⟨_,fun s ux=>.of_eq (bind_plain h1 rfl ?_ h5 (pars_names (parsC_R h3) hn)),?_⟩
 ·cases q:d.defaults<;>rw[q] at h2<;>first | rfl | exact ft h2
 ·rw[hkw,List.append_nil];exact h4
end
end Mine
end
section
open PySem PySem.W PySem.Spec PySem.Calls PyProof.Rows
set_option maxHeartbeats 8000000
namespace Mine
noncomputable def fnObj (K:Frag) (a:Addr):Option FuncData:=match K.lookup a with
 | some ⟨ux,uy,.func d,uz⟩=>some d
 | ux=>none
noncomputable def bodyOf (d:FuncData):List Stmt:=match d.body with
 | .stmts b=>b
 | ux=>[]
theorem bodyOf_eq {d:FuncData}(h:hasBody d.body=true):d.body=.stmts (bodyOf d):=by
 unfold bodyOf;cases q:d.body<;>rw[q] at h<;>first | rfl | exact ft h
theorem fnObj_get {K:Frag}{a:Addr}{d:FuncData}(h:fnObj K a=some d):∃ fo,K.lookup a=some fo∧fo.data=.func d:=by
 unfold fnObj at h;cases q:K.lookup a with
 | none=>rw[q] at h;exact nn h
 | some fo=>
  rw[q] at h;obtain ⟨c,di,data,sl⟩:=fo;cases data<;>first | exact nn h | exact ⟨_,rfl,congrArg _ (sI h)⟩
noncomputable def chkB (K:Frag) (a:Addr) (fd:FD):Bool:=match fnObj K a with
 | some d=>fnB K fd d&&hasBody d.body
 | none=>false
noncomputable def chkP (K:Frag) (a:Addr) (fd:FD):Bool:=match fnObj K a with
 | some d=>plainB fd d&&nodupB fd.ps
 | none=>false
noncomputable def chkT (K:Frag) (a:Addr):Bool:=match fnObj K a with
 | some d=>noTb d.scope
 | none=>false
noncomputable def cmpTo (K:Frag) (a:Addr):Option (List S):=match fnObj K a with
 | some d=>some ((cmp ce 60).ss d.scope (bodyOf d))
 | none=>none
noncomputable def nV {α:Type}(x:α):Bool:=false
noncomputable def vK (x:Value) (i:Int→Bool) (s:Str→Bool) (t b:String→Bool) (r:Addr→Bool):Bool:=match x with
 | .int a ux=>i a
 | .str a ux=>s a
 | .type a=>t a
 | .builtin a=>b a
 | .ref a=>r a
 | ux=>false
theorem vK_i {P:Value→Prop}{x:Value}{i:Int→Bool}{s:Str→Bool}{t b:String→Bool}{r:Addr→Bool}(h:vK x i s t b r=true) (h1:∀ a u,i a=true→P (.int a u)) (h2:∀ a u,s a=true→P (.str a u)) (h3:∀ a,t a=true→P (.type a)) (h4:∀ a,b a=true→P (.builtin a)) (h5:∀ a,r a=true→P (.ref a)):P x:=by
 cases x<;>first | exact ft h | exact h1 _ _ h | exact h2 _ _ h | exact h3 _ h | exact h4 _ h | exact h5 _ h
noncomputable def isRef (v:Value) (c:Addr):Bool:=vK v nV nV nV nV fun a=>Nat.beq a c
theorem isRef_i {v:Value}{c:Addr}(h:isRef v c=true):v=.ref c:=
 vK_i (P:=fun v=>v=.ref c) h (fun ux uy e=>ft e) (fun ux uy e=>ft e) (fun ux e=>ft e) (fun ux e=>ft e) fun a e=>congrArg Value.ref (nE e)
noncomputable def noName (sc:Scope) (n:Str):Bool:=match sc.names.lookup n with
 | some .local=>false
 | some .cell=>false
 | ux=>true
noncomputable def tqOf (P:Addr):Str:=bif Nat.beq P 74 then Str.ofString "_int2digits.<locals>.inner" else bif Nat.beq P 81 then Str.ofString "_digits2int.<locals>.inner" else Str.ofString "_law_lexer.<locals>.take"
noncomputable def chkN (K:Frag) (a c P:Addr) (n n':Str):Bool:=match fnObj K a with
 | some d=>isRef d.code c&&((d.qualname++".<locals>.")++n==tqOf P)&&noName d.scope n'
 | none=>false
section
variable {b:BS}{a:Addr}{fd:FD}
theorem fnIs_c (h1:chkB b.K a fd=true) (h2:cmpTo b.K a=some fd.body)
  (tb:∀ d,fnObj b.K a=some d→∀ n,(n=Str.ofString "inner"∨n=Str.ofString "take")→(d.scope.names.lookup n=some .local∨d.scope.names.lookup n=some .cell)→∃ c P,d.code=.ref c∧(c,P)∈b.tabs∧b.tq P=(d.qualname++".<locals>.")++n)
  (bd:∀ d,fnObj b.K a=some d→∀ kp ρ vs xs bs,zipB fd.ps vs fd.df=some bs→VRs kp ρ vs xs→∃ binds,(∀ s:Shared,(∀ a o,b.hb.get? a=some o→s.heap.get? a=some o)→BindsTo s d ⟨xs,[]⟩ binds)∧BindsR kp ρ d.scope fd.cells (bs++fd.kw) binds):
  ∃ fo d body N,FnIs b a fd fo d body N:=by
 refine bC fun hN=>?_;unfold chkB at h1;unfold cmpTo at h2;cases q:fnObj b.K a with
 | none=>rw[q] at h1;exact ft h1
 | some d=>
  rw[q] at h1 h2;obtain ⟨fo,e1,e2⟩:=fnObj_get q;have h3:=al h1;have h4:=ar h1;refine hN ?_;exact ⟨fo,d,bodyOf d,60,fnIs_of 60 e1 e2 (bodyOf_eq h4) h3 (sI h2) (tb d q) (bd d q)⟩
theorem tb_no (h:chkT b.K a=true):∀ d,fnObj b.K a=some d→∀ n,(n=Str.ofString "inner"∨n=Str.ofString "take")→(d.scope.names.lookup n=some .local∨d.scope.names.lookup n=some .cell)→∃ c P,d.code=.ref c∧(c,P)∈b.tabs∧b.tq P=(d.qualname++".<locals>.")++n:=fun d q n hn hk=>by
 unfold chkT at h;rw[q] at h;exact no_tb h hn hk
theorem tb_yes {c P:Addr}{n n':Str}(h:chkN b.K a c P n n'=true) (ht:(c,P)∈b.tabs) (hq:b.tq=tqOf) (hnn:(n=Str.ofString "inner"∧n'=Str.ofString "take")∨(n=Str.ofString "take"∧n'=Str.ofString "inner")):∀ d,fnObj b.K a=some d→∀ n,(n=Str.ofString "inner"∨n=Str.ofString "take")→(d.scope.names.lookup n=some .local∨d.scope.names.lookup n=some .cell)→∃ c P,d.code=.ref c∧(c,P)∈b.tabs∧b.tq P=(d.qualname++".<locals>.")++n:=fun d q m hm hk=>by
 unfold chkN at h;rw[q] at h;simp only[Bool.and_eq_true] at h;obtain ⟨⟨h1,h2⟩,h3⟩:=h;have hmn:m=n∨m=n':=by rcases hnn with ⟨rfl,rfl⟩ | ⟨rfl,rfl⟩<;>rcases hm with rfl | rfl<;>simp
 rcases hmn with rfl | rfl
 ·refine ⟨c,P,?_,ht,by rw[hq];exact (eq_of_beq h2).symm⟩;exact isRef_i h1
 ·unfold noName at h3;rcases hk with hk | hk<;>rw[hk] at h3<;>exact ft h3
theorem bd_p (h:chkP b.K a fd=true) (hdf:fd.df=[]) (hkw:fd.kw=[]):∀ d,fnObj b.K a=some d→∀ kp ρ vs xs bs,zipB fd.ps vs fd.df=some bs→VRs kp ρ vs xs→∃ binds,(∀ s:Shared,(∀ a o,b.hb.get? a=some o→s.heap.get? a=some o)→BindsTo s d ⟨xs,[]⟩ binds)∧BindsR kp ρ d.scope fd.cells (bs++fd.kw) binds:=fun d q=>by
 unfold chkP at h;rw[q] at h;have h1:=al h;have h2:=ar h;exact bd_plain h1 (nodupB_iff h2) hdf hkw
theorem fnIs_p (h1:chkB b.K a fd=true) (h2:cmpTo b.K a=some fd.body) (h3:chkP b.K a fd=true) (h4:chkT b.K a=true) (hdf:fd.df=[]) (hkw:fd.kw=[]):∃ fo d body N,FnIs b a fd fo d body N:=fnIs_c h1 h2 (tb_no h4) (bd_p h3 hdf hkw)
noncomputable def bnm:List Str:=[Str.ofString "a",Str.ofString "x",Str.ofString "lo",Str.ofString "hi",Str.ofString "key"]
noncomputable def scB (sc:Scope):Bool:=parC sc [] 0 (Str.ofString "a")&&parC sc [] 1 (Str.ofString "x")&&parC sc [] 2 (Str.ofString "lo")&&parC sc [] 3 (Str.ofString "hi")&&parC sc [] 4 (Str.ofString "key")
theorem bd_bis {P:Params}{d0:FuncData}(hps:fd.ps=[0,1,2,3]) (hdf:fd.df=[.int 0,.none]) (hkw:fd.kw=[(4,.none)]) (hc:fd.cells=[]) (hd0:fnObj b.K a=some d0) (hsc:scB d0.scope=true) {t0:Tok}
  (p2:∀ x0 x1 S,peek b.K S (bindArgs d0 ⟨[x0,x1],[]⟩)=some (bnm.zip [x0,x1,.int 0 t0,.none,.none]))
  (p3:∀ x0 x1 x2 S,peek b.K S (bindArgs d0 ⟨[x0,x1,x2],[]⟩)=some (bnm.zip [x0,x1,x2,.none,.none]))
  (p4:∀ x0 x1 x2 x3 S,peek b.K S (bindArgs d0 ⟨[x0,x1,x2,x3],[]⟩)=some (bnm.zip [x0,x1,x2,x3,.none])):
  ∀ d,fnObj b.K a=some d→∀ kp ρ vs xs bs,zipB fd.ps vs fd.df=some bs→VRs kp ρ vs xs→∃ binds,(∀ s:Shared,(∀ a o,b.hb.get? a=some o→s.heap.get? a=some o)→BindsTo s d ⟨xs,[]⟩ binds)∧BindsR kp ρ d.scope fd.cells (bs++fd.kw) binds:=by
 intro d q kp ρ vs xs bs e hs;rw[hd0] at q;obtain rfl:=sI q;rw[hps,hdf] at e;rw[hkw,hc];unfold scB at hsc;simp only[Bool.and_eq_true] at hsc;obtain ⟨⟨⟨⟨k0,k1⟩,k2⟩,k3⟩,k4⟩:=hsc;have mk:∀ y0 y1 y2 y3 y4 z0 z1 z2 z3 z4,VR kp ρ z0 y0→VR kp ρ z1 y1→VR kp ρ z2 y2→VR kp ρ z3 y3→VR kp ρ z4 y4→BindsR kp ρ d0.scope [] [(0,z0),(1,z1),(2,z2),(3,z3),(4,z4)] (bnm.zip [y0,y1,y2,y3,y4]):=fun y0 y1 y2 y3 y4 z0 z1 z2 z3 z4 v0 v1 v2 v3 v4=>
  .cons (parC_iff k0).1 (parC_iff k0).2 v0 (.cons (parC_iff k1).1 (parC_iff k1).2 v1 (.cons (parC_iff k2).1 (parC_iff k2).2 v2 (.cons (parC_iff k3).1 (parC_iff k3).2 v3 (.cons (parC_iff k4).1 (parC_iff k4).2 v4 .nil))))
 have X:∀ s:Shared,(∀ a o,b.hb.get? a=some o→s.heap.get? a=some o)→b.K.In s.heap:=fun s k a o e=>k _ _ (b.X _ _ e);cases hs with
 | nil=>exact nn e
 | cons v0 hs=>
 cases hs with
 | nil=>exact nn e
 | cons v1 hs=>
 cases hs with
 | nil=>obtain rfl:=sI e;exact ⟨_,fun s k=>kp_binds (X s k) (p2 _ _),mk _ _ _ _ _ _ _ _ _ _ v0 v1 (.int 0 t0) .none .none⟩
 | cons v2 hs=>
 cases hs with
 | nil=>obtain rfl:=sI e;exact ⟨_,fun s k=>kp_binds (X s k) (p3 _ _ _),mk _ _ _ _ _ _ _ _ _ _ v0 v1 v2 .none .none⟩
 | cons v3 hs=>
 cases hs with
 | nil=>obtain rfl:=sI e;exact ⟨_,fun s k=>kp_binds (X s k) (p4 _ _ _ _),mk _ _ _ _ _ _ _ _ _ _ v0 v1 v2 v3 .none⟩
 | cons v4 hs=>exact nn e
end
section
variable {b:BS}{P:Params}
noncomputable def tok0 (K:Frag) (a:Addr):Tok:=match fnObj K a with
 | some d=>match d.defaults with
  | .ref T=>match K.lookup T with
   | some ⟨ux,uy,.seq xs uz,uw⟩=>match xs.toList with
    | .int ux t::uy=>t
    | ux=>0
   | ux=>0
  | ux=>0
 | none=>0
noncomputable abbrev FnHere (b:BS) (a:Addr) (fd:FD):Prop:=∃ fo d body N,FnIs b a fd fo d body N
theorem chkB_40 (P:Params):chkB (hd.heap_39 P) 40 fd40=true:=by kernel_rfl
theorem cmpTo_40 (P:Params):cmpTo (hd.heap_39 P) 40=some fd40.body:=by kernel_rfl
theorem chkT_40 (P:Params):chkT (hd.heap_39 P) 40=true:=by kernel_rfl
theorem some_40 (P:Params):(fnObj (hd.heap_39 P) 40).isSome=true:=by kernel_rfl
theorem is_40 (P:Params):fnObj (hd.heap_39 P) 40=some ((fnObj (hd.heap_39 P) 40).get (some_40 P)):=(Option.some_get (some_40 P)).symm
theorem sc_40 (P:Params):scB ((fnObj (hd.heap_39 P) 40).get (some_40 P)).scope=true:=by kernel_rfl
theorem p2_40 (P:Params) (x0 x1:Value) (S:Setting):peek (hd.heap_39 P) S (bindArgs ((fnObj (hd.heap_39 P) 40).get (some_40 P)) ⟨[x0,x1],[]⟩)=some (bnm.zip [x0,x1,.int 0 (tok0 (hd.heap_39 P) 40),.none,.none]):=by kernel_rfl
theorem p3_40 (P:Params) (x0 x1 x2:Value) (S:Setting):peek (hd.heap_39 P) S (bindArgs ((fnObj (hd.heap_39 P) 40).get (some_40 P)) ⟨[x0,x1,x2],[]⟩)=some (bnm.zip [x0,x1,x2,.none,.none]):=by kernel_rfl
theorem p4_40 (P:Params) (x0 x1 x2 x3:Value) (S:Setting):peek (hd.heap_39 P) S (bindArgs ((fnObj (hd.heap_39 P) 40).get (some_40 P)) ⟨[x0,x1,x2,x3],[]⟩)=some (bnm.zip [x0,x1,x2,x3,.none]):=by kernel_rfl
theorem fi_40 (hK:b.K=hd.heap_39 P):FnHere b 40 fd40:=fnIs_c (by rw[hK];exact chkB_40 P) (by rw[hK];exact cmpTo_40 P) (tb_no (by rw[hK];exact chkT_40 P)) (bd_bis (P:=P) rfl rfl rfl rfl (by rw[hK];exact is_40 P) (sc_40 P) (fun x0 x1 S=>by rw[hK];exact p2_40 P x0 x1 S) (fun x0 x1 x2 S=>by rw[hK];exact p3_40 P x0 x1 x2 S) (fun x0 x1 x2 x3 S=>by rw[hK];exact p4_40 P x0 x1 x2 x3 S))
theorem chkB_49 (P:Params):chkB (hd.heap_39 P) 49 fd49=true:=by kernel_rfl
theorem cmpTo_49 (P:Params):cmpTo (hd.heap_39 P) 49=some fd49.body:=by kernel_rfl
theorem chkT_49 (P:Params):chkT (hd.heap_39 P) 49=true:=by kernel_rfl
theorem some_49 (P:Params):(fnObj (hd.heap_39 P) 49).isSome=true:=by kernel_rfl
theorem is_49 (P:Params):fnObj (hd.heap_39 P) 49=some ((fnObj (hd.heap_39 P) 49).get (some_49 P)):=(Option.some_get (some_49 P)).symm
theorem sc_49 (P:Params):scB ((fnObj (hd.heap_39 P) 49).get (some_49 P)).scope=true:=by kernel_rfl
theorem p2_49 (P:Params) (x0 x1:Value) (S:Setting):peek (hd.heap_39 P) S (bindArgs ((fnObj (hd.heap_39 P) 49).get (some_49 P)) ⟨[x0,x1],[]⟩)=some (bnm.zip [x0,x1,.int 0 (tok0 (hd.heap_39 P) 49),.none,.none]):=by kernel_rfl
theorem p3_49 (P:Params) (x0 x1 x2:Value) (S:Setting):peek (hd.heap_39 P) S (bindArgs ((fnObj (hd.heap_39 P) 49).get (some_49 P)) ⟨[x0,x1,x2],[]⟩)=some (bnm.zip [x0,x1,x2,.none,.none]):=by kernel_rfl
theorem p4_49 (P:Params) (x0 x1 x2 x3:Value) (S:Setting):peek (hd.heap_39 P) S (bindArgs ((fnObj (hd.heap_39 P) 49).get (some_49 P)) ⟨[x0,x1,x2,x3],[]⟩)=some (bnm.zip [x0,x1,x2,x3,.none]):=by kernel_rfl
theorem fi_49 (hK:b.K=hd.heap_39 P):FnHere b 49 fd49:=fnIs_c (by rw[hK];exact chkB_49 P) (by rw[hK];exact cmpTo_49 P) (tb_no (by rw[hK];exact chkT_49 P)) (bd_bis (P:=P) rfl rfl rfl rfl (by rw[hK];exact is_49 P) (sc_49 P) (fun x0 x1 S=>by rw[hK];exact p2_49 P x0 x1 S) (fun x0 x1 x2 S=>by rw[hK];exact p3_49 P x0 x1 x2 S) (fun x0 x1 x2 x3 S=>by rw[hK];exact p4_49 P x0 x1 x2 x3 S))
theorem chkB_58 (P:Params):chkB (hd.heap_39 P) 58 fd58=true:=by kernel_rfl
theorem cmpTo_58 (P:Params):cmpTo (hd.heap_39 P) 58=some fd58.body:=by kernel_rfl
theorem chkT_58 (P:Params):chkT (hd.heap_39 P) 58=true:=by kernel_rfl
theorem some_58 (P:Params):(fnObj (hd.heap_39 P) 58).isSome=true:=by kernel_rfl
theorem is_58 (P:Params):fnObj (hd.heap_39 P) 58=some ((fnObj (hd.heap_39 P) 58).get (some_58 P)):=(Option.some_get (some_58 P)).symm
theorem sc_58 (P:Params):scB ((fnObj (hd.heap_39 P) 58).get (some_58 P)).scope=true:=by kernel_rfl
theorem p2_58 (P:Params) (x0 x1:Value) (S:Setting):peek (hd.heap_39 P) S (bindArgs ((fnObj (hd.heap_39 P) 58).get (some_58 P)) ⟨[x0,x1],[]⟩)=some (bnm.zip [x0,x1,.int 0 (tok0 (hd.heap_39 P) 58),.none,.none]):=by kernel_rfl
theorem p3_58 (P:Params) (x0 x1 x2:Value) (S:Setting):peek (hd.heap_39 P) S (bindArgs ((fnObj (hd.heap_39 P) 58).get (some_58 P)) ⟨[x0,x1,x2],[]⟩)=some (bnm.zip [x0,x1,x2,.none,.none]):=by kernel_rfl
theorem p4_58 (P:Params) (x0 x1 x2 x3:Value) (S:Setting):peek (hd.heap_39 P) S (bindArgs ((fnObj (hd.heap_39 P) 58).get (some_58 P)) ⟨[x0,x1,x2,x3],[]⟩)=some (bnm.zip [x0,x1,x2,x3,.none]):=by kernel_rfl
theorem fi_58 (hK:b.K=hd.heap_39 P):FnHere b 58 fd58:=fnIs_c (by rw[hK];exact chkB_58 P) (by rw[hK];exact cmpTo_58 P) (tb_no (by rw[hK];exact chkT_58 P)) (bd_bis (P:=P) rfl rfl rfl rfl (by rw[hK];exact is_58 P) (sc_58 P) (fun x0 x1 S=>by rw[hK];exact p2_58 P x0 x1 S) (fun x0 x1 x2 S=>by rw[hK];exact p3_58 P x0 x1 x2 S) (fun x0 x1 x2 x3 S=>by rw[hK];exact p4_58 P x0 x1 x2 x3 S))
theorem chkB_65 (P:Params):chkB (hd.heap_39 P) 65 fd65=true:=by kernel_rfl
theorem cmpTo_65 (P:Params):cmpTo (hd.heap_39 P) 65=some fd65.body:=by kernel_rfl
theorem chkP_65 (P:Params):chkP (hd.heap_39 P) 65 fd65=true:=by kernel_rfl
theorem chkT_65 (P:Params):chkT (hd.heap_39 P) 65=true:=by kernel_rfl
theorem fi_65 (hK:b.K=hd.heap_39 P):FnHere b 65 fd65:=fnIs_p (by rw[hK];exact chkB_65 P) (by rw[hK];exact cmpTo_65 P) (by rw[hK];exact chkP_65 P) (by rw[hK];exact chkT_65 P) rfl rfl
theorem chkB_79 (P:Params):chkB (hd.heap_39 P) 79 fd79=true:=by kernel_rfl
theorem cmpTo_79 (P:Params):cmpTo (hd.heap_39 P) 79=some fd79.body:=by kernel_rfl
theorem chkP_79 (P:Params):chkP (hd.heap_39 P) 79 fd79=true:=by kernel_rfl
theorem chkN_79 (P:Params):chkN (hd.heap_39 P) 79 78 74 (Str.ofString "inner") (Str.ofString "take")=true:=by kernel_rfl
theorem fi_79 (hK:b.K=hd.heap_39 P) (ht:(78,74)∈b.tabs) (hq:b.tq=tqOf):FnHere b 79 fd79:=fnIs_c (by rw[hK];exact chkB_79 P) (by rw[hK];exact cmpTo_79 P) (tb_yes (by rw[hK];exact chkN_79 P) ht hq (.inl ⟨rfl,rfl⟩)) (bd_p (by rw[hK];exact chkP_79 P) rfl rfl)
theorem chkB_86 (P:Params):chkB (hd.heap_39 P) 86 fd86=true:=by kernel_rfl
theorem cmpTo_86 (P:Params):cmpTo (hd.heap_39 P) 86=some fd86.body:=by kernel_rfl
theorem chkP_86 (P:Params):chkP (hd.heap_39 P) 86 fd86=true:=by kernel_rfl
theorem chkN_86 (P:Params):chkN (hd.heap_39 P) 86 85 81 (Str.ofString "inner") (Str.ofString "take")=true:=by kernel_rfl
theorem fi_86 (hK:b.K=hd.heap_39 P) (ht:(85,81)∈b.tabs) (hq:b.tq=tqOf):FnHere b 86 fd86:=fnIs_c (by rw[hK];exact chkB_86 P) (by rw[hK];exact cmpTo_86 P) (tb_yes (by rw[hK];exact chkN_86 P) ht hq (.inl ⟨rfl,rfl⟩)) (bd_p (by rw[hK];exact chkP_86 P) rfl rfl)
theorem chkB_93 (P:Params):chkB (hd.heap_39 P) 93 fd93=true:=by kernel_rfl
theorem cmpTo_93 (P:Params):cmpTo (hd.heap_39 P) 93=some fd93.body:=by kernel_rfl
theorem chkP_93 (P:Params):chkP (hd.heap_39 P) 93 fd93=true:=by kernel_rfl
theorem chkT_93 (P:Params):chkT (hd.heap_39 P) 93=true:=by kernel_rfl
theorem fi_93 (hK:b.K=hd.heap_39 P):FnHere b 93 fd93:=fnIs_p (by rw[hK];exact chkB_93 P) (by rw[hK];exact cmpTo_93 P) (by rw[hK];exact chkP_93 P) (by rw[hK];exact chkT_93 P) rfl rfl
theorem chkB_100 (P:Params):chkB (hd.heap_39 P) 100 fd100=true:=by kernel_rfl
theorem cmpTo_100 (P:Params):cmpTo (hd.heap_39 P) 100=some fd100.body:=by kernel_rfl
theorem chkP_100 (P:Params):chkP (hd.heap_39 P) 100 fd100=true:=by kernel_rfl
theorem chkT_100 (P:Params):chkT (hd.heap_39 P) 100=true:=by kernel_rfl
theorem fi_100 (hK:b.K=hd.heap_39 P):FnHere b 100 fd100:=fnIs_p (by rw[hK];exact chkB_100 P) (by rw[hK];exact cmpTo_100 P) (by rw[hK];exact chkP_100 P) (by rw[hK];exact chkT_100 P) rfl rfl
theorem chkB_159 (P:Params):chkB (hd.heap_39 P) 159 fd159=true:=by kernel_rfl
theorem cmpTo_159 (P:Params):cmpTo (hd.heap_39 P) 159=some fd159.body:=by kernel_rfl
theorem chkP_159 (P:Params):chkP (hd.heap_39 P) 159 fd159=true:=by kernel_rfl
theorem chkT_159 (P:Params):chkT (hd.heap_39 P) 159=true:=by kernel_rfl
theorem fi_159 (hK:b.K=hd.heap_39 P):FnHere b 159 fd159:=fnIs_p (by rw[hK];exact chkB_159 P) (by rw[hK];exact cmpTo_159 P) (by rw[hK];exact chkP_159 P) (by rw[hK];exact chkT_159 P) rfl rfl
theorem chkB_166 (P:Params):chkB (hd.heap_39 P) 166 fd166=true:=by kernel_rfl
theorem cmpTo_166 (P:Params):cmpTo (hd.heap_39 P) 166=some fd166.body:=by kernel_rfl
theorem chkP_166 (P:Params):chkP (hd.heap_39 P) 166 fd166=true:=by kernel_rfl
theorem chkN_166 (P:Params):chkN (hd.heap_39 P) 166 165 161 (Str.ofString "take") (Str.ofString "inner")=true:=by kernel_rfl
theorem fi_166 (hK:b.K=hd.heap_39 P) (ht:(165,161)∈b.tabs) (hq:b.tq=tqOf):FnHere b 166 fd166:=fnIs_c (by rw[hK];exact chkB_166 P) (by rw[hK];exact cmpTo_166 P) (tb_yes (by rw[hK];exact chkN_166 P) ht hq (.inr ⟨rfl,rfl⟩)) (bd_p (by rw[hK];exact chkP_166 P) rfl rfl)
theorem chkB_171 (P:Params):chkB (hd.heap_39 P) 171 fd171=true:=by kernel_rfl
theorem cmpTo_171 (P:Params):cmpTo (hd.heap_39 P) 171=some fd171.body:=by kernel_rfl
theorem chkP_171 (P:Params):chkP (hd.heap_39 P) 171 fd171=true:=by kernel_rfl
theorem chkT_171 (P:Params):chkT (hd.heap_39 P) 171=true:=by kernel_rfl
theorem fi_171 (hK:b.K=hd.heap_39 P):FnHere b 171 fd171:=fnIs_p (by rw[hK];exact chkB_171 P) (by rw[hK];exact cmpTo_171 P) (by rw[hK];exact chkP_171 P) (by rw[hK];exact chkT_171 P) rfl rfl
theorem chkB_178 (P:Params):chkB (hd.heap_39 P) 178 fd178=true:=by kernel_rfl
theorem cmpTo_178 (P:Params):cmpTo (hd.heap_39 P) 178=some fd178.body:=by kernel_rfl
theorem chkP_178 (P:Params):chkP (hd.heap_39 P) 178 fd178=true:=by kernel_rfl
theorem chkT_178 (P:Params):chkT (hd.heap_39 P) 178=true:=by kernel_rfl
theorem fi_178 (hK:b.K=hd.heap_39 P):FnHere b 178 fd178:=fnIs_p (by rw[hK];exact chkB_178 P) (by rw[hK];exact cmpTo_178 P) (by rw[hK];exact chkP_178 P) (by rw[hK];exact chkT_178 P) rfl rfl
theorem chkB_183 (P:Params):chkB (hd.heap_39 P) 183 fd183=true:=by kernel_rfl
theorem cmpTo_183 (P:Params):cmpTo (hd.heap_39 P) 183=some fd183.body:=by kernel_rfl
theorem chkP_183 (P:Params):chkP (hd.heap_39 P) 183 fd183=true:=by kernel_rfl
theorem chkT_183 (P:Params):chkT (hd.heap_39 P) 183=true:=by kernel_rfl
theorem fi_183 (hK:b.K=hd.heap_39 P):FnHere b 183 fd183:=fnIs_p (by rw[hK];exact chkB_183 P) (by rw[hK];exact cmpTo_183 P) (by rw[hK];exact chkP_183 P) (by rw[hK];exact chkT_183 P) rfl rfl
theorem chkB_190 (P:Params):chkB (hd.heap_39 P) 190 fd190=true:=by kernel_rfl
theorem cmpTo_190 (P:Params):cmpTo (hd.heap_39 P) 190=some fd190.body:=by kernel_rfl
theorem chkP_190 (P:Params):chkP (hd.heap_39 P) 190 fd190=true:=by kernel_rfl
theorem chkT_190 (P:Params):chkT (hd.heap_39 P) 190=true:=by kernel_rfl
theorem fi_190 (hK:b.K=hd.heap_39 P):FnHere b 190 fd190:=fnIs_p (by rw[hK];exact chkB_190 P) (by rw[hK];exact cmpTo_190 P) (by rw[hK];exact chkP_190 P) (by rw[hK];exact chkT_190 P) rfl rfl
theorem chkB_197 (P:Params):chkB (hd.heap_39 P) 197 fd197=true:=by kernel_rfl
theorem cmpTo_197 (P:Params):cmpTo (hd.heap_39 P) 197=some fd197.body:=by kernel_rfl
theorem chkP_197 (P:Params):chkP (hd.heap_39 P) 197 fd197=true:=by kernel_rfl
theorem chkT_197 (P:Params):chkT (hd.heap_39 P) 197=true:=by kernel_rfl
theorem fi_197 (hK:b.K=hd.heap_39 P):FnHere b 197 fd197:=fnIs_p (by rw[hK];exact chkB_197 P) (by rw[hK];exact cmpTo_197 P) (by rw[hK];exact chkP_197 P) (by rw[hK];exact chkT_197 P) rfl rfl
theorem chkB_202 (P:Params):chkB (hd.heap_39 P) 202 fd202=true:=by kernel_rfl
theorem cmpTo_202 (P:Params):cmpTo (hd.heap_39 P) 202=some fd202.body:=by kernel_rfl
theorem chkP_202 (P:Params):chkP (hd.heap_39 P) 202 fd202=true:=by kernel_rfl
theorem chkT_202 (P:Params):chkT (hd.heap_39 P) 202=true:=by kernel_rfl
theorem fi_202 (hK:b.K=hd.heap_39 P):FnHere b 202 fd202:=fnIs_p (by rw[hK];exact chkB_202 P) (by rw[hK];exact cmpTo_202 P) (by rw[hK];exact chkP_202 P) (by rw[hK];exact chkT_202 P) rfl rfl
theorem chkB_207 (P:Params):chkB (hd.heap_39 P) 207 fd207=true:=by kernel_rfl
theorem cmpTo_207 (P:Params):cmpTo (hd.heap_39 P) 207=some fd207.body:=by kernel_rfl
theorem chkP_207 (P:Params):chkP (hd.heap_39 P) 207 fd207=true:=by kernel_rfl
theorem chkT_207 (P:Params):chkT (hd.heap_39 P) 207=true:=by kernel_rfl
theorem fi_207 (hK:b.K=hd.heap_39 P):FnHere b 207 fd207:=fnIs_p (by rw[hK];exact chkB_207 P) (by rw[hK];exact cmpTo_207 P) (by rw[hK];exact chkP_207 P) (by rw[hK];exact chkT_207 P) rfl rfl
theorem chkB_212 (P:Params):chkB (hd.heap_39 P) 212 fd212=true:=by kernel_rfl
theorem cmpTo_212 (P:Params):cmpTo (hd.heap_39 P) 212=some fd212.body:=by kernel_rfl
theorem chkP_212 (P:Params):chkP (hd.heap_39 P) 212 fd212=true:=by kernel_rfl
theorem chkT_212 (P:Params):chkT (hd.heap_39 P) 212=true:=by kernel_rfl
theorem fi_212 (hK:b.K=hd.heap_39 P):FnHere b 212 fd212:=fnIs_p (by rw[hK];exact chkB_212 P) (by rw[hK];exact cmpTo_212 P) (by rw[hK];exact chkP_212 P) (by rw[hK];exact chkT_212 P) rfl rfl
theorem chkB_217 (P:Params):chkB (hd.heap_39 P) 217 fd217=true:=by kernel_rfl
theorem cmpTo_217 (P:Params):cmpTo (hd.heap_39 P) 217=some fd217.body:=by kernel_rfl
theorem chkP_217 (P:Params):chkP (hd.heap_39 P) 217 fd217=true:=by kernel_rfl
theorem chkT_217 (P:Params):chkT (hd.heap_39 P) 217=true:=by kernel_rfl
theorem fi_217 (hK:b.K=hd.heap_39 P):FnHere b 217 fd217:=fnIs_p (by rw[hK];exact chkB_217 P) (by rw[hK];exact cmpTo_217 P) (by rw[hK];exact chkP_217 P) (by rw[hK];exact chkT_217 P) rfl rfl
theorem chkB_114 (P:Params):chkB (hd.heap_39 P) 114 fd114=true:=by kernel_rfl
theorem cmpTo_114 (P:Params):cmpTo (hd.heap_39 P) 114=some fd114.body:=by kernel_rfl
theorem chkP_114 (P:Params):chkP (hd.heap_39 P) 114 fd114=true:=by kernel_rfl
theorem chkT_114 (P:Params):chkT (hd.heap_39 P) 114=true:=by kernel_rfl
theorem fi_114 (hK:b.K=hd.heap_39 P):FnHere b 114 fd114:=fnIs_p (by rw[hK];exact chkB_114 P) (by rw[hK];exact cmpTo_114 P) (by rw[hK];exact chkP_114 P) (by rw[hK];exact chkT_114 P) rfl rfl
theorem chkB_121 (P:Params):chkB (hd.heap_39 P) 121 fd121=true:=by kernel_rfl
theorem cmpTo_121 (P:Params):cmpTo (hd.heap_39 P) 121=some fd121.body:=by kernel_rfl
theorem chkP_121 (P:Params):chkP (hd.heap_39 P) 121 fd121=true:=by kernel_rfl
theorem chkT_121 (P:Params):chkT (hd.heap_39 P) 121=true:=by kernel_rfl
theorem fi_121 (hK:b.K=hd.heap_39 P):FnHere b 121 fd121:=fnIs_p (by rw[hK];exact chkB_121 P) (by rw[hK];exact cmpTo_121 P) (by rw[hK];exact chkP_121 P) (by rw[hK];exact chkT_121 P) rfl rfl
theorem chkB_128 (P:Params):chkB (hd.heap_39 P) 128 fd128=true:=by kernel_rfl
theorem cmpTo_128 (P:Params):cmpTo (hd.heap_39 P) 128=some fd128.body:=by kernel_rfl
theorem chkP_128 (P:Params):chkP (hd.heap_39 P) 128 fd128=true:=by kernel_rfl
theorem chkT_128 (P:Params):chkT (hd.heap_39 P) 128=true:=by kernel_rfl
theorem fi_128 (hK:b.K=hd.heap_39 P):FnHere b 128 fd128:=fnIs_p (by rw[hK];exact chkB_128 P) (by rw[hK];exact cmpTo_128 P) (by rw[hK];exact chkP_128 P) (by rw[hK];exact chkT_128 P) rfl rfl
theorem chkB_135 (P:Params):chkB (hd.heap_39 P) 135 fd135=true:=by kernel_rfl
theorem cmpTo_135 (P:Params):cmpTo (hd.heap_39 P) 135=some fd135.body:=by kernel_rfl
theorem chkP_135 (P:Params):chkP (hd.heap_39 P) 135 fd135=true:=by kernel_rfl
theorem chkT_135 (P:Params):chkT (hd.heap_39 P) 135=true:=by kernel_rfl
theorem fi_135 (hK:b.K=hd.heap_39 P):FnHere b 135 fd135:=fnIs_p (by rw[hK];exact chkB_135 P) (by rw[hK];exact cmpTo_135 P) (by rw[hK];exact chkP_135 P) (by rw[hK];exact chkT_135 P) rfl rfl
noncomputable def fnL:List (Nat × FD):=[(40,fd40),(49,fd49),(58,fd58),(65,fd65),(79,fd79),(86,fd86),(93,fd93),(100,fd100),(159,fd159),(166,fd166),(171,fd171),(178,fd178),(183,fd183),(190,fd190),(197,fd197),(202,fd202),(207,fd207),(212,fd212),(217,fd217),(114,fd114),(121,fd121),(128,fd128),(135,fd135)]
noncomputable def lkF (a:Nat):List (Nat × FD)→Option FD
 | []=>none
 | p::r=>bif Nat.beq a p.1 then some p.2 else lkF a r
theorem lkC {a:Nat}{p:Nat × FD}{r:List (Nat × FD)}:lkF a (p::r)=(bif Nat.beq a p.1 then some p.2 else lkF a r):=rfl
noncomputable def AllF (Q:Addr→FD→Prop):List (Nat × FD)→Prop
 | []=>True
 | p::r=>Q p.1 p.2∧AllF Q r
theorem lkF_all {Q:Addr→FD→Prop}{a:Addr}{fd:FD}:∀ l,AllF Q l→lkF a l=some fd→Q a fd:=by
 intro z0;induction z0 with
 | nil=>
  intro ux h;exact nn h
 | cons p r ih0=>
  intro k h;rw[lkC] at h;by_cases q:Nat.beq a p.1=true
  ·rw[q] at h;rw[nE q,← sI h];exact k.1
  ·rw[Bool.eq_false_iff.mpr q] at h;exact ih0 k.2 h
theorem fnd_cases {Q:Addr→FD→Prop}{a:Addr}{fd:FD}(h:fdTab a=some fd) (k:AllF Q fnL):Q a fd:=lkF_all fnL k h
theorem fn_all (hK:b.K=hd.heap_39 P) (ht:b.tabs=[(78,74),(85,81),(165,161)]) (hq:b.tq=tqOf):∀ a fd,fdTab a=some fd→FnHere b a fd:=fun a fd h=>fnd_cases (Q:=FnHere b) h
 (.intro (fi_40 hK)
 (.intro (fi_49 hK)
 (.intro (fi_58 hK)
 (.intro (fi_65 hK)
 (.intro (fi_79 hK (by rw[ht];simp) hq)
 (.intro (fi_86 hK (by rw[ht];simp) hq)
 (.intro (fi_93 hK)
 (.intro (fi_100 hK)
 (.intro (fi_159 hK)
 (.intro (fi_166 hK (by rw[ht];simp) hq)
 (.intro (fi_171 hK)
 (.intro (fi_178 hK)
 (.intro (fi_183 hK)
 (.intro (fi_190 hK)
 (.intro (fi_197 hK)
 (.intro (fi_202 hK)
 (.intro (fi_207 hK)
 (.intro (fi_212 hK)
 (.intro (fi_217 hK)
 (.intro (fi_114 hK)
 (.intro (fi_121 hK)
 (.intro (fi_128 hK)
 (.intro (fi_135 hK) trivial)))))))))))))))))))))))
end
noncomputable def okV (c:Cn) (x:Value):Bool:=match c with
 | .st a=>vK x nV nV nV nV (Nat.beq a)
 | .bi b=>vK x nV nV (fun m=>vK (biV b) nV nV (fun n=>n==m) nV nV) (fun m=>vK (biV b) nV nV nV (fun n=>n==m) nV) nV
 | .int i=>vK x (fun j=>decide (i=j)) nV nV nV nV
 | .str s=>vK x nV (fun t=>beqL s t.cps.toList) nV nV nV
 | ux=>false
theorem okV_VR {c:Cn}{x:Value}(h:okV c x=true) (kp:Kp) (ρ:List Addr):VR kp ρ c.v x:=by
 cases c
 case st=>exact vK_i (P:=VR kp ρ _) h (fun ux uy e=>ft e) (fun ux uy e=>ft e) (fun ux e=>ft e) (fun ux e=>ft e) fun c e=>nE e ▸ .st _
 case bi=>
  refine vK_i (P:=VR kp ρ _) h (fun ux uy e=>ft e) (fun ux uy e=>ft e) (fun m e=>?_) (fun m e=>?_) fun ux e=>ft e
  ·have key:biV b=.type m:=vK_i (P:=fun y=>y=.type m) e (fun ux uy e=>ft e) (fun ux uy e=>ft e) (fun n e=>congrArg Value.type (eq_of_beq e)) (fun ux e=>ft e) fun ux e=>ft e;rw[← key];exact .bi b
  ·have key:biV b=.builtin m:=vK_i (P:=fun y=>y=.builtin m) e (fun ux uy e=>ft e) (fun ux uy e=>ft e) (fun ux e=>ft e) (fun n e=>congrArg Value.builtin (eq_of_beq e)) fun ux e=>ft e;rw[← key];exact .bi b
 case int=>exact vK_i (P:=VR kp ρ _) h (fun j u e=>of_decide_eq_true e ▸ .int _ _) (fun ux uy e=>ft e) (fun ux e=>ft e) (fun ux e=>ft e) fun ux e=>ft e
 case str=>
  refine vK_i (P:=VR kp ρ _) h (fun ux uy e=>ft e) (fun t u e=>?_) (fun ux e=>ft e) (fun ux e=>ft e) fun ux e=>ft e;have e:beqL s t.cps.toList=true:=e;rw[beqL_eq] at e;have:=eq_of_beq e;subst this;exact .str _ _
 all_goals exact ft h
noncomputable def globChk (K:Frag) (n:Str) (c:Cn):Bool:=match nsIn K mainGlobals n with
 | some (some x)=>okV c x
 | some none=>match bootBuiltins n with
  | some x=>okV c x&&!(n==Str.ofString "__name__")
  | none=>false
 | none=>false
noncomputable def globAll (K:Frag):List (Str × Cn)→Bool
 | []=>true
 |(n,c)::r=>globChk K n c&&globAll K r
set_option tactic.hygienic true in
theorem glob_ok {b:BS}(h:globAll b.K glob=true):GlobOk b:=by
 have go:∀ l:List (Str × Cn),globAll b.K l=true→∀ n c,look n l=some c→globChk b.K n c=true:=by
  intro l;induction l with
  | nil=>intro ux n c e;exact nn e
  | cons p r ih=>
   obtain ⟨m,d⟩:=p;intro h n c e;have h1:=al h;have h2:=ar h;rw[KN] at e;split at e
   ·rename_i q;subst q;obtain rfl:=sI e;exact h1
   ·exact ih h2 n c e
 intro n c e;have:=go glob h n c e;unfold globChk at this;split at this
 ·rename_i x q;exact ⟨x,fun kp ρ=>okV_VR this kp ρ,.inl q⟩
 ·rename_i q;split at this
  ·rename_i x q2;have h1:=al this;have h2:=ar this;exact ⟨x,fun kp ρ=>okV_VR h1 kp ρ,.inr ⟨q,q2,fun e=>by rw[e] at h2;revert h2;decide +kernel⟩⟩
  ·exact ft this
 ·exact ft this
noncomputable def isNone2 (o:Option (Option Value)):Bool:=match o with
 | some none=>true
 | ux=>false
theorem isNone2_i {o:Option (Option Value)}(h:isNone2 o=true):o=some none:=by
 cases o with
 | none=>exact ft h
 | some o=>cases o with
  | none=>rfl
  | some x=>exact ft h
noncomputable def attAll (K:Frag) (C:Addr):List Nat→Bool
 | []=>true
 | i::r=>(match nth tab i with
  | some n=>isNone2 (findIn K (.ref C) n)
  | none=>true)&&attAll K C r
theorem att_ok {K:Frag}{C:Addr}:∀ {l:List Nat},attAll K C l=true→∀ n i,idx n tab=some i→l.any (Nat.beq i)=true→findIn K (.ref C) n=some none
 | [],ux,uy,uz,uw,e=>by exact ft e
 | j::r,h,n,i,hi,e=>by
  refine bC fun hN=>?_;have h1:=al h;have h2:=ar h;rw[List.any_cons] at e;cases q:Nat.beq i j with
  | true=>
   have:=nE q;subst this;rw[idx_nth hi] at h1;exact hN (isNone2_i h1)
  | false=>rw[q,Bool.false_or] at e;refine hN ?_;exact att_ok h2 n i hi e
noncomputable def isRef2 (o:Option (Option Value)) (f:Addr):Bool:=match o with
 | some p=>match p with
  | some v=>isRef v f
  | none=>false
 | none=>false
theorem isRef2_eq {o:Option (Option Value)}{f:Addr}(h:isRef2 o f=true):o=some (some (.ref f)):=by
 cases o with
 | none=>exact ft h
 | some o=>cases o with
  | none=>exact ft h
  | some x=>rw[isRef_i h]
noncomputable def methAll (K:Frag) (C:Addr):List (Nat × Nat)→Bool
 | []=>true
 |(i,f)::r=>(match nth tab i with
  | some n=>isRef2 (findIn K (.ref C) n) f&&decide (typeIn K (.ref f)=some (.type "function"))&&decide (specialIn K (.ref f) "__get__"=some (some (.builtin "function.__get__")))&&decide (takesIn K (.ref f)=some false)&&!copiedNames.contains n
  | none=>true)&&methAll K C r
theorem meth_ok {K:Frag}{C:Addr}:∀ {l:List (Nat × Nat)},methAll K C l=true→∀ n i f,idx n tab=some i→lkp i l=some f→findIn K (.ref C) n=some (some (.ref f))∧typeIn K (.ref f)=some (.type "function")∧specialIn K (.ref f) "__get__"=some (some (.builtin "function.__get__")) ∧
  takesIn K (.ref f)=some false∧copiedNames.contains n=false
 | [],ux,uy,uz,uw,ut,e=>by exact nn e
 |(j,f')::r,h,n,i,f,hi,e=>by
  have h1:=al h;have h2:=ar h;rw[J0] at e;cases q:Nat.beq i j with
  | true=>
   rw[q,cond_true] at e;obtain rfl:=sI e;have:=nE q;subst this;rw[idx_nth hi] at h1;simp only[Bool.and_eq_true,Bool.not_eq_true',decide_eq_true_eq] at h1;exact ⟨isRef2_eq h1.1.1.1.1,h1.1.1.1.2,h1.1.1.2,h1.1.2,h1.2⟩
  | false=>rw[q,cond_false] at e;exact meth_ok h2 n i f hi e
theorem glob_K (P:Params):globAll (hd.heap_39 P) glob=true:=by kernel_rfl
theorem att_K (P:Params):attAll (hd.heap_39 P) 138 [51,52,53,54,56]=true:=by kernel_rfl
theorem meth_K (P:Params):methAll (hd.heap_39 P) 138 [(45,114),(46,121),(47,128),(48,135)]=true:=by kernel_rfl
theorem cls1 (P:Params):findIn (hd.heap_39 P) (.ref 138) "__getattribute__"=some (some (.builtin "object.__getattribute__")):=by kernel_rfl
theorem cls2 (P:Params):findIn (hd.heap_39 P) (.ref 138) "__getattr__"=some none:=by kernel_rfl
theorem cls3 (P:Params):findIn (hd.heap_39 P) (.ref 138) "__setattr__"=some (some (.builtin "object.__setattr__")):=by kernel_rfl
theorem cls4 (P:Params):plainOver (hd.heap_39 P) 138=true:=by kernel_rfl
theorem cls5 (P:Params):(clsIn (hd.heap_39 P) 138).any (·.hasDict)=true:=by kernel_rfl
theorem cls6 (P:Params):makesIn (hd.heap_39 P) 138=true:=by kernel_rfl
theorem cls7 (P:Params):findIn (hd.heap_39 P) (.ref 138) "__init__"=some (some (.ref 114)):=by kernel_rfl
theorem cls8 (P:Params):typeIn (hd.heap_39 P) (.ref 114)=some (.type "function"):=by kernel_rfl
theorem cls9 (P:Params):keepIn (hd.heap_39 P) (.ref 138)=true:=by kernel_rfl
theorem cls_ok {b:BS}{P:Params}{pr:V→List V→St→Option (V × St)}(hK:b.K=hd.heap_39 P):ClsOk b (sig pr) where
 get:=by rw[hK];exact cls1 P
 hook:=by rw[hK];exact cls2 P
 set:=by rw[hK];exact cls3 P
 over:=by rw[hK];exact cls4 P
 hasDict:=by rw[hK];exact cls5 P
 att:=by rw[hK];exact fun n i hi ha=>att_ok (att_K P) n i hi ha
 meth:=by rw[hK];exact fun n i f hi hf=>meth_ok (meth_K P) n i f hi hf
 make:=by rw[hK];exact cls6 P
 ini:=by rw[hK];exact cls7 P
 iniT:=by rw[hK];exact cls8 P
 keep:=by rw[hK];exact cls9 P
theorem names_ok (pr:V→List V→St→Option (V × St)):NamesOk (sig pr) where
 join:=by kernel_rfl
 split:=by kernel_rfl
 count:=by kernel_rfl
 append:=by kernel_rfl
 insert:=by kernel_rfl
 pop:=by kernel_rfl
 reverse:=by kernel_rfl
 bitLength:=by kernel_rfl
 sub:=by kernel_rfl
noncomputable def keepAll (K:Frag):List Addr→Bool
 | []=>true
 | a::r=>keepIn K (.ref a)&&keepAll K r
theorem keep_K (P:Params):keepAll (hd.heap_39 P) [40,49,58,65,79,86,93,100,159,166,171,178,183,190,197,202,207,212,217,114,121,128,135]=true:=by kernel_rfl
theorem keep_okP {K:Frag}:∀ {l:List Addr},keepAll K l=true→∀ a,l.any (Nat.beq a)=true→keepIn K (.ref a)=true
 | [],ux,uy,e=>by exact ft e
 | j::r,h,a,e=>by
  have h1:=al h;have h2:=ar h;rw[List.any_cons] at e;cases q:Nat.beq a j with
  | true=>rw[nE q];exact h1
  | false=>rw[q,Bool.false_or] at e;exact keep_okP h2 a e
noncomputable abbrev patObj (x y:Value) (c:Addr):Obj:={ cls:=.type "re.Pattern",dict:=none,data:=.fields #[x,y,.int 0 0,.none,.none,.ref c,.int 0 0],slots:=#[] }
noncomputable def fldOf (K:Frag) (a i:Nat):Value:=match K.lookup a with
 | some o=>(match o.data with | .fields fs=>fs.toList.getD i .none | ux=>.none)
 | none=>.none
noncomputable def seqChk (K:Frag) (c:Addr) (code:List Nat):Bool:=match K.lookup c with
 | some o=>(match o.data with | .seq items ux=>beqL (patCode items).toList code | ux=>false)
 | none=>false
set_option tactic.hygienic true in
theorem pat_of {b:BS}{a c:Addr}{x y:Value}{code:List Nat}(h:b.K.lookup a=some (patObj x y c)) (k:seqChk b.K c code=true):∃ c items,IsPat b.hb a c items∧patCode items=code.toArray:=by
 refine bC fun hN=>?_;unfold seqChk at k;cases q:b.K.lookup c with
 | none=>rw[q] at k;exact ft k
 | some o=>
 rw[q] at k;obtain ⟨cl,d,da,sl⟩:=o;refine hN ?_;cases da<;>first | exact ft k | skip
 rename_i items n;have k:beqL (patCode items).toList code=true:=k;rw[beqL_eq] at k;exact ⟨c,items,⟨x,y,n,sl,d,cl,b.X _ _ h,b.X _ _ q⟩,by rw[← eq_of_beq k]⟩
theorem pat147 (P:Params):(hd.heap_39 P).lookup 147=some (patObj (fldOf (hd.heap_39 P) 147 0) (fldOf (hd.heap_39 P) 147 1) 146):=by kernel_rfl
theorem pat147c (P:Params):seqChk (hd.heap_39 P) 146 [14,4,0,1,1,6,1,16,46,1]=true:=by kernel_rfl
theorem pat152 (P:Params):(hd.heap_39 P).lookup 152=some (patObj (fldOf (hd.heap_39 P) 152 0) (fldOf (hd.heap_39 P) 152 1) 151):=by kernel_rfl
theorem pat152c (P:Params):seqChk (hd.heap_39 P) 151 [14,9,4,1,2,16,10,16,13,0,7,7,16,13,16,10,15,18,5,16,10,15,13,11,16,13,5,5,0,16,10,1,15,2,0,1]=true:=by kernel_rfl
theorem pat_all {b:BS}{P:Params}{pr:V→List V→St→Option (V × St)}(hK:b.K=hd.heap_39 P):PatOk b (sig pr):=pat_ok (fun a code repl text out ux e ht=>subTab_eq e ht) fun a code h=>by
 have h:patTab a=some code:=h;unfold patTab at h;cases q:Nat.beq a 147 with
 | true=>
  rw[q,cond_true] at h;have:=nE q;subst this;obtain rfl:=sI h;exact pat_of (hK ▸ pat147 P) (hK ▸ pat147c P)
 | false=>
 rw[q,cond_false] at h;cases q:Nat.beq a 152 with
 | true=>
  rw[q,cond_true] at h;have:=nE q;subst this;obtain rfl:=sI h;exact pat_of (hK ▸ pat152 P) (hK ▸ pat152c P)
 | false=>
 rw[q,cond_false] at h;exact nn h
noncomputable def PrimOk (b:BS) (D:Nat) (pr:V→List V→St→Option (V × St)):Prop:=∀ {f vs W v W' fx xs A kp ρ s}{Q:Value→Shared→Prop}{E:Value→Shared→Prop},pr f vs W=some (v,W')→noB f=true∧(VR kp ρ f fx→VRs kp ρ vs xs→AOk D A→SR b kp ρ W s →
  Back b kp ρ W' (fun kp ρ y=>VR kp ρ v y) Q→codeAny (model b.prog b.w) A (.call fx ⟨xs,[]⟩) (CallBack Q E) s)
structure Here (b:BS):Prop where
 K:∃ P,b.K=hd.heap_39 P
 tabs:b.tabs=[(78,74),(85,81),(165,161)]
 tq:b.tq=tqOf
theorem stat {b:BS}{D:Nat}{pr:V→List V→St→Option (V × St)}(H:Here b) (h:PrimOk b D pr):StatOk b (sig pr) D:=by
 obtain ⟨⟨P,hK⟩,ht,hq⟩:=H;exact {
  glob:=glob_ok (by rw[hK];exact glob_K P)
  cls:=cls_ok hK
  names:=names_ok pr
  pat:=pat_all hK
  fn:=fn_all hK ht hq
  keep:=fun a fd e=>by
   rw[hK];refine keep_okP (keep_K P) a ?_;exact fnd_cases (Q:=fun a ux=>([40,49,58,65,79,86,93,100,159,166,171,178,183,190,197,202,207,212,217,114,121,128,135]:List Nat).any (Nat.beq a)=true) e (.intro rfl (.intro rfl (.intro rfl (.intro rfl (.intro rfl (.intro rfl (.intro rfl (.intro rfl (.intro rfl (.intro rfl (.intro rfl (.intro rfl (.intro rfl (.intro rfl (.intro rfl (.intro rfl (.intro rfl (.intro rfl (.intro rfl (.intro rfl (.intro rfl (.intro rfl (.intro rfl trivial)))))))))))))))))))))))
  ini:=rfl
  rep:=fun h=>nomatch h
  prim:=h }
theorem sound {b:BS}{D:Nat}{pr:V→List V→St→Option (V × St)}(H:Here b) (h:PrimOk b D pr) (n:Nat):Sound b (D+n) (ops (sig pr) n):=sound_ops (stat H h) n
theorem prim_none (b:BS):PrimOk b 0 fun ux uy uz=>none:=fun {f vs W v W' fx xs A kp ρ s Q E} e=>by exact nn e
noncomputable def LawEv:Prop:=∀ l:List Int,l.length≤63→∀ b:BS,Here b→b.tk0=0→∃ (D n:Nat) (pr:V→List V→St→Option (V × St)) (W':St),PrimOk b D pr∧D+n≤680∧(ops (sig pr) n).call (.st 217) [.klst (l.map .int)] []=some (.bool true,W')
theorem ints_VRs {kp:Kp}{ρ:List Addr}{xs:List Value}{l:List Int}(h:IntsAre xs l):VRs kp ρ (l.map .int) xs:=by
 induction h with
 | nil=>exact .nil
 | cons n t ux ih=>exact .cons (.int n t) ih
theorem sr_nil {b:BS}{s:Shared}(hk:∀ a o,b.hb.get? a=some o→s.heap.get? a=some o) (hos:s.os=b.os) (hg:s.gens=b.gens) (hz:b.hb.objs.size≤s.heap.objs.size) (ht:∀ q∈b.tabs,s.heap.get? q.2=some (tabObj #[])) (h0:b.tk0≤s.toks):SR b b.hb.get? [] [] s where
 len:=rfl
 keep:=hk
 base:=fun ux uy e=>e
 rel:=fun ux uy e=>nomatch e
 apart:=fun ux uy uz uw e=>nomatch e
 off:=fun ux uy uz e=>nomatch e
 lo:=fun ux uy e=>nomatch e
 kptab:=b.noP
 tab:=fun q hq=>⟨#[],ht q hq,trivial,fun ux uy e=>nomatch e⟩
 os:=hos
 gens:=hg
 sz:=hz
 tk:=h0
theorem law_call {b:BS}(hlaw:LawEv) (H:Here b) (hb0:b.tk0=0) {s:Shared}{l:List Int}{xs:List Value}{L:Addr}{R:Result→Shared→Prop}(hl:l.length≤63) (hL:b.hb.IsList L xs.toArray) (hI:IntsAre xs l) (hA:AOk 680 callerA)
  (hk:∀ a o,b.hb.get? a=some o→s.heap.get? a=some o) (hos:s.os=b.os) (hg:s.gens=b.gens) (hz:b.hb.objs.size≤s.heap.objs.size) (ht:∀ q∈b.tabs,s.heap.get? q.2=some (tabObj #[])) (h0:b.tk0≤s.toks)
  (h:∀ s',(∀ a o,b.hb.get? a=some o→s'.heap.get? a=some o)→s'.os=b.os→s'.gens=b.gens→(∀ q∈b.tabs,∃ ps,s'.heap.get? q.2=some (tabObj ps))→R (.ok (.ret (.bool true))) s'):
  codeAny (model b.prog b.w) callerA (.call (.ref 217) ⟨[.ref L],[]⟩) R s:=by
 refine Q43 (hlaw l hl b H hb0) ?_;intro D n pr W' hpr hDn e;have S:=sound H hpr n;obtain ⟨o,o1,o2,nn,o3⟩:=hL;refine codeAny_mono (R:=CallBack (fun v s'=>R (.ok (.ret v)) s') (fun ux uy=>False)) ?_ (fun r s' hr=>?_)
 ·refine S.callC e rfl (.st 217) (.cons (.klst ⟨o,nn,o1,o2,o3⟩ (ints_VRs hI)) .nil) (hA.le hDn) (sr_nil hk hos hg hz ht h0) fun kp' ρ' y s' k R' hy=>?_;cases hy;exact h s' (fun a o e=>R'.keep _ _ (k.kp _ _ e)) R'.os R'.gens (fun q hq=>let ⟨ps,x,_⟩:=R'.tab q hq;⟨ps,x⟩)
 ·cases r with
  | error e=>exact hr.elim
  | ok f=>cases f<;>first | exact hr | exact hr.elim
set_option tactic.hygienic true in
theorem lawGoal (hlaw:Mine.LawEv):PySem.Challenge.rw_sw0066_01.Holds:=Mine.hd (by
 k_fill
 intro w s₀ s₁ mg mb G Y fa o pm cd doc dV kV ho hd hcd hD hmg hg args vals as hpre hlay hrd hwl hlo;have KX:=km_in_of Y
 km_tabs Y
 have X:=(Ground.X G).1;have V:=(Ground.X G).2;refine Ground.open G ?_;intro T B D TE TW
 try (refine guard_noD D (by decide +kernel) ?_;clear D)
 km_lay T hmg ho hd cd
 have hfa:fa=217:=by
  have e:=mg_of (n:=Str.ofString "law") (v:=.ref 217) KX T.g (by kernel_rfl);rw[hmg] at e;injection e with e
  injection e
 clear hmg;subst hfa
 wrow_args hpre hlay hrd hwl hlo
 all_goals (first | refine callC_kw (enter_call ?_) | refine enter_call ?_)
 kn_posts
 clear hd ho hcd hD X V B TE TW;rename_i l hs hlay0 hL1 hr1 hl2 as3 as4 L xs as5 hL ra w1 r0 hI hr hcond htrue;refine Mine.law_call (b:=⟨_,w,Mine.hd.heap_39 w.params,ghostOf s₁.heap [(78,74),(85,81),(165,161)],_,_,_,mg,mb,[(78,74),(85,81),(165,161)],Mine.tqOf,s₁.os,s₁.gens,ghost_K hT9 KX (by kernel_rfl),ghost_top hT9 T,?cc,?np,0⟩) hlaw ⟨⟨w.params,rfl⟩,rfl,rfl⟩ rfl (by omega) (ghost_list hT9 hL) hI ?ao (fun a o e=>of_hideAll _ e) rfl rfl (Nat.le_of_eq (hideAll_size _ _)) (fun q hq=>(hT9 q hq).2) (Nat.zero_le _) ?fin
 case cc=>
  have C':=ghost_code hT9;intro q hq;simp only[List.mem_cons,List.not_mem_nil,or_false] at hq;rcases hq with rfl | rfl | rfl
  ·exact C'.1
  ·exact C'.2.1
  ·exact C'.2.2.1
 case np=>
  intro q hq;exact hideAll_none _ (List.mem_map.mpr ⟨q,hq,rfl⟩)
 case ao=>exact ⟨rfl,by decide,by decide⟩
 case fin=>
  intro s' h1 h2 h3 h4;refine ⟨⟨.inl ⟨_,.bool true,[],rfl,fun ux=>rfl,.bool true,?_,fun ux=>⟨List.nodup_nil,fun ux h=>nomatch h⟩⟩,h1,h2,h3.trans hg⟩,?_⟩
  ·wrow_post
  ·exact ⟨h4 (78,74) (by simp),h4 (85,81) (by simp),h4 (165,161) (by simp),trivial⟩)
end Mine
end
section
open PySem PySem.W PySem.Spec PySem.Calls PyProof.Rows
namespace Mine
noncomputable def flat:V→Bool
 | .none=>true
 | .bool ux=>true
 | .int ux=>true
 | .str ux=>true
 | .st ux=>true
 | .bi ux=>true
 | ux=>false
noncomputable def flats:List V→Bool
 | []=>true
 | v::r=>flat v&&flats r
theorem Kd  :flats  []=(true):=rfl
theorem Ke  {v}{r}:flats  (v::r)=(flat v&&flats r):=rfl
noncomputable def flatO:O→Bool
 | .list vs=>flats vs
 | ux=>false
noncomputable def rdBool (w:V) (b:Bool):Bool:=match w with | .bool c=>(bif b then c else !c) | ux=>false
noncomputable def rdInt (w:V) (a:Int):Bool:=match w with | .int b=>eqI a b | ux=>false
noncomputable def rdStr (w:V) (a:List Nat):Bool:=match w with | .str b=>beqL a b | ux=>false
noncomputable def eqF (v w:V):Bool:=match v with
 | .none=>isNone w
 | .bool b=>rdBool w b
 | .int a=>rdInt w a
 | .str a=>rdStr w a
 | ux=>false
theorem eqF_eq {v w:V}(h:eqF v w=true):v=w∧flat v=true:=by
 cases v with
 | none=>cases w<;>first | exact ⟨rfl,rfl⟩ | exact ft h
 | bool b=>cases w with
  | bool c=>cases b<;>cases c<;>first | exact ⟨rfl,rfl⟩ | exact ft h
  | _=>exact ft h
 | int a=>cases w with
  | int b=>have h:eqI a b=true:=h;exact ⟨by rw[show a=b from of_decide_eq_true h],rfl⟩
  | _=>exact ft h
 | str a=>cases w with
  | str b=>have h:beqL a b=true:=h;rw[beqL_eq] at h;exact ⟨by rw[eq_of_beq h],rfl⟩
  | _=>exact ft h
 | _=>exact ft h
noncomputable def eqFs:List V→List V→Bool
 | [],[]=>true
 | a::r,b::s=>eqF a b&&eqFs r s
 | ux,uy=>false
theorem eqFs_eq:∀ {v w:List V},eqFs v w=true→v=w∧flats v=true
 | [],[],ux=>⟨rfl,rfl⟩
 | a::r,b::s,h=>by
  have h1:=al h;have h2:=ar h;refine Q02 (eqF_eq h1) ?_;rintro rfl f1;refine Q02 (eqFs_eq h2) ?_;rintro rfl f2;exact ⟨rfl,by dsimp only[Kd,Ke];rw[f1,f2];rfl⟩
 | [],ux::uy,h=>by exact ft h
 | ux::uy,[],h=>by exact ft h
noncomputable def sameO:St→St→Bool
 | [],ux=>true
 | .list a::r,.list b::s=>eqFs a b&&sameO r s
 | ux,uy=>false
theorem sameO_at {W0:St}:∀ {W:St},sameO W0 W=true→∀ j o,nth W0 j=some o→nth W j=some o∧flatO o=true:=by
 induction W0 with
 | nil=>intro W h j o e;exact nn e
 | cons x r ih=>
  intro W h j o e;cases x with
  | list a=>
   cases W with
   | nil=>exact ft h
   | cons y s=>
    cases y with
    | list b=>
     have h1:=al h;have h2:=ar h;refine Q02 (eqFs_eq h1) ?_;rintro rfl f;cases j with
     | zero=>obtain rfl:=sI e;exact ⟨rfl,f⟩
     | succ j=>exact ih h2 j o e
    | _=>exact ft h
  | _=>exact ft h
theorem flat_in1 {p:Nat→Bool}{v:V}(h:flat v=true):inV p v=true:=by cases v<;>first | rfl | exact ft h
theorem flat_ren1 {f:Nat→Nat}{v:V}(h:flat v=true):renV f v=v:=by cases v<;>first | rfl | exact ft h
theorem flats_in {p:Nat→Bool}:∀ {v:List V},flats v=true→inVs p v=true
 | [],ux=>rfl
 | a::r,h=>by
  have h1:=al h;have h2:=ar h;dsimp only[YT,YU];rw[flat_in1 h1,flats_in h2];rfl
theorem flats_ren {f:Nat→Nat}:∀ {v:List V},flats v=true→renVs f v=v
 | [],ux=>rfl
 | a::r,h=>by
  have h1:=al h;have h2:=ar h;dsimp only[Yh,Yi];simp only[flat_ren1 h1,flats_ren h2]
theorem flatO_list {o:O}(h:flatO o=true):∃ vs,o=.list vs∧flats vs=true:=by
 cases o with
 | list vs=>exact ⟨vs,rfl,h⟩
 | _=>exact ft h
theorem flatO_in {p:Nat→Bool}{o:O}(h:flatO o=true):inO p o=true:=by
 refine Q12 (flatO_list h) ?_;rintro vs rfl h;exact flats_in h
theorem flatO_ren {f:Nat→Nat}{o:O}(h:flatO o=true):renO f o=o:=by
 refine Q12 (flatO_list h) ?_;rintro vs rfl h;show O.list (renVs f vs)=_;rw[flats_ren h]
noncomputable def posL:List Nat→Nat→Nat
 | [],ux=>0
 | x::r,l=>bif Nat.beq l x then 0 else posL r l+1
theorem Kh  {ux}:posL  [] ux=(0):=rfl
theorem Ki  {x}{r}{l}:posL  (x::r) l=(bif Nat.beq l x then 0 else posL r l+1):=rfl
noncomputable def isInL (σ:List Nat) (l:Nat):Bool:=σ.any (Nat.beq l)
theorem isInL_iff {σ:List Nat}{l:Nat}:isInL σ l=true↔l∈σ:=by
 refine (List.any_eq_true).trans ?_;constructor
 ·rintro ⟨x,h1,h2⟩;rw[nE h2];exact h1
 ·intro h;exact ⟨l,h,Nat.beq_refl l⟩
theorem posL_nth:∀ {σ:List Nat}{l:Nat},l∈σ→nth σ (posL σ l)=some l
 | [],ux,h=>by cases h
 | x::r,l,h=>by
  dsimp only[Kh,Ki];cases q:Nat.beq l x with
  | true=>rw[nE q];rfl
  | false=>
   show nth r (posL r l)=some l;refine posL_nth ?_;rcases List.mem_cons.mp h with e | e
   ·rw[e,Nat.beq_refl] at q;cases q
   ·exact e
theorem nth_inj:∀ {σ:List Nat}{i j a:Nat},σ.Nodup→nth σ i=some a→nth σ j=some a→i=j:=fun {σ i j a} hn h1 h2=>by
 rw[nth_eq] at h1 h2;refine Q11 (List.getElem?_eq_some_iff.mp h1) ?_;intro k1 e1;refine Q11 (List.getElem?_eq_some_iff.mp h2) ?_;intro k2 e2;exact (List.getElem_inj hn).mp (e1.trans e2.symm)
theorem mem_nth:∀ {σ:List Nat}{a:Nat},a∈σ→∃ j,nth σ j=some a
 | ux,a,h=>⟨_,posL_nth h⟩
theorem nth_mem {α:Type}{σ:List α}{i:Nat}{a:α}(h:nth σ i=some a):a∈σ:=by rw[nth_eq] at h;exact List.mem_of_getElem? h
noncomputable def noCits (W:St):Bool:=W.all fun o=>!isCit o
theorem noCits_at {W:St}(h:noCits W=true) {i:Nat}{o:O}(e:nth W i=some o):isCit o=false:=by
 unfold noCits at h;rw[List.all_eq_true] at h;have:=h o (nth_mem e)
 simpa using this
section
variable {b:BS}{m:Nat}{r:Ops}
noncomputable def flatR:V→Bool
 | .tup vs=>flats vs
 | v=>flat v
theorem flatR_in {p:Nat→Bool}{v:V}(h:flatR v=true):inV p v=true:=by
 cases v with
 | tup vs=>exact flats_in (v:=vs) h
 | _=>first | exact flat_in1 h
theorem flatR_ren {f:Nat→Nat}{v:V}(h:flatR v=true):renV f v=v:=by
 cases v with
 | tup vs=>show V.tup (renVs f vs)=_;rw[flats_ren (v:=vs) h]
 | _=>first | exact flat_ren1 h
theorem flat_prim {fv:V}{vs0:List V}{W0 W0':St}{v:V}(S:Sound b m r) (hc:r.call fv vs0 W0=some (v,W0')) (hf:flat fv=true) (hb:noB fv=true) (hs:sameO W0 W0'=true) (hv:flatR v=true)
  {W:St}{σ:List Nat}{vs:List V}(hn:σ.Nodup) (hl:len W0=len σ) (hW:∀ j i,nth σ j=some i→nth W i=nth W0 j) (hvs:renVs (posL σ) vs=vs0) (hin:inVs (isInL σ) vs=true) (nc:noCits W=true)
  {fx:Value}{xs:List Value}{A:Around}{kp:Kp}{ρ:List Addr}{s:Shared}{Q E:Value→Shared→Prop}(h1:VR kp ρ fv fx) (h2:VRs kp ρ vs xs) (hA:AOk m A) (R:SR b kp ρ W s) (h:Back b kp ρ W (fun kp ρ y=>VR kp ρ v y) Q):
  codeAny (model b.prog b.w) A (.call fx ⟨xs,[]⟩) (CallBack Q E) s:=by
 have at0:∀ j i,nth σ j=some i→∃ o,nth W0 j=some o∧nth W i=some o:=fun j i e=>by
  refine Q11 (nth_some (l:=W0) (i:=j) (by rw[hl];exact nth_lt e)) ?_;intro o ho;exact ⟨o,ho,by rw[hW j i e];exact ho⟩
 have Z:Sel W σ (isInL σ) (posL σ) W0:={
  nd:=hn
  len:=hl
  obj:=fun j o0 e ha=>by
   refine Q11 (nth_some (l:=σ) (i:=j) (by rw[← hl];exact nth_lt e)) ?_;intro i hi;have fo:=(sameO_at hs j o0 e).2;exact ⟨i,o0,hi,by rw[hW j i hi];exact e,ha,flatO_in fo,(flatO_ren fo).symm⟩
  idx:=fun j i e=>⟨isInL_iff.mpr (nth_mem e),nth_inj hn (posL_nth (nth_mem e)) e,by obtain ⟨o,ux,ho⟩:=at0 j i e;exact ⟨o,ho⟩⟩
  sel:=fun l e=>posL_nth (isInL_iff.mp e) }
 have Y:Ret W σ W0' W [] (fun j=>decide (j<len σ)) (fun j=>(nth σ j).getD 0):={
  len:=rfl
  f1:=fun j e=>by
   refine Q11 (nth_some (of_decide_eq_true e)) ?_;intro i hi;exact .inl (by rw[hi];rfl)
  newR:=fun k j e=>nomatch e
  obj:=fun i o' e ha=>by
   by_cases z:i∈σ
   ·right
    refine Q11 (mem_nth z) ?_;intro j hj;refine Q12 (at0 j i hj) ?_;intro o e1 e2;rw[e] at e2;obtain rfl:=sI e2;refine Q02 (sameO_at hs j o' e1) ?_;intro k1 k2;exact ⟨j,o',by rw[hj];rfl,decide_eq_true (nth_lt hj),k1,ha,flatO_in k2,(flatO_ren k2).symm⟩
   ·exact .inl ⟨e,z⟩
  cit:=fun i o e ux uy=>noCits_at nc e }
 refine S.carry (p':=fun j=>decide (j<len σ)) (f':=fun j=>(nth σ j).getD 0) (by rw[flat_ren1 hf,hvs];exact hc) (by rw[flat_ren1 hf];exact hb) Z Y (flat_in1 hf) hin (flatR_in hv) h1 h2 hA R ?_;refine (flatR_ren hv).symm ▸ ?_;exact h
noncomputable def argOk:V→Bool
 | .ref ux=>true
 | v=>flat v
noncomputable def addR (v:V) (σ:List Nat):List Nat:=(onRef v fun l=>some (bif σ.any (Nat.beq l) then σ else σ++[l])).getD σ
noncomputable def refsIn:List V→List Nat→List Nat
 | [],σ=>σ
 | v::r,σ=>refsIn r (addR v σ)
noncomputable def objsOf (W:St):List Nat→Option St
 | []=>some []
 | l::r=>b0 (nth W l) fun o=>b0 (objsOf W r) fun W0=>some (o::W0)
theorem KOb {W:St}{l:Nat}{r:List Nat}:objsOf W (l::r)=(b0 (nth W l) fun o=>b0 (objsOf W r) fun W0=>some (o::W0)):=rfl
noncomputable def canon (fs:List Nat) (r:Ops) (f:V) (vs:List V) (W:St):Option (V × St):=onSt f fun a=>bif fs.any (Nat.beq a)&&(noCits W&&vs.all argOk) then b0 (objsOf W (refsIn vs [])) fun W0=>b1 (r.call (.st a) (renVs (posL (refsIn vs [])) vs) W0) fun v W0'=>bif flatR v&&sameO W0 W0' then some (v,W) else none else none
theorem addR_i {P:List Nat→Prop}{v:V}{σ:List Nat}(h1:P σ) (h2:∀ l,v=.ref l→σ.any (Nat.beq l)=false→P (σ++[l])):P (addR v σ):=by
 cases v with
 | ref l=>
  show P (bif σ.any (Nat.beq l) then σ else σ++[l]);cases q:σ.any (Nat.beq l) with
  | true=>exact h1
  | false=>exact h2 l rfl q
 | _=>exact h1
theorem refsIn_nodup {vs:List V}:∀ {σ:List Nat},σ.Nodup→(refsIn vs σ).Nodup:=by
 induction vs with
 | nil=>intro σ h;exact h
 | cons v r ih=>
  intro σ h;refine ih (addR_i (P:=List.Nodup) h fun l e q=>?_);refine List.nodup_append.mpr ⟨h,(by simp),?_⟩;intro x hx y hy e;rw[List.mem_singleton.mp hy] at e;subst e;rw[List.any_eq_false] at q;exact q x hx (Nat.beq_refl x)
theorem refsIn_sub {vs:List V}{x:Nat}:∀ {σ:List Nat},x∈σ→x∈refsIn vs σ:=by
 induction vs with
 | nil=>intro σ h;exact h
 | cons v r ih=>intro σ h;exact ih (addR_i (P:=fun s=>x∈s) h fun l e q=>List.mem_append_left _ h)
theorem refsIn_in {vs:List V}:∀ {σ:List Nat},vs.all argOk=true→inVs (isInL (refsIn vs σ)) vs=true:=by
 induction vs with
 | nil=>intro σ h;exact rfl
 | cons v r ih=>
  intro σ h;have h1:=al h;refine Bool.and_eq_true_iff.mpr ⟨?_,ih (ar h)⟩;cases v with
  | ref l=>
   refine isInL_iff.mpr (refsIn_sub (vs:=r) (σ:=addR (.ref l) σ) ?_);show l∈(bif σ.any (Nat.beq l) then σ else σ++[l]);cases q:σ.any (Nat.beq l) with
   | true=>
    refine Q12 (List.any_eq_true.mp q) ?_;intro x h1 h2;rw[nE h2];exact h1
   | false=>exact List.mem_append_right _ (List.mem_singleton.mpr rfl)
  | _=>exact flat_in1 h1
theorem objsOf_at {W:St}{σ:List Nat}:∀ {W0:St},objsOf W σ=some W0→len W0=len σ∧∀ j i,nth σ j=some i→nth W i=nth W0 j:=by
 induction σ with
 | nil=>intro W0 e;obtain rfl:=sI e;exact ⟨rfl,fun ux uy e=>nn e⟩
 | cons l r ih=>
  intro W0 e;revert e;refine B0 ?_;intro o ho e;revert e;refine B0 ?_;intro W1 h1 e;obtain rfl:=sI e;refine ⟨congrArg Nat.succ (ih h1).1,fun j i e=>?_⟩;cases j with
  | zero=>obtain rfl:=sI e;exact ho
  | succ j=>exact (ih h1).2 j i e
theorem canon_ok {D:Nat}{fs:List Nat}{r:Ops}{b:BS}(S:Sound b D r):PrimOk b D (canon fs r):=by
 intro f vs W v W' fx xs A kp ρ s Q E e;unfold canon at e;revert e;refine OSt ?_;rintro a rfl e;revert e;refine Bt ?_;intro z e;have z2:=ar z;revert e;refine B0 ?_;intro W0 h0 e;revert e;refine B1 ?_;intro v' W0' hc e;revert e;refine Bt ?_;intro z5 e;refine Q02 (pj e) ?_;rintro rfl rfl;exact ⟨rfl,fun h1 h2 hA R h=>flat_prim S hc rfl rfl (ar z5) (al z5) (refsIn_nodup List.nodup_nil) (objsOf_at h0).1 (objsOf_at h0).2 rfl (refsIn_in (ar z2)) (al z2) h1 h2 hA R h⟩
noncomputable def por (p q:V→List V→St→Option (V × St)) (f:V) (vs:List V) (W:St):Option (V × St):=match p f vs W with
 | some y=>some y
 | none=>q f vs W
set_option tactic.hygienic true in
theorem por_ok {b:BS}{D D':Nat}{p q:V→List V→St→Option (V × St)}(hp:PrimOk b D p) (hq:PrimOk b D' q) (h:D'≤D):PrimOk b D (por p q):=by
 intro f vs W v W' fx xs A kp ρ s Q E e;unfold por at e;split at e
 ·rename_i y hy;refine Q02 (pj e) ?_;rintro rfl rfl;exact hp hy
 ·refine Q02 (hq (fx:=fx) (xs:=xs) (A:=A) (kp:=kp) (ρ:=ρ) (s:=s) (Q:=Q) (E:=E) e) ?_;intro h1 h2;exact ⟨h1,fun a b c d e=>h2 a b (c.le h) d e⟩
end
inductive SelL (W:St) (p:Nat→Bool) (f:Nat→Nat):List Nat→List O→Prop
 | nil:SelL W p f [] []
 | cons {i:Nat}{o o0:O}{is:List Nat}{os:List O}:nth W i=some o→alive o=true→inO p o=true→o0=renO f o→SelL W p f is os→SelL W p f (i::is) (o0::os)
theorem SelL.all {W:St}{p:Nat→Bool}{f:Nat→Nat}{is:List Nat}{os:List O}(h:SelL W p f is os):len os=len is∧(∀ j o0,nth os j=some o0→∃ i o,nth is j=some i∧nth W i=some o∧alive o=true∧inO p o=true∧o0=renO f o)∧∀ j i,nth is j=some i→∃ o,nth W i=some o:=by
 induction h with
 | nil=>exact ⟨rfl,fun ux uy e=>nn e,fun ux uy e=>nn e⟩
 | cons h1 h2 h3 h4 ux ih=>
  refine ⟨congrArg (·+1) ih.1,fun j o0 e=>?_,fun j i e=>?_⟩
  ·cases j with
   | zero=>exact ⟨_,_,rfl,h1,h2,h3,sI e ▸ h4⟩
   | succ j=>exact ih.2.1 j o0 e
  ·cases j with
   | zero=>exact ⟨_,sI e ▸ h1⟩
   | succ j=>exact ih.2.2 j i e
theorem Sel.of {σ:List Nat}{W W0:St}(nd:σ.Nodup) (h:SelL W (isInL σ) (posL σ) σ W0):Sel W σ (isInL σ) (posL σ) W0 where
 nd:=nd
 len:=h.all.1
 obj:=fun j o0 e ux=>h.all.2.1 j o0 e
 idx:=fun j i e=>⟨isInL_iff.mpr (nth_mem e),nth_inj nd (posL_nth (nth_mem e)) e,h.all.2.2 j i e⟩
 sel:=fun ux e=>posL_nth (isInL_iff.mp e)
inductive RetL (W' W0':St) (p':Nat→Bool) (f':Nat→Nat):List Nat→Prop
 | nil:RetL W' W0' p' f' []
 | cons {i:Nat}{is:List Nat}(j:Nat) {o' o0:O}:nth W' i=some o'→f' j=i→p' j=true→nth W0' j=some o0→alive o0=true→inO p' o0=true→o'=renO f' o0→RetL W' W0' p' f' is→RetL W' W0' p' f' (i::is)
theorem RetL.all {W' W0':St}{p':Nat→Bool}{f':Nat→Nat}{is:List Nat}(h:RetL W' W0' p' f' is) {i:Nat}{o':O}(m:i∈is) (e:nth W' i=some o'):∃ j o0,f' j=i∧p' j=true∧nth W0' j=some o0∧alive o0=true∧inO p' o0=true∧o'=renO f' o0:=by
 induction h with
 | nil=>cases m
 | cons j h1 h2 h3 h4 h5 h6 h7 ux ih=>
  rcases List.mem_cons.mp m with q | m
  ·rw[← q] at h1 h2;rw[h1] at e;exact ⟨j,_,h2,h3,h4,h5,h6,sI e ▸ h7⟩
  ·exact ih m
end Mine
end
section
open PySem
namespace Mine
section
variable {G:Sig}{n:Nat}{g:Ctx}{W:St}
theorem o_ev (x:X):(ops G (n+1)).ev g x W=stepEv G (ops G n) g x W:=rfl
theorem o_tst (x:X):(ops G (n+1)).tst g x W=stepTst (ops G n) g x W:=rfl
theorem o_tsts (a:Bool) (x:List X):(ops G (n+1)).tsts g a x W=stepTsts (ops G n) g a x W:=rfl
theorem o_evs (x:List X):(ops G (n+1)).evs g x W=stepEvs (ops G n) g x W:=rfl
theorem o_ex (x:S):(ops G (n+1)).ex g x W=stepEx G (ops G n) g x W:=rfl
theorem o_exs (x:List S):(ops G (n+1)).exs g x W=stepExs (ops G n) g x W:=rfl
theorem o_whl (t:X) (x:List S):(ops G (n+1)).whl g t x W=stepWhl (ops G n) g t x W:=rfl
theorem o_frs (c:Bool) (x i:Nat) (b:List S):(ops G (n+1)).frs g c x i b W=stepFrs (ops G n) g c x i b W:=rfl
theorem o_cpl (e:X) (c:Bool) (x i:Nat) (l:List X) (a:Nat):(ops G (n+1)).cpl g e c x i l a W=stepCpl (ops G n) g e c x i l a W:=rfl
theorem o_call (f:V) (vs:List V):(ops G (n+1)).call f vs W=stepCall G (ops G n) f vs W:=rfl
theorem o_nxt (i:Nat):(ops G (n+1)).nxt i W=stepNxt G (ops G n) i W:=rfl
end
theorem call_st {pr:V→List V→St→Option (V × St)}{n a:Nat}{fd:FD}{vs:List V}{W:St}(hp:pr (.st a) vs W=none) (hc:Nat.beq a 138=false) (hf:fdTab a=some fd):(ops (sig pr) (n+1)).call (.st a) vs W=callFD (ops (sig pr) n) fd vs W:=by
 show (match pr (.st a) vs W with | some y=>some y | none=>callSt (sig pr) (ops (sig pr) n) a vs W)=_
 rw[hp];show (bif Nat.beq a 138 then _ else b0 (fdTab a) fun fd=>callFD (ops (sig pr) n) fd vs W)=_;rw[hc,hf];rfl
theorem call_pr {pr:V→List V→St→Option (V × St)}{n:Nat}{f:V}{vs:List V}{W:St}{y:V × St}(hp:pr f vs W=some y):(ops (sig pr) (n+1)).call f vs W=some y:=by
 show (match pr f vs W with | some y=>some y | none=>_)=_
 rw[hp]
theorem call_bi {pr:V→List V→St→Option (V × St)}{n:Nat}{c:B}{vs:List V}{W:St}(hp:∀ c vs W,pr (.bi c) vs W=none):(ops (sig pr) (n+1)).call (.bi c) vs W=callB (sig pr) c vs W:=by
 show (match pr (.bi c) vs W with | some y=>some y | none=>callB (sig pr) c vs W)=_
 rw[hp]
theorem exs_cons {G:Sig}{n:Nat}{g:Ctx}{s:S}{ss:List S}{W W':St}(h:(ops G n).ex g s W=some (.next,W')):(ops G (n+1)).exs g (s::ss) W=(ops G n).exs g ss W':=by
 show b1 ((ops G n).ex g s W) (fun f W=>xThen f W ((ops G n).exs g ss W))=_;rw[h];rfl
theorem exs_ret {G:Sig}{n:Nat}{g:Ctx}{s:S}{ss:List S}{W W':St}{v:V}(h:(ops G n).ex g s W=some (.ret v,W')):(ops G (n+1)).exs g (s::ss) W=some (.ret v,W'):=by
 show b1 ((ops G n).ex g s W) (fun f W=>xThen f W ((ops G n).exs g ss W))=_;rw[h];rfl
noncomputable abbrev N (n:Nat):V:=.int (.ofNat n)
theorem add_N (a b:Nat):binI .Add (.ofNat a) (.ofNat b)=some (.ofNat (a+b)):=rfl
theorem add_1 (a:Nat):binI .Add (.ofNat a) 1=some (.ofNat (a+1)):=rfl
theorem half_N (a:Nat) (h:a≤1000000):binI .FloorDiv (.ofNat a) 2=some (.ofNat (a/2)):=by
 show (bif false then none else bif smallI (.ofNat a) then some (Int.fdiv (.ofNat a) 2) else none)=_;have:smallI (.ofNat a)=true:=by
  unfold smallI leI;rw[Bool.and_eq_true];exact ⟨decide_eq_true (by show (-1000000:Int)≤(a:Int);omega),decide_eq_true (by show (a:Int)≤1000000;omega)⟩
 rw[this];show some (Int.fdiv (a:Int) (2:Int))=some ((a/2:Nat):Int);rw[Int.fdiv_eq_ediv_of_nonneg _ (by omega)];rfl
theorem lt_N (a b:Nat):cmpI .Lt (.ofNat a) (.ofNat b)=some (decide (a<b)):=by
 show some (decide ((a:Int)<(b:Int)))=_
 congr 1
 exact decide_eq_decide.mpr (by omega)
noncomputable abbrev frB (x lo hi:Nat) (tl:List (Nat × V)):O:=.ns ((0,.ref 0)::(1,N x)::(2,N lo)::(3,N hi)::(4,.none)::tl)
noncomputable def bisT:X:=.cmp (.Lt) (.loc 2) (.loc 3)
noncomputable def bisB:List S:=[.asg false 5 (.bin (.FloorDiv) (.bin (.Add) (.loc 2) (.loc 3)) (.c (.int 2))),.ifs (.cmp (.Lt) (.sub (.loc 0) (.loc 5)) (.loc 1)) [.asg false 2 (.bin (.Add) (.loc 5) (.c (.int 1)))] [.asg false 3 (.loc 5)]]
theorem bis_turn {G:Sig}{n x lo hi y:Nat}{vs:List V}{tl:List (Nat × V)}(ht:tl=[]∨∃ v,tl=[(5,v)]) (h:lo+hi≤100000) (hy:nth vs ((lo+hi)/2)=some (N y)):
  (ops G (n+9)).exs ⟨1,[]⟩ bisB [.list vs,frB x lo hi tl]=some (.next,[.list vs,bif decide (y<x) then frB x ((lo+hi)/2+1) hi [(5,N ((lo+hi)/2))] else frB x lo ((lo+hi)/2) [(5,N ((lo+hi)/2))]]):=by
 have hb:Nat.ble ((lo+hi)/2) lstMax=true:=nB (by show _≤100000;omega);have hh:=half_N (lo+hi) (by exact lT h (nL rfl));have hl:=lt_N y x;rcases ht with rfl | ⟨v,rfl⟩
 ·simp only[bisB,frB,add_N,add_1,hh,getSub,hb,hy,hl,o_ev,o_tst,o_ex,o_exs,Z0,Z1,Z3,ZB,ZW,Ze,Zm,Zq,Zr,b1s,b0s,ldLoc,Zx,Zy,Zz,J0,J1,J2,J4,J5,Nat.beq,cond_true,cond_false,binop,YI,nx,Zu,Option.bind_eq_bind,Option.bind_some,J6,cmpop,N,JF,JR,JJ,JL,JH,JU,JZ,Ja,JN];cases decide (y<x)<;>simp only[b1s,cond_true,cond_false,J6]
 ·simp only[bisB,frB,add_N,add_1,hh,getSub,hb,hy,hl,o_ev,o_tst,o_ex,o_exs,Z0,Z1,Z3,ZB,ZW,Ze,Zm,Zq,Zr,b1s,b0s,ldLoc,Zx,Zy,Zz,J0,J1,J2,J4,J5,Nat.beq,cond_true,cond_false,binop,YI,nx,Zu,Option.bind_eq_bind,Option.bind_some,J6,cmpop,N,JF,JR,JJ,JL,JH,JU,JZ,Ja,JN];cases decide (y<x)<;>simp only[b1s,cond_true,cond_false,J6]
noncomputable def quoteP (d:List Nat):Option (List Nat):=bif Nat.ble (len d) 1000 then (match subTab code2 [13,10] d with
 | some t=>bif Nat.ble (len t) 1000 then subTab code1 [46,46] t else none
 | none=>none) else none
theorem quote_ev {pr:V→List V→St→Option (V × St)}{n:Nat}{d t s:List Nat}(h1:Nat.ble (len d) 1000=true) (h2:subTab code2 [13,10] d=some t) (h3:Nat.ble (len t) 1000=true) (h4:subTab code1 [46,46] t=some s) (hp:∀ vs W,pr (.st 159) vs W=none):
  (ops (sig pr) (n+12)).call (.st 159) [.str d] []=some (.str s,[.ns [(61,.str d)]]):=by
 have e2:(sig pr).sub [14,9,4,1,2,16,10,16,13,0,7,7,16,13,16,10,15,18,5,16,10,15,13,11,16,13,5,5,0,16,10,1,15,2,0,1] [13,10] d=some t:=h2;have e4:(sig pr).sub [14,4,0,1,1,6,1,16,46,1] [46,46] t=some s:=h4;have m1:∀ W,mSt (sig pr) 152 65 [.str [13,10],.str d] W=some (.str t,W):=fun W=>by
  show (bif Nat.ble 2 1000&&Nat.ble (len d) 1000 then (((sig pr).sub _ [13,10] d).bind fun t=>some (V.str t,W)) else none)=_;rw[h1,e2];rfl
 have m2:∀ W,mSt (sig pr) 147 65 [.str [46,46],.str t] W=some (.str s,W):=fun W=>by
  show (bif Nat.ble 2 1000&&Nat.ble (len t) 1000 then (((sig pr).sub _ [46,46] t).bind fun t=>some (V.str t,W)) else none)=_;rw[h3,e4];rfl
 have f1:∀ W,findM (sig pr) (.st 147) 65 W=some none:=fun W=>rfl;have f2:∀ W,findM (sig pr) (.st 152) 65 W=some none:=fun W=>rfl;rw[call_st (hp _ _) rfl rfl];simp only[callFD,fd159,Yw,Yx,K8,K9,noCells,KA,List.map,List.nil_append,KC,KD,List.append_nil,List.any,o_ev,o_evs,o_ex,o_exs,Z0,Z1,ZF,ZZ,Za,Zc,Zq,Zr,b1,b0,ldLoc,Zx,Zz,J0,J1,J4,Nat.beq,cond_true,YJ,YL,Zu,Option.bind_eq_bind,Option.bind_some,JF];simp only[f1,f2,eMcall,meth,m1,m2,cRet,retOf,b0,J8]
theorem land_1 (a:Nat):binI .BitAnd (.ofNat a) 1=some (.ofNat (a%2)):=by
 show some (Int.ofNat (a &&& 1))=_;rw[Nat.and_one_is_mod]
theorem shr_N (a k:Nat) (h:Nat.ble k 40=true):binI .RShift (.ofNat a) (.ofNat k)=some (.ofNat (a/2^k)):=by
 show (bif Nat.ble k 40 then some (Int.ofNat (a/2^k)) else none)=_;rw[h];rfl
theorem truthy_N (m:Nat) (W:St):truthyV (.int (.ofNat m)) W=some (!Nat.beq m 0):=by
 show some (!eqI (.ofNat m) 0)=_
 congr 2
 cases m with
 | zero=>rfl
 | succ m=>exact decide_eq_false (by show ¬ ((m+1:Nat):Int)=0;omega)
theorem rit_next (i k c:Nat) (W:St):nxRit i (.ofNat k) (.ofNat (c+1)) 1 W=some (some (N k),setAt W i (.rit (.ofNat (k+1)) (.ofNat c) 1)):=by
 have h:leI (.ofNat (c+1)) 0=false:=decide_eq_false (by show ¬ ((c+1:Nat):Int)≤0;omega);unfold nxRit;rw[h];show some (some (V.int (.ofNat k)),setAt W i (.rit (Int.ofNat k+1) (Int.ofNat (c+1)-1) 1))=_;rw[show Int.ofNat (c+1)-1=Int.ofNat c by show ((c+1:Nat):Int)-1=c;omega];rfl
theorem rit_end (i k:Nat) (W:St):nxRit i (.ofNat k) (.ofNat 0) 1 W=some (none,setAt W i .junk):=rfl
noncomputable abbrev frM (num:Nat) (dot e acc:List Nat) (tl:List (Nat × V)):O:=.ns ((77,N num)::(78,.ref 0)::(79,.str dot)::(80,.str e)::(81,.str acc)::tl)
noncomputable def mailB:List S:=[.ifs (.bin (.BitAnd) (.bin (.RShift) (.loc 77) (.loc 82)) (.c (.int 1))) [.asg false 81 (.bin (.Add) (.loc 81) (.loc 79))] [],.asg false 81 (.bin (.Add) (.bin (.Add) (.loc 81) (.sub (.loc 78) (.loc 82))) (.loc 80))]
noncomputable def rowOf (num k:Nat) (dot:List Nat):List Nat:=bif Nat.beq (num/2^k%2) 1 then dot else []
theorem mod2 (x:Nat):(!Nat.beq (x%2) 0)=Nat.beq (x%2) 1:=by
 rcases Nat.mod_two_eq_zero_or_one x with h | h<;>rw[h]<;>rfl
theorem mail_body {G:Sig}{n num k:Nat}{rs:List V}{dot e acc r:List Nat}{tl:List (Nat × V)}{o:O}(ht:tl=[]∨∃ v,tl=[(82,v)]) (hk:k≤40) (hr:nth rs k=some (.str r)) (hl:len acc+len dot+len r+len e≤1000):
  (ops G (n+9)).exs ⟨1,[]⟩ mailB [.list rs,frM num dot e acc [(82,N k)],o]=some (.next,[.list rs,frM num dot e (acc++rowOf num k dot++r++e) [(82,N k)],o]):=by
 have hk1:Nat.ble k 40=true:=nB hk;have hk2:Nat.ble k lstMax=true:=nB (by show k≤100000;exact lT hk (nL rfl));have hs:=shr_N num k hk1;have hm:=land_1 (num/2^k);have htr:=truthy_N (num/2^k%2);have g1:Nat.ble (len acc+len dot) strMax=true:=nB (by show _≤1000000;omega);have g2:Nat.ble (len acc+len r) strMax=true:=nB (by show _≤1000000;omega);have g3:Nat.ble (len (acc++dot)+len r) strMax=true:=nB (by rw[len_app];show _≤1000000;omega);have g4:Nat.ble (len (acc++r)+len e) strMax=true:=nB (by rw[len_app];show _≤1000000;omega);have g5:Nat.ble (len (acc++dot++r)+len e) strMax=true:=nB (by rw[len_app,len_app];show _≤1000000;omega);have e0:∀ n,(ops G (n+4)).tst ⟨1,[]⟩ (.bin (.BitAnd) (.bin (.RShift) (.loc 77) (.loc 82)) (.c (.int 1))) [.list rs,frM num dot e acc [(82,N k)],o]=some (Nat.beq (num/2^k%2) 1,[.list rs,frM num dot e acc [(82,N k)],o]):=fun n=>by
  simp only[frM,hs,hm,htr,o_ev,o_tst,Z0,Z1,Z3,ZM,b1,b0,ldLoc,Zx,Zy,Zz,J0,Nat.beq,cond_true,cond_false,binop,YI,Option.bind_eq_bind,Option.bind_some,eTru,N,JF,JR,JJ];rw[mod2]
 unfold rowOf;have e0':=e0 (n+3);cases hbit:Nat.beq (num/2^k%2) 1 with
 | true=>
  rw[hbit] at e0';simp only[mailB,e0',frM,o_exs,Zq,Zr,o_ex,Ze,Zm,b1,cond_true];simp only[g1,g3,g5,getSub,hk2,hr,o_ev,Z1,Z3,ZB,b1,b0,ldLoc,Zx,Zy,Zz,J0,J1,J2,J4,J5,Nat.beq,cond_true,cond_false,binop,nx,Zu,Option.bind_eq_bind,J6,N,JF,JS,JK,JL,JH,JU,JN]
 | false=>
  rw[hbit] at e0';simp only[mailB,e0',frM,o_exs,Zq,Zr,o_ex,Ze,Zm,b1,cond_false];simp only[g2,g4,getSub,hk2,hr,List.append_nil,o_ev,Z1,Z3,ZB,b1,b0,ldLoc,Zx,Zy,Zz,J0,J1,J2,J4,J5,Nat.beq,cond_true,cond_false,binop,nx,Zu,Option.bind_eq_bind,J6,N,JF,JS,JK,JL,JH,JU,JN]
theorem mail_turn {G:Sig}{n num k c:Nat}{rs:List V}{dot e acc r:List Nat}{tl:List (Nat × V)}(ht:tl=[]∨∃ v,tl=[(82,v)]) (hk:k≤40) (hr:nth rs k=some (.str r)) (hl:len acc+len dot+len r+len e≤1000):
  (ops G (n+10)).frs ⟨1,[]⟩ false 82 2 mailB [.list rs,frM num dot e acc tl,.rit (.ofNat k) (.ofNat (c+1)) 1] =
  (ops G (n+9)).frs ⟨1,[]⟩ false 82 2 mailB [.list rs,frM num dot e (acc++rowOf num k dot++r++e) [(82,N k)],.rit (.ofNat (k+1)) (.ofNat c) 1]:=by
 have hb:=mail_body (G:=G) (n:=n) (num:=num) (o:=.rit (.ofNat (k+1)) (.ofNat c) 1) ht hk hr hl;have nx:(ops G (n+9)).nxt 2 [.list rs,frM num dot e acc tl,.rit (.ofNat k) (.ofNat (c+1)) 1]=some (some (N k),[.list rs,frM num dot e acc tl,.rit (.ofNat (k+1)) (.ofNat c) 1]):=by
  rw[o_nxt];show nxRit 2 _ _ _ _=_;rw[rit_next];rfl
 have st:stName ⟨1,[]⟩ false 82 (N k) [.list rs,frM num dot e acc tl,.rit (.ofNat (k+1)) (.ofNat c) 1]=some [.list rs,frM num dot e acc [(82,N k)],.rit (.ofNat (k+1)) (.ofNat c) 1]:=by
  rcases ht with rfl | ⟨v,rfl⟩<;>rfl
 have e1:∀ F:Option (Fl × St),xLoop .next [.list rs,frM num dot e (acc++rowOf num k dot++r++e) [(82,N k)],.rit (.ofNat (k+1)) (.ofNat c) 1] F=F:=fun F=>rfl;rw[o_frs];have e2:stepFrs (ops G (n+9)) ⟨1,[]⟩ false 82 2 mailB [.list rs,frM num dot e acc tl,.rit (.ofNat k) (.ofNat (c+1)) 1]=b1 ((ops G (n+9)).nxt 2 [.list rs,frM num dot e acc tl,.rit (.ofNat k) (.ofNat (c+1)) 1]) fun o W=>frsGo (ops G (n+9)) ⟨1,[]⟩ false 82 2 mailB o W:=by
  unfold stepFrs;rw[show isNs (nth [O.list rs,frM num dot e acc tl,.rit (.ofNat k) (.ofNat (c+1)) 1] 1)=true from rfl,cond_true]
 rw[e2,nx];simp only[b1,YD,b0,st,hb,e1]
noncomputable def shortS (l:List (List Nat)):Bool:=l.all fun s=>Nat.ble (len s) 50
theorem mail_loop {G:Sig}{num:Nat}{rs:List V}{dot e:List Nat}(hd:len dot≤50) (he:len e≤50):∀ (ss:List (List Nat)) (k:Nat) (acc:List Nat) (tl:List (Nat × V)) (m:Nat),(tl=[]∨∃ v,tl=[(82,v)])→k+len ss≤40→(∀ s∈ss,len s≤50)→(∀ i s,nth ss i=some s→nth rs (k+i)=some (.str s))→len acc+150*len ss≤1000 →
  ∃ tl',(ops G (m+len ss+10)).frs ⟨1,[]⟩ false 82 2 mailB [.list rs,frM num dot e acc tl,.rit (.ofNat k) (.ofNat (len ss)) 1]=some (.next,[.list rs,frM num dot e (acc++mailFrom num dot e k ss) tl',.junk]):=by
 intro z0;induction z0 with
 | nil=>
  intro k acc tl m ht hk hs hn hl;refine ⟨tl,?_⟩;rw[show acc++mailFrom num dot e k []=acc from List.append_nil _];rcases ht with rfl | ⟨v,rfl⟩<;>rfl
 | cons r ss ih0=>
  intro k acc tl m ht hk hs hn hl;have hk:k+(len ss+1)≤40:=hk;have hl:len acc+150*(len ss+1)≤1000:=hl;have hr:len r≤50:=hs r (.head _);have hw:len (rowOf num k dot)≤50:=by unfold rowOf;cases Nat.beq (num/2^k%2) 1<;>first | exact hd | exact Nat.zero_le _
  have la:len (acc++rowOf num k dot++r++e)≤len acc+150:=by rw[len_app,len_app,len_app];exact lq3 [_,_,_,_] (.a (.a (.a (.v 0) (.v 1)) (.v 2)) (.v 3)) (.a (.v 0) (.k 150)) (.v 1) (.k 50) (.v 2) (.k 50) (.v 3) (.k 50) hw hr he rfl
  obtain ⟨tl',h⟩:=ih0 (k+1) (acc++rowOf num k dot++r++e) [(82,N k)] m (.inr ⟨_,rfl⟩) (by exact lq1 [_,_] (.a (.a (.v 0) (.k 1)) (.v 1)) (.k 40) (.a (.v 0) (.a (.v 1) (.k 1))) (.k 40) hk rfl) (fun s h=>hs s (.tail _ h)) (fun i s h=>by rw[Nat.add_assoc,Nat.add_comm 1 i];exact hn (i+1) s h) (by exact lq2 [_,_,_] (.a (.v 0) (.m 150 (.v 1))) (.k 1000) (.v 0) (.a (.v 2) (.k 150)) (.a (.v 2) (.m 150 (.a (.v 1) (.k 1)))) (.k 1000) la hl rfl);refine ⟨tl',(mail_turn (n:=m+len ss+1) (c:=len ss) ht (by exact lq1 [_,_] (.a (.v 0) (.k 0)) (.k 40) (.a (.v 0) (.a (.v 1) (.k 1))) (.k 40) hk rfl) (hn 0 r rfl) (by omega)).trans ?_⟩;rw[show acc++mailFrom num dot e k (r::ss)=acc++rowOf num k dot++r++e++mailFrom num dot e (k+1) ss by rw[Ka,← rowOf];simp only[List.append_assoc]];exact h
theorem mail_ev {pr:V→List V→St→Option (V × St)}{n num:Nat}{r0 r1 r2 r3 r4 dot e:List Nat}(hp:∀ vs W,pr (.st 178) vs W=none) (hb:∀ c vs W,pr (.bi c) vs W=none) (hl:shortS [r0,r1,r2,r3,r4,dot,e]=true):
  ∃ W',(ops (sig pr) (n+20)).call (.st 178) [N num,.ref 0,.str dot,.str e] [.list [.str r0,.str r1,.str r2,.str r3,.str r4]]=some (.str (mailFrom num dot e 0 [r0,r1,r2,r3,r4]),.list [.str r0,.str r1,.str r2,.str r3,.str r4]::W'):=by
 have lb:∀ s∈[r0,r1,r2,r3,r4,dot,e],len s≤50:=fun s h=>nL (List.all_eq_true.mp hl s h);obtain ⟨tl',hm⟩:=mail_loop (G:=sig pr) (num:=num) (rs:=[.str r0,.str r1,.str r2,.str r3,.str r4]) (lb dot (by simp)) (lb e (by simp)) [r0,r1,r2,r3,r4] 0 [] [] (n+1) (.inl rfl) (show 0+5≤40 by decide) (fun s h=>lb s (List.mem_append_left [dot,e] h)) (fun i s h=>by
  rcases i with ux | uy | uz | uw | ut | i
  ·exact congrArg (Option.map V.str) h
  ·exact congrArg (Option.map V.str) h
  ·exact congrArg (Option.map V.str) h
  ·exact congrArg (Option.map V.str) h
  ·exact congrArg (Option.map V.str) h
  ·exact nn h) (show 0+150*5≤1000 by decide)
 refine ⟨[frM num dot e (mailFrom num dot e 0 [r0,r1,r2,r3,r4]) tl',.junk],?_⟩;rw[call_st (hp _ _) rfl rfl];have e1:callFD (ops (sig pr) (n+19)) fd178 [N num,.ref 0,.str dot,.str e] [.list [.str r0,.str r1,.str r2,.str r3,.str r4]]=b1 ((ops (sig pr) (n+19)).exs ⟨1,[]⟩ [.asg false 81 (.c (.str [])),.fr false 82 (.call (.c (.bi (.range))) [.c (.int 5)]) mailB,.ret (.loc 81)] [.list [.str r0,.str r1,.str r2,.str r3,.str r4],.ns [(77,N num),(78,.ref 0),(79,.str dot),(80,.str e)]]) cRet:=rfl;have e2:∀ m,(ops (sig pr) (m+4)).ex ⟨1,[]⟩ (.fr false 82 (.call (.c (.bi (.range))) [.c (.int 5)]) mailB) [.list [.str r0,.str r1,.str r2,.str r3,.str r4],frM num dot e [] []]=(ops (sig pr) (m+3)).frs ⟨1,[]⟩ false 82 2 mailB [.list [.str r0,.str r1,.str r2,.str r3,.str r4],frM num dot e [] [],O.rit (Int.ofNat 0) (Int.ofNat 5) 1]:=fun m=>by
  have c1:(ops (sig pr) (m+2)).call (.bi .range) [.int 5] [.list [.str r0,.str r1,.str r2,.str r3,.str r4],frM num dot e [] []]=some (.range 0 5 1,[.list [.str r0,.str r1,.str r2,.str r3,.str r4],frM num dot e [] []]):=by rw[call_bi hb];rfl
  simp only[o_ex,Zl,o_ev,Z0,ZE,b1,YI,YK,o_evs,ZZ,Za,eCall,Y7,cond_true,c1];rfl
 have h1:(ops (sig pr) (n+18)).ex ⟨1,[]⟩ (.asg false 81 (.c (.str []))) [.list [.str r0,.str r1,.str r2,.str r3,.str r4],.ns [(77,N num),(78,.ref 0),(79,.str dot),(80,.str e)]]=some (.next,[.list [.str r0,.str r1,.str r2,.str r3,.str r4],frM num dot e [] []]):=rfl;rw[e1,exs_cons h1,exs_cons ((e2 (n+13)).trans hm),exs_ret (v:=.str (mailFrom num dot e 0 [r0,r1,r2,r3,r4])) rfl];rfl
noncomputable def five:List (List Nat)→Bool
 | [ux,uy,uz,uw,ut]=>true
 | ux=>false
noncomputable def pMail (f:V) (vs:List V) (W:St):Option (V × St):=onSt f fun a=>onC vs fun x vs=>onNat x fun n=>onC vs fun x vs=>onRef x fun l=>onC vs fun x vs=>onStr x fun dot=>onC vs fun x vs=>onStr x fun e=>onE vs (bif Nat.beq a 178&&noCits W then (onL (nth W l) fun rs=>b0 (strsOf rs) fun ss=>bif five ss&&(shortS ss&&(shortS [dot,e])) then some (.str (mailFrom n dot e 0 ss),W) else none) else none)
end Mine
end
section
open PySem PySem.W PySem.Spec PySem.Calls PyProof.Rows
namespace Mine
theorem beqL_self (l:List Nat):beqL l l=true:=by rw[beqL_eq];exact beq_self_eq_true l
theorem eqI_self (i:Int):eqI i i=true:=decide_eq_true rfl
theorem strsOf_inv:∀ {rs:List V}{ss:List (List Nat)},strsOf rs=some ss→rs=ss.map .str
 | [],ux,e=>by obtain rfl:=sI e;rfl
 | v::r,ss,e=>by
  revert e;refine OStr ?_;rintro p rfl e;revert e;refine Bo ?_;intro t q e;cases e;rw[List.map_cons,← strsOf_inv q]
theorem eqFs_strs:∀ ss:List (List Nat),eqFs (ss.map .str) (ss.map .str)=true:=by
 intro z0;induction z0 with
 | nil=>
  exact rfl
 | cons s r ih0=>
  show (beqL s s&&eqFs (r.map .str) (r.map .str))=true;rw[beqL_self,ih0];rfl
theorem flat1 {b:BS}{m:Nat}{r:Ops}{a l:Nat}{pre post:List V}{ws:List V}{W0' W:St}{v:V}(S:Sound b m r) (hc:r.call (.st a) (pre++.ref 0::post) [.list ws]=some (v,.list ws::W0')) (hw:eqFs ws ws=true) (hv:flatR v=true) (h1:flats pre=true) (h2:flats post=true) (hl:nth W l=some (.list ws)) (nc:noCits W=true)
  {fx:Value}{xs:List Value}{A:Around}{kp:Kp}{ρ:List Addr}{s:Shared}{Q E:Value→Shared→Prop}(g1:VR kp ρ (.st a) fx) (g2:VRs kp ρ (pre++.ref l::post) xs) (hA:AOk m A) (R:SR b kp ρ W s) (h:Back b kp ρ W (fun kp ρ y=>VR kp ρ v y) Q):
  codeAny (model b.prog b.w) A (.call fx ⟨xs,[]⟩) (CallBack Q E) s:=by
 have e0:∀ {p q:List V}{f:Nat→Nat},renVs f (p++q)=renVs f p++renVs f q:=by
  intro p q f;induction p with
  | nil=>rfl
  | cons a p ih=>show renV f a::renVs f (p++q)=_;rw[ih];rfl
 have e1:∀ {p q:List V}{f:Nat→Bool},inVs f (p++q)=(inVs f p&&inVs f q):=by
  intro p q f;induction p with
  | nil=>rfl
  | cons a p ih=>show (inV f a&&inVs f (p++q))=_;rw[ih,← Bool.and_assoc];rfl
 refine flat_prim (σ:=[l]) (vs:=pre++.ref l::post) S hc rfl rfl (by show (eqFs ws ws&&true)=true;rw[hw];rfl) hv (by simp) rfl (fun j i e=>?_) ?_ ?_ nc g1 g2 hA R h
 ·cases j with
  | zero=>obtain rfl:=sI e;exact hl
  | succ j=>exact nn e
 ·rw[e0,flats_ren h1];show pre++V.ref (posL [l] l)::renVs _ post=_;rw[flats_ren h2];dsimp only[Kh,Ki];rw[Nat.beq_refl];rfl
 ·rw[e1,flats_in h1];show (true&&(isInL [l] l&&inVs _ post))=true;rw[flats_in h2];unfold isInL;rw[List.any_cons,Nat.beq_refl];rfl
theorem five_inv {ss:List (List Nat)}(h:five ss=true):∃ r0 r1 r2 r3 r4,ss=[r0,r1,r2,r3,r4]:=by
 rcases ss with ux | ⟨r0,uy | ⟨r1,uz | ⟨r2,uw | ⟨r3,ut | ⟨r4,uq | ⟨r5,t⟩⟩⟩⟩⟩⟩<;>first | exact ft h | exact ⟨_,_,_,_,_,rfl⟩
theorem noPrim_bi:∀ c vs W,noPrim (.bi c) vs W=none:=fun ux uy uz=>rfl
theorem mail_prim {b:BS}(H:Here b):PrimOk b 20 pMail:=by
 intro f vs W v W' fx xs A kp ρ s Q E e;refine bC fun hN=>?_;revert e;refine OSt ?_;rintro a rfl e;revert e;refine OC ?_;rintro ux uy rfl e;revert e;refine ONat ?_;rintro n rfl e;revert e;refine OC ?_;rintro ux uy rfl e;revert e;refine ORef ?_;rintro l rfl e;revert e;refine OC ?_;rintro ux uy rfl e;revert e;refine OStr ?_;rintro dot rfl e;revert e;refine OC ?_;rintro ux uy rfl e;revert e;refine OStr ?_;rintro en rfl e;revert e;refine OE ?_;rintro rfl e;revert e;refine Bt ?_;intro z e;have z1:=al z;have z2:=ar z;have:=nE z1;subst this;revert e;refine OL ?_;intro rs hw e;revert e;refine B0 ?_;intro ss hss e;revert e;refine Bt ?_;intro z3 e;refine Q02 (pj e) ?_;rintro rfl rfl;have z4:=al z3;have z5:=ar z3;have z6:=al z5;have z7:=ar z5;obtain ⟨r0,r1,r2,r3,r4,rfl⟩:=five_inv z4;have hrs:=strsOf_inv hss;subst hrs;obtain ⟨W1,hc⟩:=mail_ev (pr:=noPrim) (n:=0) (num:=n) (r0:=r0) (r1:=r1) (r2:=r2) (r3:=r3) (r4:=r4) (dot:=dot) (e:=en) (fun ux uy=>rfl) noPrim_bi (by
  unfold shortS at z6 z7 ⊢;simp only[List.all_cons,List.all_nil,Bool.and_true,Bool.and_eq_true] at z6 z7 ⊢;refine Q05 z6 ?_;intro a b c d e;exact ⟨a,b,c,d,e,z7⟩)
 refine hN ?_;exact ⟨rfl,fun h1 h2 hA R h=>flat1 (pre:=[N n]) (post:=[.str dot,.str en]) (sound H (prim_none b) 20) hc (eqFs_strs [r0,r1,r2,r3,r4]) rfl rfl rfl hw z2 h1 h2 (hA.le (by exact nL rfl)) R h⟩
noncomputable def pQuote (f:V) (vs:List V) (W:St):Option (V × St):=onSt f fun a=>onC vs fun x vs=>onStr x fun d=>onE vs (bif Nat.beq a 159&&noCits W then (b0 (quoteP d) fun s=>some (.str s,W)) else none)
set_option tactic.hygienic true in
theorem quote_prim {b:BS}(H:Here b):PrimOk b 12 pQuote:=by
 intro f vs W v W' fx xs A kp ρ s Q E e;refine bC fun hN=>?_;revert e;refine OSt ?_;rintro a rfl e;revert e;refine OC ?_;rintro ux uy rfl e;revert e;refine OStr ?_;rintro d rfl e;revert e;refine OE ?_;rintro rfl e;revert e;refine Bt ?_;intro z e;have z1:=al z;have z2:=ar z;have:=nE z1;subst this;revert e;refine B0 ?_;intro t ht e;refine Q02 (pj e) ?_;rintro rfl rfl;revert ht;refine Bt ?_;intro k1 ht;split at ht
 ·rename_i u hu;revert ht;refine Bt ?_;intro k2 ht;have hc:=quote_ev (pr:=noPrim) (n:=0) k1 hu k2 ht (fun ux uy=>rfl);refine hN ?_;exact ⟨rfl,fun h1 h2 hA R h=>flat_prim (σ:=[]) (vs:=[.str d]) (sound H (prim_none b) 12) hc rfl rfl rfl rfl List.nodup_nil rfl (fun ux uy e=>nomatch e) rfl rfl z2 h1 h2 (hA.le (by exact nL rfl)) R h⟩
 ·exact nn ht
noncomputable def bitsV (n:Nat):List V:=[N (n%2),N (n/2%2),N (n/4%2),N (n/8%2),N (n/16%2)]
noncomputable def pDig (f:V) (vs:List V) (W:St):Option (V × St):=onSt f fun a=>onC vs fun x vs=>onRef x fun l=>onC vs fun x vs=>onNat x fun k=>onE vs (bif Nat.beq a 86&&(Nat.beq k 1&&noCits W) then (onL (nth W l) fun ws=>b0 ((upto 32).find? fun n=>eqFs ws (bitsV n)) fun n=>some (N n,W)) else none)
noncomputable def digChk (n:Nat):Bool:=match (ops (sig noPrim) 40).call (.st 86) [.ref 0,.int (.ofNat 1)] [.list (bitsV n)] with
 | some (v,W0)=>eqF v (N n)&&sameO [.list (bitsV n)] W0
 | none=>false
theorem dig_tab:(upto 32).all digChk=true:=by decide +kernel
theorem upto_all {p:Nat→Bool}:∀ {n:Nat},(upto n).all p=true→∀ i,i<n→p i=true
 | 0,ux,i,h=>absurd h (Nat.not_lt_zero i)
 | n+1,h,i,hi=>by
  rw[Kc] at h;rw[List.all_append,Bool.and_eq_true] at h;rcases Nat.lt_or_eq_of_le (Nat.le_of_lt_succ hi) with h1 | rfl
  ·exact upto_all h.1 i h1
  ·have:=h.2;rw[List.all_cons,Bool.and_eq_true] at this;exact this.1
theorem upto_lt {n:Nat}:∀ {k:Nat},n∈upto k→n<k
 | 0,h=>by cases h
 | k+1,h=>by
  rcases List.mem_append.mp h with h | h
  ·exact Nat.lt_succ_of_lt (upto_lt h)
  ·rw[List.mem_singleton.mp h];exact Nat.lt_succ_self k
set_option tactic.hygienic true in
theorem dig_prim {b:BS}(H:Here b):PrimOk b 40 pDig:=by
 intro f vs W v W' fx xs A kp ρ s Q E e;refine bC fun hN=>?_;revert e;refine OSt ?_;rintro a rfl e;revert e;refine OC ?_;rintro ux uy rfl e;revert e;refine ORef ?_;rintro l rfl e;revert e;refine OC ?_;rintro ux uy rfl e;revert e;refine ONat ?_;rintro k rfl e;revert e;refine OE ?_;rintro rfl e;revert e;refine Bt ?_;intro z e;have z1:=al z;have z2:=ar z;have z3:=ar z2;have z2:=al z2;have:=nE z1;subst this;have:=nE z2;subst this;revert e;refine OL ?_;intro ws hw e;revert e;refine B0 ?_;intro n hn e;refine Q02 (pj e) ?_;rintro rfl rfl;have k1:=upto_lt (List.mem_of_find?_eq_some hn);have hq:eqFs ws (bitsV n)=true:=List.find?_some (p:=fun n=>eqFs ws (bitsV n)) hn;refine Q02 (eqFs_eq hq) ?_;rintro rfl ux;have hc:=upto_all dig_tab n k1;unfold digChk at hc;split at hc
 ·rename_i v0 W0 hcc;have c1:=al hc;have c2:=ar hc;refine Q02 (eqF_eq c1) ?_;rintro rfl ux;refine hN ?_;exact ⟨rfl,fun h1 h2 hA R h=>by
   refine flat_prim (σ:=[l]) (vs:=[.ref l,N 1]) (sound H (prim_none b) 40) hcc rfl rfl c2 rfl (by simp) rfl (fun j i e=>?_) ?_ ?_ z3 h1 h2 (hA.le (by exact nL rfl)) R h
   ·cases j with
    | zero=>obtain rfl:=sI e;exact hw
    | succ j=>exact nn e
   ·show [V.ref (posL [l] l),N 1]=_;dsimp only[Kh,Ki];rw[Nat.beq_refl];rfl
   ·show (isInL [l] l&&true)=true;unfold isInL;rw[List.any_cons,Nat.beq_refl];rfl⟩
 ·exact ft hc
noncomputable def L1:V→List V→St→Option (V × St):=por pDig (por pMail pQuote)
theorem L1_ok {b:BS}(H:Here b):PrimOk b 40 L1:=por_ok (dig_prim H) (por_ok (mail_prim H) (quote_prim H) (by exact nL rfl)) (by exact nL rfl)
end Mine
end
section
open PySem
namespace Mine
noncomputable def nums (xs:List Nat):List V:=xs.map fun x=>N x
theorem nth_nums:∀ (xs:List Nat) (i:Nat),nth (nums xs) i=(xs[i]?).map fun x=>N x
 | [],ux=>rfl
 | ux::uy,0=>rfl
 | ux::r,i+1=>by show nth (nums r) i=_;rw[nth_nums r i];rfl
theorem len_nums (xs:List Nat):len (nums xs)=xs.length:=by rw[len_eq];show (xs.map _).length=_;rw[List.length_map]
noncomputable def Parts (xs:List Nat) (x p:Nat):Prop:=p≤xs.length∧(∀ i y,xs[i]?=some y→(i<p↔y<x))
theorem bis_tst {G:Sig}{xs:List Nat}{x lo hi:Nat}{tl:List (Nat × V)}(m:Nat):(ops G (m+3)).tst ⟨1,[]⟩ bisT [.list (nums xs),frB x lo hi tl]=some (decide (lo<hi),[.list (nums xs),frB x lo hi tl]):=by
 have hc:=lt_N lo hi;simp only[bisT,frB,hc,o_ev,o_tst,Z1,ZW,b1,b0,ldLoc,Zx,Zy,J0,Nat.beq,cond_true,cond_false,cmpop,N,JF,JR,JJ,JZ,Ja]
theorem bis_done {G:Sig}{xs:List Nat}{x p:Nat}{tl:List (Nat × V)}(n:Nat):(ops G (n+12)).whl ⟨1,[]⟩ bisT bisB [.list (nums xs),frB x p p tl]=some (.next,[.list (nums xs),frB x p p tl]):=by
 rw[show n+12=(n+11)+1 from rfl,o_whl];unfold stepWhl;rw[bis_tst (n+8),decide_eq_false (Nat.lt_irrefl p)];rfl
theorem bis_go {G:Sig}{xs:List Nat}{x lo hi lo' hi':Nat}{tl tl':List (Nat × V)}{y:Fl × St}(n:Nat) (hlt:lo<hi) (e:(ops G (n+12)).exs ⟨1,[]⟩ bisB [.list (nums xs),frB x lo hi tl]=some (.next,[.list (nums xs),frB x lo' hi' tl'])) (t:(ops G (n+12)).whl ⟨1,[]⟩ bisT bisB [.list (nums xs),frB x lo' hi' tl']=some y):
  (ops G (n+1+12)).whl ⟨1,[]⟩ bisT bisB [.list (nums xs),frB x lo hi tl]=some y:=by
 rw[show n+1+12=(n+12)+1 by exact rfl,o_whl];unfold stepWhl;rw[bis_tst (n+9),decide_eq_true hlt];simp only[b1,cond_true];rw[e];exact t
theorem bis_loop {G:Sig}{xs:List Nat}{x p:Nat}(hp:Parts xs x p) (hx:xs.length≤1000) (d:Nat):∀ (lo hi:Nat) (tl:List (Nat × V)) (n:Nat),(tl=[]∨∃ v,tl=[(5,v)])→hi-lo≤d→lo≤p→p≤hi→hi≤xs.length →
  ∃ tl',(tl'=[]∨∃ v,tl'=[(5,v)])∧(ops G (n+d+12)).whl ⟨1,[]⟩ bisT bisB [.list (nums xs),frB x lo hi tl]=some (.next,[.list (nums xs),frB x p p tl']):=by
 induction d with
 | zero=>
  intro lo hi tl n ht hd h1 h2 h3;obtain rfl:lo=p:=by omega
  obtain rfl:hi=lo:=by omega
  exact ⟨tl,ht,bis_done n⟩
 | succ d ih=>
  intro lo hi tl n ht hd h1 h2 h3;by_cases hlt:lo<hi
  ·have hm:(lo+hi)/2<xs.length:=by omega
   have hy:nth (nums xs) ((lo+hi)/2)=some (N xs[(lo+hi)/2]):=by rw[nth_nums,List.getElem?_eq_getElem hm];rfl
   have hb:=bis_turn (G:=G) (n:=n+d+3) (x:=x) ht (by omega) hy;have hpp:=hp.2 ((lo+hi)/2) _ (List.getElem?_eq_getElem hm);by_cases hyx:xs[(lo+hi)/2]<x
   ·rw[decide_eq_true hyx,cond_true] at hb;obtain ⟨tl',t1,t2⟩:=ih _ _ _ n (.inr ⟨_,rfl⟩) (by omega) (hpp.mpr hyx) h2 h3;exact ⟨tl',t1,bis_go (n+d) hlt hb t2⟩
   ·rw[decide_eq_false hyx,cond_false] at hb;obtain ⟨tl',t1,t2⟩:=ih _ _ _ n (.inr ⟨_,rfl⟩) (by omega) h1 (Nat.le_of_not_lt (mt hpp.mp hyx)) (Nat.le_of_lt hm);exact ⟨tl',t1,bis_go (n+d) hlt hb t2⟩
  ·obtain rfl:lo=p:=by exact Nat.le_antisymm (lq1 [_,_] (.v 0) (.v 1) (.v 0) (.v 1) h1 rfl) (lq2 [_,_,_] (.v 0) (.v 1) (.v 2) (.v 1) (.v 0) (.v 2) (Nat.le_of_not_lt hlt) h2 rfl)
   obtain rfl:hi=lo:=by exact Nat.le_antisymm (lq1 [_,_] (.v 0) (.v 1) (.v 0) (.v 1) (Nat.le_of_not_lt hlt) rfl) (lq1 [_,_] (.v 0) (.v 1) (.v 0) (.v 1) h2 rfl)
   exact ⟨tl,ht,bis_done (n+(d+1))⟩
end Mine
end
section
open PySem PySem.W PySem.Spec PySem.Calls PyProof.Rows
namespace Mine
noncomputable def bodyL:List S:=[.ifs (.cmp (.Lt) (.loc 2) (.c (.int 0))) [.bad] [],.ifs (.cmp (.Is) (.loc 3) (.c (.none))) [.asg false 3 (.call (.c (.bi (.len))) [.loc 0])] [],.ifs (.cmp (.Is) (.loc 4) (.c (.none))) [.whl bisT bisB] [.whl (.cmp (.Lt) (.loc 2) (.loc 3)) [.asg false 5 (.bin (.FloorDiv) (.bin (.Add) (.loc 2) (.loc 3)) (.c (.int 2))),.ifs (.cmp (.Lt) (.call (.loc 4) [.sub (.loc 0) (.loc 5)]) (.loc 1)) [.asg false 2 (.bin (.Add) (.loc 5) (.c (.int 1)))] [.asg false 3 (.loc 5)]]],.ret (.loc 2)]
theorem bis_exs {xs:List Nat}{x p:Nat}(hp:Parts xs x p) (hx:xs.length≤100):∃ tl',(ops (sig noPrim) 131).exs ⟨1,[]⟩ bodyL [.list (nums xs),.ns [(0,.ref 0),(1,N x),(2,N 0),(3,.none),(4,.none)]]=some (.ret (N p),[.list (nums xs),frB x p p tl']):=by
 refine bC fun hN=>?_;refine Q12 (bis_loop (G:=sig noPrim) hp (by exact lT hx (nL rfl)) xs.length 0 xs.length [] (100-xs.length+13) (.inl rfl) (by exact lq1 [_,_] (.v 0) (.v 1) (.v 0) (.v 1) (Nat.sub_le _ _) rfl) (by exact Nat.zero_le _) hp.1 (Nat.le_refl _)) ?_;intro tl' ux hw;rw[show 100-xs.length+13+xs.length+12=125 by exact eq1 [_,_] (.a (.a (.a (.v 0) (.k 13)) (.v 1)) (.k 12)) (.k 125) (.a (.v 0) (.v 1)) (.k 100) (Nat.sub_add_cancel (hx)) rfl rfl] at hw;have hl:len (nums xs)=xs.length:=len_nums xs;have hlb:Nat.ble xs.length lstMax=true:=nB (by show _≤100000;omega);have c1:∀ r,stepCall (sig noPrim) r (.bi .len) [.ref 0] [.list (nums xs),.ns [(0,.ref 0),(1,N x),(2,N 0),(3,.none),(4,.none)]]=some (N xs.length,[.list (nums xs),.ns [(0,.ref 0),(1,N x),(2,N 0),(3,.none),(4,.none)]]):=fun r=>by
  show (bif Nat.ble (len (nums xs)) lstMax then some (V.int (Int.ofNat (len (nums xs))),_) else none)=_;rw[hl,hlb];rfl
 have s1:(ops (sig noPrim) 130).ex ⟨1,[]⟩ (.ifs (.cmp (.Lt) (.loc 2) (.c (.int 0))) [.bad] []) [.list (nums xs),.ns [(0,.ref 0),(1,N x),(2,N 0),(3,.none),(4,.none)]]=some (.next,[.list (nums xs),.ns [(0,.ref 0),(1,N x),(2,N 0),(3,.none),(4,.none)]]):=rfl;have s2:(ops (sig noPrim) 129).ex ⟨1,[]⟩ (.ifs (.cmp (.Is) (.loc 3) (.c (.none))) [.asg false 3 (.call (.c (.bi (.len))) [.loc 0])] []) [.list (nums xs),.ns [(0,.ref 0),(1,N x),(2,N 0),(3,.none),(4,.none)]]=some (.next,[.list (nums xs),frB x 0 xs.length []]):=by
  simp only[Jm,eCall,Y7,c1,o_ev,o_tst,o_evs,o_ex,o_exs,o_call,Z0,Z1,ZE,ZW,ZZ,Za,Ze,Zm,Zq,Zr,b1,b0,ldLoc,Zx,Zy,Zz,J0,J1,J2,J4,J5,Nat.beq,cond_true,cond_false,YG,YK,nx,Zu,J6,cmpop,N,JF,Jh]
 have s3:(ops (sig noPrim) 128).ex ⟨1,[]⟩ (.ifs (.cmp (.Is) (.loc 4) (.c (.none))) [.whl bisT bisB] [.whl (.cmp (.Lt) (.loc 2) (.loc 3)) [.asg false 5 (.bin (.FloorDiv) (.bin (.Add) (.loc 2) (.loc 3)) (.c (.int 2))),.ifs (.cmp (.Lt) (.call (.loc 4) [.sub (.loc 0) (.loc 5)]) (.loc 1)) [.asg false 2 (.bin (.Add) (.loc 5) (.c (.int 1)))] [.asg false 3 (.loc 5)]]]) [.list (nums xs),frB x 0 xs.length []]=some (.next,[.list (nums xs),frB x p p tl']):=by
  have e:(ops (sig noPrim) 128).ex ⟨1,[]⟩ (.ifs (.cmp (.Is) (.loc 4) (.c (.none))) [.whl bisT bisB] [.whl (.cmp (.Lt) (.loc 2) (.loc 3)) [.asg false 5 (.bin (.FloorDiv) (.bin (.Add) (.loc 2) (.loc 3)) (.c (.int 2))),.ifs (.cmp (.Lt) (.call (.loc 4) [.sub (.loc 0) (.loc 5)]) (.loc 1)) [.asg false 2 (.bin (.Add) (.loc 5) (.c (.int 1)))] [.asg false 3 (.loc 5)]]]) [.list (nums xs),frB x 0 xs.length []]=(ops (sig noPrim) 127).exs ⟨1,[]⟩ [.whl bisT bisB] [.list (nums xs),frB x 0 xs.length []]:=rfl;have e2:(ops (sig noPrim) 126).ex ⟨1,[]⟩ (.whl bisT bisB) [.list (nums xs),frB x 0 xs.length []]=(ops (sig noPrim) 125).whl ⟨1,[]⟩ bisT bisB [.list (nums xs),frB x 0 xs.length []]:=rfl;rw[e,exs_cons (e2.trans hw)];rfl
 refine hN ?_;refine ⟨tl',?_⟩;unfold bodyL;rw[exs_cons s1,exs_cons s2,exs_cons s3,exs_ret (v:=N p) rfl]
theorem bis_ev {xs:List Nat}{x p:Nat}(hp:Parts xs x p) (hx:xs.length≤100):∃ W',(ops (sig noPrim) 132).call (.st 58) [.ref 0,N x] [.list (nums xs)]=some (N p,.list (nums xs)::W')∧(ops (sig noPrim) 132).call (.st 58) [.ref 0,N x,N 0,.none] [.list (nums xs)]=some (N p,.list (nums xs)::W'):=by
 refine Q11 (bis_exs hp hx) ?_;intro tl' h;refine ⟨[frB x p p tl'],?_,?_⟩
 ·rw[call_st rfl rfl rfl];have e:callFD (ops (sig noPrim) 131) fd58 [.ref 0,N x] [.list (nums xs)]=b1 ((ops (sig noPrim) 131).exs ⟨1,[]⟩ bodyL [.list (nums xs),.ns [(0,.ref 0),(1,N x),(2,N 0),(3,.none),(4,.none)]]) cRet:=rfl;rw[e,h];rfl
 ·rw[call_st rfl rfl rfl];have e:callFD (ops (sig noPrim) 131) fd58 [.ref 0,N x,N 0,.none] [.list (nums xs)]=b1 ((ops (sig noPrim) 131).exs ⟨1,[]⟩ bodyL [.list (nums xs),.ns [(0,.ref 0),(1,N x),(2,N 0),(3,.none),(4,.none)]]) cRet:=rfl;rw[e,h];rfl
noncomputable def natsOf:List V→Option (List Nat)
 | []=>some []
 | .int (.ofNat n)::r=>match natsOf r with
  | some xs=>some (n::xs)
  | none=>none
 | ux=>none
theorem natsOf_inv:∀ {ws:List V}{xs:List Nat},natsOf ws=some xs→ws=nums xs
 | [],ux,e=>by obtain rfl:=sI e;rfl
 | v::r,xs,e=>by
  cases v with
  | int i=>
   cases i with
   | negSucc n=>exact nn e
   | ofNat n=>
    change (match natsOf r with | some xs=>some (n::xs) | none=>none)=some xs at e
    cases h:natsOf r with
    | none=>rw[h] at e;exact nn e
    | some t=>rw[h] at e;obtain rfl:=sI e;show _=N n::nums t;rw[← natsOf_inv h]
  | _=>exact nn e
theorem natsOf_nums:∀ xs:List Nat,natsOf (nums xs)=some xs:=by
 intro z0;induction z0 with
 | nil=>
  exact rfl
 | cons x r ih0=>
  show (match natsOf (nums r) with | some xs=>some (x::xs) | none=>none)=_
  rw[ih0]
noncomputable def sortedN:List Nat→Bool
 | []=>true
 | a::r=>(match r with
  | []=>true
  | b::ux=>Nat.blt a b)&&sortedN r
theorem sorted_cons:∀ {y:Nat}{r:List Nat},sortedN (y::r)=true→sortedN r=true∧∀ z∈r,y<z
 | y,[],h=>⟨rfl,fun ux h=>nomatch h⟩
 | y,b::r,h=>by
  have h1:=al h;have h2:=ar h;have hb:y<b:=nL h1;refine ⟨h2,fun z hz=>?_⟩;rcases List.mem_cons.mp hz with rfl | hz
  ·exact hb
  ·exact Nat.lt_trans hb ((sorted_cons h2).2 z hz)
noncomputable def place (x:Nat):List Nat→Nat
 | []=>0
 | y::r=>bif Nat.blt y x then place x r+1 else 0
theorem Kv {x:Nat} :place x []=(0):=rfl
theorem Kw {x:Nat}{y}{r}:place x (y::r)=(bif Nat.blt y x then place x r+1 else 0):=rfl
theorem blt_iff {a b:Nat}:Nat.blt a b=true↔a<b:=⟨fun h=>nL h,fun h=>nB h⟩
theorem place_parts (x:Nat):∀ {xs:List Nat},sortedN xs=true→Parts xs x (place x xs)
 | [],ux=>⟨Nat.le_refl _,fun i y e=>by simp at e⟩
 | y::r,h=>by
  refine Q02 (sorted_cons h) ?_;intro h1 h2;refine Q02 (place_parts x h1) ?_;intro k1 k2;dsimp only[Kv,Kw];cases z:Nat.blt y x with
  | true=>
   rw[cond_true];have hy:=blt_iff.mp z;refine ⟨Nat.succ_le_succ k1,fun i w e=>?_⟩;cases i with
   | zero=>obtain rfl:=sI e;exact ⟨fun ux=>hy,fun ux=>Nat.succ_pos _⟩
   | succ i=>rw[List.getElem?_cons_succ] at e;have:=k2 i w e;omega
  | false=>
   rw[cond_false];have hy:¬ y<x:=fun q=>by rw[blt_iff.mpr q] at z;cases z
   refine ⟨Nat.zero_le _,fun i w e=>⟨fun q=>absurd q (Nat.not_lt_zero _),fun q=>?_⟩⟩;cases i with
   | zero=>obtain rfl:=sI e;exact absurd q hy
   | succ i=>
    rw[List.getElem?_cons_succ] at e;have:=h2 w (List.mem_of_getElem? e);omega
noncomputable def restOk (r:List V):Bool:=match r with
 | []=>true
 | ux::uy=>eqFs r [N 0,.none]
noncomputable def pBis (f:V) (vs:List V) (W:St):Option (V × St):=onSt f fun a=>onC vs fun x vs=>onRef x fun l=>onC vs fun x rest=>onNat x fun x=>bif Nat.beq a 58&&(noCits W&&restOk rest) then (onL (nth W l) fun ws=>b0 (natsOf ws) fun xs=>bif sortedN xs&&Nat.ble (len xs) 100 then some (N (place x xs),W) else none) else none
theorem eqFs_nums:∀ xs:List Nat,eqFs (nums xs) (nums xs)=true:=by
 intro z0;induction z0 with
 | nil=>
  exact rfl
 | cons x r ih0=>
  show (eqI (.ofNat x) (.ofNat x)&&eqFs (nums r) (nums r))=true;rw[eqI_self,ih0];rfl
theorem bis_prim {b:BS}(H:Here b):PrimOk b 132 pBis:=by
 intro f vs W v W' fx xs A kp ρ s Q E e;refine bC fun hN=>?_;revert e;refine OSt ?_;rintro a rfl e;revert e;refine OC ?_;rintro ux uy rfl e;revert e;refine ORef ?_;rintro l rfl e;revert e;refine OC ?_;rintro ux rest rfl e;revert e;refine ONat ?_;rintro x rfl e;revert e;refine Bt ?_;intro z e;have z1:=al z;have z2:=ar z;have zc:=al z2;have z3:=ar z2;have:=nE z1;subst this;revert e;refine OL ?_;intro ws hw e;revert e;refine B0 ?_;intro xs' hxs e;revert e;refine Bt ?_;intro z4 e;refine Q02 (pj e) ?_;rintro rfl rfl;have z5:=al z4;have z6:=ar z4;have:=natsOf_inv hxs;subst this;have z7:=nL z6;rw[len_eq] at z7;refine Q12 (bis_ev (place_parts x z5) z7) ?_;intro W1 c1 c2;cases rest with
 | nil=>refine hN ?_;exact ⟨rfl,fun h1 h2 hA R h=>flat1 (pre:=[]) (post:=[N x]) (sound H (prim_none b) 132) c1 (eqFs_nums _) rfl rfl rfl hw zc h1 h2 (hA.le (by exact nL rfl)) R h⟩
 | cons v r=>
  have z3:eqFs (v::r) [N 0,.none]=true:=z3;refine Q02 (eqFs_eq z3) ?_;intro q ux;refine hN ?_;rw[q];exact ⟨rfl,fun h1 h2 hA R h=>flat1 (pre:=[]) (post:=[N x,N 0,.none]) (sound H (prim_none b) 132) c2 (eqFs_nums _) rfl rfl rfl hw zc h1 h2 (hA.le (by exact nL rfl)) R h⟩
noncomputable def putP (x:Nat):List Nat→Bool × List Nat
 | []=>(true,[x])
 | y::r=>bif Nat.blt y x then ((putP x r).1,y::(putP x r).2) else bif Nat.beq y x then (false,y::r) else (true,x::y::r)
theorem Kx {x:Nat} :putP x []=((true,[x])):=rfl
theorem Ky {x:Nat}{y}{r}:putP x (y::r)=(bif Nat.blt y x then ((putP x r).1,y::(putP x r).2) else bif Nat.beq y x then (false,y::r) else (true,x::y::r)):=rfl
theorem putP_at (x:Nat):∀ xs:List Nat,(∃ y r,xs.drop (place x xs)=y::r∧Nat.beq y x=true∧putP x xs=(false,xs)) ∨
  ((∀ y r,xs.drop (place x xs)=y::r→Nat.beq y x=false)∧putP x xs=(true,xs.take (place x xs)++x::xs.drop (place x xs))):=by
 intro z0;induction z0 with
 | nil=>
  exact .inr ⟨fun y r e=>(nomatch e),rfl⟩
 | cons y r ih0=>
  dsimp only[Kv,Kw,Kx,Ky];cases z:Nat.blt y x with
  | true=>
   rw[cond_true,cond_true];rcases ih0 with ⟨w,t,h1,h2,h3⟩ | ⟨h1,h2⟩
   ·exact .inl ⟨w,t,h1,h2,by rw[h3]⟩
   ·exact .inr ⟨h1,by rw[h2];rfl⟩
  | false=>
   rw[cond_false,cond_false];cases z2:Nat.beq y x with
   | true=>exact .inl ⟨y,r,rfl,z2,rfl⟩
   | false=>exact .inr ⟨fun w t e=>by cases e;exact z2,rfl⟩
theorem flat1w {b:BS}{m:Nat}{r:Ops}{a l:Nat}{post:List V}{ws ws':List V}{W0' W:St}{v:V}(S:Sound b m r) (hc:r.call (.st a) (.ref 0::post) [.list ws]=some (v,.list ws'::W0')) (hw:flats ws=true) (hw':flats ws'=true) (hv:flatR v=true) (h2:flats post=true) (hl:nth W l=some (.list ws)) (nc:noCits W=true)
  {fx:Value}{xs:List Value}{A:Around}{kp:Kp}{ρ:List Addr}{s:Shared}{Q E:Value→Shared→Prop}(g1:VR kp ρ (.st a) fx) (g2:VRs kp ρ (.ref l::post) xs) (hA:AOk m A) (R:SR b kp ρ W s) (h:Back b kp ρ (setAt W l (.list ws')) (fun kp ρ y=>VR kp ρ v y) Q):
  codeAny (model b.prog b.w) A (.call fx ⟨xs,[]⟩) (CallBack Q E) s:=by
 have Z:Sel W [l] (isInL [l]) (posL [l]) [.list ws]:={
  nd:=by simp
  len:=rfl
  obj:=fun j o0 e ha=>by
   cases j with
   | zero=>obtain rfl:=sI e;exact ⟨l,_,rfl,hl,rfl,flatO_in (o:=.list ws) hw,(flatO_ren (o:=.list ws) hw).symm⟩
   | succ j=>exact nn e
  idx:=fun j i e=>by
   cases j with
   | zero=>obtain rfl:=sI e;exact ⟨isInL_iff.mpr (.head _),by dsimp only[Kh,Ki];rw[Nat.beq_refl];rfl,_,hl⟩
   | succ j=>exact nn e
  sel:=fun l' e=>posL_nth (isInL_iff.mp e) }
 have Y:Ret W [l] (.list ws'::W0') (setAt W l (.list ws')) [] (fun j=>Nat.beq j 0) (fun ux=>l):={
  len:=by rw[len_setAt];rfl
  f1:=fun j e=>by rw[nE e];exact .inl rfl
  newR:=fun k j e=>nomatch e
  obj:=fun i o' e ha=>by
   by_cases z:l=i
   ·subst z;rw[nth_setAt_self hl] at e;obtain rfl:=sI e;exact .inr ⟨0,.list ws',rfl,rfl,rfl,rfl,flatO_in (o:=.list ws') hw',(flatO_ren (o:=.list ws') hw').symm⟩
   ·rw[nth_setAt_ne z] at e;exact .inl ⟨e,by simp;exact fun q=>z q.symm⟩
  cit:=fun i o e ux uy=>noCits_at nc e }
 refine S.carry (fv:=.st a) (vs:=.ref l::post) (p':=fun j=>Nat.beq j 0) (f':=fun ux=>l) ?_ rfl Z Y rfl ?_ (flatR_in hv) g1 g2 hA R ?_
 ·show r.call (.st a) (V.ref (posL [l] l)::renVs _ post) _=_;rw[flats_ren h2];dsimp only[Kh,Ki];rw[Nat.beq_refl];exact hc
 ·show (isInL [l] l&&inVs _ post)=true;rw[flats_in h2,isInL_iff.mpr (.head _)];rfl
 ·rw[flatR_ren hv];exact h
theorem flats_nums:∀ xs:List Nat,flats (nums xs)=true:=by
 intro z0;induction z0 with
 | nil=>
  exact rfl
 | cons x r ih0=>
  show (true&&flats (nums r))=true;rw[ih0];rfl
theorem slice_nums (xs:List Nat) (p:Nat):sliceL p (p+1) (nums xs)=(match xs.drop p with | []=>[] | y::ux=>[N y]):=by
 show ((nums xs).take (p+1)).drop p=_;rw[List.drop_take,show p+1-p=1 by exact eq1 [_,_] (.v 0) (.k 1) (.a (.v 0) (.v 1)) (.a (.v 1) (.k 1)) (Nat.sub_add_cancel (Nat.le_succ _)) rfl rfl];show ((xs.map _).drop p).take 1=_;rw[← List.map_drop];cases xs.drop p<;>rfl
noncomputable abbrev frP (x:Nat) (tl:List (Nat × V)):O:=.ns ((90,.ref 0)::(77,N x)::tl)
theorem ins_nums (xs:List Nat) (p x:Nat):(nums xs).take p++N x::(nums xs).drop p=nums (xs.take p++x::xs.drop p):=by simp[nums]
theorem bis_st {xs:List Nat}{x:Nat}(hx:len xs≤99) (hs:sortedN xs=true) {rest:List V}(hr:restOk rest=true) {W:St}(hW:noCits W=true) (r:Ops):stepCall (sig pBis) r (.st 58) (.ref 0::N x::rest) (.list (nums xs)::W)=some (N (place x xs),.list (nums xs)::W):=by
 have hb:(sortedN xs&&Nat.ble (len xs) 100)=true:=by rw[hs,Bool.true_and];exact nB (by omega)
 have:pBis (.st 58) (.ref 0::N x::rest) (.list (nums xs)::W)=some (N (place x xs),.list (nums xs)::W):=by
  show (bif true&&(noCits (.list (nums xs)::W)&&restOk rest) then b0 (natsOf (nums xs)) fun xs'=>bif sortedN xs'&&Nat.ble (len xs') 100 then some (N (place x xs'),.list (nums xs)::W) else none else none)=_;rw[natsOf_nums,hr,show noCits (.list (nums xs)::W)=true from by unfold noCits at hW ⊢;rw[List.all_cons,hW];rfl];show (bif sortedN xs&&Nat.ble (len xs) 100 then _ else none)=_;rw[hb];rfl
 unfold stepCall;rw[show (sig pBis).prim=pBis from rfl,this]
theorem ins_exs {n:Nat}{xs:List Nat}{x:Nat}{tl:List (Nat × V)}{us ws:List V}(hx:len xs≤99) (hs:sortedN xs=true):
  (ops (sig pBis) (n+12)).exs ⟨4,[]⟩ fd49.body [.list (nums xs),frP x tl,.list us,.list ws,.ns [(0,.ref 0),(1,N x),(2,N 0),(3,.none),(4,.none)]] =
   some (.next,[.list (nums (xs.take (place x xs)++x::xs.drop (place x xs))),frP x tl,.list us,.list ws,.ns [(0,.ref 0),(1,N x),(2,N (place x xs)),(3,.none),(4,.none)]]):=by
 have hpl:place x xs≤xs.length:=(place_parts x hs).1;rw[len_eq] at hx;have c1:=bis_st (x:=x) (by rw[len_eq];exact hx) hs (rest:=[N 0,.none]) rfl (W:=[frP x tl,.list us,.list ws,.ns [(0,.ref 0),(1,N x),(2,N 0),(3,.none),(4,.none)]]) rfl;have s1:(ops (sig pBis) (n+11)).ex ⟨4,[]⟩ (.ifs (.cmp (.Is) (.loc 4) (.c (.none))) [.asg false 2 (.call (.c (.st 58)) [.loc 0,.loc 1,.loc 2,.loc 3])] [.asg false 2 (.bad)]) [.list (nums xs),frP x tl,.list us,.list ws,.ns [(0,.ref 0),(1,N x),(2,N 0),(3,.none),(4,.none)]] =
   some (.next,[.list (nums xs),frP x tl,.list us,.list ws,.ns [(0,.ref 0),(1,N x),(2,N (place x xs)),(3,.none),(4,.none)]]):=by
  have q:isCall (sig pBis) (.st 58)=true:=rfl;simp only[Jm,eCall,q,c1,o_ev,o_tst,o_evs,o_ex,o_exs,o_call,Z0,Z1,ZE,ZI,ZW,ZZ,Za,Ze,Zm,Zq,Zr,b1,b0,ldLoc,Zx,Zy,Zz,J0,J1,J2,J4,J5,Nat.beq,cond_true,cond_false,YG,YL,nx,Zu,J6,cmpop,N,JF,Jh]
 have g1:Nat.ble (len (nums xs)) lstMax=true:=by rw[len_nums];exact nB (by show _≤100000;omega)
 have g2:Nat.ble (place x xs) lstMax=true:=nB (by show _≤100000;omega);have m1:∀ W,mLst (sig pBis) 0 (nums xs) 8 [N (place x xs),N x] W=some (.none,setAt W 0 (.list (nums (xs.take (place x xs)++x::xs.drop (place x xs))))):=fun W=>by
  unfold mLst;rw[g1,cond_true];show (bif Nat.ble (place x xs) lstMax then some (V.none,setAt W 0 (.list ((nums xs).take (place x xs)++N x::(nums xs).drop (place x xs)))) else none)=_;rw[g2,ins_nums];rfl
 have s2:(ops (sig pBis) (n+10)).ex ⟨4,[]⟩ (.expr (.mcall (.loc 0) 8 [.loc 2,.loc 1])) [.list (nums xs),frP x tl,.list us,.list ws,.ns [(0,.ref 0),(1,N x),(2,N (place x xs)),(3,.none),(4,.none)]] =
   some (.next,[.list (nums (xs.take (place x xs)++x::xs.drop (place x xs))),frP x tl,.list us,.list ws,.ns [(0,.ref 0),(1,N x),(2,N (place x xs)),(3,.none),(4,.none)]]):=by
  have f1:findM (sig pBis) (.ref 0) 8 [.list (nums xs),frP x tl,.list us,.list ws,.ns [(0,.ref 0),(1,N x),(2,N (place x xs)),(3,.none),(4,.none)]]=some none:=rfl;simp only[frP] at f1 ⊢;simp only[Jm,eMcall,meth,f1,m1,o_ev,o_evs,o_ex,Z1,ZF,ZZ,Za,Zb,b1,b0,ldLoc,Zx,Zy,Zz,J0,J4,Nat.beq,cond_true,cond_false,N,JF,JH]
 show (ops (sig pBis) (n+11+1)).exs _ [_,_] _=_;rw[exs_cons s1,exs_cons s2];rfl
theorem put_ev {n:Nat}{xs:List Nat}{x:Nat}(hx:len xs≤99) (hs:sortedN xs=true):
  ∃ W',(ops (sig pBis) (n+40)).call (.st 190) [.ref 0,N x] [.list (nums xs)]=some (.bool (putP x xs).1,.list (nums (putP x xs).2)::W'):=by
 have hpl:place x xs≤xs.length:=(place_parts x hs).1;have c1:=bis_st (x:=x) hx hs (rest:=[]) rfl (W:=[frP x []]) rfl;rw[len_eq] at hx;have s1:(ops (sig pBis) (n+38)).ex ⟨1,[]⟩ (.asg false 69 (.call (.c (.st 58)) [.loc 90,.loc 77])) [.list (nums xs),frP x []]=some (.next,[.list (nums xs),frP x [(69,N (place x xs))]]):=by
  have q:isCall (sig pBis) (.st 58)=true:=rfl;simp only[eCall,q,c1,o_ev,o_evs,o_ex,o_call,Z0,Z1,ZE,ZZ,Za,Ze,b1,b0,ldLoc,Zx,Zy,Zz,J0,J1,J2,J4,J5,Nat.beq,cond_true,cond_false,YL,nx,Zu,N,JF]
 have hsl:=slice_nums xs (place x xs);have g1:Nat.ble (place x xs) strMax=true:=nB (by show _≤1000000;omega);have g2:Nat.ble (place x xs+1) strMax=true:=nB (by show _≤1000000;omega);have g3:Nat.ble (len (nums xs)) lstMax=true:=by rw[len_nums];exact nB (by show _≤100000;omega)
 have sl:∀ tl,getSlc (.ref 0) (N (place x xs)) (N (place x xs+1)) [.list (nums xs),frP x tl]=some (.ref 2,[.list (nums xs),frP x tl,.list (match xs.drop (place x xs) with | []=>[] | y::ux=>[N y])]):=fun tl=>by
  show (do let lo ← (bif Nat.ble (place x xs) strMax then some (place x xs) else none);let hi ← (bif Nat.ble (place x xs+1) strMax then some (place x xs+1) else none);bif Nat.ble (len (nums xs)) lstMax then some (V.ref 2,[O.list (nums xs),frP x tl,O.list (sliceL lo hi (nums xs))]) else none)=_;rw[g1,g2,g3];show some (V.ref 2,[.list (nums xs),frP x tl,.list (sliceL (place x xs) (place x xs+1) (nums xs))])=_;rw[hsl]
 have tst:∀ m,(ops (sig pBis) (m+8)).tst ⟨1,[]⟩ (.cmp (.Eq) (.slc (.loc 90) (some (.loc 69)) (some (.bin (.Add) (.loc 69) (.c (.int 1))))) (.lst [.loc 77])) [.list (nums xs),frP x [(69,N (place x xs))]] =
   some ((match xs.drop (place x xs) with | []=>false | y::ux=>Nat.beq y x),[.list (nums xs),frP x [(69,N (place x xs))],O.list (match xs.drop (place x xs) with | []=>[] | y::ux=>[N y]),O.list [N x]]):=fun m=>by
  have sl':=sl [(69,N (place x xs))];have l1:∀ W:St,eLst [N x] W=some (.ref (len W),W++[O.list [N x]]):=fun W=>rfl;simp only[YB,sl',add_1,l1,len,List.cons_append,List.nil_append,o_ev,o_tst,o_evs,Z0,Z1,Z3,Z9,ZC,ZW,ZZ,Za,b1,b0,ldLoc,Zx,Zy,Zz,J0,Nat.beq,cond_true,cond_false,binop,YI,Option.bind_eq_bind,Option.bind_some,cmpop,N,JF,JR,JT,JJ,JL,JH,JU,JV,JW,Jk];cases xs.drop (place x xs) with
  | nil=>rfl
  | cons y r=>
   have:eqI (.ofNat y) (.ofNat x)=Nat.beq y x:=by
    cases q:Nat.beq y x with
    | true=>rw[nE q];exact decide_eq_true rfl
    | false=>exact decide_eq_false fun e=>by have e:(y:Int)=(x:Int):=e;rw[show y=x by omega,Nat.beq_refl] at q;cases q
   have e:eqVs [V.int (.ofNat y)] [V.int (.ofNat x)]=some (Nat.beq y x):=by
    show some (eqI (.ofNat y) (.ofNat x)&&true)=_;rw[this,Bool.and_true]
   simp only[e]
 have w0:(ops (sig pBis) (n+40)).call (.st 190) [.ref 0,N x] [.list (nums xs)]=b1 ((ops (sig pBis) (n+39)).exs ⟨1,[]⟩ fd190.body [.list (nums xs),frP x []]) cRet:=by
  rw[show n+40=(n+39)+1 from rfl,call_st rfl rfl rfl];rfl
 have tst':=tst (n+28);rcases putP_at x xs with ⟨y,r,h1,h2,h3⟩ | ⟨h1,h2⟩
 ·rw[h1] at tst';rw[h3];have s2:(ops (sig pBis) (n+37)).ex ⟨1,[]⟩ (.ifs (.cmp (.Eq) (.slc (.loc 90) (some (.loc 69)) (some (.bin (.Add) (.loc 69) (.c (.int 1))))) (.lst [.loc 77])) [.ret (.c (.bool false))] []) [.list (nums xs),frP x [(69,N (place x xs))]]=some (.ret (.bool false),[.list (nums xs),frP x [(69,N (place x xs))],.list [N y],.list [N x]]):=by
   simp only[o_ex,Zm,tst',b1,h2,cond_true];rfl
  refine ⟨[frP x [(69,N (place x xs))],.list [N y],.list [N x]],?_⟩;rw[w0];show b1 ((ops (sig pBis) (n+38+1)).exs _ [_,_,_,_] _) _=_;rw[exs_cons s1,exs_ret s2];rfl
 ·rw[h2];have t0:(match xs.drop (place x xs) with | []=>false | y::ux=>Nat.beq y x)=false:=by
   cases q:xs.drop (place x xs) with
   | nil=>rfl
   | cons y r=>exact h1 y r q
  rw[t0] at tst';have s2:(ops (sig pBis) (n+37)).ex ⟨1,[]⟩ (.ifs (.cmp (.Eq) (.slc (.loc 90) (some (.loc 69)) (some (.bin (.Add) (.loc 69) (.c (.int 1))))) (.lst [.loc 77])) [.ret (.c (.bool false))] []) [.list (nums xs),frP x [(69,N (place x xs))]]=some (.next,[.list (nums xs),frP x [(69,N (place x xs))],.list (match xs.drop (place x xs) with | []=>[] | y::ux=>[N y]),.list [N x]]):=by
   simp only[o_ex,Zm,tst',b1,cond_false];rfl
  have ie:=ins_exs (n:=n+21) (x:=x) (tl:=[(69,N (place x xs))]) (us:=match xs.drop (place x xs) with | []=>[] | y::ux=>[N y]) (ws:=[N x]) (by rw[len_eq];exact hx) hs
  have c2:(ops (sig pBis) (n+34)).call (.st 49) [.ref 0,N x] [.list (nums xs),frP x [(69,N (place x xs))],.list (match xs.drop (place x xs) with | []=>[] | y::ux=>[N y]),.list [N x]]=some (.none,[.list (nums (xs.take (place x xs)++x::xs.drop (place x xs))),frP x [(69,N (place x xs))],.list (match xs.drop (place x xs) with | []=>[] | y::ux=>[N y]),.list [N x],.ns [(0,.ref 0),(1,N x),(2,N (place x xs)),(3,.none),(4,.none)]]):=by
   rw[show n+34=(n+33)+1 from rfl,call_st rfl rfl rfl];exact (congrArg (fun z=>b1 z cRet) ie).trans rfl
  have s3:(ops (sig pBis) (n+36)).ex ⟨1,[]⟩ (.expr (.call (.c (.st 49)) [.loc 90,.loc 77])) [.list (nums xs),frP x [(69,N (place x xs))],.list (match xs.drop (place x xs) with | []=>[] | y::ux=>[N y]),.list [N x]]=some (.next,[.list (nums (xs.take (place x xs)++x::xs.drop (place x xs))),frP x [(69,N (place x xs))],.list (match xs.drop (place x xs) with | []=>[] | y::ux=>[N y]),.list [N x],.ns [(0,.ref 0),(1,N x),(2,N (place x xs)),(3,.none),(4,.none)]]):=by
   have q:isCall (sig pBis) (.st 49)=true:=rfl;rw[o_call] at c2;simp only[eCall,q,c2,Jm,o_ev,o_evs,o_ex,o_call,Z0,Z1,ZE,ZZ,Za,Zb,b1,b0,ldLoc,Zx,Zy,Zz,J0,Nat.beq,cond_true,cond_false,YL,N,JF]
  refine ⟨[frP x [(69,N (place x xs))],.list (match xs.drop (place x xs) with | []=>[] | y::ux=>[N y]),.list [N x],.ns [(0,.ref 0),(1,N x),(2,N (place x xs)),(3,.none),(4,.none)]],?_⟩
  rw[w0];show b1 ((ops (sig pBis) (n+38+1)).exs _ [_,_,_,_] _) _=_;rw[exs_cons s1,exs_cons s2,exs_cons s3,exs_ret (v:=.bool true) rfl];rfl
noncomputable def pPut (f:V) (vs:List V) (W:St):Option (V × St):=onSt f fun a=>onC vs fun x vs=>onRef x fun l=>onC vs fun x vs=>onNat x fun x=>onE vs (bif Nat.beq a 190&&noCits W then (onL (nth W l) fun ws=>b0 (natsOf ws) fun xs=>bif sortedN xs&&Nat.ble (len xs) 99 then some (.bool (putP x xs).1,setAt W l (.list (nums (putP x xs).2))) else none) else none)
theorem put_prim {b:BS}(H:Here b):PrimOk b 172 pPut:=by
 intro f vs W v W' fx xs A kp ρ s Q E e;refine bC fun hN=>?_;revert e;refine OSt ?_;rintro a rfl e;revert e;refine OC ?_;rintro ux uy rfl e;revert e;refine ORef ?_;rintro l rfl e;revert e;refine OC ?_;rintro ux uy rfl e;revert e;refine ONat ?_;rintro x rfl e;revert e;refine OE ?_;rintro rfl e;revert e;refine Bt ?_;intro z e;have z1:=al z;have zc:=ar z;have:=nE z1;subst this;revert e;refine OL ?_;intro ws hw e;revert e;refine B0 ?_;intro xs' hxs e;revert e;refine Bt ?_;intro z4 e;refine Q02 (pj e) ?_;rintro rfl rfl;have z5:=al z4;have z6:=ar z4;have:=natsOf_inv hxs;subst this;refine Q11 (put_ev (n:=0) (x:=x) (nL z6) z5) ?_;intro W1 c1;refine hN ?_;exact ⟨rfl,fun h1 h2 hA R h=>flat1w (post:=[N x]) (sound H (bis_prim H) 40) c1 (flats_nums _) (flats_nums _) rfl rfl hw zc h1 h2 (hA.le (by exact nL rfl)) R h⟩
end Mine
end
section
open PySem
namespace Mine
noncomputable def wsS:List Nat:=[10,9,13,32]
noncomputable def takeB:List S:=[.asg false 72 (.slc (.cel 66) (some (.sub (.cel 69) (.c (.int 0)))) (some (.bin (.Add) (.sub (.cel 69) (.c (.int 0))) (.loc 71)))),.asgI (.cel 69) (.c (.int 0)) (.bin (.Add) (.sub (.cel 69) (.c (.int 0))) (.loc 71)),.ret (.loc 72)]
noncomputable abbrev takeV:V:=.clo [71] takeB [(69,3),(66,2)]
noncomputable abbrev dLex (line:Nat):O:=.dict [(51,N line),(52,.inst 138 1),(53,.str wsS),(54,.ref 5)]
noncomputable abbrev dSrc:O:=.dict [(51,N 1),(52,.none),(53,.str wsS),(54,.ref 6),(56,takeV)]
noncomputable abbrev LW (line p:Nat) (T:List Nat) (rest:St):St:=dLex line::dSrc::.cell (some (.str T))::.cell (some (.ref 4))::.list [N p]::rest
theorem nth_app_len0 {α:Type}(l m:List α):nth (l++m) (len l)=nth m 0:=nth_app_len l m
theorem setAt_app_len {α:Type}(l m:List α) (b:α):setAt (l++m) (len l) b=l++setAt m 0 b:=by
 induction l with
 | nil=>rfl
 | cons a r ih=>show a::setAt (r++m) (len r) b=_;rw[ih];rfl
theorem setAt_app_add {α:Type}(l m:List α) (k:Nat) (b:α):setAt (l++m) (len l+k) b=l++setAt m k b:=by
 induction l with
 | nil=>show setAt m (0+k) b=_;rw[Nat.zero_add];rfl
 | cons a r ih=>
  show setAt (a::(r++m)) (len r+1+k) b=_;rw[show len r+1+k=(len r+k)+1 by exact eq0 [_,_] (.a (.a (.v 0) (.k 1)) (.v 1)) (.a (.a (.v 0) (.v 1)) (.k 1)) rfl rfl];show a::setAt (r++m) (len r+k) b=_;rw[ih];rfl
noncomputable def signAt (T:List Nat) (p:Nat):List Nat:=sliceL p (p+1) T
theorem take_ev {G:Sig}{n line p:Nat}{T:List Nat}{rest:St}(hp:p≤900000) (hT:len T≤900000):
  callClo (ops G (n+12)) [71] takeB [(69,3),(66,2)] [.int 1] (LW line p T rest)=some (.str (signAt T p),LW line (p+1) T (rest++[.ns [(71,.int 1),(72,.str (signAt T p))]])):=by
 have g1:Nat.ble p strMax=true:=nB (by show _≤1000000;omega);have g2:Nat.ble (p+1) strMax=true:=nB (by show _≤1000000;omega);have g3:Nat.ble (len T) strMax=true:=nB (by show _≤1000000;omega);have g4:Nat.ble 0 lstMax=true:=rfl;have sl:∀ W,getSlc (.str T) (N p) (N (p+1)) W=some (.str (signAt T p),W):=fun W=>by
  show (do let lo ← (bif Nat.ble p strMax then some p else none);let hi ← (bif Nat.ble (p+1) strMax then some (p+1) else none);bif Nat.ble (len T) strMax then some (V.str (sliceL lo hi T),W) else none)=_;rw[g1,g2,g3];rfl
 have gs:∀ rest,getSub (.ref 4) (.int 0) (LW line p T rest)=some (N p):=fun ux=>rfl;have ss:∀ rest,setSub (.ref 4) (.int 0) (N (p+1)) (LW line p T rest)=some (LW line (p+1) T rest):=fun ux=>rfl;have a1:binI .Add (.ofNat p) 1=some (.ofNat (p+1)):=rfl;have e1:∀ n,(ops G (n+6)).ex ⟨len rest+5,[(69,3),(66,2)]⟩ (.asg false 72 (.slc (.cel 66) (some (.sub (.cel 69) (.c (.int 0)))) (some (.bin (.Add) (.sub (.cel 69) (.c (.int 0))) (.loc 71))))) (LW line p T (rest++[.ns [(71,.int 1)]]))=some (.next,LW line p T (rest++[.ns [(71,.int 1),(72,.str (signAt T p))]])):=fun n=>by
  simp only[YB,sl,gs,a1,nth_app_len0,setAt_app_len,o_ev,o_ex,Z0,Z1,Z2,Z3,ZB,ZC,Ze,b1,b0,ldLoc,ldCel,Zx,Zy,Zz,J0,J1,J2,J4,J5,Nat.beq,cond_true,cond_false,binop,YI,nx,Zu,Option.bind_eq_bind,Option.bind_some,N,JF,JG,JR,JJ,JU]
 have e2:∀ n,(ops G (n+6)).ex ⟨len rest+5,[(69,3),(66,2)]⟩ (.asgI (.cel 69) (.c (.int 0)) (.bin (.Add) (.sub (.cel 69) (.c (.int 0))) (.loc 71))) (LW line p T (rest++[.ns [(71,.int 1),(72,.str (signAt T p))]]))=some (.next,LW line (p+1) T (rest++[.ns [(71,.int 1),(72,.str (signAt T p))]])):=fun n=>by
  simp only[gs,ss,a1,nth_app_len0,o_ev,o_ex,Z0,Z1,Z2,Z3,ZB,Zh,b1,b0,ldLoc,ldCel,Zx,Zy,Zz,J0,Nat.beq,cond_true,cond_false,binop,YI,nx,Option.bind_eq_bind,Option.bind_some,N,JF,JG,JR,JJ,JU]
 have e3:∀ n,(ops G (n+6)).ex ⟨len rest+5,[(69,3),(66,2)]⟩ (.ret (.loc 72)) (LW line (p+1) T (rest++[.ns [(71,.int 1),(72,.str (signAt T p))]]))=some (.ret (.str (signAt T p)),LW line (p+1) T (rest++[.ns [(71,.int 1),(72,.str (signAt T p))]])):=fun n=>by
  simp only[nth_app_len0,o_ev,o_ex,Z1,Zc,b1,b0,ldLoc,Zx,Zy,Zz,J0,Nat.beq,cond_true,cond_false,N,JF]
 have e0:callClo (ops G (n+12)) [71] takeB [(69,3),(66,2)] [.int 1] (LW line p T rest)=b1 ((ops G (n+12)).exs ⟨len rest+5,[(69,3),(66,2)]⟩ takeB (LW line p T (rest++[.ns [(71,.int 1)]]))) cRet:=by
  simp only[callClo,Yw,Yx,b0,K8,K9,Option.bind_eq_bind,Option.bind_some,KC,KD,List.cons_append,List.any_nil,Zu,Zx,Zy,J4,J5,J1,nth_app_len0,setAt_app_len,JF]
 rw[e0];have x1:=exs_cons (G:=G) (ss:=[.asgI (.cel 69) (.c (.int 0)) (.bin (.Add) (.sub (.cel 69) (.c (.int 0))) (.loc 71)),.ret (.loc 72)]) (e1 (n+5));have x2:=exs_cons (G:=G) (ss:=[.ret (.loc 72)]) (e2 (n+4));have x3:=exs_ret (G:=G) (ss:=[]) (e3 (n+3));rw[show (ops G (n+12)).exs ⟨len rest+5,[(69,3),(66,2)]⟩ takeB (LW line p T (rest++[.ns [(71,.int 1)]]))=_ from x1.trans (x2.trans x3)];rfl
noncomputable def ln (c:List Nat):Nat:=bif beqL c [10] then 1 else 0
noncomputable abbrev G0:Sig:=sig noPrim
noncomputable abbrev f1 (c:List Nat):O:=.ns [(49,.inst 138 0),(55,.str c)]
noncomputable abbrev f2 (c:List Nat):O:=.ns [(71,.int 1),(72,.str c)]
theorem rc_ev {n line p:Nat}{T:List Nat}{rest:St}(hp:p≤900000) (hT:len T≤900000):
  (ops G0 (n+20)).call (.st 121) [.inst 138 0] (LW line p T rest)=some (.str (signAt T p),LW (line+ln (signAt T p)) (p+1) T (rest++[f1 (signAt T p),f2 (signAt T p)])):=by
 rw[show n+20=(n+19)+1 from rfl,call_st rfl rfl rfl];have tk:=fun k (rest:St)=>take_ev (G:=G0) (n:=k) (line:=line) (rest:=rest) hp hT;have e0:callFD (ops G0 (n+19)) fd121 [.inst 138 0] (LW line p T rest)=b1 ((ops G0 (n+19)).exs ⟨len rest+5,[]⟩ fd121.body (LW line p T (rest++[.ns [(49,.inst 138 0)]]))) cRet:=by
  simp only[callFD,fd121,Yw,Yx,b0,K8,K9,Option.bind_eq_bind,Option.bind_some,KC,KD,noCells,KA,List.map,List.cons_append,List.append_nil,List.any,Zu,Zx,Zy,J4,J5,J1,nth_app_len0,setAt_app_len,JF]
 rw[e0];have ga:∀ rest,getAtt G0 (.inst 138 0) 52 (LW line p T rest)=some (.inst 138 1):=fun ux=>rfl;have fm:∀ rest,findM G0 (.inst 138 1) 56 (LW line p T rest)=some (some (takeV,[])):=fun ux=>rfl;have ic:isCall G0 takeV=true:=rfl;have sc:∀ r vs W,stepCall G0 r takeV vs W=callClo r [71] takeB [(69,3),(66,2)] vs W:=fun r vs W=>rfl;have s1:(ops G0 (n+18)).ex ⟨len rest+5,[]⟩ (.asg false 55 (.mcall (.att (.loc 49) 52) 56 [.c (.int 1)])) (LW line p T (rest++[.ns [(49,.inst 138 0)]]))=some (.next,LW line (p+1) T (rest++[f1 (signAt T p),f2 (signAt T p)])):=by
  have t1:=tk (n+3) (rest++[.ns [(49,.inst 138 0)]]);simp only[ga,fm,eMcall,eCall,ic,sc,t1,List.append_assoc,List.cons_append,List.nil_append,nth_app_len0,setAt_app_len,o_ev,o_evs,o_ex,o_call,Z0,Z1,ZD,ZF,ZZ,Za,Ze,b1,b0,ldLoc,Zx,Zy,Zz,J0,J1,J2,J4,J5,Nat.beq,cond_true,cond_false,YI,nx,Zu,N,JF]
 have s2:(ops G0 (n+17)).ex ⟨len rest+5,[]⟩ (.ifs (.cmp (.Eq) (.loc 55) (.c (.str [10]))) [.augA (.loc 49) 51 (.Add) (.c (.int 1))] []) (LW line (p+1) T (rest++[f1 (signAt T p),f2 (signAt T p)]))=some (.next,LW (line+ln (signAt T p)) (p+1) T (rest++[f1 (signAt T p),f2 (signAt T p)])):=by
  have gl:∀ rest,getAtt G0 (.inst 138 0) 51 (LW line (p+1) T rest)=some (N line):=fun ux=>rfl;have sl:∀ rest,setAtt G0 (.inst 138 0) 51 (N (line+1)) (LW line (p+1) T rest)=some (LW (line+1) (p+1) T rest):=fun ux=>rfl;have a1:binI .Add (.ofNat line) 1=some (.ofNat (line+1)):=rfl;unfold ln;cases q:beqL (signAt T p) [10] with
  | true=>simp only[f1,q,gl,sl,a1,xAugA,Y5,JU,Bool.and_true,nth_app_len0,o_ev,o_tst,o_ex,o_exs,Z0,Z1,ZW,Zj,Zm,Zq,Zr,b1,b0,ldLoc,Zx,Zy,Zz,J0,Nat.beq,cond_true,cond_false,binop,YI,YJ,nx,Option.bind_eq_bind,Option.bind_some,J6,cmpop,N,JF,JR,JS,JJ,JK,JV,JW,Jk]
  | false=>simp only[f1,q,nth_app_len0,Nat.add_zero,o_ev,o_tst,o_ex,o_exs,Z0,Z1,ZW,Zj,Zm,Zq,Zr,b1,b0,ldLoc,Zx,Zy,Zz,J0,Nat.beq,cond_true,cond_false,YI,YJ,cmpop,N,JF,JS,JK,JV,JW,Jk]
 have s3:(ops G0 (n+16)).ex ⟨len rest+5,[]⟩ (.ret (.loc 55)) (LW (line+ln (signAt T p)) (p+1) T (rest++[f1 (signAt T p),f2 (signAt T p)]))=some (.ret (.str (signAt T p)),LW (line+ln (signAt T p)) (p+1) T (rest++[f1 (signAt T p),f2 (signAt T p)])):=by
  simp only[f1,nth_app_len0,o_ev,o_ex,Z1,Zc,b1,b0,ldLoc,Zx,Zy,Zz,J0,Nat.beq,cond_true,cond_false,N,JF]
 have x3:=exs_ret (G:=G0) (ss:=[]) s3;have x2:=exs_cons (G:=G0) (ss:=[.ret (.loc 55)]) s2;have x1:=exs_cons (G:=G0) (ss:=[.ifs (.cmp (.Eq) (.loc 55) (.c (.str [10]))) [.augA (.loc 49) 51 (.Add) (.c (.int 1))] [],.ret (.loc 55)]) s1;rw[show (ops G0 (n+19)).exs ⟨len rest+5,[]⟩ fd121.body (LW line p T (rest++[.ns [(49,.inst 138 0)]]))=_ from x1.trans (x2.trans x3)];rfl
theorem sign_cons {T:List Nat}{p c:Nat}{R:List Nat}(h:T.drop p=c::R):signAt T p=[c]∧T.drop (p+1)=R:=by
 have e:(T.take (p+1)).drop p=(T.drop p).take 1:=by rw[List.drop_take];congr 1;exact eq1 [_,_] (.v 0) (.k 1) (.a (.v 0) (.v 1)) (.a (.v 1) (.k 1)) (Nat.sub_add_cancel (Nat.le_succ _)) rfl rfl
 constructor
 ·show (T.take (p+1)).drop p=_;rw[e,h];rfl
 ·rw[← List.drop_drop,h];rfl
theorem sign_nil {T:List Nat}{p:Nat}(h:T.drop p=[]):signAt T p=[]:=by
 have e:(T.take (p+1)).drop p=(T.drop p).take 1:=by rw[List.drop_take];congr 1;exact eq1 [_,_] (.v 0) (.k 1) (.a (.v 0) (.v 1)) (.a (.v 1) (.k 1)) (Nat.sub_add_cancel (Nat.le_succ _)) rfl rfl
 show (T.take (p+1)).drop p=_;rw[e,h];rfl
section
variable {G:Sig}{n:Nat}{g:Ctx}{c:Bool}{x i:Nat}{b:List S}{W W1 W2 W3:St}{v:V}
theorem frs_next (hns:isNs (nth W g.lf)=true) (h1:(ops G n).nxt i W=some (some v,W1)) (h2:stName g c x v W1=some W2) (h3:(ops G n).exs g b W2=some (.next,W3)):(ops G (n+1)).frs g c x i b W=(ops G n).frs g c x i b W3:=by
 rw[o_frs];unfold stepFrs;rw[hns,cond_true,h1];simp only[b1,YD,b0,h2,h3,J9]
theorem frs_ret {u:V}(hns:isNs (nth W g.lf)=true) (h1:(ops G n).nxt i W=some (some v,W1)) (h2:stName g c x v W1=some W2) (h3:(ops G n).exs g b W2=some (.ret u,W3)):(ops G (n+1)).frs g c x i b W=some (.ret u,W3):=by
 rw[o_frs];unfold stepFrs;rw[hns,cond_true,h1];simp only[b1,YD,b0,h2,h3,JB]
theorem frs_end (hns:isNs (nth W g.lf)=true) (h1:(ops G n).nxt i W=some (none,W1)):(ops G (n+1)).frs g c x i b W=some (.next,W1):=by
 rw[o_frs];unfold stepFrs;rw[hns,cond_true,h1];simp only[b1,YC]
end
noncomputable abbrev frT (tok:List Nat) (tl:List (Nat × V)):O:=.ns ((49,.inst 138 0)::(57,.str tok)::(58,.ref 8)::tl)
noncomputable abbrev CIT:O:=.cit (.meth (.st 121) (.inst 138 0))
noncomputable abbrev RW (c5 c6:O) (tok:List Nat) (tl:List (Nat × V)) (g:St):St:=c5::c6::frT tok tl::CIT::g
section
variable {n line p:Nat}{T:List Nat}{c5 c6:O}{tok:List Nat}{tl:List (Nat × V)}{g:St}
theorem nxt_call (hp:p≤900000) (hT:len T≤900000) (c7:O):(ops G0 (n+22)).nxt 8 (LW line p T (c5::c6::c7::CIT::g))=nxCit G0 8 (.str (signAt T p)) (LW (line+ln (signAt T p)) (p+1) T (c5::c6::c7::CIT::(g++[f1 (signAt T p),f2 (signAt T p)]))):=by
 have rc:=rc_ev (n:=n) (line:=line) (rest:=c5::c6::c7::CIT::g) hp hT;have e1:∀ r,stepNxt G0 r 8 (LW line p T (c5::c6::c7::CIT::g))=b1 (r.call (.meth (.st 121) (.inst 138 0)) [] (LW line p T (c5::c6::c7::CIT::g))) fun v W=>nxCit G0 8 v W:=fun r=>rfl;have e2:∀ r W,stepCall G0 r (.meth (.st 121) (.inst 138 0)) [] W=r.call (.st 121) [.inst 138 0] W:=fun r W=>rfl;rw[show n+22=(n+21)+1 from rfl,o_nxt,e1,show n+21=(n+20)+1 from rfl,o_call,e2,rc];rfl
theorem nxt_c {c:Nat}{R:List Nat}(hp:p≤900000) (hT:len T≤900000) (h:T.drop p=c::R) (c7:O):(ops G0 (n+22)).nxt 8 (LW line p T (c5::c6::c7::CIT::g))=some (some (.str [c]),LW (line+ln [c]) (p+1) T (c5::c6::c7::CIT::(g++[f1 [c],f2 [c]]))):=by
 rw[nxt_call hp hT,(sign_cons h).1];rfl
theorem nxt_e (hp:p≤900000) (hT:len T≤900000) (h:T.drop p=[]) (c7:O):(ops G0 (n+22)).nxt 8 (LW line p T (c5::c6::c7::CIT::g))=some (none,LW line (p+1) T (c5::c6::c7::.junk::(g++[f1 [],f2 []]))):=by
 rw[nxt_call hp hT,sign_nil h];rfl
noncomputable def qB:List S:=[.ifs (.cmp (.Eq) (.loc 55) (.c (.str [34]))) [.ret (.loc 57)] [.ifs (.cmp (.Eq) (.loc 55) (.c (.str [92]))) [.asg false 55 (.mcall (.loc 49) 46 [])] []],.aug false 57 (.Add) (.loc 55)]
noncomputable def bB:List S:=[.ifs (.cmp (.In) (.loc 55) (.att (.loc 49) 53)) [.ret (.loc 57)] [.ifs (.cmp (.Eq) (.loc 55) (.c (.str [92]))) [.asg false 55 (.mcall (.loc 49) 46 [])] []],.aug false 57 (.Add) (.loc 55)]
noncomputable def oB:List S:=[.ifs (.cmp (.In) (.loc 55) (.att (.loc 49) 53)) [.cont] [],.ifs (.cmp (.Eq) (.loc 55) (.c (.str [34]))) [.fr false 55 (.loc 58) qB] [.ifs (.cmp (.Eq) (.loc 55) (.c (.str [92]))) [.asg false 55 (.mcall (.loc 49) 46 [])] [],.aug false 57 (.Add) (.loc 55),.fr false 55 (.loc 58) bB]]
theorem beq1 (a b:Nat):beqL [a] [b]=Nat.beq a b:=by show (Nat.beq a b&&true)=_;rw[Bool.and_true]
theorem read_ev {m d:Nat}{R:List Nat}{ch:List Nat}(hp:p≤900000) (hT:len T≤900000) (h:T.drop p=d::R):
  (ops G0 (m+25)).ex ⟨7,[]⟩ (.asg false 55 (.mcall (.loc 49) 46 [])) (LW line p T (RW c5 c6 tok [(55,.str ch)] g))=some (.next,LW (line+ln [d]) (p+1) T (RW c5 c6 tok [(55,.str [d])] (g++[f1 [d],f2 [d]]))):=by
 have rc:=rc_ev (n:=m+3) (line:=line) (rest:=RW c5 c6 tok [(55,.str ch)] g) hp hT;rw[(sign_cons h).1] at rc;have fm:∀ W,findM G0 (.inst 138 0) 46 (LW line p T W)=some (some (.st 121,[.inst 138 0])):=fun ux=>rfl;have ic:isCall G0 (.st 121)=true:=rfl;simp only[fm,eMcall,eCall,ic,rc,List.append_nil,List.cons_append,o_ev,o_evs,o_ex,Z1,ZF,ZZ,Ze,b1,b0,ldLoc,Zx,Zy,Zz,J0,J1,J2,J4,J5,Nat.beq,cond_true,cond_false,nx,Zu,N,JF]
theorem add_ch {m:Nat}{c:List Nat}(hl:len tok+len c≤100000):(ops G0 (m+4)).ex ⟨7,[]⟩ (.aug false 57 (.Add) (.loc 55)) (LW line p T (RW c5 c6 tok [(55,.str c)] g))=some (.next,LW line p T (RW c5 c6 (tok++c) [(55,.str c)] g)):=by
 have g1:Nat.ble (len tok+len c) strMax=true:=nB (by show _≤1000000;omega);simp only[xAug,Y6,JU,Bool.and_true,g1,o_ev,o_ex,Z1,Zi,b1,b0,ldLoc,Zs,Zx,Zy,Zz,J0,J1,J2,J4,J5,Nat.beq,cond_true,cond_false,binop,nx,Zu,Option.bind_eq_bind,N,JF,JS,JK]
theorem q_chr {m c:Nat}(h34:Nat.beq c 34=false) (h92:Nat.beq c 92=false) (hl:len tok≤10000):(ops G0 (m+9)).exs ⟨7,[]⟩ qB (LW line p T (RW c5 c6 tok [(55,.str [c])] g))=some (.next,LW line p T (RW c5 c6 (tok++[c]) [(55,.str [c])] g)):=by
 have s1:(ops G0 (m+8)).ex ⟨7,[]⟩ (.ifs (.cmp (.Eq) (.loc 55) (.c (.str [34]))) [.ret (.loc 57)] [.ifs (.cmp (.Eq) (.loc 55) (.c (.str [92]))) [.asg false 55 (.mcall (.loc 49) 46 [])] []]) (LW line p T (RW c5 c6 tok [(55,.str [c])] g))=some (.next,LW line p T (RW c5 c6 tok [(55,.str [c])] g)):=by
  simp only[beq1,h34,h92,o_ev,o_tst,o_evs,o_ex,o_exs,Z0,Z1,ZF,ZW,ZZ,Zc,Ze,Zm,Zq,Zr,b1,b0,ldLoc,Zx,Zy,Zz,J0,Nat.beq,cond_true,cond_false,YJ,nx,Zu,J6,J8,cmpop,N,JF,JS,JK,JV,JW,Jk]
 have s2:=add_ch (m:=m+3) (line:=line) (p:=p) (T:=T) (c5:=c5) (c6:=c6) (tok:=tok) (g:=g) (c:=[c]) (by show _+1≤_;exact lq1 [_] (.a (.v 0) (.k 1)) (.k 100000) (.v 0) (.k 10000) hl rfl);exact (exs_cons s1).trans ((exs_cons s2).trans rfl)
theorem q_end {m:Nat}:(ops G0 (m+9)).exs ⟨7,[]⟩ qB (LW line p T (RW c5 c6 tok [(55,.str [34])] g))=some (.ret (.str tok),LW line p T (RW c5 c6 tok [(55,.str [34])] g)):=rfl
theorem q_esc {m d:Nat}{R:List Nat}(hp:p≤900000) (hT:len T≤900000) (h:T.drop p=d::R) (hl:len tok≤10000):(ops G0 (m+32)).exs ⟨7,[]⟩ qB (LW line p T (RW c5 c6 tok [(55,.str [92])] g))=some (.next,LW (line+ln [d]) (p+1) T (RW c5 c6 (tok++[d]) [(55,.str [d])] (g++[f1 [d],f2 [d]]))):=by
 have rd:=read_ev (m:=m+2) (line:=line) (c5:=c5) (c6:=c6) (tok:=tok) (g:=g) (ch:=[92]) hp hT h;have s0:(ops G0 (m+28)).exs ⟨7,[]⟩ [.asg false 55 (.mcall (.loc 49) 46 [])] (LW line p T (RW c5 c6 tok [(55,.str [92])] g))=some (.next,LW (line+ln [d]) (p+1) T (RW c5 c6 tok [(55,.str [d])] (g++[f1 [d],f2 [d]]))):=(exs_cons rd).trans rfl;have s1:(ops G0 (m+31)).ex ⟨7,[]⟩ (.ifs (.cmp (.Eq) (.loc 55) (.c (.str [34]))) [.ret (.loc 57)] [.ifs (.cmp (.Eq) (.loc 55) (.c (.str [92]))) [.asg false 55 (.mcall (.loc 49) 46 [])] []]) (LW line p T (RW c5 c6 tok [(55,.str [92])] g))=some (.next,LW (line+ln [d]) (p+1) T (RW c5 c6 tok [(55,.str [d])] (g++[f1 [d],f2 [d]]))):=by
  have a1:∀ W,(ops G0 (m+31)).ex ⟨7,[]⟩ (.ifs (.cmp (.Eq) (.loc 55) (.c (.str [34]))) [.ret (.loc 57)] [.ifs (.cmp (.Eq) (.loc 55) (.c (.str [92]))) [.asg false 55 (.mcall (.loc 49) 46 [])] []]) (LW line p T (RW c5 c6 tok [(55,.str [92])] W))=(ops G0 (m+30)).exs ⟨7,[]⟩ [.ifs (.cmp (.Eq) (.loc 55) (.c (.str [92]))) [.asg false 55 (.mcall (.loc 49) 46 [])] []] (LW line p T (RW c5 c6 tok [(55,.str [92])] W)):=fun W=>by
   simp only[o_ex,Zm,o_tst,ZW,o_ev,Z0,Z1,b1,b0,ldLoc,Zx,Zy,Zz,J0,Nat.beq,cond_true,cond_false,cmpop,YJ,beq1,JF,JS,JK,JV,JW,Jk]
  have a2:∀ W,(ops G0 (m+29)).ex ⟨7,[]⟩ (.ifs (.cmp (.Eq) (.loc 55) (.c (.str [92]))) [.asg false 55 (.mcall (.loc 49) 46 [])] []) (LW line p T (RW c5 c6 tok [(55,.str [92])] W))=(ops G0 (m+28)).exs ⟨7,[]⟩ [.asg false 55 (.mcall (.loc 49) 46 [])] (LW line p T (RW c5 c6 tok [(55,.str [92])] W)):=fun W=>by
   simp only[o_ex,Zm,o_tst,ZW,o_ev,Z0,Z1,b1,b0,ldLoc,Zx,Zy,Zz,J0,Nat.beq,cond_true,cond_false,cmpop,YJ,beq1,JF,JS,JK,JV,JW,Jk]
  rw[a1,exs_cons ((a2 g).trans s0)];rfl
 have s2:=add_ch (m:=m+26) (line:=line+ln [d]) (p:=p+1) (T:=T) (c5:=c5) (c6:=c6) (tok:=tok) (g:=g++[f1 [d],f2 [d]]) (c:=[d]) (by show _+1≤_;exact lq1 [_] (.a (.v 0) (.k 1)) (.k 100000) (.v 0) (.k 10000) hl rfl);exact (exs_cons s1).trans ((exs_cons s2).trans rfl)
end
section
variable {n line p:Nat}{T:List Nat}{c5 c6:O}{tok:List Nat}{tl:List (Nat × V)}{g:St}
theorem in92:isIn [92] wsS=false:=by decide +kernel
theorem in34:isIn [34] wsS=false:=by decide +kernel
theorem in9:isIn [9] wsS=true:=by decide +kernel
theorem ws_att (W:St):getAtt G0 (.inst 138 0) 53 (LW line p T W)=some (.str wsS):=rfl
theorem b_end {m:Nat}:(ops G0 (m+9)).exs ⟨7,[]⟩ bB (LW line p T (RW c5 c6 tok [(55,.str [9])] g))=some (.ret (.str tok),LW line p T (RW c5 c6 tok [(55,.str [9])] g)):=by
 have s1:(ops G0 (m+8)).ex ⟨7,[]⟩ (.ifs (.cmp (.In) (.loc 55) (.att (.loc 49) 53)) [.ret (.loc 57)] [.ifs (.cmp (.Eq) (.loc 55) (.c (.str [92]))) [.asg false 55 (.mcall (.loc 49) 46 [])] []]) (LW line p T (RW c5 c6 tok [(55,.str [9])] g))=some (.ret (.str tok),LW line p T (RW c5 c6 tok [(55,.str [9])] g)):=by
  simp only[in9,ws_att,o_ev,o_tst,o_evs,o_ex,o_exs,Z0,Z1,ZD,ZF,ZW,ZZ,Zc,Ze,Zm,Zq,Zr,b1,b0,ldLoc,Zx,Zy,Zz,J0,Nat.beq,cond_true,cond_false,YJ,nx,Zu,J8,cmpop,N,JF,JS,JK,JV,Ji,JW,Jj,Jk]
 exact exs_ret s1
theorem b_esc {m d:Nat}{R:List Nat}(hp:p≤900000) (hT:len T≤900000) (h:T.drop p=d::R) (hl:len tok≤10000):(ops G0 (m+32)).exs ⟨7,[]⟩ bB (LW line p T (RW c5 c6 tok [(55,.str [92])] g))=some (.next,LW (line+ln [d]) (p+1) T (RW c5 c6 (tok++[d]) [(55,.str [d])] (g++[f1 [d],f2 [d]]))):=by
 have rd:=read_ev (m:=m+2) (line:=line) (c5:=c5) (c6:=c6) (tok:=tok) (g:=g) (ch:=[92]) hp hT h;have s0:(ops G0 (m+28)).exs ⟨7,[]⟩ [.asg false 55 (.mcall (.loc 49) 46 [])] (LW line p T (RW c5 c6 tok [(55,.str [92])] g))=some (.next,LW (line+ln [d]) (p+1) T (RW c5 c6 tok [(55,.str [d])] (g++[f1 [d],f2 [d]]))):=(exs_cons rd).trans rfl;have s1:(ops G0 (m+31)).ex ⟨7,[]⟩ (.ifs (.cmp (.In) (.loc 55) (.att (.loc 49) 53)) [.ret (.loc 57)] [.ifs (.cmp (.Eq) (.loc 55) (.c (.str [92]))) [.asg false 55 (.mcall (.loc 49) 46 [])] []]) (LW line p T (RW c5 c6 tok [(55,.str [92])] g))=some (.next,LW (line+ln [d]) (p+1) T (RW c5 c6 tok [(55,.str [d])] (g++[f1 [d],f2 [d]]))):=by
  have a1:∀ W,(ops G0 (m+31)).ex ⟨7,[]⟩ (.ifs (.cmp (.In) (.loc 55) (.att (.loc 49) 53)) [.ret (.loc 57)] [.ifs (.cmp (.Eq) (.loc 55) (.c (.str [92]))) [.asg false 55 (.mcall (.loc 49) 46 [])] []]) (LW line p T (RW c5 c6 tok [(55,.str [92])] W))=(ops G0 (m+30)).exs ⟨7,[]⟩ [.ifs (.cmp (.Eq) (.loc 55) (.c (.str [92]))) [.asg false 55 (.mcall (.loc 49) 46 [])] []] (LW line p T (RW c5 c6 tok [(55,.str [92])] W)):=fun W=>by
   simp only[in92,ws_att,o_ex,Zm,o_tst,ZW,o_ev,Z1,ZD,b1,b0,ldLoc,Zx,Zy,Zz,J0,Nat.beq,cond_true,cond_false,cmpop,JF,JS,JK,Ji,Jj]
  have a2:∀ W,(ops G0 (m+29)).ex ⟨7,[]⟩ (.ifs (.cmp (.Eq) (.loc 55) (.c (.str [92]))) [.asg false 55 (.mcall (.loc 49) 46 [])] []) (LW line p T (RW c5 c6 tok [(55,.str [92])] W))=(ops G0 (m+28)).exs ⟨7,[]⟩ [.asg false 55 (.mcall (.loc 49) 46 [])] (LW line p T (RW c5 c6 tok [(55,.str [92])] W)):=fun W=>by
   simp only[o_ex,Zm,o_tst,ZW,o_ev,Z0,Z1,b1,b0,ldLoc,Zx,Zy,Zz,J0,Nat.beq,cond_true,cond_false,cmpop,YJ,beq1,JF,JS,JK,JV,JW,Jk]
  rw[a1,exs_cons ((a2 g).trans s0)];rfl
 have s2:=add_ch (m:=m+26) (line:=line+ln [d]) (p:=p+1) (T:=T) (c5:=c5) (c6:=c6) (tok:=tok) (g:=g++[f1 [d],f2 [d]]) (c:=[d]) (by show _+1≤_;exact lq1 [_] (.a (.v 0) (.k 1)) (.k 100000) (.v 0) (.k 10000) hl rfl);exact (exs_cons s1).trans ((exs_cons s2).trans rfl)
noncomputable def cnt10:List Nat→Nat
 | []=>0
 | c::r=>ln [c]+cnt10 r
noncomputable def esc1 (c:Nat):List Nat:=bif Nat.beq c 34 then [92,34] else bif Nat.beq c 92 then [92,92] else [c]
noncomputable def escQ:List Nat→List Nat
 | []=>[]
 | c::r=>esc1 c++escQ r
noncomputable def escB:List Nat→List Nat
 | []=>[]
 | c::r=>92::c::escB r
noncomputable def tlOk (tl:List (Nat × V)):Prop:=tl=[]∨∃ v,tl=[(55,v)]
theorem st55 {tl:List (Nat × V)}(h:tlOk tl) (v:V) (W:St):stName ⟨7,[]⟩ false 55 v (LW line p T (RW c5 c6 tok tl W))=some (LW line p T (RW c5 c6 tok [(55,v)] W)):=by
 rcases h with rfl | ⟨u,rfl⟩<;>rfl
theorem ns7 (tl:List (Nat × V)) (W:St):isNs (nth (LW line p T (RW c5 c6 tok tl W)) 7)=true:=rfl
noncomputable def TkOk (T:List Nat) (c5 c6:O) (body:List S) (f:Nat) (W:St) (tok:List Nat) (line p:Nat) (post:List Nat):Prop:=
 ∃ tl' g',(ops G0 f).frs ⟨7,[]⟩ false 55 8 body W=some (.ret (.str tok),LW line p T (RW c5 c6 tok tl' g'))∧T.drop p=post
theorem TkOk.step {body:List S}{f:Nat}{W W':St}{tok tok' post:List Nat}{line' p':Nat}(e:(ops G0 (f+1)).frs ⟨7,[]⟩ false 55 8 body W=(ops G0 f).frs ⟨7,[]⟩ false 55 8 body W') (k:TkOk T c5 c6 body f W' tok line p post) (h1:tok=tok') (h2:line=line') (h3:p=p'):TkOk T c5 c6 body (f+1) W tok' line' p' post:=by
 rw[← h1,← h2,← h3];exact k.imp fun tl h=>h.imp fun g h=>⟨e.trans h.1,h.2⟩
theorem app1 (tok w:List Nat) (d:Nat):tok++[d]++w=tok++d::w:=by rw[List.append_assoc];rfl
theorem len1 {tok:List Nat}{d k:Nat}(h:len tok+(k+1)≤1000):len (tok++[d])+k≤1000:=by rw[len_app];show len tok+1+k≤_;exact lq1 [_,_] (.a (.a (.v 0) (.k 1)) (.v 1)) (.k 1000) (.a (.v 0) (.a (.v 1) (.k 1))) (.k 1000) h rfl
theorem tk_fu (n k:Nat):n+(k+1)+40=n+k+40+1:=by exact rfl
theorem tk_p2 (p k:Nat):p+1+1+k+1=p+(2+k)+1:=by exact eq0 [_,_] (.a (.a (.a (.a (.v 0) (.k 1)) (.k 1)) (.v 1)) (.k 1)) (.a (.a (.v 0) (.a (.k 2) (.v 1))) (.k 1)) rfl rfl
theorem tk_p1 (p k:Nat):p+1+k+1=p+(1+k)+1:=by exact eq0 [_,_] (.a (.a (.a (.v 0) (.k 1)) (.v 1)) (.k 1)) (.a (.a (.v 0) (.a (.k 1) (.v 1))) (.k 1)) rfl rfl
theorem q_loop (hT:len T≤900000):∀ (w tok:List Nat) (tl:List (Nat × V)) (line p:Nat) (g:St) (n:Nat) (post:List Nat),tlOk tl→T.drop p=escQ w++34::post→p+2*len w≤800000→len tok+len w≤1000 →
  TkOk T c5 c6 qB (n+len w+40) (LW line p T (RW c5 c6 tok tl g)) (tok++w) (line+cnt10 w) (p+len (escQ w)+1) post:=by
 intro z0;induction z0 with
 | nil=>
  intro tok tl line p g n post ht h hp hl;refine ⟨[(55,.str [34])],g++[f1 [34],f2 [34]],?_,(sign_cons h).2⟩;rw[List.append_nil];exact frs_ret (n:=n+39) (ns7 tl g) (nxt_c (n:=n+17) (by exact lq1 [_,_] (.v 0) (.k 900000) (.a (.v 0) (.m 2 (.v 1))) (.k 800000) hp rfl) hT h _) (st55 ht _ _) (q_end (m:=n+30))
 | cons c w ih0=>
  intro tok tl line p g n post ht h hp hl;have hl1:len tok+(len w+1)≤1000:=hl;have hp1:p+2*(len w+1)≤800000:=hp;have hp2:p+1≤800000:=by exact lq1 [_,_] (.a (.v 0) (.k 1)) (.k 800000) (.a (.v 0) (.m 2 (.a (.v 1) (.k 1)))) (.k 800000) hp1 rfl
  have hl2:len tok≤999:=by exact lq1 [_,_] (.v 0) (.k 999) (.a (.v 0) (.a (.v 1) (.k 1))) (.k 1000) hl1 rfl
  show TkOk T c5 c6 qB (n+(len w+1)+40) (LW line p T (RW c5 c6 tok tl g)) (tok++c::w) (line+(ln [c]+cnt10 w)) (p+len (esc1 c++escQ w)+1) post;have h:T.drop p=esc1 c++escQ w++34::post:=h;rw[tk_fu,len_app];have two:∀ d,esc1 c=[92,d]→d=c→TkOk T c5 c6 qB (n+len w+40+1) (LW line p T (RW c5 c6 tok tl g)) (tok++c::w) (line+(ln [c]+cnt10 w)) (p+(len (esc1 c)+len (escQ w))+1) post:=fun d e hd=>by
   subst hd;rw[e] at h ⊢;refine Q02 (sign_cons h) ?_;intro ux h2;refine Q02 (sign_cons h2) ?_;intro ux h3;exact TkOk.step (frs_next (ns7 tl g) (nxt_c (n:=n+len w+18) (by exact lq1 [_] (.v 0) (.k 900000) (.a (.v 0) (.k 1)) (.k 800000) hp2 rfl) hT h _) (st55 ht _ _) (q_esc (m:=n+len w+8) (by exact lT hp2 (nL rfl)) hT h2 (by exact lT hl2 (nL rfl)))) (ih0 (tok++[d]) [(55,.str [d])] (line+ln [92]+ln [d]) (p+1+1) (g++[f1 [92],f2 [92]]++[f1 [d],f2 [d]]) n post (.inr ⟨_,rfl⟩) h3 (by exact lq1 [_,_] (.a (.a (.a (.v 0) (.k 1)) (.k 1)) (.m 2 (.v 1))) (.k 800000) (.a (.v 0) (.m 2 (.a (.v 1) (.k 1)))) (.k 800000) hp1 rfl) (len1 hl1)) (app1 _ _ _) (Nat.add_assoc _ _ _) (tk_p2 _ _)
  cases z34:Nat.beq c 34 with
  | true=>
   have:=nE z34;exact two 34 (by rw[this];rfl) this.symm
  | false=>
  cases z92:Nat.beq c 92 with
  | true=>
   have:=nE z92;exact two 92 (by rw[this];rfl) this.symm
  | false=>
   have e:esc1 c=[c]:=by unfold esc1;rw[z34,z92];rfl
   rw[e] at h ⊢;refine Q02 (sign_cons h) ?_;intro ux h2;exact TkOk.step (frs_next (ns7 tl g) (nxt_c (n:=n+len w+18) (by exact lq1 [_] (.v 0) (.k 900000) (.a (.v 0) (.k 1)) (.k 800000) hp2 rfl) hT h _) (st55 ht _ _) (q_chr (m:=n+len w+31) z34 z92 (by exact lT hl2 (nL rfl)))) (ih0 (tok++[c]) [(55,.str [c])] (line+ln [c]) (p+1) (g++[f1 [c],f2 [c]]) n post (.inr ⟨_,rfl⟩) h2 (by exact lq1 [_,_] (.a (.a (.v 0) (.k 1)) (.m 2 (.v 1))) (.k 800000) (.a (.v 0) (.m 2 (.a (.v 1) (.k 1)))) (.k 800000) hp1 rfl) (len1 hl1)) (app1 _ _ _) (Nat.add_assoc _ _ _) (tk_p1 _ _)
theorem b_loop (hT:len T≤900000):∀ (w tok:List Nat) (tl:List (Nat × V)) (line p:Nat) (g:St) (n:Nat) (post:List Nat),tlOk tl→T.drop p=escB w++9::post→p+2*len w≤800000→len tok+len w≤1000 →
  TkOk T c5 c6 bB (n+len w+40) (LW line p T (RW c5 c6 tok tl g)) (tok++w) (line+cnt10 w) (p+len (escB w)+1) post:=by
 intro z0;induction z0 with
 | nil=>
  intro tok tl line p g n post ht h hp hl;refine ⟨[(55,.str [9])],g++[f1 [9],f2 [9]],?_,(sign_cons h).2⟩;rw[List.append_nil];exact frs_ret (n:=n+39) (ns7 tl g) (nxt_c (n:=n+17) (by exact lq1 [_,_] (.v 0) (.k 900000) (.a (.v 0) (.m 2 (.v 1))) (.k 800000) hp rfl) hT h _) (st55 ht _ _) (b_end (m:=n+30))
 | cons d w ih0=>
  intro tok tl line p g n post ht h hp hl;have hl1:len tok+(len w+1)≤1000:=hl;have hp1:p+2*(len w+1)≤800000:=hp;show TkOk T c5 c6 bB (n+(len w+1)+40) (LW line p T (RW c5 c6 tok tl g)) (tok++d::w) (line+(ln [d]+cnt10 w)) (p+(len (escB w)+1+1)+1) post;have h':T.drop p=92::d::(escB w++9::post):=h;refine Q02 (sign_cons h') ?_;intro ux h2;refine Q02 (sign_cons h2) ?_;intro ux h3;rw[tk_fu];exact TkOk.step (frs_next (ns7 tl g) (nxt_c (n:=n+len w+18) (by omega) hT h' _) (st55 ht _ _) (b_esc (m:=n+len w+8) (by omega) hT h2 (by omega))) (ih0 (tok++[d]) [(55,.str [d])] (line+ln [92]+ln [d]) (p+1+1) (g++[f1 [92],f2 [92]]++[f1 [d],f2 [d]]) n post (.inr ⟨_,rfl⟩) h3 (by omega) (len1 hl1)) (app1 _ _ _) (Nat.add_assoc _ _ _) (by exact eq0 [_,_] (.a (.a (.a (.a (.v 0) (.k 1)) (.k 1)) (.v 1)) (.k 1)) (.a (.a (.v 0) (.a (.a (.v 1) (.k 1)) (.k 1))) (.k 1)) rfl rfl)
end
section
variable {n line p:Nat}{T:List Nat}{c5 c6:O}{tok:List Nat}{tl:List (Nat × V)}{g:St}
noncomputable def elseB:List S:=[.ifs (.cmp (.Eq) (.loc 55) (.c (.str [92]))) [.asg false 55 (.mcall (.loc 49) 46 [])] [],.aug false 57 (.Add) (.loc 55),.fr false 55 (.loc 58) bB]
theorem fr_ev {m:Nat}{b:List S}(W:St):(ops G0 (m+2)).ex ⟨7,[]⟩ (.fr false 55 (.loc 58) b) (LW line p T (RW c5 c6 tok tl W))=(ops G0 (m+1)).frs ⟨7,[]⟩ false 55 8 b (LW line p T (RW c5 c6 tok tl W)):=by
 have it:∀ W,iterOf (.ref 8) (LW line p T (RW c5 c6 tok tl W))=some (8,LW line p T (RW c5 c6 tok tl W)):=fun ux=>rfl;simp only[o_ex,Zl,o_ev,Z1,b1,b0,ldLoc,Zx,Zy,J0,Nat.beq,cond_true,cond_false,it,JF]
theorem o_q (hT:len T≤900000) {w post:List Nat}(h:T.drop p=escQ w++34::post) (hp:p+2*len w≤800000) (hl:len w≤1000):
  ∃ tl' g',(ops G0 (n+len w+50)).exs ⟨7,[]⟩ oB (LW line p T (RW c5 c6 [] [(55,.str [34])] g))=some (.ret (.str w),LW (line+cnt10 w) (p+len (escQ w)+1) T (RW c5 c6 w tl' g'))∧T.drop (p+len (escQ w)+1)=post:=by
 refine bC fun hN=>?_;refine Q22 (q_loop (c5:=c5) (c6:=c6) hT w [] [(55,.str [34])] line p g (n+5) post (.inr ⟨_,rfl⟩) h hp (by show 0+_≤_;exact lq1 [_] (.a (.k 0) (.v 0)) (.k 1000) (.v 0) (.k 1000) hl rfl)) ?_;intro tl' g' k1 k2;refine hN ?_;refine ⟨tl',g',?_,k2⟩;rw[List.nil_append] at k1;have s1:(ops G0 (n+len w+49)).ex ⟨7,[]⟩ (.ifs (.cmp (.In) (.loc 55) (.att (.loc 49) 53)) [.cont] []) (LW line p T (RW c5 c6 [] [(55,.str [34])] g))=some (.next,LW line p T (RW c5 c6 [] [(55,.str [34])] g)):=by
  simp only[in34,ws_att,o_ev,o_tst,o_ex,o_exs,Z1,ZD,ZW,Zm,Zn,Zq,Zr,b1,b0,ldLoc,Zx,Zy,Zz,J0,Nat.beq,cond_true,cond_false,J7,cmpop,N,JF,JS,JK,Ji,Jj]
 have f1:(ops G0 (n+len w+46)).ex ⟨7,[]⟩ (.fr false 55 (.loc 58) qB) (LW line p T (RW c5 c6 [] [(55,.str [34])] g))=some (.ret (.str w),LW (line+cnt10 w) (p+len (escQ w)+1) T (RW c5 c6 w tl' g')):=by
  rw[show n+len w+46=(n+len w+44)+2 from rfl,fr_ev,← k1]
  congr 2
  exact eq0 [_,_] (.a (.a (.a (.v 0) (.v 1)) (.k 44)) (.k 1)) (.a (.a (.a (.v 0) (.k 5)) (.v 1)) (.k 40)) rfl rfl
 have a1:∀ W,(ops G0 (n+len w+48)).ex ⟨7,[]⟩ (.ifs (.cmp (.Eq) (.loc 55) (.c (.str [34]))) [.fr false 55 (.loc 58) qB] elseB) (LW line p T (RW c5 c6 [] [(55,.str [34])] W))=(ops G0 (n+len w+47)).exs ⟨7,[]⟩ [.fr false 55 (.loc 58) qB] (LW line p T (RW c5 c6 [] [(55,.str [34])] W)):=fun W=>by
  simp only[o_ex,Zm,o_tst,ZW,o_ev,Z0,Z1,b1,b0,ldLoc,Zx,Zy,Zz,J0,Nat.beq,cond_true,cond_false,cmpop,YJ,beq1,JF,JS,JK,JV,JW,Jk]
 exact (exs_cons s1).trans (exs_ret ((a1 g).trans (exs_ret f1)))
theorem o_b (hT:len T≤900000) {c:Nat}{w post:List Nat}(h:T.drop p=c::(escB w++9::post)) (hp:p+2*len w≤700000) (hl:len w≤900):
  ∃ tl' g',(ops G0 (n+len w+80)).exs ⟨7,[]⟩ oB (LW line p T (RW c5 c6 [] [(55,.str [92])] g))=some (.ret (.str (c::w)),LW (line+cnt10 (c::w)) (p+1+len (escB w)+1) T (RW c5 c6 (c::w) tl' g'))∧T.drop (p+1+len (escB w)+1)=post:=by
 refine bC fun hN=>?_;refine Q02 (sign_cons h) ?_;intro ux h2;refine Q22 (b_loop (c5:=c5) (c6:=c6) hT w [c] [(55,.str [c])] (line+ln [c]) (p+1) (g++[f1 [c],f2 [c]]) (n+33) post (.inr ⟨_,rfl⟩) h2 (by exact lq1 [_,_] (.a (.a (.v 0) (.k 1)) (.m 2 (.v 1))) (.k 800000) (.a (.v 0) (.m 2 (.v 1))) (.k 700000) hp rfl) (by show 1+_≤_;exact lq1 [_] (.a (.k 1) (.v 0)) (.k 1000) (.v 0) (.k 900) hl rfl)) ?_;intro tl' g' k1 k2;refine hN ?_;refine ⟨tl',g',?_,k2⟩;rw[show line+ln [c]+cnt10 w=line+cnt10 (c::w) by show _=line+(ln [c]+cnt10 w);exact eq0 [_,_,_] (.a (.a (.v 0) (.v 1)) (.v 2)) (.a (.v 0) (.a (.v 1) (.v 2))) rfl rfl] at k1;have s1:(ops G0 (n+len w+79)).ex ⟨7,[]⟩ (.ifs (.cmp (.In) (.loc 55) (.att (.loc 49) 53)) [.cont] []) (LW line p T (RW c5 c6 [] [(55,.str [92])] g))=some (.next,LW line p T (RW c5 c6 [] [(55,.str [92])] g)):=by
  simp only[in92,ws_att,o_ev,o_tst,o_ex,o_exs,Z1,ZD,ZW,Zm,Zn,Zq,Zr,b1,b0,ldLoc,Zx,Zy,Zz,J0,Nat.beq,cond_true,cond_false,J7,cmpop,N,JF,JS,JK,Ji,Jj]
 have rd:=read_ev (m:=n+len w+49) (line:=line) (c5:=c5) (c6:=c6) (tok:=[]) (g:=g) (ch:=[92]) (by exact lq1 [_,_] (.v 0) (.k 900000) (.a (.v 0) (.m 2 (.v 1))) (.k 700000) hp rfl) hT h;have s0:(ops G0 (n+len w+75)).exs ⟨7,[]⟩ [.asg false 55 (.mcall (.loc 49) 46 [])] (LW line p T (RW c5 c6 [] [(55,.str [92])] g))=some (.next,LW (line+ln [c]) (p+1) T (RW c5 c6 [] [(55,.str [c])] (g++[f1 [c],f2 [c]]))):=(exs_cons rd).trans rfl;have a2:∀ W,(ops G0 (n+len w+76)).ex ⟨7,[]⟩ (.ifs (.cmp (.Eq) (.loc 55) (.c (.str [92]))) [.asg false 55 (.mcall (.loc 49) 46 [])] []) (LW line p T (RW c5 c6 [] [(55,.str [92])] W))=(ops G0 (n+len w+75)).exs ⟨7,[]⟩ [.asg false 55 (.mcall (.loc 49) 46 [])] (LW line p T (RW c5 c6 [] [(55,.str [92])] W)):=fun W=>by
  simp only[o_ex,Zm,o_tst,ZW,o_ev,Z0,Z1,b1,b0,ldLoc,Zx,Zy,Zz,J0,Nat.beq,cond_true,cond_false,cmpop,YJ,beq1,JF,JS,JK,JV,JW,Jk]
 have s3:=add_ch (m:=n+len w+71) (line:=line+ln [c]) (p:=p+1) (T:=T) (c5:=c5) (c6:=c6) (tok:=[]) (g:=g++[f1 [c],f2 [c]]) (c:=[c]) (by show 0+1≤_;exact nL rfl);have f1:(ops G0 (n+len w+74)).ex ⟨7,[]⟩ (.fr false 55 (.loc 58) bB) (LW (line+ln [c]) (p+1) T (RW c5 c6 [c] [(55,.str [c])] (g++[f1 [c],f2 [c]])))=some (.ret (.str (c::w)),LW (line+cnt10 (c::w)) (p+1+len (escB w)+1) T (RW c5 c6 (c::w) tl' g')):=by
  rw[show n+len w+74=(n+len w+72)+2 from rfl,fr_ev,show n+len w+72+1=n+33+len w+40 by exact eq0 [_,_] (.a (.a (.a (.v 0) (.v 1)) (.k 72)) (.k 1)) (.a (.a (.a (.v 0) (.k 33)) (.v 1)) (.k 40)) rfl rfl];exact k1
 have a1:∀ W,(ops G0 (n+len w+78)).ex ⟨7,[]⟩ (.ifs (.cmp (.Eq) (.loc 55) (.c (.str [34]))) [.fr false 55 (.loc 58) qB] elseB) (LW line p T (RW c5 c6 [] [(55,.str [92])] W))=(ops G0 (n+len w+77)).exs ⟨7,[]⟩ elseB (LW line p T (RW c5 c6 [] [(55,.str [92])] W)):=fun W=>by
  simp only[o_ex,Zm,o_tst,ZW,o_ev,Z0,Z1,b1,b0,ldLoc,Zx,Zy,Zz,J0,Nat.beq,cond_true,cond_false,cmpop,YJ,beq1,JF,JS,JK,JV,JW,Jk]
 exact (exs_cons s1).trans (exs_ret ((a1 g).trans ((exs_cons ((a2 g).trans s0)).trans ((exs_cons s3).trans (exs_ret f1)))))
noncomputable abbrev WL (line p:Nat) (T:List Nat) (pb:List V) (g:St):St:=LW line p T (.list pb::.list []::g)
theorem tok_head {m:Nat}{f:Fl}{W':St}(h:(ops G0 (m+12)).frs ⟨7,[]⟩ false 55 8 oB (LW line p T (RW (.list []) (.list []) [] [] []))=some (f,W')):
  (ops G0 (m+18)).call (.st 128) [.inst 138 0] (WL line p T [] [])=b1 (xThen f W' ((ops G0 (m+13)).exs ⟨7,[]⟩ [.ret (.loc 57)] W')) cRet:=by
 have e0:(ops G0 (m+18)).call (.st 128) [.inst 138 0] (WL line p T [] [])=b1 ((ops G0 (m+17)).exs ⟨7,[]⟩ [.ifs (.att (.loc 49) 54) [.ret (.mcall (.att (.loc 49) 54) 60 [.c (.int 0)])] [],.asg false 57 (.c (.str [])),.asg false 58 (.call (.c (.bi (.iter))) [.att (.loc 49) 46,.c (.str [])]),.fr false 55 (.loc 58) oB,.ret (.loc 57)] (LW line p T [.list [],.list [],.ns [(49,.inst 138 0)]])) cRet:=by
  rw[show m+18=(m+17)+1 from rfl,call_st rfl rfl rfl];rfl
 have ga:getAtt G0 (.inst 138 0) 54 (LW line p T [.list [],.list [],.ns [(49,.inst 138 0)]])=some (.ref 5):=rfl;have tr:truthyV (.ref 5) (LW line p T [.list [],.list [],.ns [(49,.inst 138 0)]])=some false:=rfl;have s1:(ops G0 (m+16)).ex ⟨7,[]⟩ (.ifs (.att (.loc 49) 54) [.ret (.mcall (.att (.loc 49) 54) 60 [.c (.int 0)])] []) (LW line p T [.list [],.list [],.ns [(49,.inst 138 0)]])=some (.next,LW line p T [.list [],.list [],.ns [(49,.inst 138 0)]]):=by
  simp only[ga,tr,o_ev,o_tst,o_evs,o_ex,o_exs,Z0,Z1,ZD,ZF,ZP,ZZ,Za,Zc,Zm,Zq,Zr,b1,b0,ldLoc,Zx,Zy,Zz,J0,Nat.beq,cond_true,cond_false,YI,eTru,N,JF]
 have s2:(ops G0 (m+15)).ex ⟨7,[]⟩ (.asg false 57 (.c (.str []))) (LW line p T [.list [],.list [],.ns [(49,.inst 138 0)]])=some (.next,LW line p T [.list [],.list [],.ns [(49,.inst 138 0),(57,.str [])]]):=by
  simp only[o_ev,o_ex,Z0,Ze,b1,b0,Zx,Zy,J1,J2,J4,J5,Nat.beq,cond_false,YJ,nx,Zu,N,JF]
 have ga2:getAtt G0 (.inst 138 0) 46 (LW line p T [.list [],.list [],.ns [(49,.inst 138 0),(57,.str [])]])=some (.meth (.st 121) (.inst 138 0)):=rfl;have c1:∀ r,stepCall G0 r (.bi .iter) [.meth (.st 121) (.inst 138 0),.str []] (LW line p T [.list [],.list [],.ns [(49,.inst 138 0),(57,.str [])]])=some (.ref 8,LW line p T [.list [],.list [],.ns [(49,.inst 138 0),(57,.str [])],CIT]):=fun r=>rfl;have s3:(ops G0 (m+14)).ex ⟨7,[]⟩ (.asg false 58 (.call (.c (.bi (.iter))) [.att (.loc 49) 46,.c (.str [])])) (LW line p T [.list [],.list [],.ns [(49,.inst 138 0),(57,.str [])]])=some (.next,LW line p T (RW (.list []) (.list []) [] [] [])):=by
  simp only[ga2,c1,eCall,Y7,o_ev,o_evs,o_ex,o_call,Z0,Z1,ZD,ZE,ZZ,Za,Ze,b1,b0,ldLoc,Zx,Zy,Zz,J0,J1,J2,J4,J5,Nat.beq,cond_true,cond_false,YJ,YK,nx,Zu,N,JF]
 have s4:(ops G0 (m+13)).ex ⟨7,[]⟩ (.fr false 55 (.loc 58) oB) (LW line p T (RW (.list []) (.list []) [] [] []))=some (f,W'):=by
  rw[show m+13=(m+11)+2 from rfl,fr_ev];exact h
 rw[e0];rw[show m+17=(m+16)+1 from rfl,exs_cons s1,show m+16=(m+15)+1 from rfl,exs_cons s2,show m+15=(m+14)+1 from rfl,exs_cons s3,show m+14=(m+13)+1 from rfl,o_exs];show b1 (b1 ((ops G0 (m+13)).ex ⟨7,[]⟩ (.fr false 55 (.loc 58) oB) _) fun f W=>xThen f W ((ops G0 (m+13)).exs ⟨7,[]⟩ [.ret (.loc 57)] W)) cRet=_;rw[s4];rfl
theorem tok_q (hT:len T≤900000) {w post:List Nat}(h:T.drop p=34::(escQ w++34::post)) (hp:p≤700000) (hl:len w≤60):
  ∃ g',(ops G0 130).call (.st 128) [.inst 138 0] (WL line p T [] [])=some (.str w,WL (line+cnt10 w) (p+1+len (escQ w)+1) T [] g')∧T.drop (p+1+len (escQ w)+1)=post:=by
 refine bC fun hN=>?_;refine Q02 (sign_cons h) ?_;intro ux h2;refine Q22 (o_q (line:=line) (c5:=.list []) (c6:=.list []) (g:=[f1 [34],f2 [34]]) (n:=73-len w) hT h2 (by exact lq3 [_,_] (.a (.a (.v 0) (.k 1)) (.m 2 (.v 1))) (.k 800000) (.v 1) (.k 60) (.v 1) (.k 60) (.v 0) (.k 700000) hl hl hp rfl) (by exact lT hl (nL rfl))) ?_;intro tl' g' k1 k2;rw[show 73-len w+len w+50=123 by exact eq1 [_,_] (.a (.a (.v 0) (.v 1)) (.k 50)) (.k 123) (.a (.v 0) (.v 1)) (.k 73) (Nat.sub_add_cancel (lT hl (nL rfl))) rfl rfl] at k1;have fr:(ops G0 124).frs ⟨7,[]⟩ false 55 8 oB (LW line p T (RW (.list []) (.list []) [] [] []))=some (.ret (.str w),LW (line+cnt10 w) (p+1+len (escQ w)+1) T (RW (.list []) (.list []) w tl' g')):=
  frs_ret (n:=123) (ns7 [] []) (nxt_c (n:=101) (by exact lT hp (nL rfl)) hT h _) (st55 (.inl rfl) _ _) k1
 refine hN ?_;refine ⟨frT w tl'::CIT::g',?_,k2⟩;rw[tok_head (m:=112) fr];rfl
theorem tok_b (hT:len T≤900000) {c:Nat}{w post:List Nat}(h:T.drop p=escB (c::w)++9::post) (hp:p≤600000) (hl:len w≤43):
  ∃ g',(ops G0 130).call (.st 128) [.inst 138 0] (WL line p T [] [])=some (.str (c::w),WL (line+cnt10 (c::w)) (p+len (escB (c::w))+1) T [] g')∧T.drop (p+len (escB (c::w))+1)=post:=by
 have h':T.drop p=92::c::(escB w++9::post):=h;refine Q02 (sign_cons h') ?_;intro ux h2;refine Q22 (o_b (line:=line) (c5:=.list []) (c6:=.list []) (g:=[f1 [92],f2 [92]]) (n:=43-len w) hT h2 (by exact lq3 [_,_] (.a (.a (.v 0) (.k 1)) (.m 2 (.v 1))) (.k 700000) (.v 1) (.k 43) (.v 1) (.k 43) (.v 0) (.k 600000) hl hl hp rfl) (by exact lT hl (nL rfl))) ?_;intro tl' g' k1 k2;rw[show 43-len w+len w+80=123 by exact eq1 [_,_] (.a (.a (.v 0) (.v 1)) (.k 80)) (.k 123) (.a (.v 0) (.v 1)) (.k 43) (Nat.sub_add_cancel (hl)) rfl rfl] at k1;have fr:(ops G0 124).frs ⟨7,[]⟩ false 55 8 oB (LW line p T (RW (.list []) (.list []) [] [] []))=some (.ret (.str (c::w)),LW (line+cnt10 (c::w)) (p+1+1+len (escB w)+1) T (RW (.list []) (.list []) (c::w) tl' g')):=
  frs_ret (n:=123) (ns7 [] []) (nxt_c (n:=101) (by exact lT hp (nL rfl)) hT h' _) (st55 (.inl rfl) _ _) k1
 have ep:p+1+1+len (escB w)+1=p+len (escB (c::w))+1:=by show _=p+(len (escB w)+1+1)+1;exact eq0 [_,_] (.a (.a (.a (.a (.v 0) (.k 1)) (.k 1)) (.v 1)) (.k 1)) (.a (.a (.v 0) (.a (.a (.v 1) (.k 1)) (.k 1))) (.k 1)) rfl rfl
 rw[ep] at fr k2;refine ⟨frT (c::w) tl'::CIT::g',?_,k2⟩;rw[tok_head (m:=112) fr];rfl
theorem tok_e (hT:len T≤900000) (h:T.drop p=[]) (hp:p≤700000):
  ∃ g',(ops G0 130).call (.st 128) [.inst 138 0] (WL line p T [] [])=some (.str [],WL line (p+1) T [] g'):=by
 have fr:(ops G0 124).frs ⟨7,[]⟩ false 55 8 oB (LW line p T (RW (.list []) (.list []) [] [] []))=some (.next,LW line (p+1) T [.list [],.list [],frT [] [],.junk,f1 [],f2 []]):=
  frs_end (n:=123) (ns7 [] []) (nxt_e (n:=101) (by exact lT hp (nL rfl)) hT h _)
 refine ⟨[frT [] [],.junk,f1 [],f2 []],?_⟩;rw[tok_head (m:=112) fr];show b1 ((ops G0 125).exs ⟨7,[]⟩ [.ret (.loc 57)] (LW line (p+1) T [.list [],.list [],frT [] [],.junk,f1 [],f2 []])) cRet=_;rw[show (125:Nat)=124+1 from rfl,exs_ret (v:=.str []) (W':=LW line (p+1) T [.list [],.list [],frT [] [],.junk,f1 [],f2 []]) rfl];rfl
theorem tok_p {v:V}{pb:List V}(hl:len pb≤1000):∃ g',(ops G0 130).call (.st 128) [.inst 138 0] (WL line p T (v::pb) [])=some (v,WL line p T pb g'):=by
 refine ⟨[.ns [(49,.inst 138 0)]],?_⟩;have g1:Nat.ble (len pb+1) lstMax=true:=nB (by show _≤100000;omega);have e0:(ops G0 130).call (.st 128) [.inst 138 0] (WL line p T (v::pb) [])=b1 ((ops G0 129).exs ⟨7,[]⟩ [.ifs (.att (.loc 49) 54) [.ret (.mcall (.att (.loc 49) 54) 60 [.c (.int 0)])] [],.asg false 57 (.c (.str [])),.asg false 58 (.call (.c (.bi (.iter))) [.att (.loc 49) 46,.c (.str [])]),.fr false 55 (.loc 58) oB,.ret (.loc 57)] (LW line p T [.list (v::pb),.list [],.ns [(49,.inst 138 0)]])) cRet:=by
  rw[show (130:Nat)=129+1 from rfl,call_st rfl rfl rfl];rfl
 have ga:getAtt G0 (.inst 138 0) 54 (LW line p T [.list (v::pb),.list [],.ns [(49,.inst 138 0)]])=some (.ref 5):=rfl;have tr:truthyV (.ref 5) (LW line p T [.list (v::pb),.list [],.ns [(49,.inst 138 0)]])=some true:=by
  show (bif Nat.ble (len pb+1) lstMax then some (!Nat.beq (len pb+1) 0) else none)=_;rw[g1];rfl
 have fm:findM G0 (.ref 5) 60 (LW line p T [.list (v::pb),.list [],.ns [(49,.inst 138 0)]])=some none:=rfl;have mt:meth G0 (.ref 5) 60 [.int 0] (LW line p T [.list (v::pb),.list [],.ns [(49,.inst 138 0)]])=some (v,LW line p T [.list pb,.list [],.ns [(49,.inst 138 0)]]):=by
  show (bif Nat.ble (len pb+1) lstMax then _ else none)=_;rw[g1];rfl
 have s1:(ops G0 128).ex ⟨7,[]⟩ (.ifs (.att (.loc 49) 54) [.ret (.mcall (.att (.loc 49) 54) 60 [.c (.int 0)])] []) (LW line p T [.list (v::pb),.list [],.ns [(49,.inst 138 0)]])=some (.ret v,LW line p T [.list pb,.list [],.ns [(49,.inst 138 0)]]):=by
  simp only[ga,tr,fm,mt,eMcall,o_ev,o_tst,o_evs,o_ex,o_exs,Z0,Z1,ZD,ZF,ZP,ZZ,Za,Zc,Zm,Zq,Zr,b1,b0,ldLoc,Zx,Zy,Zz,J0,Nat.beq,cond_true,YI,J8,eTru,N,JF]
 rw[e0,show (129:Nat)=128+1 from rfl,exs_ret s1];rfl
end
end Mine
end
section
open PySem PySem.W PySem.Spec PySem.Calls PyProof.Rows
set_option genSizeOf false
set_option genInjectivity false
namespace Mine
structure LX where
 d:Nat
 d2:Nat
 lt:Nat
 lp:Nat
 l:Nat
 q:Nat
 q2:Nat
 line:Nat
 p:Nat
 T:List Nat
 pb:List V
noncomputable abbrev dL (line d2 q:Nat):O:=.dict [(51,N line),(52,.inst 138 d2),(53,.str wsS),(54,.ref q)]
noncomputable abbrev dS (q2 lp lt:Nat):O:=.dict [(51,N 1),(52,.none),(53,.str wsS),(54,.ref q2),(56,.clo [71] takeB [(69,lp),(66,lt)])]
noncomputable def LX.sg (L:LX):List Nat:=[L.d,L.d2,L.lt,L.lp,L.l,L.q,L.q2]
structure LexAt (W:St) (L:LX):Prop where
 h0:nth W L.d=some (dL L.line L.d2 L.q)
 h1:nth W L.d2=some (dS L.q2 L.lp L.lt)
 h2:nth W L.lt=some (.cell (some (.str L.T)))
 h3:nth W L.lp=some (.cell (some (.ref L.l)))
 h4:nth W L.l=some (.list [N L.p])
 h5:nth W L.q=some (.list L.pb)
 h6:nth W L.q2=some (.list [])
 nd:L.sg.Nodup
theorem LexAt.uniq {W:St}{L L':LX}(a:LexAt W L) (b:LexAt W L') (h:L.d=L'.d):L=L':=by
 obtain ⟨d,d2,lt,lp,l,q,q2,line,p,T,pb⟩:=L;obtain ⟨d',d2',lt',lp',l',q',q2',line',p',T',pb'⟩:=L';dsimp only at h;subst h;have e0:=a.h0.symm.trans b.h0;dsimp only at e0;injection e0 with e0
 injection e0 with e0
 simp only[List.cons.injEq,Prod.mk.injEq,V.int.injEq,V.inst.injEq,V.ref.injEq,true_and,and_true,Int.ofNat.injEq] at e0;obtain ⟨rfl,rfl,rfl⟩:=e0;have e1:=a.h1.symm.trans b.h1;dsimp only at e1;injection e1 with e1
 injection e1 with e1
 simp only[List.cons.injEq,Prod.mk.injEq,V.clo.injEq,V.ref.injEq,true_and,and_true] at e1;obtain ⟨rfl,rfl,rfl⟩:=e1;have e2:=a.h2.symm.trans b.h2;dsimp only at e2;injection e2 with e2
 injection e2 with e2
 injection e2 with e2
 injection e2 with e2
 subst e2;have e3:=a.h3.symm.trans b.h3;dsimp only at e3;injection e3 with e3
 injection e3 with e3
 injection e3 with e3
 injection e3 with e3
 subst e3;have e4:=a.h4.symm.trans b.h4;dsimp only at e4;injection e4 with e4
 injection e4 with e4
 simp only[List.cons.injEq,V.int.injEq,and_true,Int.ofNat.injEq] at e4;subst e4;have e5:=a.h5.symm.trans b.h5;dsimp only at e5;injection e5 with e5
 injection e5 with e5
 subst e5;rfl
noncomputable def LX.turn (L:LX) (W:St) (line p:Nat) (pb:List V):St:=setAt (setAt (setAt W L.d (dL line L.d2 L.q)) L.l (.list [N p])) L.q (.list pb)
noncomputable abbrev LX.w0 (L:LX) (g:St):St:=WL L.line L.p L.T L.pb g
noncomputable def LX.f (L:LX) (j:Nat):Nat:=(nth L.sg j).getD 0
section
variable {b:BS}{m:Nat}{r:Ops}{W:St}{L:LX}
theorem LexAt.sel (h:LexAt W L) (hf:flats L.pb=true):Sel W L.sg (isInL L.sg) (posL L.sg) (L.w0 []):=by
 have hd:=h.nd;have idx:∀ j i,nth L.sg j=some i→posL L.sg i=j:=fun j i e=>nth_inj hd (posL_nth (nth_mem e)) e;have p1:posL L.sg L.d2=1:=idx 1 _ rfl;have p2:posL L.sg L.lt=2:=idx 2 _ rfl;have p3:posL L.sg L.lp=3:=idx 3 _ rfl;have p4:posL L.sg L.l=4:=idx 4 _ rfl;have p5:posL L.sg L.q=5:=idx 5 _ rfl;have p6:posL L.sg L.q2=6:=idx 6 _ rfl;have i1:isInL L.sg L.d2=true:=isInL_iff.mpr (nth_mem (i:=1) rfl);have i2:isInL L.sg L.lt=true:=isInL_iff.mpr (nth_mem (i:=2) rfl);have i3:isInL L.sg L.lp=true:=isInL_iff.mpr (nth_mem (i:=3) rfl);have i4:isInL L.sg L.l=true:=isInL_iff.mpr (nth_mem (i:=4) rfl);have i5:isInL L.sg L.q=true:=isInL_iff.mpr (nth_mem (i:=5) rfl);have i6:isInL L.sg L.q2=true:=isInL_iff.mpr (nth_mem (i:=6) rfl);exact Sel.of hd (.cons h.h0 rfl (by simp[YZ,YV,YW,YM,YN,YO,YP,i1,i5]<;>rfl) (by simp[Yn,Yj,Yk,Ya,Yb,Yc,Yd,p1,p5]<;>rfl)
  (.cons h.h1 rfl (by simp[YZ,YV,YW,YM,YO,YP,YQ,Yo,i6,i3,i2]<;>rfl) (by simp[Yn,Yj,Yk,Ya,Yc,Yd,Ye,Yp,p6,p3,p2]<;>rfl)
  (.cons h.h2 rfl rfl rfl (.cons h.h3 rfl i4 (by simp[Yr,Ya,p4]<;>rfl) (.cons h.h4 rfl rfl rfl
  (.cons h.h5 rfl (flats_in hf) (by show _=O.list (renVs _ L.pb);rw[flats_ren hf]) (.cons h.h6 rfl rfl rfl .nil)))))))
theorem LexAt.ne (h:LexAt W L) {i j a c:Nat}(hi:nth L.sg i=some a) (hj:nth L.sg j=some c) (hne:i≠j):a≠c:=fun e=>by
 subst e;exact hne (nth_inj h.nd hi hj)
theorem LexAt.ret (h:LexAt W L) (nc:noCits W=true) {line p:Nat}{pb:List V}(hf:flats pb=true) (g:St):Ret W L.sg (WL line p L.T pb g) (L.turn W line p pb) [] (fun j=>decide (j<7)) L.f:=by
 have n04:=h.ne (i:=0) (j:=4) rfl rfl (by decide);have n05:=h.ne (i:=0) (j:=5) rfl rfl (by decide);have n45:=h.ne (i:=4) (j:=5) rfl rfl (by decide);have at0:nth (L.turn W line p pb) L.d=some (dL line L.d2 L.q):=by
  refine (nth_setAt_ne n05.symm).trans ?_;rw[nth_setAt_ne n04.symm,nth_setAt_self h.h0]
 have at4:nth (L.turn W line p pb) L.l=some (.list [N p]):=by
  refine (nth_setAt_ne n45.symm).trans ?_;rw[nth_setAt_self (a:=.list [N L.p]) (by rw[nth_setAt_ne n04];exact h.h4)]
 have at5:nth (L.turn W line p pb) L.q=some (.list pb):=by
  unfold LX.turn;rw[nth_setAt_self (a:=.list L.pb) (by rw[nth_setAt_ne n45,nth_setAt_ne n05];exact h.h5)]
 have oth:∀ i,i≠L.d→i≠L.l→i≠L.q→nth (L.turn W line p pb) i=nth W i:=fun i a b c=>by
  refine (nth_setAt_ne (Ne.symm c)).trans ?_;rw[nth_setAt_ne (Ne.symm b),nth_setAt_ne (Ne.symm a)]
 exact {
  len:=by unfold LX.turn;rw[len_setAt,len_setAt,len_setAt];rfl
  f1:=fun j e=>by
   have hj:=of_decide_eq_true e;obtain ⟨a,ha⟩:=nth_some (l:=L.sg) (i:=j) (by show j<7;exact hj);exact .inl (by unfold LX.f;rw[ha];rfl)
  newR:=fun k j e=>nomatch e
  obj:=fun i o' e ha=>by
   by_cases z:i∈L.sg
   ·have ot:∀ k a,nth L.sg k=some a→k≠0→k≠4→k≠5→nth (L.turn W line p pb) a=nth W a:=fun k a hk z0 z4 z5=>oth a (h.ne hk (rfl:nth L.sg 0=some L.d) z0) (h.ne hk (rfl:nth L.sg 4=some L.l) z4) (h.ne hk (rfl:nth L.sg 5=some L.q) z5);exact .inr (RetL.all (is:=L.sg) (.cons 0 at0 rfl rfl rfl rfl (by simp[YZ,YV,YW,YM,YN,YO,YP]<;>rfl) (by simp[Yn,Yj,Yk,Ya,Yb,Yc,Yd,LX.f,LX.sg,Zx,Zy]<;>rfl)
     (.cons 1 ((ot 1 _ rfl (by decide) (by decide) (by decide)).trans h.h1) rfl rfl rfl rfl (by simp[YZ,YV,YW,YM,YO,YP,YQ,Yo]<;>rfl) (by simp[Yn,Yj,Yk,Ya,Yc,Yd,Ye,Yp,LX.f,LX.sg,Zx,Zy]<;>rfl)
     (.cons 2 ((ot 2 _ rfl (by decide) (by decide) (by decide)).trans h.h2) rfl rfl rfl rfl rfl rfl
     (.cons 3 ((ot 3 _ rfl (by decide) (by decide) (by decide)).trans h.h3) rfl rfl rfl rfl (by simp[Yq,YM]<;>rfl) (by simp[Yr,Ya,LX.f,LX.sg,Zx,Zy]<;>rfl)
     (.cons 4 at4 rfl rfl rfl rfl rfl rfl (.cons 5 (o0:=.list pb) at5 rfl rfl rfl rfl (flats_in hf) (by show _=O.list (renVs _ pb);rw[flats_ren hf])
     (.cons 6 ((ot 6 _ rfl (by decide) (by decide) (by decide)).trans h.h6) rfl rfl rfl rfl rfl rfl .nil))))))) z e)
   ·have hne:∀ j a,nth L.sg j=some a→i≠a:=fun j a hj q=>z (by rw[q];exact nth_mem hj);rw[oth i (hne 0 _ rfl) (hne 4 _ rfl) (hne 5 _ rfl)] at e;exact .inl ⟨e,z⟩
  cit:=fun i o e ux uy=>noCits_at nc e }
theorem lex_prim {a:Nat}{post:List V}{v:V}{line p:Nat}{pb:List V}{g:St}(S:Sound b m r) (hL:LexAt W L) (nc:noCits W=true) (hf:flats L.pb=true) (hf':flats pb=true) (hv:flatR v=true) (hpost:flats post=true)
  (hc:r.call (.st a) (.inst 138 0::post) (L.w0 [])=some (v,WL line p L.T pb g))
  {fx:Value}{xs:List Value}{A:Around}{kp:Kp}{ρ:List Addr}{s:Shared}{Q E:Value→Shared→Prop}(g1:VR kp ρ (.st a) fx) (g2:VRs kp ρ (.inst 138 L.d::post) xs) (hA:AOk m A) (R:SR b kp ρ W s) (h:Back b kp ρ (L.turn W line p pb) (fun kp ρ y=>VR kp ρ v y) Q):
  codeAny (model b.prog b.w) A (.call fx ⟨xs,[]⟩) (CallBack Q E) s:=by
 have p0:posL L.sg L.d=0:=nth_inj hL.nd (posL_nth (nth_mem (i:=0) rfl)) rfl;refine S.carry (fv:=.st a) (vs:=.inst 138 L.d::post) (p':=fun j=>decide (j<7)) (f':=L.f) ?_ rfl (hL.sel hf) (hL.ret (line:=line) (p:=p) nc hf' g) rfl ?_ (flatR_in hv) g1 g2 hA R ?_
 ·show r.call (.st a) (V.inst 138 (posL L.sg L.d)::renVs _ post) _=_;refine (flats_ren hpost).symm ▸ p0.symm ▸ ?_;exact hc
 ·show (isInL L.sg L.d&&inVs _ post)=true;rw[flats_in hpost,isInL_iff.mpr (nth_mem (i:=0) rfl)];rfl
 ·rw[flatR_ren hv];exact h
end
end Mine
end
section
open PySem PySem.W PySem.Spec PySem.Calls PyProof.Rows
namespace Mine
noncomputable def pQ (esc:Bool):List Nat→Option (List Nat)
 | []=>none
 | c::r=>bif esc then bif Nat.beq c 34||Nat.beq c 92 then b0 (pQ false r) fun w=>some (c::w) else none
  else bif Nat.beq c 34 then some [] else bif Nat.beq c 92 then pQ true r else b0 (pQ false r) fun w=>some (c::w)
noncomputable def parseB:List Nat→Option (List Nat)
 | c::d::r=>bif Nat.beq c 9 then some [] else bif Nat.beq c 92 then b0 (parseB r) fun w=>some (d::w) else none
 | [c]=>bif Nat.beq c 9 then some [] else none
 | []=>none
theorem parseQ_sound:∀ (n:Nat) (R w:List Nat),R.length≤n→pQ false R=some w→∃ post,R=escQ w++34::post:=by
 intro n;induction n with
 | zero=>
  intro R w h e;obtain rfl:=List.eq_nil_of_length_eq_zero (Nat.le_zero.mp h);exact nn e
 | succ n ih=>
  intro R w hn e;cases R with
  | nil=>exact nn e
  | cons c r=>
  have hn':r.length≤n:=Nat.le_of_succ_le_succ hn;replace e:(bif Nat.beq c 34 then some [] else bif Nat.beq c 92 then pQ true r else b0 (pQ false r) fun w=>some (c::w))=some w:=e;cases z:Nat.beq c 34 with
  | true=>replace e:=ct z e;obtain rfl:=sI e;exact ⟨r,by rw[nE z];rfl⟩
  | false=>
  replace e:=cf z e;cases z2:Nat.beq c 92 with
  | true=>
   replace e:=ct z2 e;cases r with
   | nil=>exact nn e
   | cons d r'=>
    replace e:(bif Nat.beq d 34||Nat.beq d 92 then b0 (pQ false r') fun w=>some (d::w) else none)=some w:=e;revert e;refine Bt ?_;intro z3 e;revert e;refine B0 ?_;intro w' hw e;obtain rfl:=sI e;refine Q11 (ih r' w' (Nat.le_of_succ_le hn') hw) ?_;intro post hp;refine ⟨post,?_⟩;rw[hp,nE z2];have:esc1 d=[92,d]:=by
     unfold esc1;cases y:Nat.beq d 34 with
     | true=>rw[nE y];rfl
     | false=>
      rw[y,Bool.false_or] at z3;rw[z3,nE z3];rfl
    show _=(esc1 d++escQ w')++34::post;rw[this];rfl
  | false=>
  replace e:=cf z2 e;revert e;refine B0 ?_;intro w' hw e;obtain rfl:=sI e;refine Q11 (ih r w' hn' hw) ?_;intro post hp;refine ⟨post,?_⟩;rw[hp];have:esc1 c=[c]:=by unfold esc1;rw[z,z2];rfl
  show _=(esc1 c++escQ w')++34::post;rw[this];rfl
theorem pq_end (r:List Nat):pQ false (34::r)=some []:=rfl
theorem pq_two (d:Nat) (r:List Nat) (h:(Nat.beq d 34||Nat.beq d 92)=true):pQ false (92::d::r)=b0 (pQ false r) fun w=>some (d::w):=by
 show (bif Nat.beq d 34||Nat.beq d 92 then _ else none)=_;rw[h];rfl
theorem pq_one (c:Nat) (r:List Nat) (h1:Nat.beq c 34=false) (h2:Nat.beq c 92=false):pQ false (c::r)=b0 (pQ false r) fun w=>some (c::w):=by
 show (bif Nat.beq c 34 then _ else bif Nat.beq c 92 then _ else _)=_;rw[h1,h2];rfl
theorem parseQ_esc:∀ (w post:List Nat),pQ false (escQ w++34::post)=some w:=by
 intro z0;induction z0 with
 | nil=>
  intro post;exact pq_end post
 | cons c w ih0=>
  intro post;show pQ false ((esc1 c++escQ w)++34::post)=_;rw[List.append_assoc];unfold esc1;cases z:Nat.beq c 34 with
  | true=>
   rw[cond_true,nE z];show pQ false (92::34::(escQ w++34::post))=_;refine (pq_two _ _ rfl).trans ?_;rw[ih0 post];rfl
  | false=>
  simp only[cond_false];cases z2:Nat.beq c 92 with
  | true=>
   rw[cond_true,nE z2];show pQ false (92::92::(escQ w++34::post))=_;refine (pq_two _ _ rfl).trans ?_;rw[ih0 post];rfl
  | false=>
   show pQ false (c::(escQ w++34::post))=_;refine (pq_one c _ z z2).trans ?_;rw[ih0 post];rfl
theorem parseB_sound:∀ (n:Nat) (R w:List Nat),R.length≤n→parseB R=some w→∃ post,R=escB w++9::post:=by
 intro n;induction n with
 | zero=>
  intro R w h e;obtain rfl:=List.eq_nil_of_length_eq_zero (Nat.le_zero.mp h);exact nn e
 | succ n ih=>
  intro R w hn e;cases R with
  | nil=>exact nn e
  | cons c r=>
  cases r with
  | nil=>
   cases z:Nat.beq c 9 with
   | true=>replace e:=ct z e;obtain rfl:=sI e;exact ⟨[],by rw[nE z];rfl⟩
   | false=>exact nn (cf z e)
  | cons d r=>
  cases z:Nat.beq c 9 with
  | true=>replace e:=ct z e;obtain rfl:=sI e;exact ⟨d::r,by rw[nE z];rfl⟩
  | false=>
  replace e:=cf z e;revert e;refine Bt ?_;intro z2 e;revert e;refine B0 ?_;intro w' hw e;obtain rfl:=sI e;refine Q11 (ih r w' (Nat.le_of_succ_le (Nat.le_of_succ_le_succ hn)) hw) ?_;intro post hp;exact ⟨post,by rw[hp,nE z2];rfl⟩
theorem parseB_esc:∀ (w post:List Nat),parseB (escB w++9::post)=some w
 | [],[]=>by show parseB [9]=_;rfl
 | [],d::post=>by show parseB (9::d::post)=_;rfl
 | c::w,post=>by
  show parseB (92::c::(escB w++9::post))=_;show b0 (parseB (escB w++9::post)) _=_;rw[parseB_esc w post];rfl
noncomputable def tokT (R:List Nat):Option (List Nat × Nat):=match R with
 | []=>some ([],1)
 | c::r=>bif Nat.beq c 34 then b0 (pQ false r) fun w=>some (w,len (escQ w)+2)
  else b0 (parseB (c::r)) fun w=>match w with
   | d::w=>some (d::w,len (escB (d::w))+1)
   | []=>none
theorem push_ev {n line p:Nat}{T:List Nat}{pb:List V}{s:V}(hl:len pb≤1000):(ops G0 (n+20)).call (.st 135) [.inst 138 0,s] (WL line p T pb [])=some (.none,WL line p T (pb++[s]) [.ns [(49,.inst 138 0),(57,s)]]):=by
 have g1:Nat.ble (len pb) lstMax=true:=nB (by show _≤100000;omega);have e0:(ops G0 (n+20)).call (.st 135) [.inst 138 0,s] (WL line p T pb [])=b1 ((ops G0 (n+19)).exs ⟨7,[]⟩ [.expr (.mcall (.att (.loc 49) 54) 41 [.loc 57])] (LW line p T [.list pb,.list [],.ns [(49,.inst 138 0),(57,s)]])) cRet:=by
  rfl
 have ga:getAtt G0 (.inst 138 0) 54 (LW line p T [.list pb,.list [],.ns [(49,.inst 138 0),(57,s)]])=some (.ref 5):=rfl;have fm:findM G0 (.ref 5) 41 (LW line p T [.list pb,.list [],.ns [(49,.inst 138 0),(57,s)]])=some none:=rfl;have mt:meth G0 (.ref 5) 41 [s] (LW line p T [.list pb,.list [],.ns [(49,.inst 138 0),(57,s)]])=some (.none,LW line p T [.list (pb++[s]),.list [],.ns [(49,.inst 138 0),(57,s)]]):=by
  show (bif Nat.ble (len pb) lstMax then _ else none)=_;rw[g1];rfl
 have s1:(ops G0 (n+18)).ex ⟨7,[]⟩ (.expr (.mcall (.att (.loc 49) 54) 41 [.loc 57])) (LW line p T [.list pb,.list [],.ns [(49,.inst 138 0),(57,s)]])=some (.next,LW line p T [.list (pb++[s]),.list [],.ns [(49,.inst 138 0),(57,s)]]):=by
  simp only[ga,fm,mt,eMcall,Jm,o_ev,o_evs,o_ex,Z1,ZD,ZF,ZZ,Za,Zb,b1,b0,ldLoc,Zx,Zy,Zz,J0,Nat.beq,cond_true,cond_false,N,JF]
 rw[e0,show n+19=(n+18)+1 from rfl,exs_cons s1];rfl
noncomputable def lexAns (a:Nat) (L:LX) (post:List V):Option (V × Nat × Nat × List V):=
 bif flats L.pb&&(Nat.ble (len L.pb) 900&&(Nat.ble (len L.T) 900000&&Nat.ble L.p 600000)) then (bif Nat.beq a 128 then onE post (match L.pb with
    | v::r=>some (v,L.line,L.p,r)
    | []=>b0 (tokT (L.T.drop L.p)) fun y=>bif Nat.ble (len y.1) 40 then some (.str y.1,L.line+cnt10 y.1,L.p+y.2,[]) else none)
  else bif Nat.beq a 135 then onC post fun x r=>onE r (onStr x fun s=>some (.none,L.line,L.p,L.pb++[.str s])) else none) else none
theorem flats_app {a c:List V}(h:flats a=true) (k:flats c=true):flats (a++c)=true:=by
 induction a with
 | nil=>exact k
 | cons x r ih=>
  have h1:=al h;have h2:=ar h;show (flat x&&flats (r++c))=true;rw[h1,ih h2];rfl
theorem flatR_flat {v:V}(h:flat v=true):flatR v=true:=by cases v<;>first | rfl | exact ft h
set_option tactic.hygienic true in
theorem tokT_ok {line p k:Nat}{T w:List Nat}(hT:len T≤900000) (hp:p≤600000) (hw:len w≤40) (h:tokT (T.drop p)=some (w,k)):∃ g,(ops G0 130).call (.st 128) [.inst 138 0] (WL line p T [] [])=some (.str w,WL (line+cnt10 w) (p+k) T [] g):=by
 refine bC fun hN=>?_;cases hR:T.drop p with
 | nil=>
  rw[hR] at h;refine Q02 (pj h) ?_;rintro rfl rfl;refine hN ?_;exact tok_e hT hR (lT ‹_› (by decide))
 | cons c r=>
  rw[hR] at h;cases zc:Nat.beq c 34 with
  | true=>
   replace h:=ct zc h;revert h;refine B0 ?_;intro w' hw' h;cases h;refine Q11 (parseQ_sound _ _ _ (Nat.le_refl _) hw') ?_;intro post hp';have:=nE zc;subst this;refine Q12 (tok_q (line:=line) hT (w:=w) (post:=post) (by rw[hR,hp']) (by exact lT hp (nL rfl)) (lT hw (by decide))) ?_;intro g hg ux;refine hN ?_;refine ⟨g,?_⟩;rw[show p+(len (escQ w)+2)=p+1+len (escQ w)+1 by exact eq0 [_,_] (.a (.v 0) (.a (.v 1) (.k 2))) (.a (.a (.a (.v 0) (.k 1)) (.v 1)) (.k 1)) rfl rfl];exact hg
  | false=>
   replace h:=cf zc h;revert h;refine B0 ?_;intro w1 hw' h;cases w1 with
   | nil=>exact nn h
   | cons d w'=>
   refine Q02 (pj h) ?_;rintro rfl rfl;refine Q11 (parseB_sound _ _ _ (Nat.le_refl _) hw') ?_;intro post hp';have hl:len (d::w')=len w'+1:=rfl;refine Q12 (tok_b (line:=line) hT (c:=d) (w:=w') (post:=post) (by rw[hR,hp']) (by exact hp) (by exact lq2 [_,_] (.v 0) (.k 43) (.a (.v 0) (.k 1)) (.v 1) (.v 1) (.k 40) (Nat.le_of_eq hl.symm) hw rfl)) ?_;intro g hg ux;exact hN ⟨g,hg⟩
theorem lexAns_ok {a:Nat}{L:LX}{post:List V}{v:V}{line p:Nat}{pb:List V}(h:lexAns a L post=some (v,line,p,pb)):
  flats L.pb=true∧flats pb=true∧flatR v=true∧flats post=true∧∃ g,(ops G0 130).call (.st a) (.inst 138 0::post) (L.w0 [])=some (v,WL line p L.T pb g):=by
 obtain ⟨d,d2,lt,lp,l,q,q2,ln0,p0,T,pb0⟩:=L;revert h;refine Bt ?_;intro z h;have z1:=al z;have z2:=ar z;have z3:=ar z2;have z2:=al z2;have z4:=ar z3;have z3:=al z3;have z2:=nL z2;have z3:=nL z3;have z4:=nL z4;show flats pb0=true∧flats pb=true∧flatR v=true∧flats post=true∧∃ g,(ops G0 130).call (.st a) (.inst 138 0::post) (WL ln0 p0 T pb0 [])=some (v,WL line p T pb g);cases y:Nat.beq a 128 with
 | true=>
  replace h:=ct y h;obtain rfl:=nE y;revert h;refine OE ?_;rintro rfl h;cases pb0 with
  | cons u r'=>
   have g:=tok_p (line:=ln0) (p:=p0) (T:=T) (v:=u) (pb:=r') (lT (Nat.le_of_succ_le z2) (by decide));cases h;exact ⟨z1,ar z1,flatR_flat (al z1),rfl,g⟩
  | nil=>
   revert h;refine B0 ?_;rintro ⟨w,k⟩ hk h;revert h;refine Bt ?_;intro z5 h;cases h;exact ⟨rfl,rfl,rfl,rfl,tokT_ok z3 z4 (nL z5) hk⟩
 | false=>
  replace h:=cf y h;revert h;refine Bt ?_;intro y2 h;obtain rfl:=nE y2;revert h;refine OC ?_;rintro x r rfl h;revert h;refine OE ?_;rintro rfl h;revert h;refine OStr ?_;rintro s rfl h;cases h;exact ⟨z1,flats_app z1 rfl,rfl,rfl,_,push_ev (n:=110) (lT z2 (by decide))⟩
open Classical in
noncomputable def pLex (f:V) (vs:List V) (W:St):Option (V × St):=onSt f fun a=>onC vs fun x post=>onInst x fun c d=>if h:c=138∧noCits W=true∧∃ L,LexAt W L∧L.d=d then (b0 (lexAns a h.2.2.choose post) fun y=>some (y.1,h.2.2.choose.turn W y.2.1 y.2.2.1 y.2.2.2)) else none
theorem lex_pr {b:BS}(H:Here b):PrimOk b 130 pLex:=by
 intro f vs W v W' fx xs A kp ρ s Q E e;refine bC fun hN=>?_;revert e;refine OSt ?_;rintro a rfl e;revert e;refine OC ?_;rintro ux post rfl e;revert e;refine OInst ?_;rintro c d rfl e;split at e
 ·rename_i h;refine Q02 h.2.2.choose_spec ?_;intro hL hd;refine Q03 (id h) ?_;rintro rfl hnc ux;generalize hh:h.2.2.choose=L at e hL hd;revert e;refine B0 ?_;intro y hy e;obtain ⟨v1,line,p,pb⟩:=y;refine Q02 (pj e) ?_;rintro rfl rfl;obtain ⟨k1,k2,k3,k4,g,hg⟩:=lexAns_ok hy;subst hd;refine hN ?_;exact ⟨rfl,fun h1 h2 hA R h=>lex_prim (sound H (prim_none b) 130) hL hnc k1 k2 k3 k4 hg h1 h2 (hA.le (Nat.le_refl _)) R h⟩
 ·exact nn e
theorem pLex_at {W:St}{L:LX}{a:Nat}{post:List V}{v:V}{line p:Nat}{pb:List V}(hL:LexAt W L) (nc:noCits W=true) (h:lexAns a L post=some (v,line,p,pb)):pLex (.st a) (.inst 138 L.d::post) W=some (v,L.turn W line p pb):=by
 have hx:(138:Nat)=138∧noCits W=true∧∃ L',LexAt W L'∧L'.d=L.d:=⟨rfl,nc,L,hL,rfl⟩;refine (dif_pos hx).trans ?_;have e:hx.2.2.choose=L:=hx.2.2.choose_spec.1.uniq hL hx.2.2.choose_spec.2;rw[e,h];rfl
noncomputable def numChk (r e n:Nat):Bool:=match (ops (sig L1) 60).call (.st 183) [.str (mailOf r e n),.ref 0,.ref 1] [.list ((restsOf r).map .str),.list []] with
 | some (v,W0)=>eqF v (N n)&&sameO [.list ((restsOf r).map .str),.list []] W0
 | none=>false
theorem num_0_0:(upto 32).all (numChk 0 0)=true:=by decide +kernel
theorem num_0_1:(upto 32).all (numChk 0 1)=true:=by decide +kernel
theorem num_0_2:(upto 32).all (numChk 0 2)=true:=by decide +kernel
theorem num_1_0:(upto 32).all (numChk 1 0)=true:=by decide +kernel
theorem num_1_1:(upto 32).all (numChk 1 1)=true:=by decide +kernel
theorem num_1_2:(upto 32).all (numChk 1 2)=true:=by decide +kernel
theorem num_2_0:(upto 32).all (numChk 2 0)=true:=by decide +kernel
theorem num_2_1:(upto 32).all (numChk 2 1)=true:=by decide +kernel
theorem num_2_2:(upto 32).all (numChk 2 2)=true:=by decide +kernel
theorem num_3_0:(upto 32).all (numChk 3 0)=true:=by decide +kernel
theorem num_3_1:(upto 32).all (numChk 3 1)=true:=by decide +kernel
theorem num_3_2:(upto 32).all (numChk 3 2)=true:=by decide +kernel
theorem num_4_0:(upto 32).all (numChk 4 0)=true:=by decide +kernel
theorem num_4_1:(upto 32).all (numChk 4 1)=true:=by decide +kernel
theorem num_4_2:(upto 32).all (numChk 4 2)=true:=by decide +kernel
theorem num_5_0:(upto 32).all (numChk 5 0)=true:=by decide +kernel
theorem num_5_1:(upto 32).all (numChk 5 1)=true:=by decide +kernel
theorem num_5_2:(upto 32).all (numChk 5 2)=true:=by decide +kernel
theorem num_key:∀ r e:Nat,r<6→e<3→(upto 32).all (numChk r e)=true:=fun r e hr=>lt6 (P:=fun r=>∀ e,e<3→(upto 32).all (numChk r e)=true) (lt3 num_0_0 num_0_1 num_0_2) (lt3 num_1_0 num_1_1 num_1_2) (lt3 num_2_0 num_2_1 num_2_2) (lt3 num_3_0 num_3_1 num_3_2) (lt3 num_4_0 num_4_1 num_4_2) (lt3 num_5_0 num_5_1 num_5_2) r hr e
theorem num_tab {r e n:Nat}(hr:r<6) (he:e<3) (hn:n<32):numChk r e n=true:=upto_all (num_key r e hr he) n hn
theorem canon_at {fs:List Nat}{r:Ops}{a:Nat}{vs vs0:List V}{W W0 W0':St}{σ:List Nat}{v:V}(ha:fs.any (Nat.beq a)=true) (nc:noCits W=true) (hargs:vs.all argOk=true) (hσ:refsIn vs []=σ) (ho:objsOf W σ=some W0) (hv:renVs (posL σ) vs=vs0)
  (hc:r.call (.st a) vs0 W0=some (v,W0')) (h1:flatR v=true) (h2:sameO W0 W0'=true):canon fs r (.st a) vs W=some (v,W):=by
 simp only[canon,JM,ha,nc,hargs,hσ,ho,hv,hc,h1,h2,b0,b1,Bool.and_self,cond_true]
noncomputable def pNum:V→List V→St→Option (V × St):=canon [183] (ops (sig L1) 60)
theorem num_prim {b:BS}(H:Here b):PrimOk b 100 pNum:=canon_ok (sound H (L1_ok H) 60)
set_option tactic.hygienic true in
theorem num_call {r e n:Nat}(hr:r<6) (he:e<3) (hn:n<32):∃ W0,(ops (sig L1) 60).call (.st 183) [.str (mailOf r e n),.ref 0,.ref 1] [.list ((restsOf r).map .str),.list []]=some (N n,W0)∧sameO [.list ((restsOf r).map .str),.list []] W0=true:=by
 refine bC fun hN=>?_;have t:=num_tab hr he hn;unfold numChk at t;split at t
 ·rename_i v W0 hc;have t1:=al t;have t2:=ar t;refine Q02 (eqF_eq t1) ?_;rintro rfl ux;refine hN ?_;exact ⟨W0,hc,t2⟩
 ·exact ft t
theorem two_refs {s:List Nat}{lr lu:Nat}{ra:List V}{W:St}(h1:nth W lr=some (.list ra)) (h2:nth W lu=some (.list [])) (hne:lr≠lu):refsIn [.str s,.ref lr,.ref lu] []=[lr,lu]∧objsOf W [lr,lu]=some [.list ra,.list []]∧renVs (posL [lr,lu]) [.str s,.ref lr,.ref lu]=[.str s,.ref 0,.ref 1]:=by
 have hb:Nat.beq lu lr=false:=by
  cases q:Nat.beq lu lr with
  | false=>rfl
  | true=>exact absurd (nE q).symm hne
 refine ⟨?_,?_,?_⟩
 ·show (bif (Nat.beq lu lr||false) then [lr] else [lr]++[lu])=_;rw[hb];rfl
 ·rw[KOb,h1,KOb,h2];rfl
 ·show [V.str s,.ref (posL [lr,lu] lr),.ref (posL [lr,lu] lu)]=_;have p0:posL [lr,lu] lr=0:=by dsimp only[Kh,Ki];rw[Nat.beq_refl];rfl
  have p1:posL [lr,lu] lu=1:=by rw[Ki,hb,cond_false,Ki,Nat.beq_refl];rfl
  rw[p0,p1]
theorem pNum_at {r e n lr lu:Nat}{W:St}(hr:r<6) (he:e<3) (hn:n<32) (h1:nth W lr=some (.list ((restsOf r).map .str))) (h2:nth W lu=some (.list [])) (hne:lr≠lu) (nc:noCits W=true):
  pNum (.st 183) [.str (mailOf r e n),.ref lr,.ref lu] W=some (N n,W):=by
 refine Q12 (num_call hr he hn) ?_;intro W0 hc hs;generalize mailOf r e n=s at hc ⊢;generalize (restsOf r).map V.str=ra at hc hs h1;refine Q03 (two_refs (s:=s) h1 h2 hne) ?_;intro k1 k2 k3;exact canon_at rfl nc rfl k1 k2 k3 hc rfl hs
section
variable {G:Sig}{n:Nat}{g:Ctx}{elt:X}{c:Bool}{x i acc:Nat}{ifs:List X}{W W1 W2 W3 W4:St}{v u:V}{vs:List V}
theorem cpl_end (hns:isNs (nth W g.lf)=true) (h1:(ops G n).nxt i W=some (none,W1)):(ops G (n+1)).cpl g elt c x i ifs acc W=some W1:=by
 rw[o_cpl];unfold stepCpl;rw[hns,cond_true,h1];simp only[b1,YE]
theorem cpl_skip (hns:isNs (nth W g.lf)=true) (h1:(ops G n).nxt i W=some (some v,W1)) (h2:stName g c x v W1=some W2) (h3:(ops G n).tsts g true ifs W2=some (false,W3)):(ops G (n+1)).cpl g elt c x i ifs acc W=(ops G n).cpl g elt c x i ifs acc W3:=by
 rw[o_cpl];unfold stepCpl;rw[hns,cond_true,h1];simp only[b1,YF,b0,h2,h3,cond_false]
theorem cpl_take (hns:isNs (nth W g.lf)=true) (h1:(ops G n).nxt i W=some (some v,W1)) (h2:stName g c x v W1=some W2) (h3:(ops G n).tsts g true ifs W2=some (true,W3)) (h4:(ops G n).ev g elt W3=some (u,W4)) (h5:nth W4 acc=some (.list vs)) (h6:Nat.ble (len vs) lstMax=true):
  (ops G (n+1)).cpl g elt c x i ifs acc W=(ops G n).cpl g elt c x i ifs acc (setAt W4 acc (.list (vs++[u]))):=by
 rw[o_cpl];unfold stepCpl;rw[hns,cond_true,h1];simp only[b1,YF,b0,h2,h3,cond_true,h4,cplPut,h5,h6,JH]
end
theorem drop_cons' {T:List Nat}{p c:Nat}{r:List Nat}(h:T.drop p=c::r):p<T.length∧T[p]?=some c∧T.drop (p+1)=r:=by
 have hp:p<T.length:=by
  rcases Nat.lt_or_ge p T.length with h1 | h1
  ·exact h1
  ·rw[List.drop_eq_nil_iff.mpr h1] at h;cases h
 rw[List.drop_eq_getElem_cons hp] at h;injection h with h1 h2
 exact ⟨hp,by rw[List.getElem?_eq_getElem hp,h1],h2⟩
noncomputable def isSub (m n:Nat):Bool:=Nat.beq (Nat.land n m) m
noncomputable def lessP (sets many:List Nat):List Nat:=sets.filter fun m=>many.any fun n=>isSub m n
theorem and_N (a b:Nat):binI .BitAnd (.ofNat a) (.ofNat b)=some (.ofNat (Nat.land a b)):=rfl
theorem eqI_N (a b:Nat):eqI (.ofNat a) (.ofNat b)=Nat.beq a b:=by
 cases q:Nat.beq a b with
 | true=>rw[nE q];exact decide_eq_true rfl
 | false=>exact decide_eq_false fun e=>by have e:(a:Int)=(b:Int):=e;rw[show a=b by omega,Nat.beq_refl] at q;cases q
noncomputable def tl10 (tl:List (Nat × V)):Prop:=tl=[]∨∃ v,tl=[(10,v)]
noncomputable def inIf:X:=.cmp (.Eq) (.bin (.BitAnd) (.loc 10) (.cel 111)) (.cel 111)
noncomputable abbrev LB (sets many:List Nat) (a2 a3 a4 a5 a6:O) (m:Nat) (g:St):St:=.list (nums sets)::.list (nums many)::a2::a3::a4::a5::a6::.cell (some (N m))::g
section
variable {sets many:List Nat}{a2 a3 a4 a5 a6:O}{m:Nat}{g:St}{n:Nat}
theorem in_loop (hl:many.length≤1000) (cl:List (Nat × Nat)):∀ (r:List Nat) (i:Nat) (acc:List Nat) (tl:List (Nat × V)) (n:Nat),many.drop i=r→tl10 tl→acc.length+r.length≤1000 →
  ∃ tl',(ops G0 (n+r.length+20)).cpl ⟨len g+10,(111,7)::cl⟩ (.loc 10) false 10 (len g+8) [inIf] (len g+9) (LB sets many a2 a3 a4 a5 a6 m (g++[.lit 1 i,.list (nums acc),.ns tl]))=some (LB sets many a2 a3 a4 a5 a6 m (g++[.junk,.list (nums (acc++r.filter (isSub m))),.ns tl'])):=by
 intro z0;induction z0 with
 | nil=>
  intro i acc tl n h ht ha;have hn:nth (nums many) i=none:=by rw[nth_nums,List.getElem?_eq_none (List.drop_eq_nil_iff.mp h)];rfl
  refine ⟨tl,?_⟩;rw[show n+([]:List Nat).length+20=(n+19)+1 from rfl,cpl_end (n:=n+19) (W1:=LB sets many a2 a3 a4 a5 a6 m (g++[.junk,.list (nums acc),.ns tl]))]
  ·rw[List.filter_nil,List.append_nil]
  ·simp only[Zx,Zy,nth_app_add,JE]
  ·simp only[o_nxt,stepNxt,Zx,Zy,nth_app_len0,nxLit,hn,J4,J5,setAt_app_len,JH]
 | cons y r ih0=>
  intro i acc tl n h ht ha;refine Q03 (drop_cons' h) ?_;intro h1 h2 h3;have hn:nth (nums many) i=some (N y):=by rw[nth_nums,h2];rfl
  have hla:acc.length+(r.length+1)≤1000:=ha;have fu:n+(y::r).length+20=(n+r.length+20)+1:=by rw[List.length_cons];exact rfl
  rw[fu];have ns:isNs (nth (LB sets many a2 a3 a4 a5 a6 m (g++[.lit 1 i,.list (nums acc),.ns tl])) (len g+10))=true:=by simp only[Zx,Zy,nth_app_add,JE]
  have nx:∀ k,(ops G0 (k+1)).nxt (len g+8) (LB sets many a2 a3 a4 a5 a6 m (g++[.lit 1 i,.list (nums acc),.ns tl]))=some (some (N y),LB sets many a2 a3 a4 a5 a6 m (g++[.lit 1 (i+1),.list (nums acc),.ns tl])):=fun k=>by
   simp only[o_nxt,stepNxt,Zx,Zy,nth_app_len0,nxLit,hn,J4,J5,setAt_app_len,JH]
  have st:stName ⟨len g+10,(111,7)::cl⟩ false 10 (N y) (LB sets many a2 a3 a4 a5 a6 m (g++[.lit 1 (i+1),.list (nums acc),.ns tl]))=some (LB sets many a2 a3 a4 a5 a6 m (g++[.lit 1 (i+1),.list (nums acc),.ns [(10,N y)]])):=by
   rcases ht with rfl | ⟨v,rfl⟩<;>simp only[Zu,Zx,Zy,nth_app_add,J4,J5,setAt_app_add,J1,J2,Nat.beq,cond_true,JF]
  have ts:∀ k,(ops G0 (k+5)).tsts ⟨len g+10,(111,7)::cl⟩ true [inIf] (LB sets many a2 a3 a4 a5 a6 m (g++[.lit 1 (i+1),.list (nums acc),.ns [(10,N y)]]))=some (isSub m y,LB sets many a2 a3 a4 a5 a6 m (g++[.lit 1 (i+1),.list (nums acc),.ns [(10,N y)]])):=fun k=>by
   have an:=and_N y m;have eq:=eqI_N (Nat.land y m) m;unfold isSub;cases q:Nat.beq (Nat.land y m) m<;>rw[q] at eq<;>simp only[inIf,Jy,an,eq,nth_app_add,o_ev,o_tst,o_tsts,Z1,Z2,Z3,ZW,ZX,ZY,b1,b0,ldLoc,ldCel,Zx,Zy,Zz,J0,Nat.beq,cond_true,cond_false,binop,Option.bind_eq_bind,Option.bind_some,cmpop,N,JF,JG,JR,JJ,JV,JW,Jk]
  cases hs:isSub m y with
  | false=>
   refine Q11 (ih0 (i+1) acc [(10,N y)] n h3 (.inr ⟨_,rfl⟩) (by exact lq1 [_,_] (.a (.v 0) (.v 1)) (.k 1000) (.a (.v 0) (.a (.v 1) (.k 1))) (.k 1000) hla rfl)) ?_;intro tl' k1;refine ⟨tl',?_⟩;have ts':=ts (n+r.length+15);rw[hs] at ts';rw[cpl_skip ns (nx (n+r.length+19)) st ts',k1,List.filter_cons,hs];rfl
  | true=>
   refine Q11 (ih0 (i+1) (acc++[y]) [(10,N y)] n h3 (.inr ⟨_,rfl⟩) (by rw[List.length_append,List.length_singleton];exact lq1 [_,_] (.a (.a (.v 0) (.k 1)) (.v 1)) (.k 1000) (.a (.v 0) (.a (.v 1) (.k 1))) (.k 1000) hla rfl)) ?_;intro tl' k1;refine ⟨tl',?_⟩;have ts':=ts (n+r.length+15);rw[hs] at ts';have ev:(ops G0 (n+r.length+20)).ev ⟨len g+10,(111,7)::cl⟩ (.loc 10) (LB sets many a2 a3 a4 a5 a6 m (g++[.lit 1 (i+1),.list (nums acc),.ns [(10,N y)]]))=some (N y,LB sets many a2 a3 a4 a5 a6 m (g++[.lit 1 (i+1),.list (nums acc),.ns [(10,N y)]])):=by
    rw[show n+r.length+20=(n+r.length+19)+1 from rfl];simp only[nth_app_add,o_ev,Z1,b0,ldLoc,Zx,Zy,Zz,J0,Nat.beq,cond_true,N,JF]
   have ac:nth (LB sets many a2 a3 a4 a5 a6 m (g++[.lit 1 (i+1),.list (nums acc),.ns [(10,N y)]])) (len g+9)=some (.list (nums acc)):=by simp only[Zx,Zy,nth_app_add]
   have lb:Nat.ble (len (nums acc)) lstMax=true:=by rw[len_nums];exact nB (by show _≤100000;omega)
   rw[cpl_take ns (nx (n+r.length+19)) st ts' ev ac lb];have sa:setAt (LB sets many a2 a3 a4 a5 a6 m (g++[.lit 1 (i+1),.list (nums acc),.ns [(10,N y)]])) (len g+9) (.list (nums acc++[N y]))=LB sets many a2 a3 a4 a5 a6 m (g++[.lit 1 (i+1),.list (nums (acc++[y])),.ns [(10,N y)]]):=by
    rw[show nums acc++[N y]=nums (acc++[y]) by simp[nums]];simp only[J4,J5,setAt_app_add]
   rw[sa,k1,List.filter_cons,hs,if_pos rfl,List.append_assoc];rfl
end
noncomputable def inC:X:=.comp (.loc 10) false 10 (.cel 110) [inIf] [111] []
noncomputable def outIf:X:=.cmp (.NotEq) inC (.lst [])
noncomputable abbrev outG:Ctx:=⟨6,[(111,7),(110,3)]⟩
section
variable {sets many:List Nat}{a2 a4 a5 a6:O}{m:Nat}{g:St}{n:Nat}
noncomputable abbrev A3:O:=.cell (some (.ref 1))
theorem in_comp (hl:many.length≤900):∃ g',g'=[.junk,.list (nums (many.filter (isSub m))),O.junk]∧(ops G0 (n+many.length+22)).ev outG inC (LB sets many a2 A3 a4 a5 a6 m g)=some (.ref (len g+9),LB sets many a2 A3 a4 a5 a6 m (g++g')):=by
 refine Q11 (in_loop (sets:=sets) (a2:=a2) (a3:=A3) (a4:=a4) (a5:=a5) (a6:=a6) (m:=m) (g:=g) (many:=many) (by exact lT hl (nL rfl)) [] many 0 [] [] (n+1) rfl (.inl rfl) (by show 0+_≤_;exact lq1 [_] (.a (.k 0) (.v 0)) (.k 1000) (.v 0) (.k 900) hl rfl)) ?_;intro tl' h;refine ⟨_,rfl,?_⟩;rw[List.nil_append] at h;have fu:n+many.length+22=(n+many.length+21)+1:=rfl;rw[fu,show n+1+many.length+20=n+many.length+21 by exact eq0 [_,_] (.a (.a (.a (.v 0) (.k 1)) (.v 1)) (.k 20)) (.a (.a (.v 0) (.v 1)) (.k 21)) rfl rfl] at *;have it:iterOf (.ref 1) (LB sets many a2 A3 a4 a5 a6 m g)=some (len g+8,LB sets many a2 A3 a4 a5 a6 m (g++[.lit 1 0])):=rfl;have ce:(ops G0 (n+many.length+21)).ev outG (.cel 110) (LB sets many a2 A3 a4 a5 a6 m g)=some (.ref 1,LB sets many a2 A3 a4 a5 a6 m g):=by
  rw[show n+many.length+21=(n+many.length+20)+1 from rfl];simp only[o_ev,Z2,b0s,ldCel,Zx,Zy,Zz,J0,Nat.beq,cond_true,cond_false,Option.bind_some,N,JG]
 have e1:stepEv G0 (ops G0 (n+many.length+21)) outG inC (LB sets many a2 A3 a4 a5 a6 m g)=b1 ((ops G0 (n+many.length+21)).ev outG (.cel 110) (LB sets many a2 A3 a4 a5 a6 m g)) fun v W=>eComp (ops G0 (n+many.length+21)) outG (.loc 10) false 10 [inIf] [111] [] v W:=rfl;rw[o_ev,e1,ce];have hh:LB sets many a2 A3 a4 a5 a6 m (g++[.lit 1 0])++(.list []::.ns []::noCells [])=LB sets many a2 A3 a4 a5 a6 m (g++[.lit 1 0,.list (nums []),.ns []]):=by simp[noCells,nums]
 have l1:len (LB sets many a2 A3 a4 a5 a6 m (g++[.lit 1 0]))=len g+9:=by simp only[len,len_app]
 have cp:captured outG [111]=some [(111,7)]:=rfl;simp only[b1s,eComp,it,b0s,cp,mkCells,List.nil_append,hh,l1,h];simp only[Zx,Zy,nth_app_add,JE,cond_true,J4,J5,setAt_app_add]
theorem out_if (hl:many.length≤900):∃ g',noCits g'=true∧(ops G0 (n+many.length+26)).tsts outG true [outIf] (LB sets many a2 A3 a4 a5 a6 m g)=some (many.any (isSub m),LB sets many a2 A3 a4 a5 a6 m (g++g')):=by
 refine bC fun hN=>?_;refine Q12 (in_comp (sets:=sets) (a2:=a2) (a4:=a4) (a5:=a5) (a6:=a6) (m:=m) (g:=g) (n:=n+2) hl) ?_;intro g1 hg1 h;refine hN ?_;refine ⟨g1++[.list []],by rw[hg1];rfl,?_⟩;rw[show n+2+many.length+22=n+many.length+24 by exact eq0 [_,_] (.a (.a (.a (.v 0) (.k 2)) (.v 1)) (.k 22)) (.a (.a (.v 0) (.v 1)) (.k 24)) rfl rfl] at h;have e2:(ops G0 (n+many.length+24)).ev outG (.lst []) (LB sets many a2 A3 a4 a5 a6 m (g++g1))=some (.ref (len (g++g1)+8),LB sets many a2 A3 a4 a5 a6 m (g++g1++[.list []])):=by
  rw[show n+many.length+24=(n+many.length+22)+2 from rfl];rfl
 have c1:cmpop .NotEq (.ref (len g+9)) (.ref (len (g++g1)+8)) (LB sets many a2 A3 a4 a5 a6 m (g++g1++[.list []]))=some (many.any (isSub m)):=by
  have x1:nth (LB sets many a2 A3 a4 a5 a6 m (g++g1++[.list []])) (len g+9)=some (.list (nums (many.filter (isSub m)))):=by
   rw[hg1];simp only[List.append_assoc,List.cons_append,List.nil_append,Zx,Zy,nth_app_add]
  have x2:nth (LB sets many a2 A3 a4 a5 a6 m (g++g1++[.list []])) (len (g++g1)+8)=some (.list []):=by
   simp only[Zx,Zy,nth_app_len0]
  have e:cmpop .NotEq (.ref (len g+9)) (.ref (len (g++g1)+8)) (LB sets many a2 A3 a4 a5 a6 m (g++g1++[.list []]))=(onL (nth (LB sets many a2 A3 a4 a5 a6 m (g++g1++[.list []])) (len g+9)) fun a=>onL (nth (LB sets many a2 A3 a4 a5 a6 m (g++g1++[.list []])) (len (g++g1)+8)) fun b=>(do let r ← eqVs a b;some (!r))):=rfl;rw[e,x1,x2];show (do let r ← eqVs (nums (many.filter (isSub m))) [];some (!r))=_;cases q:many.filter (isSub m) with
  | nil=>
   have:many.any (isSub m)=false:=by
    rw[List.any_eq_false];intro x hx hs;have:x∈many.filter (isSub m):=List.mem_filter.mpr ⟨hx,hs⟩;rw[q] at this;cases this
   rw[this];rfl
  | cons y r=>
   have:many.any (isSub m)=true:=by
    have hy:y∈many.filter (isSub m):=by rw[q];exact .head _
    exact List.any_eq_true.mpr ⟨y,(List.mem_filter.mp hy).1,(List.mem_filter.mp hy).2⟩
   rw[this];rfl
 have t1:(ops G0 (n+many.length+25)).tst outG outIf (LB sets many a2 A3 a4 a5 a6 m g)=some (many.any (isSub m),LB sets many a2 A3 a4 a5 a6 m (g++g1++[.list []])):=by
  rw[show n+many.length+25=(n+many.length+24)+1 from rfl,o_tst];show (b1 ((ops G0 (n+many.length+24)).ev outG inC (LB sets many a2 A3 a4 a5 a6 m g)) fun a W=>b1 ((ops G0 (n+many.length+24)).ev outG (.lst []) W) fun b W=>b0 (cmpop .NotEq a b W) fun t=>some (t,W))=_;rw[h];show (b1 ((ops G0 (n+many.length+24)).ev outG (.lst []) (LB sets many a2 A3 a4 a5 a6 m (g++g1))) fun b W=>b0 (cmpop .NotEq (.ref (len g+9)) b W) fun t=>some (t,W))=_;rw[e2];show (b0 (cmpop .NotEq (.ref (len g+9)) (.ref (len (g++g1)+8)) (LB sets many a2 A3 a4 a5 a6 m (g++g1++[.list []]))) fun t=>some (t,LB sets many a2 A3 a4 a5 a6 m (g++g1++[.list []])))=_;rw[c1];rfl
 rw[show n+many.length+26=(n+many.length+25)+1 from rfl,o_tsts];have t2:∀ W,(ops G0 (n+many.length+25)).tsts outG true [] W=some (true,W):=fun W=>rfl;rw[← List.append_assoc];simp only[ZY,t1,b1s,cond_true,t2];cases many.any (isSub m)<;>rfl
end
section
variable {sets many:List Nat}{a2 a6:O}
noncomputable abbrev LB0 (sets many:List Nat) (a2 a4 a5 a6:O) (cv:Option V) (g:St):St:=.list (nums sets)::.list (nums many)::a2::A3::a4::a5::a6::.cell cv::g
theorem out_loop (hm:many.length≤900) (hs:sets.length≤900) (m6:List (Nat × V)):∀ (r:List Nat) (i:Nat) (acc:List Nat) (cv:Option V) (g:St) (n:Nat),sets.drop i=r→acc.length+r.length≤900→noCits g=true →
  ∃ cv' g',noCits g'=true∧(ops G0 (n+r.length+many.length+30)).cpl outG (.cel 111) true 111 4 [outIf] 5 (LB0 sets many a2 (.lit 0 i) (.list (nums acc)) (.ns m6) cv g)=some (LB0 sets many a2 .junk (.list (nums (acc++lessP r many))) (.ns m6) cv' g'):=by
 intro z0;induction z0 with
 | nil=>
  intro i acc cv g n h ha hg;have hn:nth (nums sets) i=none:=by rw[nth_nums,List.getElem?_eq_none (List.drop_eq_nil_iff.mp h)];rfl
  refine ⟨cv,g,hg,?_⟩;rw[show n+([]:List Nat).length+many.length+30=(n+many.length+29)+1 by show n+0+many.length+30=_;exact rfl];rw[cpl_end (W1:=LB0 sets many a2 .junk (.list (nums acc)) (.ns m6) cv g) rfl]
  ·rw[show lessP [] many=[] from rfl,List.append_nil]
  ·rw[show n+many.length+29=(n+many.length+28)+1 from rfl];simp only[o_nxt,stepNxt,Zx,Zy,nxLit,hn,J4,J5,JH]
 | cons m r ih0=>
  intro i acc cv g n h ha hg;refine Q03 (drop_cons' h) ?_;intro h1 h2 h3;have hn:nth (nums sets) i=some (N m):=by rw[nth_nums,h2];rfl
  have hla:acc.length+(r.length+1)≤900:=ha;have fu:n+(m::r).length+many.length+30=(n+r.length+many.length+30)+1:=by rw[List.length_cons];exact eq0 [_,_,_] (.a (.a (.a (.v 0) (.a (.v 1) (.k 1))) (.v 2)) (.k 30)) (.a (.a (.a (.a (.v 0) (.v 1)) (.v 2)) (.k 30)) (.k 1)) rfl rfl
  rw[fu];have nx:(ops G0 (n+r.length+many.length+30)).nxt 4 (LB0 sets many a2 (.lit 0 i) (.list (nums acc)) (.ns m6) cv g)=some (some (N m),LB0 sets many a2 (.lit 0 (i+1)) (.list (nums acc)) (.ns m6) cv g):=by
   rw[show n+r.length+many.length+30=(n+r.length+many.length+29)+1 from rfl];simp only[o_nxt,stepNxt,Zx,Zy,nxLit,hn,J4,J5,JH]
  have st:stName outG true 111 (N m) (LB0 sets many a2 (.lit 0 (i+1)) (.list (nums acc)) (.ns m6) cv g)=some (LB sets many a2 A3 (.lit 0 (i+1)) (.list (nums acc)) (.ns m6) m g):=rfl;refine Q12 (out_if (sets:=sets) (a2:=a2) (a4:=.lit 0 (i+1)) (a5:=.list (nums acc)) (a6:=.ns m6) (m:=m) (g:=g) (many:=many) (n:=n+r.length+4) hm) ?_;intro g1 hg1 ts;rw[show n+r.length+4+many.length+26=n+r.length+many.length+30 by exact eq0 [_,_,_] (.a (.a (.a (.a (.v 0) (.v 1)) (.k 4)) (.v 2)) (.k 26)) (.a (.a (.a (.v 0) (.v 1)) (.v 2)) (.k 30)) rfl rfl] at ts;have ng:noCits (g++g1)=true:=by unfold noCits at hg hg1 ⊢;rw[List.all_append,hg,hg1];rfl
  cases hq:many.any (isSub m) with
  | false=>
   rw[hq] at ts;refine Q22 (ih0 (i+1) acc (some (N m)) (g++g1) n h3 (by exact lq1 [_,_] (.a (.v 0) (.v 1)) (.k 900) (.a (.v 0) (.a (.v 1) (.k 1))) (.k 900) hla rfl) ng) ?_;intro cv' g' k0 k1;refine ⟨cv',g',k0,?_⟩;rw[cpl_skip rfl nx st ts,k1];have:lessP (m::r) many=lessP r many:=by show List.filter _ _=_;rw[List.filter_cons];show (if many.any (isSub m)=true then _ else _)=_;rw[hq];rfl
   rw[this]
  | true=>
   rw[hq] at ts;refine Q22 (ih0 (i+1) (acc++[m]) (some (N m)) (g++g1) n h3 (by rw[List.length_append,List.length_singleton];exact lq1 [_,_] (.a (.a (.v 0) (.k 1)) (.v 1)) (.k 900) (.a (.v 0) (.a (.v 1) (.k 1))) (.k 900) hla rfl) ng) ?_;intro cv' g' k0 k1;refine ⟨cv',g',k0,?_⟩;have ev:(ops G0 (n+r.length+many.length+30)).ev outG (.cel 111) (LB sets many a2 A3 (.lit 0 (i+1)) (.list (nums acc)) (.ns m6) m (g++g1))=some (N m,LB sets many a2 A3 (.lit 0 (i+1)) (.list (nums acc)) (.ns m6) m (g++g1)):=by
    rw[show n+r.length+many.length+30=(n+r.length+many.length+29)+1 from rfl];simp only[o_ev,Z2,b0,ldCel,Zx,Zy,Zz,J0,Nat.beq,cond_true,cond_false,Option.bind_some,N,JG]
   have lb:Nat.ble (len (nums acc)) lstMax=true:=by rw[len_nums];exact nB (by show _≤100000;omega)
   rw[cpl_take rfl nx st ts ev rfl lb];have sa:setAt (LB sets many a2 A3 (.lit 0 (i+1)) (.list (nums acc)) (.ns m6) m (g++g1)) 5 (.list (nums acc++[N m]))=LB0 sets many a2 (.lit 0 (i+1)) (.list (nums (acc++[m]))) (.ns m6) (some (N m)) (g++g1):=by
    rw[show nums acc++[N m]=nums (acc++[m]) by simp[nums]];rfl
   rw[sa,k1];have:lessP (m::r) many=m::lessP r many:=by show List.filter _ _=_;rw[List.filter_cons];show (if many.any (isSub m)=true then _ else _)=_;rw[hq];rfl
   rw[this,List.append_assoc];rfl
end
theorem less_ev {sets many:List Nat}(hm:many.length≤20) (hs:sets.length≤20):∃ a b c d f g',(ops G0 90).call (.st 207) [.ref 0,.ref 1] [.list (nums sets),.list (nums many)]=some (.ref 5,.list (nums sets)::.list (nums many)::a::b::c::.list (nums (lessP sets many))::d::f::g'):=by
 refine bC fun hN=>?_;refine Q22 (out_loop (sets:=sets) (many:=many) (a2:=.ns [(109,.ref 0)]) (by exact lT hm (nL rfl)) (by exact lT hs (nL rfl)) [] sets 0 [] none [] (56-sets.length-many.length) rfl (by show 0+_≤_;exact lq1 [_] (.a (.k 0) (.v 0)) (.k 900) (.v 0) (.k 20) hs rfl) rfl) ?_;intro cv' g' k0 k1;rw[show 56-sets.length-many.length+sets.length+many.length+30=86 by omega] at k1;refine hN ?_;refine ⟨.ns [(109,.ref 0)],A3,.junk,.junk,.cell cv',g',?_⟩;rw[show (90:Nat)=89+1 from rfl,call_st rfl rfl rfl];have e0:callFD (ops G0 89) fd207 [.ref 0,.ref 1] [.list (nums sets),.list (nums many)]=b1 ((ops G0 89).exs ⟨2,[(110,3)]⟩ [.ret (.comp (.cel 111) true 111 (.loc 109) [outIf] [110] [111])] [.list (nums sets),.list (nums many),.ns [(109,.ref 0)],A3]) cRet:=rfl;have e1:(ops G0 87).ev ⟨2,[(110,3)]⟩ (.comp (.cel 111) true 111 (.loc 109) [outIf] [110] [111]) [.list (nums sets),.list (nums many),.ns [(109,.ref 0)],A3]=some (.ref 5,.list (nums sets)::.list (nums many)::.ns [(109,.ref 0)]::A3::.junk::.list (nums (lessP sets many))::.junk::.cell cv'::g'):=by
  have x1:(ops G0 87).ev ⟨2,[(110,3)]⟩ (.comp (.cel 111) true 111 (.loc 109) [outIf] [110] [111]) [.list (nums sets),.list (nums many),.ns [(109,.ref 0)],A3]=b0 ((ops G0 86).cpl outG (.cel 111) true 111 4 [outIf] 5 (LB0 sets many (.ns [(109,.ref 0)]) (.lit 0 0) (.list (nums [])) (.ns []) none [])) fun W'=>bif isNs (nth W' 6) then some (V.ref 5,setAt W' 6 .junk) else none:=rfl;rw[x1,k1];rfl
 rw[e0,show (89:Nat)=88+1 from rfl];have s1:(ops G0 88).ex ⟨2,[(110,3)]⟩ (.ret (.comp (.cel 111) true 111 (.loc 109) [outIf] [110] [111])) [.list (nums sets),.list (nums many),.ns [(109,.ref 0)],A3]=some (.ret (.ref 5),.list (nums sets)::.list (nums many)::.ns [(109,.ref 0)]::A3::.junk::.list (nums (lessP sets many))::.junk::.cell cv'::g'):=by
  rw[show (88:Nat)=87+1 from rfl,o_ex];show (b1 ((ops G0 87).ev _ _ _) fun v W=>some (Fl.ret v,W))=_;rw[e1];rfl
 rw[exs_ret s1];rfl
noncomputable def pLess (f:V) (vs:List V) (W:St):Option (V × St):=onSt f fun a=>onC vs fun x vs=>onRef x fun la=>onC vs fun x vs=>onRef x fun lb=>onE vs (bif Nat.beq a 207&&(noCits W&&!Nat.beq la lb) then (onL (nth W la) fun xa=>onL (nth W lb) fun xb=>b0 (natsOf xa) fun sets=>b0 (natsOf xb) fun many=>bif Nat.ble (len sets) 20&&Nat.ble (len many) 20 then some (.ref (len W),W++[.list (nums (lessP sets many))]) else none) else none)
theorem less_prim {b:BS}(H:Here b):PrimOk b 90 pLess:=by
 intro f vs W v W' fx xs A kp ρ s Q E e;revert e;refine OSt ?_;rintro a rfl e;revert e;refine OC ?_;rintro ux uy rfl e;revert e;refine ORef ?_;rintro la rfl e;revert e;refine OC ?_;rintro ux uy rfl e;revert e;refine ORef ?_;rintro lb rfl e;revert e;refine OE ?_;rintro rfl e;revert e;refine Bt ?_;intro z e;have z1:=al z;have z2:=ar z;have zc:=al z2;have z3:=ar z2;have:=nE z1;subst this;have hne:la≠lb:=fun q=>by subst q;rw[Nat.beq_refl] at z3;exact ft z3
 revert e;refine OL ?_;intro xa ha e;revert e;refine OL ?_;intro xb hb e;revert e;refine B0 ?_;intro sets hsa e;revert e;refine B0 ?_;intro many hsb e;revert e;refine Bt ?_;intro z4 e;obtain ⟨rfl,rfl⟩:=pj e;have z5:=al z4;have z6:=ar z4;have z5:=nL z5;have z6:=nL z6;rw[len_eq] at z5 z6;have:=natsOf_inv hsa;subst this;have:=natsOf_inv hsb;subst this;obtain ⟨o2,o3,o4,o6,o7,g',hc⟩:=less_ev z6 z5;refine ⟨rfl,fun h1 h2 hA R h=>?_⟩;have nd:([la,lb]:List Nat).Nodup:=by simp[hne]
 have fl:∀ {f:Nat→Nat}(xs:List Nat),O.list (nums xs)=renO f (.list (nums xs)):=fun xs=>(flatO_ren (o:=.list _) (flats_nums xs)).symm;have fi:∀ {p:Nat→Bool}(xs:List Nat),inO p (.list (nums xs))=true:=fun xs=>flatO_in (o:=.list _) (flats_nums xs);have Z:Sel W [la,lb] (isInL [la,lb]) (posL [la,lb]) [.list (nums sets),.list (nums many)]:=Sel.of nd (.cons ha rfl (fi _) (fl _) (.cons hb rfl (fi _) (fl _) .nil));have Y:Ret W [la,lb] (.list (nums sets)::.list (nums many)::o2::o3::o4::.list (nums (lessP sets many))::o6::o7::g') (W++[.list (nums (lessP sets many))]) [5] (fun j=>decide (j<2)||Nat.beq j 5) (fun j=>match j with | 0=>la | 1=>lb | _=>len W):={
  len:=by rw[len_app];rfl
  f1:=fun j e=>by
   rcases j with ux | uy | j
   ·exact .inl rfl
   ·exact .inl rfl
   ·have:j+2=5:=by
     rcases Bool.or_eq_true_iff.mp e with e | e
     ·exact absurd (of_decide_eq_true e) (by exact Nat.not_lt_of_le (lq0 [_] (.k 2) (.a (.a (.v 0) (.k 1)) (.k 1)) rfl))
     ·exact nE e
    have:j=3:=by exact eq1 [_] (.v 0) (.k 3) (.a (.v 0) (.k 2)) (.k 5) this rfl rfl
    subst this;exact .inr ⟨0,rfl,rfl⟩
  newR:=fun k j e=>by
   cases k with
   | zero=>obtain rfl:=sI e;show 5<len g'+1+1+1+1+1+1+1+1;exact lq0 [_] (.a (.k 5) (.k 1)) (.a (.a (.a (.a (.a (.a (.a (.a (.v 0) (.k 1)) (.k 1)) (.k 1)) (.k 1)) (.k 1)) (.k 1)) (.k 1)) (.k 1)) rfl
   | succ k=>exact nn e
  obj:=fun i o' e hal=>by
   rcases nth_app1 e with e | ⟨rfl,rfl⟩
   ·by_cases z:i∈[la,lb]
    ·exact .inr (RetL.all (.cons 0 ha rfl rfl rfl rfl (fi _) (fl _) (.cons 1 hb rfl rfl rfl rfl (fi _) (fl _) .nil)) z e)
    ·exact .inl ⟨e,z⟩
   ·exact .inr ⟨5,_,rfl,rfl,rfl,rfl,fi _,fl _⟩
  cit:=fun i o e ux uy=>noCits_at zc e }
 refine (sound H (prim_none b) 90).carry (fv:=.st 207) (vs:=[.ref la,.ref lb]) ?_ rfl Z Y rfl ?_ (v0:=.ref 5) rfl h1 h2 (hA.le (by exact nL rfl)) R h
 ·show (ops (sig noPrim) 90).call (.st 207) [.ref (posL [la,lb] la),.ref (posL [la,lb] lb)] _=_;rw[nth_inj nd (posL_nth (nth_mem (i:=0) rfl)) (rfl:nth [la,lb] 0=some la),nth_inj nd (posL_nth (nth_mem (i:=1) rfl)) (rfl:nth [la,lb] 1=some lb)];exact hc
 ·show (isInL [la,lb] la&&(isInL [la,lb] lb&&true))=true;rw[isInL_iff.mpr (nth_mem (i:=0) rfl),isInL_iff.mpr (nth_mem (i:=1) rfl)];rfl
noncomputable def rowsOf (r e n:Nat):List (List Nat):=splitS (endOf e) (mailOf r e n)
noncomputable def cutRows (rows:List (List Nat)) (k:Nat) (row:List Nat):List (List Nat):=rows.take k++[row.drop 1]++rows.drop (k+1)
noncomputable def cutChk (e:Nat) (rows:List (List Nat)) (r n k:Nat):Bool:=match nth rows k with
 | some row=>Nat.ble (len row) 100&&(bif Nat.beq (n/2^k%2) 1 then (JoinOk (mkS (endOf e)) ((cutRows rows k row).map mkS)&&(beqL (joinS (endOf e) (cutRows rows k row)) (mailOf r e (n-2^k))&&Nat.ble (2^k) n)) else true)
 | none=>false
noncomputable def splChk (r e n:Nat):Bool:=fLL (rowsOf r e n) fun rows=>Nat.beq (len rows) 6&&(cutChk e rows r n 0&&(cutChk e rows r n 1&&(cutChk e rows r n 2&&(cutChk e rows r n 3&&cutChk e rows r n 4))))
where
 fLL {α:Type}(l:List (List Nat)) (k:List (List Nat)→α):α:=k l
theorem spl_0_0:(upto 32).all (splChk 0 0)=true:=by decide +kernel
theorem spl_0_1:(upto 32).all (splChk 0 1)=true:=by decide +kernel
theorem spl_0_2:(upto 32).all (splChk 0 2)=true:=by decide +kernel
theorem spl_1_0:(upto 32).all (splChk 1 0)=true:=by decide +kernel
theorem spl_1_1:(upto 32).all (splChk 1 1)=true:=by decide +kernel
theorem spl_1_2:(upto 32).all (splChk 1 2)=true:=by decide +kernel
theorem spl_2_0:(upto 32).all (splChk 2 0)=true:=by decide +kernel
theorem spl_2_1:(upto 32).all (splChk 2 1)=true:=by decide +kernel
theorem spl_2_2:(upto 32).all (splChk 2 2)=true:=by decide +kernel
theorem spl_3_0:(upto 32).all (splChk 3 0)=true:=by decide +kernel
theorem spl_3_1:(upto 32).all (splChk 3 1)=true:=by decide +kernel
theorem spl_3_2:(upto 32).all (splChk 3 2)=true:=by decide +kernel
theorem spl_4_0:(upto 32).all (splChk 4 0)=true:=by decide +kernel
theorem spl_4_1:(upto 32).all (splChk 4 1)=true:=by decide +kernel
theorem spl_4_2:(upto 32).all (splChk 4 2)=true:=by decide +kernel
theorem spl_5_0:(upto 32).all (splChk 5 0)=true:=by decide +kernel
theorem spl_5_1:(upto 32).all (splChk 5 1)=true:=by decide +kernel
theorem spl_5_2:(upto 32).all (splChk 5 2)=true:=by decide +kernel
theorem spl_key:∀ r e:Nat,r<6→e<3→(upto 32).all (splChk r e)=true:=fun r e hr=>lt6 (P:=fun r=>∀ e,e<3→(upto 32).all (splChk r e)=true) (lt3 spl_0_0 spl_0_1 spl_0_2) (lt3 spl_1_0 spl_1_1 spl_1_2) (lt3 spl_2_0 spl_2_1 spl_2_2) (lt3 spl_3_0 spl_3_1 spl_3_2) (lt3 spl_4_0 spl_4_1 spl_4_2) (lt3 spl_5_0 spl_5_1 spl_5_2) r hr e
theorem spl_tab {r e n:Nat}(hr:r<6) (he:e<3) (hn:n<32):splChk r e n=true:=upto_all (spl_key r e hr he) n hn
set_option tactic.hygienic true in
theorem rows_ok {r e n:Nat}(hr:r<6) (he:e<3) (hn:n<32):(rowsOf r e n).length=6∧∀ k,k<5→∃ row,nth (rowsOf r e n) k=some row∧len row≤100∧(Nat.beq (n/2^k%2) 1=true→JoinOk (mkS (endOf e)) ((cutRows (rowsOf r e n) k row).map mkS)=true∧joinS (endOf e) (cutRows (rowsOf r e n) k row)=mailOf r e (n-2^k)∧2^k≤n):=by
 have t:=spl_tab hr he hn;unfold splChk splChk.fLL at t;generalize rowsOf r e n=rows at t ⊢;simp only[Bool.and_eq_true] at t;refine Q06 t ?_;intro t0 c0 c1 c2 c3 c4;have get:∀ k,cutChk e rows r n k=true→∃ row,nth rows k=some row∧len row≤100∧(Nat.beq (n/2^k%2) 1=true→JoinOk (mkS (endOf e)) ((cutRows rows k row).map mkS)=true∧joinS (endOf e) (cutRows rows k row)=mailOf r e (n-2^k)∧2^k≤n):=fun k h=>by
  unfold cutChk at h;split at h
  ·rename_i row hrow;have h1:=al h;have h2:=ar h;refine ⟨row,hrow,nL h1,fun hb=>?_⟩;rw[hb,cond_true] at h2;simp only[Bool.and_eq_true] at h2;refine Q03 h2 ?_;intro h3 h4 h5;rw[beqL_eq] at h4;exact ⟨h3,eq_of_beq h4,nL h5⟩
  ·cases h
 refine ⟨by have:=nE t0;rw[len_eq] at this;exact this,fun k hk=>?_⟩;rcases k with ux | uy | uz | uw | ut | k
 ·exact get _ c0
 ·exact get _ c1
 ·exact get _ c2
 ·exact get _ c3
 ·exact get _ c4
 ·omega
noncomputable abbrev CW (line p:Nat) (T:List Nat) (pb mails rests:List V) (fr:O) (held:List Nat) (h:St):St:=
 dLex line::dSrc::.cell (some (.str T))::.cell (some (.ref 4))::.list [N p]::.list pb::.list []::.list mails::.list rests::.list []::fr::.list (nums held)::.junk::h
noncomputable abbrev frC (en:List Nat) (v81:V) (tl:List (Nat × V)):O:=.ns ((92,.inst 138 0)::(93,.ref 7)::(78,.ref 8)::(80,.str en)::(84,.ref 9)::(90,.ref 11)::(81,v81)::tl)
noncomputable abbrev gC:Ctx:=⟨10,[]⟩
noncomputable def argC:X:=.bin (.Add) (.bin (.Add) (.slc (.loc 94) none (some (.loc 82))) (.lst [.slc (.sub (.loc 94) (.loc 82)) (some (.c (.int 1))) none])) (.slc (.loc 94) (some (.bin (.Add) (.loc 82) (.c (.int 1)))) none)
section
variable {pr:V→List V→St→Option (V × St)}{line p:Nat}{T en:List Nat}{pb mails rests:List V}{held:List Nat}{h:St}{v81:V}{n k a num:Nat}{rows:List (List Nat)}{row:List Nat}
theorem arg_ev (hr:∀ t,nth (h++t) a=some (.list (rows.map .str))) (hk:nth rows k=some row) (h6:rows.length≤10) (hrow:len row≤100):
  ∃ l t,noCits t=true∧nth (h++t) l=some (.list ((cutRows rows k row).map .str))∧(ops (sig pr) (n+12)).ev gC argC (CW line p T pb mails rests (frC en v81 [(77,N num),(94,.ref (a+13)),(82,N k)]) held h)=some (.ref (l+13),CW line p T pb mails rests (frC en v81 [(77,N num),(94,.ref (a+13)),(82,N k)]) held (h++t)):=by
 have hk5:k<10:=by have:=nth_lt hk;rw[len_eq] at this;exact lq2 [_,_] (.a (.v 0) (.k 1)) (.k 10) (.a (.v 0) (.k 1)) (.v 1) (.v 1) (.k 10) this h6 rfl
 have g1:Nat.ble k strMax=true:=nB (by show _≤1000000;omega);have g2:Nat.ble (k+1) strMax=true:=nB (by show _≤1000000;omega);have g3:Nat.ble (len (rows.map V.str)) lstMax=true:=by rw[len_eq,List.length_map];exact nB (by show _≤100000;omega)
 have g4:Nat.ble k lstMax=true:=nB (by show _≤100000;omega);have g5:Nat.ble (len row) strMax=true:=nB (by show _≤1000000;omega);have hrk:nth (rows.map V.str) k=some (.str row):=by rw[nth_map,hk];rfl
 let F:O:=frC en v81 [(77,N num),(94,.ref (a+13)),(82,N k)]
 have hF:F=frC en v81 [(77,N num),(94,.ref (a+13)),(82,N k)]:=rfl;rw[← hF]
 let Wh:St→St:=fun t=>CW line p T pb mails rests F held (h++t)
 have hn:∀ t,nth (Wh t) (a+13)=some (.list (rows.map .str)):=fun t=>hr t;have ht:∀ t x,Wh t++[x]=Wh (t++[x]):=fun t x=>by show CW line p T pb mails rests F held (h++t++[x])=_;rw[List.append_assoc]
 have hl:∀ t,len (Wh t)=len h+len t+13:=fun t=>by show len (h++t)+1+1+1+1+1+1+1+1+1+1+1+1+1=_;rw[len_app]
 have ln:∀ t j,nth (Wh t) (len h+j+13)=nth t j:=fun t j=>by show nth (h++t) (len h+j)=_;rw[nth_app_add]
 have l94:∀ t,ldLoc gC 94 (Wh t)=some (.ref (a+13)):=fun ux=>rfl;have l82:∀ t,ldLoc gC 82 (Wh t)=some (N k):=fun ux=>rfl;have sl1:∀ t,getSlc (.ref (a+13)) .none (N k) (Wh t)=some (.ref (len h+len t+13),Wh (t++[.list ((rows.take k).map .str)])):=fun t=>by
  show (onL (nth (Wh t) (a+13)) fun vs=>(do let lo ← bnd .none 0;let hi ← bnd (N k) (len vs);bif Nat.ble (len vs) lstMax then some (V.ref (len (Wh t)),Wh t++[O.list (sliceL lo hi vs)]) else none))=_;rw[hn];show (do let hi ← (bif Nat.ble k strMax then some k else none);bif Nat.ble (len (rows.map V.str)) lstMax then some (V.ref (len (Wh t)),Wh t++[O.list (sliceL 0 hi (rows.map V.str))]) else none)=_;rw[g1,g3,hl];show some (_,Wh t++[O.list (((rows.map V.str).take k).drop 0)])=_;rw[ht];rw[List.drop_zero,← List.map_take]
 have sl2:∀ t,getSlc (.ref (a+13)) (N (k+1)) .none (Wh t)=some (.ref (len h+len t+13),Wh (t++[.list ((rows.drop (k+1)).map .str)])):=fun t=>by
  show (onL (nth (Wh t) (a+13)) fun vs=>(do let lo ← bnd (N (k+1)) 0;let hi ← bnd .none (len vs);bif Nat.ble (len vs) lstMax then some (V.ref (len (Wh t)),Wh t++[O.list (sliceL lo hi vs)]) else none))=_;rw[hn];show (do let lo ← (bif Nat.ble (k+1) strMax then some (k+1) else none);bif Nat.ble (len (rows.map V.str)) lstMax then some (V.ref (len (Wh t)),Wh t++[O.list (sliceL lo (len (rows.map V.str)) (rows.map V.str))]) else none)=_;rw[g2,g3,hl];show some (_,Wh t++[O.list (((rows.map V.str).take (len (rows.map V.str))).drop (k+1))])=_;rw[ht];rw[List.take_of_length_le (by rw[len_eq];exact Nat.le_refl _),← List.map_drop]
 have sl3:∀ t,getSlc (.str row) (.int 1) .none (Wh t)=some (.str (row.drop 1),Wh t):=fun t=>by
  show (bif Nat.ble (len row) strMax then some (V.str (sliceL 1 (len row) row),Wh t) else none)=_;rw[g5];show some (V.str ((row.take (len row)).drop 1),Wh t)=_;rw[List.take_of_length_le (by rw[len_eq];exact Nat.le_refl _)]
 have sb:∀ t,getSub (.ref (a+13)) (N k) (Wh t)=some (.str row):=fun t=>by
  show (onL (nth (Wh t) (a+13)) fun vs=>(bif Nat.ble k lstMax then nth vs k else none))=_;rw[hn,g4];exact hrk
 have el:∀ t vs,Nat.ble (len vs) lstMax=true→eLst vs (Wh t)=some (.ref (len h+len t+13),Wh (t++[.list vs])):=fun t vs hh=>by
  unfold eLst;rw[hh,hl,ht];rfl
 have ad:∀ t i j u v,nth t i=some (.list u)→nth t j=some (.list v)→Nat.ble (len u+len v) lstMax=true→binop .Add (.ref (len h+i+13)) (.ref (len h+j+13)) (Wh t)=some (.ref (len h+len t+13),Wh (t++[.list (u++v)])):=fun t i j u v h1 h2 h3=>by
  show (bif isAdd .Add then onL (nth (Wh t) (len h+i+13)) fun a=>onL (nth (Wh t) (len h+j+13)) fun b=>bif Nat.ble (len a+len b) lstMax then some (V.ref (len (Wh t)),Wh t++[O.list (a++b)]) else none else none)=_;rw[ln,ln,h1,h2];show (bif Nat.ble (len u+len v) lstMax then some (V.ref (len (Wh t)),Wh t++[O.list (u++v)]) else none)=_;rw[h3,hl,ht];rfl
 have lt:∀ j (l:List O),j<l.length→j<len l:=fun j l hj=>by rw[len_eq];exact hj
 have b82:binI .Add (.ofNat k) 1=some (.ofNat (k+1)):=rfl;have n1:Nat.ble (len ((rows.take k).map V.str)+len [V.str (row.drop 1)]) lstMax=true:=by
  rw[len_eq,List.length_map,List.length_take];exact nB (by show min k _+1≤100000;omega)
 have n2:Nat.ble (len ((rows.take k).map V.str++[V.str (row.drop 1)])+len ((rows.drop (k+1)).map V.str)) lstMax=true:=by
  rw[len_app,len_eq,len_eq,len_eq,List.length_map,List.length_take,List.length_map,List.length_drop];exact nB (by show min k _+1+_≤100000;omega)
 let t1:St:=[.list ((rows.take k).map .str)]
 let t2:St:=t1++[.list [.str (row.drop 1)]]
 let t3:St:=t2++[.list ((rows.take k).map .str++[.str (row.drop 1)])]
 let t4:St:=t3++[.list ((rows.drop (k+1)).map .str)]
 let t5:St:=t4++[.list ((rows.take k).map .str++[.str (row.drop 1)]++(rows.drop (k+1)).map .str)]
 have e3:=ad t2 0 1 ((rows.take k).map .str) [.str (row.drop 1)] rfl rfl n1;have e5:=ad t4 2 3 ((rows.take k).map .str++[.str (row.drop 1)]) ((rows.drop (k+1)).map .str) rfl rfl n2;refine ⟨len h+4,t5,rfl,?_,?_⟩
 ·rw[nth_app_add];show some (O.list ((rows.take k).map .str++[.str (row.drop 1)]++(rows.drop (k+1)).map .str))=_;unfold cutRows;simp
 ·have w0:CW line p T pb mails rests F held h=Wh []:=by show _=CW line p T pb mails rests F held (h++[]);rw[List.append_nil]
  rw[w0];show (ops (sig pr) (n+12)).ev gC argC (Wh [])=some (.ref (len h+4+13),Wh t5);have x1:(ops (sig pr) (n+11)).ev gC (.bin (.Add) (.slc (.loc 94) none (some (.loc 82))) (.lst [.slc (.sub (.loc 94) (.loc 82)) (some (.c (.int 1))) none])) (Wh [])=some (.ref (len h+2+13),Wh t3):=by
   rw[show n+11=(n+10)+1 from rfl,o_ev];have y1:∀ m,(ops (sig pr) (m+9)).ev gC (.slc (.loc 94) none (some (.loc 82))) (Wh [])=some (.ref (len h+0+13),Wh t1):=fun m=>by
    have q:=sl1 [];simp only[YA,YB,l94,l82,q,o_ev,Z1,ZC,b1,b0];rfl
   have y2:∀ m,(ops (sig pr) (m+9)).ev gC (.lst [.slc (.sub (.loc 94) (.loc 82)) (some (.c (.int 1))) none]) (Wh t1)=some (.ref (len h+1+13),Wh t2):=fun m=>by
    have q:=sl3 t1;have q2:=el t1 [.str (row.drop 1)] rfl;have q3:=sb t1;simp only[YA,YB,l94,l82,q,q2,q3,o_ev,Z0,Z1,Z9,ZB,ZC,o_evs,ZZ,Za,b1,b0,YI];rfl
   show (b1 ((ops (sig pr) (n+10)).ev gC (.slc (.loc 94) none (some (.loc 82))) (Wh [])) fun a W=>b1 ((ops (sig pr) (n+10)).ev gC (.lst [.slc (.sub (.loc 94) (.loc 82)) (some (.c (.int 1))) none]) W) fun b W=>binop .Add a b W)=_;rw[show n+10=(n+1)+9 by exact rfl,y1];show (b1 ((ops (sig pr) (n+1+9)).ev gC (.lst [.slc (.sub (.loc 94) (.loc 82)) (some (.c (.int 1))) none]) (Wh t1)) fun b W=>binop .Add (.ref (len h+0+13)) b W)=_;rw[y2];exact e3
  rw[show n+12=(n+11)+1 from rfl,o_ev];show (b1 ((ops (sig pr) (n+11)).ev gC _ (Wh [])) fun a W=>b1 ((ops (sig pr) (n+11)).ev gC (.slc (.loc 94) (some (.bin (.Add) (.loc 82) (.c (.int 1)))) none) W) fun b W=>binop .Add a b W)=_;rw[x1];have e4':(ops (sig pr) (n+11)).ev gC (.slc (.loc 94) (some (.bin (.Add) (.loc 82) (.c (.int 1)))) none) (Wh t3)=some (.ref (len h+3+13),Wh t4):=by
   have q:=sl2 t3;simp only[YA,YB,l94,l82,q,b82,binop,o_ev,Z0,Z1,Z3,ZC,b1,b0,YI,Option.bind_eq_bind,Option.bind_some,JR,JJ,JU];rfl
  show (b1 ((ops (sig pr) (n+11)).ev gC (.slc (.loc 94) (some (.bin (.Add) (.loc 82) (.c (.int 1)))) none) (Wh t3)) fun b W=>binop .Add (.ref (len h+2+13)) b W)=_;rw[e4'];exact e5
end
section
variable {G:Sig}{n:Nat}{g:Ctx}{t t1 t2:X}{a b:List S}{W W1 W2:St}{c:Bool}
theorem ifs_f (h:(ops G (n+1)).tst g t W=some (false,W1)):(ops G (n+2)).ex g (.ifs t a []) W=some (.next,W1):=by
 show b1 ((ops G (n+1)).tst g t W) (fun t W=>bif t then (ops G (n+1)).exs g a W else (ops G (n+1)).exs g [] W)=_;rw[h];rfl
theorem ifs_t (h:(ops G n).tst g t W=some (true,W1)):(ops G (n+1)).ex g (.ifs t a b) W=(ops G n).exs g a W1:=by
 show b1 ((ops G n).tst g t W) (fun t W=>bif t then (ops G n).exs g a W else (ops G n).exs g b W)=_;rw[h];rfl
theorem and_f (h:(ops G (n+2)).tst g t1 W=some (false,W1)):(ops G (n+4)).tst g (.boo .And [t1,t2]) W=some (false,W1):=by
 show (ops G (n+3)).tsts g true [t1,t2] W=_;show b1 ((ops G (n+2)).tst g t1 W) (fun t W=>bif t then (ops G (n+2)).tsts g true [t2] W else some (false,W))=_;rw[h];rfl
theorem and_t (h:(ops G (n+2)).tst g t1 W=some (true,W1)) (h2:(ops G (n+1)).tst g t2 W1=some (c,W2)):(ops G (n+4)).tst g (.boo .And [t1,t2]) W=some (c,W2):=by
 show (ops G (n+3)).tsts g true [t1,t2] W=_;show b1 ((ops G (n+2)).tst g t1 W) (fun t W=>bif t then (ops G (n+2)).tsts g true [t2] W else some (false,W))=_;rw[h];show b1 ((ops G (n+1)).tst g t2 W1) (fun t W=>bif t then (ops G (n+1)).tsts g true [] W else some (false,W))=_;rw[h2];cases c<;>rfl
theorem mcall_val {o:X}{m:Nat}{es:List X}{ov:V}{fo:Option (V × List V)}{vs:List V}(h1:(ops G n).ev g o W=some (ov,W1)) (h2:findM G ov m W1=some fo) (h3:(ops G n).evs g es W1=some (vs,W2)):(ops G (n+1)).ev g (.mcall o m es) W=eMcall G (ops G n) ov m fo vs W2:=by
 have e:(ops G (n+1)).ev g (.mcall o m es) W=b1 ((ops G n).ev g o W) fun o W=>b0 (findM G o m W) fun fo=>b1 ((ops G n).evs g es W) fun vs W=>eMcall G (ops G n) o m fo vs W:=rfl;rw[e,h1];simp only[b1,b0,h2,h3]
theorem evs_one {x:X}{v:V}(h:(ops G (n+1)).ev g x W=some (v,W1)):(ops G (n+2)).evs g [x] W=some ([v],W1):=by
 have e:(ops G (n+2)).evs g [x] W=b1 ((ops G (n+1)).ev g x W) fun v W=>b1 ((ops G (n+1)).evs g [] W) fun vs W=>some (v::vs,W):=rfl;rw[e,h];rfl
theorem ex_expr {x:X}(h:(ops G n).ev g x W=some (.none,W1)):(ops G (n+1)).ex g (.expr x) W=some (.next,W1):=by
 have e:(ops G (n+1)).ex g (.expr x) W=b1 ((ops G n).ev g x W) fun v W=>bif isNone v then some (.next,W) else none:=rfl;rw[e,h];rfl
theorem exs_one {st:S}(h:(ops G (n+1)).ex g st W=some (.next,W1)):(ops G (n+2)).exs g [st] W=some (.next,W1):=by
 rw[show n+2=(n+1)+1 from rfl,exs_cons h];rfl
end
structure PutOk (pr:V→List V→St→Option (V × St)):Prop where
 put:∀ (W:St) (l x:Nat) (xs:List Nat),nth W l=some (.list (nums xs))→sortedN xs=true→len xs≤99→noCits W=true→pr (.st 190) [.ref l,N x] W=some (.bool (putP x xs).1,setAt W l (.list (nums (putP x xs).2)))
 lex:∀ (W:St) (L:LX) (a:Nat) (post:List V) (v:V) (line p:Nat) (pb:List V),LexAt W L→noCits W=true→lexAns a L post=some (v,line,p,pb)→pr (.st a) (.inst 138 L.d::post) W=some (v,L.turn W line p pb)
 bi:∀ c vs W,pr (.bi c) vs W=none
 none':pr (.st 197)=fun ux uy=>none
noncomputable abbrev lxC (line p:Nat) (T:List Nat) (pb:List V):LX:=⟨0,1,2,3,4,5,6,line,p,T,pb⟩
section
variable {pr:V→List V→St→Option (V × St)}{line p:Nat}{T en:List Nat}{pb mails rests:List V}{held:List Nat}{h:St}{fr:O}{n:Nat}
theorem lexC:LexAt (CW line p T pb mails rests fr held h) (lxC line p T pb):=⟨rfl,rfl,rfl,rfl,rfl,rfl,rfl,(by decide:([0,1,2,3,4,5,6]:List Nat).Nodup)⟩
theorem turnC (line' p':Nat) (pb':List V):(lxC line p T pb).turn (CW line p T pb mails rests fr held h) line' p' pb'=CW line' p' T pb' mails rests fr held h:=rfl
theorem nocC (hf:isCit fr=false) (hh:noCits h=true):noCits (CW line p T pb mails rests fr held h)=true:=by
 show (true&&(true&&(true&&(true&&(true&&(true&&(true&&(true&&(true&&(true&&((!isCit fr)&&(true&&(true&&noCits h)))))))))))))=true;rw[hf,hh];rfl
noncomputable def qV (r e:Nat) (q:List Nat):List V:=q.map fun x=>.str (mailOf r e x)
theorem qV_flats (r e:Nat):∀ q:List Nat,flats (qV r e q)=true:=by
 intro z0;induction z0 with
 | nil=>
  exact rfl
 | cons x q ih0=>
  show (true&&flats (qV r e q))=true;rw[ih0];rfl
theorem push_at (P:PutOk pr) {r e:Nat}{q:List Nat}(hq:q.length≤800) (hT:len T≤900000) (hp:p≤600000) (s:List Nat) (hf:isCit fr=false) (hh:noCits h=true):
  pr (.st 135) [.inst 138 0,.str s] (CW line p T (qV r e q) mails rests fr held h)=some (.none,CW line p T (qV r e q++[.str s]) mails rests fr held h):=by
 have a:lexAns 135 (lxC line p T (qV r e q)) [.str s]=some (.none,line,p,qV r e q++[.str s]):=by
  have c:(flats (qV r e q)&&(Nat.ble (len (qV r e q)) 900&&(Nat.ble (len T) 900000&&Nat.ble p 600000)))=true:=by
   rw[qV_flats,nB hT,nB hp,nB (by rw[len_eq];unfold qV;rw[List.length_map];omega)];rfl
  show (bif (flats (qV r e q)&&(Nat.ble (len (qV r e q)) 900&&(Nat.ble (len T) 900000&&Nat.ble p 600000))) then _ else none)=_;rw[c];rfl
 exact P.lex _ (lxC line p T (qV r e q)) 135 [.str s] _ _ _ _ lexC (nocC hf hh) a
noncomputable def kB:List S:=[.ifs (.boo (.And) [.bin (.BitAnd) (.bin (.RShift) (.loc 77) (.loc 82)) (.c (.int 1)),.call (.c (.st 190)) [.loc 90,.bin (.Sub) (.loc 77) (.bin (.Pow) (.c (.int 2)) (.loc 82))]]) [.expr (.mcall (.loc 92) 48 [.mcall (.loc 80) 75 [argC]])] []]
noncomputable def bitStep (num k:Nat) (held q:List Nat):List Nat × List Nat:=bif Nat.beq (num/2^k%2) 1 then (bif (putP (num-2^k) held).1 then ((putP (num-2^k) held).2,q++[num-2^k]) else ((putP (num-2^k) held).2,q)) else (held,q)
noncomputable abbrev RH (h0:St) (rows:List (List Nat)) (k c:Nat) (t:St):St:=h0++(.list (rows.map .str)::.rit (.ofNat k) (.ofNat c) 1::t)
theorem strsOf_map:∀ ss:List (List Nat),strsOf (ss.map V.str)=some ss:=by
 intro z0;induction z0 with
 | nil=>
  exact rfl
 | cons x r ih0=>
  show (do let s ← strsOf (r.map V.str);some (x::s))=_;rw[ih0];rfl
theorem pow_N (k:Nat) (h:k≤40):binI .Pow 2 (.ofNat k)=some (.ofNat (2^k)):=by
 show (bif Nat.ble 2 2&&Nat.ble k 40 then some (Int.ofNat (2^k)) else none)=_;rw[nB h];rfl
theorem sub_N (a b:Nat) (h:b≤a):binI .Sub (.ofNat a) (.ofNat b)=some (.ofNat (a-b)):=by
 show some ((a:Int)-(b:Int))=some ((a-b:Nat):Int)
 congr 1;omega
theorem bit_ev (P:PutOk pr) {r e num k c:Nat}{q:List Nat}{v81:V}{h0 t:St}(hr:r<6) (he:e<3) (hn:num<32) (hk:k<5) (hq:q.length≤800) (hT:len T≤900000) (hp:p≤600000) (hs:sortedN held=true) (hl:len held≤99) (h0c:noCits h0=true) (tc:noCits t=true):
  ∃ t',noCits t'=true∧(ops (sig pr) (n+25)).exs gC kB (CW line p T (qV r e q) mails rests (frC (endOf e) v81 [(77,N num),(94,.ref (len h0+13)),(82,N k)]) held (RH h0 (rowsOf r e num) (k+1) c t)) =
   some (.next,CW line p T (qV r e (bitStep num k held q).2) mails rests (frC (endOf e) v81 [(77,N num),(94,.ref (len h0+13)),(82,N k)]) (bitStep num k held q).1 (RH h0 (rowsOf r e num) (k+1) c t')):=by
 refine Q02 (rows_ok hr he hn) ?_;intro h6 hrow;refine Q13 (hrow k hk) ?_;intro row k1 k2 k3;have hs1:=shr_N num k (nB (by omega));have hm1:=land_1 (num/2^k);have htr:=truthy_N (num/2^k%2);have hpw:=pow_N k (by exact lq1 [_] (.v 0) (.k 40) (.a (.v 0) (.k 1)) (.k 5) hk rfl)
 let F:O:=frC (endOf e) v81 [(77,N num),(94,.ref (len h0+13)),(82,N k)]
 let Wq:List Nat→List Nat→St→St:=fun hd q t=>CW line p T (qV r e q) mails rests F hd (RH h0 (rowsOf r e num) (k+1) c t)
 show ∃ t',noCits t'=true∧(ops (sig pr) (n+25)).exs gC kB (Wq held q t)=some (.next,Wq (bitStep num k held q).1 (bitStep num k held q).2 t');have ncR:∀ t,noCits t=true→noCits (RH h0 (rowsOf r e num) (k+1) c t)=true:=fun t ht=>by
  unfold noCits at h0c ht ⊢;rw[List.all_append,h0c,List.all_cons,List.all_cons,ht];rfl
 have t1:∀ m,(ops (sig pr) (m+5)).tst gC (.bin (.BitAnd) (.bin (.RShift) (.loc 77) (.loc 82)) (.c (.int 1))) (Wq held q t)=some (Nat.beq (num/2^k%2) 1,Wq held q t):=fun m=>by
  have l77:ldLoc gC 77 (Wq held q t)=some (N num):=rfl;have l82:ldLoc gC 82 (Wq held q t)=some (N k):=rfl;simp only[o_tst,ZM,o_ev,Z0,Z1,Z3,b1,b0,l77,l82,binop,hs1,hm1,YI,eTru,htr,Option.bind_eq_bind,Option.bind_some,JR,JJ];rw[mod2]
 unfold bitStep;cases hb:Nat.beq (num/2^k%2) 1 with
 | false=>
  rw[hb] at t1;refine ⟨t,tc,?_⟩;exact exs_one (n:=n+23) (ifs_f (n:=n+22) (and_f (n:=n+19) (t1 (n+16))))
 | true=>
  rw[hb] at t1;refine Q03 (k3 hb) ?_;intro g1 g2 g3;rw[cond_true];have isc:isCall (sig pr) (.st 190)=true:=rfl;have hsb:=sub_N num (2^k) g3;have pt:=P.put (Wq held q t) 11 (num-2^k) held rfl hs hl (nocC rfl (ncR t tc));have sw:setAt (Wq held q t) 11 (.list (nums (putP (num-2^k) held).2))=Wq (putP (num-2^k) held).2 q t:=rfl;rw[sw] at pt;have t2:∀ m,(ops (sig pr) (m+7)).tst gC (.call (.c (.st 190)) [.loc 90,.bin (.Sub) (.loc 77) (.bin (.Pow) (.c (.int 2)) (.loc 82))]) (Wq held q t)=some ((putP (num-2^k) held).1,Wq (putP (num-2^k) held).2 q t):=fun m=>by
   have l77:ldLoc gC 77 (Wq held q t)=some (N num):=rfl;have l82:ldLoc gC 82 (Wq held q t)=some (N k):=rfl;have l90:ldLoc gC 90 (Wq held q t)=some (.ref 11):=rfl;have cp:=call_pr (n:=m+4) pt;simp only[o_tst,ZQ,o_ev,Z0,Z1,Z3,ZE,o_evs,ZZ,Za,b1,b0,l77,l82,l90,binop,hpw,hsb,YI,YL,eCall,isc,cond_true,cp,eTru,Y1,Option.bind_eq_bind,Option.bind_some,JR,JJ]
  cases hput:(putP (num-2^k) held).1 with
  | false=>
   rw[hput] at t2;exact ⟨t,tc,exs_one (n:=n+23) (ifs_f (n:=n+22) (and_t (n:=n+19) (t1 (n+16)) (t2 (n+13))))⟩
  | true=>
   rw[hput] at t2;rw[cond_true];have hr':∀ u,nth (RH h0 (rowsOf r e num) (k+1) c t++u) (len h0)=some (.list ((rowsOf r e num).map .str)):=fun u=>by rw[List.append_assoc,nth_app_len0];rfl
   refine Q23 (arg_ev (pr:=pr) (line:=line) (p:=p) (T:=T) (en:=endOf e) (pb:=qV r e q) (mails:=mails) (rests:=rests) (held:=(putP (num-2^k) held).2) (h:=RH h0 (rowsOf r e num) (k+1) c t) (v81:=v81) (n:=n+5) (k:=k) (a:=len h0) (num:=num) hr' k1 (by exact lT (Nat.le_of_eq h6) (nL rfl)) k2) ?_;intro l u uc hu hv;have ru:RH h0 (rowsOf r e num) (k+1) c t++u=RH h0 (rowsOf r e num) (k+1) c (t++u):=by simp
   have tu:noCits (t++u)=true:=by unfold noCits at tc uc ⊢;rw[List.all_append,tc,uc];rfl
   have hv':(ops (sig pr) (n+17)).ev gC argC (Wq (putP (num-2^k) held).2 q t)=some (.ref (l+13),Wq (putP (num-2^k) held).2 q (t++u)):=by
    show (ops (sig pr) (n+5+12)).ev gC argC _=_;rw[hv,ru]
   have hlst:nth (Wq (putP (num-2^k) held).2 q (t++u)) (l+13)=some (.list ((cutRows (rowsOf r e num) k row).map .str)):=by
    show nth (RH h0 (rowsOf r e num) (k+1) c (t++u)) l=_;rw[← ru];exact hu
   have js:mStr (sig pr) (endOf e) 75 [.ref (l+13)] (Wq (putP (num-2^k) held).2 q (t++u))=some (.str (mailOf r e (num-2^k)),Wq (putP (num-2^k) held).2 q (t++u)):=by
    show (onL (nth (Wq (putP (num-2^k) held).2 q (t++u)) (l+13)) fun ws=>(strsOf ws).bind fun ss=>bif JoinOk (mkS (endOf e)) (ss.map mkS) then some (V.str (joinS (endOf e) ss),Wq (putP (num-2^k) held).2 q (t++u)) else none)=_;rw[hlst];show ((strsOf ((cutRows (rowsOf r e num) k row).map V.str)).bind fun ss=>bif JoinOk (mkS (endOf e)) (ss.map mkS) then some (V.str (joinS (endOf e) ss),Wq (putP (num-2^k) held).2 q (t++u)) else none)=_;rw[strsOf_map];show (bif JoinOk (mkS (endOf e)) ((cutRows (rowsOf r e num) k row).map mkS) then some (V.str (joinS (endOf e) (cutRows (rowsOf r e num) k row)),_) else none)=_;rw[g1,g2];rfl
   have psh:=push_at (pr:=pr) (line:=line) (p:=p) (T:=T) (mails:=mails) (rests:=rests) (held:=(putP (num-2^k) held).2) (h:=RH h0 (rowsOf r e num) (k+1) c (t++u)) (fr:=F) P (r:=r) (e:=e) (q:=q) hq hT hp (mailOf r e (num-2^k)) rfl (ncR _ tu);refine ⟨t++u,tu,exs_one (n:=n+23) ((ifs_t (n:=n+23) (and_t (n:=n+19) (t1 (n+16)) (t2 (n+13)))).trans (exs_one (n:=n+21) ?_))⟩;have f1:∀ W,findM (sig pr) (.inst 138 0) 48 (CW line p T (qV r e q) mails rests F (putP (num-2^k) held).2 W)=some (some (.st 135,[.inst 138 0])):=fun ux=>rfl;have f2:∀ W,findM (sig pr) (.str (endOf e)) 75 W=some none:=fun ux=>rfl;have is2:isCall (sig pr) (.st 135)=true:=rfl;have cp:=call_pr (n:=n+19) psh;have l92:∀ W,ldLoc gC 92 (CW line p T (qV r e q) mails rests F (putP (num-2^k) held).2 W)=some (.inst 138 0):=fun ux=>rfl;have l80:∀ W,ldLoc gC 80 (CW line p T (qV r e q) mails rests F (putP (num-2^k) held).2 W)=some (.str (endOf e)):=fun ux=>rfl;have hq':qV r e (q++[num-2^k])=qV r e q++[.str (mailOf r e (num-2^k))]:=by unfold qV;rw[List.map_append];rfl
   have js':meth (sig pr) (.str (endOf e)) 75 [.ref (l+13)] (Wq (putP (num-2^k) held).2 q (t++u))=some (.str (mailOf r e (num-2^k)),Wq (putP (num-2^k) held).2 q (t++u)):=js;have x1:∀ m,(ops (sig pr) (m+1)).ev gC (.loc 80) (Wq (putP (num-2^k) held).2 q t)=some (.str (endOf e),Wq (putP (num-2^k) held).2 q t):=fun m=>rfl;have ej:(ops (sig pr) (n+19)).ev gC (.mcall (.loc 80) 75 [argC]) (Wq (putP (num-2^k) held).2 q t)=some (.str (mailOf r e (num-2^k)),Wq (putP (num-2^k) held).2 q (t++u)):=
    (mcall_val (n:=n+18) (x1 (n+17)) (f2 _) (evs_one (n:=n+16) hv')).trans js'
   show (ops (sig pr) (n+22)).ex gC (.expr (.mcall (.loc 92) 48 [.mcall (.loc 80) 75 [argC]])) (Wq (putP (num-2^k) held).2 q t)=some (.next,Wq (putP (num-2^k) held).2 (q++[num-2^k]) (t++u));have y1:(ops (sig pr) (n+20)).ev gC (.loc 92) (Wq (putP (num-2^k) held).2 q t)=some (.inst 138 0,Wq (putP (num-2^k) held).2 q t):=rfl;have wq:Wq (putP (num-2^k) held).2 (q++[num-2^k]) (t++u)=CW line p T (qV r e q++[.str (mailOf r e (num-2^k))]) mails rests F (putP (num-2^k) held).2 (RH h0 (rowsOf r e num) (k+1) c (t++u)):=by
    show CW line p T (qV r e (q++[num-2^k])) mails rests F (putP (num-2^k) held).2 _=_;rw[hq']
   refine ex_expr (n:=n+21) ((mcall_val (n:=n+20) y1 (f1 _) (evs_one (n:=n+18) ej)).trans ?_);show (bif isCall (sig pr) (.st 135) then (ops (sig pr) (n+20)).call (.st 135) [.inst 138 0,.str (mailOf r e (num-2^k))] _ else none)=_;rw[is2,cond_true,wq];exact cp
end
theorem sorted_iff:∀ {xs:List Nat},sortedN xs=true↔xs.Pairwise (· < ·)
 | []=>⟨fun ux=>List.Pairwise.nil,fun ux=>rfl⟩
 | y::r=>by
  rw[List.pairwise_cons];constructor
  ·intro h;refine Q02 (sorted_cons h) ?_;intro h1 h2;exact ⟨h2,sorted_iff.mp h1⟩
  ·rintro ⟨h1,h2⟩;have h3:=sorted_iff.mpr h2;cases r with
   | nil=>rfl
   | cons b r=>
    show (Nat.blt y b&&sortedN (b::r))=true;rw[h3,blt_iff.mpr (h1 b (.head _))];rfl
theorem put_mem (x:Nat):∀ {xs:List Nat}{y:Nat},y∈(putP x xs).2↔y=x∨y∈xs
 | [],y=>by rw[Kx];simp
 | z::r,y=>by
  rw[Ky];cases h:Nat.blt z x with
  | true=>
   refine (List.mem_cons).trans ?_;rw[put_mem x,List.mem_cons];constructor
   ·rintro (h | h | h)
    ·exact .inr (.inl h)
    ·exact .inl h
    ·exact .inr (.inr h)
   ·rintro (h | h | h)
    ·exact .inr (.inl h)
    ·exact .inl h
    ·exact .inr (.inr h)
  | false=>
   simp only[cond_false];cases h2:Nat.beq z x with
   | true=>
    simp only[cond_true];have:=nE h2;subst this;show y∈z::r↔_;rw[List.mem_cons];constructor
    ·exact fun h=>.inr h
    ·rintro (h | h)
     ·exact .inl h
     ·exact h
   | false=>
    show y∈x::z::r↔_;rw[List.mem_cons]
theorem put_sorted (x:Nat):∀ {xs:List Nat},sortedN xs=true→sortedN (putP x xs).2=true
 | [],ux=>rfl
 | z::r,h=>by
  refine Q02 (sorted_cons h) ?_;intro h1 h2;rw[sorted_iff];rw[Ky];cases q:Nat.blt z x with
  | true=>
   show (z::(putP x r).2).Pairwise _;rw[List.pairwise_cons];refine ⟨fun w hw=>?_,sorted_iff.mp (put_sorted x h1)⟩;rcases (put_mem x).mp hw with rfl | hw
   ·exact blt_iff.mp q
   ·exact h2 w hw
  | false=>
   simp only[cond_false];cases q2:Nat.beq z x with
   | true=>exact sorted_iff.mp h
   | false=>
    show (x::z::r).Pairwise _;have hz:x<z:=by
     have a:¬ z<x:=fun u=>by rw[blt_iff.mpr u] at q;cases q
     have b:z≠x:=fun u=>by rw[u,Nat.beq_refl] at q2;cases q2
     omega
    rw[List.pairwise_cons];refine ⟨fun w hw=>?_,sorted_iff.mp h⟩;rcases List.mem_cons.mp hw with rfl | hw
    ·exact hz
    ·exact Nat.lt_trans hz (h2 w hw)
theorem put_len (x:Nat):∀ (xs:List Nat),(putP x xs).2.length=xs.length+(bif (putP x xs).1 then 1 else 0):=by
 intro z0;induction z0 with
 | nil=>
  exact rfl
 | cons z r ih0=>
  rw[Ky];cases q:Nat.blt z x with
  | true=>
   simp only[cond_true];show (putP x r).2.length+1=r.length+1+_;rw[ih0];show _=r.length+1+(bif (putP x r).1 then 1 else 0);exact eq0 [_,_] (.a (.a (.v 0) (.v 1)) (.k 1)) (.a (.a (.v 0) (.k 1)) (.v 1)) rfl rfl
  | false=>
   simp only[cond_false];cases q2:Nat.beq z x with
   | true=>rfl
   | false=>rfl
theorem sorted_len:∀ {xs:List Nat}{a:Nat},sortedN xs=true→(∀ x∈xs,a≤x∧x<32)→xs.length≤32-a
 | [],ux,uy,uz=>Nat.zero_le _
 | y::r,a,h,hx=>by
  refine Q02 (sorted_cons h) ?_;intro h1 h2;have hy:=hx y (.head _);have:=sorted_len (a:=y+1) h1 fun z hz=>⟨h2 z hz,(hx z (.tail _ hz)).2⟩;simp only[List.length_cons];omega
theorem sorted_ext:∀ {xs ys:List Nat},sortedN xs=true→sortedN ys=true→(∀ z,z∈xs↔z∈ys)→xs=ys
 | [],[],ux,uy,uz=>rfl
 | [],y::ux,uy,uz,h=>by have:=(h y).mpr (.head _);cases this
 | x::ux,[],uy,uz,h=>by have:=(h x).mp (.head _);cases this
 | x::xs,y::ys,hx,hy,h=>by
  refine Q02 (sorted_cons hx) ?_;intro x1 x2;refine Q02 (sorted_cons hy) ?_;intro y1 y2;have e:x=y:=by
   rcases List.mem_cons.mp ((h x).mp (.head _)) with e | e
   ·exact e
   ·refine bC fun hN2=>?_;rcases List.mem_cons.mp ((h y).mpr (.head _)) with e' | e'
    ·refine hN2 ?_;exact e'.symm
    ·have:=y2 x e;have:=x2 y e';omega
  subst e
  congr 1
  refine sorted_ext x1 y1 fun z=>⟨fun hz=>?_,fun hz=>?_⟩
  ·rcases List.mem_cons.mp ((h z).mp (.tail _ hz)) with e | e
   ·have:=x2 z hz;omega
   ·exact e
  ·rcases List.mem_cons.mp ((h z).mpr (.tail _ hz)) with e | e
   ·have:=y2 z hz;omega
   ·exact e
theorem upto_range:∀ n,upto n=List.range n:=by
 intro z0;induction z0 with
 | zero=>
  exact rfl
 | succ n ih0=>
  rw[List.range_succ,← ih0];rfl
theorem upto_mem {n z:Nat}:z∈upto n↔z<n:=by rw[upto_range,List.mem_range]
theorem filter_sorted (n:Nat) (p:Nat→Bool):sortedN ((upto n).filter p)=true:=by
 rw[sorted_iff,upto_range];exact List.pairwise_lt_range.filter _
noncomputable def toldP (ns:List Nat):List Nat:=(upto 32).filter fun m=>ns.any fun n=>isSub m n
theorem isSub_trans {a b c:Nat}(h1:isSub a b=true) (h2:isSub b c=true):isSub a c=true:=by
 have e1:b &&& a=a:=nE h1;have e2:c &&& b=b:=nE h2;have:c &&& a=a:=by rw[← e1,← Nat.and_assoc,e2]
 show Nat.beq (c &&& a) a=true;exact this.symm ▸ (Nat.beq_refl a)
theorem isSub_refl (a:Nat):isSub a a=true:=by
 show Nat.beq (a &&& a) a=true;rw[Nat.and_self];exact Nat.beq_refl a
theorem bit_tab:(upto 32).all (fun x=>(upto 5).all fun k=>!Nat.beq (x/2^k%2) 1||(isSub (x-2^k) x&&Nat.blt (x-2^k) x))=true:=by decide +kernel
theorem bit_sub {x k:Nat}(hx:x<32) (hk:k<5) (hb:Nat.beq (x/2^k%2) 1=true):isSub (x-2^k) x=true∧x-2^k<x:=by
 have:=upto_all (upto_all bit_tab x hx) k hk;rw[hb] at this;have a:=al this;have b:=ar this;exact ⟨a,blt_iff.mp b⟩
theorem sub_tab:(upto 32).all (fun n=>(upto 32).all fun m=>!isSub m n||(Nat.beq m n||(upto 5).any fun k=>Nat.beq (n/2^k%2) 1&&isSub m (n-2^k)))=true:=by decide +kernel
theorem sub_step {m n:Nat}(hm:m<32) (hn:n<32) (h:isSub m n=true):m=n∨∃ k,k<5∧Nat.beq (n/2^k%2) 1=true∧isSub m (n-2^k)=true:=by
 refine bC fun hN=>?_;have:=upto_all (upto_all sub_tab n hn) m hm;simp only[h,Bool.not_true,Bool.false_or] at this;rcases Bool.or_eq_true_iff.mp this with e | e
 ·refine hN ?_;exact .inl (nE e)
 ·refine Q12 (List.any_eq_true.mp e) ?_;intro k hk e;have e1:=al e;have e2:=ar e;refine hN ?_;exact .inr ⟨k,upto_mem.mp hk,e1,e2⟩
structure Inv (held q:List Nat):Prop where
 srt:sortedN held=true
 lt:∀ x∈held,x<32
 ql:q.length≤held.length
 qh:∀ x∈q,x∈held
theorem Inv.len {held q:List Nat}(h:Inv held q):held.length≤32:=sorted_len (a:=0) h.srt fun x hx=>⟨Nat.zero_le _,h.lt x hx⟩
noncomputable def putPush (x:Nat) (held q:List Nat):List Nat × List Nat:=bif (putP x held).1 then ((putP x held).2,q++[x]) else ((putP x held).2,q)
theorem putPush_inv {x:Nat}{held q:List Nat}(hx:x<32) (h:Inv held q):Inv (putPush x held q).1 (putPush x held q).2:=by
 have hl:=put_len x held;unfold putPush;cases z:(putP x held).1 with
 | true=>
  rw[z,cond_true] at hl;simp only[cond_true];refine ⟨put_sorted x h.srt,fun y hy=>?_,?_,fun y hy=>?_⟩
  ·rcases (put_mem x).mp hy with rfl | hy
   ·exact hx
   ·exact h.lt y hy
  ·show (q++[x]).length≤(putP x held).2.length;simp only[List.length_append,List.length_singleton,hl];have:=h.ql;exact lq1 [_,_] (.a (.v 0) (.k 1)) (.a (.v 1) (.k 1)) (.v 0) (.v 1) this rfl
  ·rcases List.mem_append.mp hy with hy | hy
   ·exact (put_mem x).mpr (.inr (h.qh y hy))
   ·exact (put_mem x).mpr (.inl (List.mem_singleton.mp hy))
 | false=>
  rw[z,cond_false] at hl;simp only[cond_false];refine ⟨put_sorted x h.srt,fun y hy=>?_,?_,fun y hy=>(put_mem x).mpr (.inr (h.qh y hy))⟩
  ·rcases (put_mem x).mp hy with rfl | hy
   ·exact hx
   ·exact h.lt y hy
  ·show q.length≤(putP x held).2.length;rw[hl];exact h.ql
theorem bitStep_eq (num k:Nat) (held q:List Nat):bitStep num k held q=bif Nat.beq (num/2^k%2) 1 then putPush (num-2^k) held q else (held,q):=rfl
theorem bitStep_inv {num k:Nat}{held q:List Nat}(hn:num<32) (h:Inv held q):Inv (bitStep num k held q).1 (bitStep num k held q).2:=by
 simp only[bitStep_eq];cases Nat.beq (num/2^k%2) 1 with
 | true=>exact putPush_inv (Nat.lt_of_le_of_lt (Nat.sub_le _ _) hn) h
 | false=>exact h
noncomputable def bits (num:Nat):List Nat→List Nat × List Nat→List Nat × List Nat
 | [],s=>s
 | k::ks,s=>bits num ks (bitStep num k s.1 s.2)
theorem putPush_sub {x:Nat}{held q:List Nat}:(∀ y∈held,y∈(putPush x held q).1)∧(∀ y∈q,y∈(putPush x held q).2)∧(∀ y∈(putPush x held q).1,y=x∨y∈held)∧(x∈(putPush x held q).1)∧(∀ y∈(putPush x held q).1,y∈held∨y∈(putPush x held q).2) ∧
  (putPush x held q).1.length+q.length=held.length+(putPush x held q).2.length:=by
 have hl:=put_len x held;unfold putPush;cases z:(putP x held).1 with
 | true=>
  rw[z,cond_true] at hl;simp only[cond_true];refine ⟨fun y hy=>(put_mem x).mpr (.inr hy),fun y hy=>List.mem_append_left _ hy,fun y hy=>(put_mem x).mp hy,(put_mem x).mpr (.inl rfl),fun y hy=>?_,?_⟩
  ·rcases (put_mem x).mp hy with rfl | hy
   ·exact .inr (List.mem_append_right _ (List.mem_singleton.mpr rfl))
   ·exact .inl hy
  ·skip
   rw[hl,List.length_append,List.length_singleton];exact eq0 [_,_] (.a (.a (.v 0) (.k 1)) (.v 1)) (.a (.v 0) (.a (.v 1) (.k 1))) rfl rfl
 | false=>
  rw[z,cond_false] at hl;simp only[cond_false];have same:∀ (held:List Nat),(putP x held).1=false→(putP x held).2=held:=by
   intro held;induction held with
   | nil=>intro h;cases h
   | cons w r ih=>
    rw[Ky];cases q1:Nat.blt w x with
    | true=>intro h;rw[cond_true] at h ⊢;show w::(putP x r).2=_;rw[ih h]
    | false=>
     simp only[cond_false];cases q2:Nat.beq w x with
     | true=>intro ux;rfl
     | false=>intro h;cases h
  have e:=same held z;refine e.symm ▸ ?_;have hx:x∈held:=by rw[← e];exact (put_mem x).mpr (.inl rfl)
  exact ⟨fun y hy=>hy,fun y hy=>hy,fun y hy=>.inr hy,hx,fun y hy=>.inl hy,rfl⟩
structure BitsOk (num:Nat) (ks held q held' q':List Nat):Prop where
 inv:Inv held' q'
 keep:∀ y∈held,y∈held'
 keepq:∀ y∈q,y∈q'
 from':∀ y∈held',y∈held∨∃ k,k∈ks∧Nat.beq (num/2^k%2) 1=true∧y=num-2^k
 done:∀ k∈ks,Nat.beq (num/2^k%2) 1=true→num-2^k∈held'
 new:∀ y∈held',y∈held∨y∈q'
 cnt:held'.length+q.length=held.length+q'.length
theorem bits_ok {num:Nat}(hn:num<32):∀ (ks held q:List Nat),Inv held q→BitsOk num ks held q (bits num ks (held,q)).1 (bits num ks (held,q)).2:=by
 intro z0;induction z0 with
 | nil=>
  intro held q h;exact ⟨h,fun ux hy=>hy,fun ux hy=>hy,fun ux hy=>.inl hy,fun ux hk=>(nomatch hk),fun ux hy=>.inl hy,rfl⟩
 | cons k ks ih0=>
  intro held q h;have h1:=bitStep_inv (k:=k) hn h;have r:=ih0 _ _ h1;show BitsOk num (k::ks) held q (bits num ks (bitStep num k held q)).1 (bits num ks (bitStep num k held q)).2;rw[bitStep_eq] at h1 r ⊢;cases z:Nat.beq (num/2^k%2) 1 with
  | false=>
   rw[z,cond_false] at r;simp only[cond_false];refine ⟨r.inv,r.keep,r.keepq,fun y hy=>?_,fun k' hk' hb=>?_,r.new,r.cnt⟩
   ·refine bC fun hN1=>?_;rcases r.from' y hy with e | ⟨k',a,b,c⟩
    ·refine hN1 ?_;exact .inl e
    ·refine hN1 ?_;exact .inr ⟨k',.tail _ a,b,c⟩
   ·rcases List.mem_cons.mp hk' with rfl | hk'
    ·rw[z] at hb;exact ft hb
    ·exact r.done k' hk' hb
  | true=>
   rw[z,cond_true] at r;simp only[cond_true];refine Q06 (putPush_sub (x:=num-2^k) (held:=held) (q:=q)) ?_;intro s1 s2 s3 s4 s5 s6;refine ⟨r.inv,fun y hy=>r.keep y (s1 y hy),fun y hy=>r.keepq y (s2 y hy),fun y hy=>?_,fun k' hk' hb=>?_,fun y hy=>?_,?_⟩
   ·rcases r.from' y hy with e | ⟨k',a,b,c⟩
    ·rcases s3 y e with e | e
     ·exact .inr ⟨k,.head _,z,e⟩
     ·exact .inl e
    ·exact .inr ⟨k',.tail _ a,b,c⟩
   ·rcases List.mem_cons.mp hk' with rfl | hk'
    ·exact r.keep _ s4
    ·exact r.done k' hk' hb
   ·rcases r.new y hy with e | e
    ·rcases s5 y e with e | e
     ·exact .inl e
     ·exact .inr (r.keepq y e)
    ·exact .inr e
   ·have c:(bits num ks (putPush (num-2^k) held q)).1.length+(putPush (num-2^k) held q).2.length=(putPush (num-2^k) held q).1.length+(bits num ks (putPush (num-2^k) held q)).2.length:=r.cnt;exact eq2 [_,_,_,_,_,_] (.a (.v 0) (.v 1)) (.a (.v 2) (.v 3)) (.a (.v 0) (.v 4)) (.a (.v 5) (.v 3)) (.a (.v 5) (.v 1)) (.a (.v 2) (.v 4)) c s6 rfl rfl
structure Cls (ns held q:List Nat):Prop where
 inv:Inv held q
 dn:∀ m∈held,∃ n∈ns,isSub m n=true
 up:∀ n∈ns,n∈held
 cl:∀ x∈held,x∈q∨∀ k,k<5→Nat.beq (x/2^k%2) 1=true→x-2^k∈held
theorem cls_step {ns held q:List Nat}{x:Nat}(h:Cls ns held (x::q)):Cls ns (bits x [0,1,2,3,4] (held,q)).1 (bits x [0,1,2,3,4] (held,q)).2∧(bits x [0,1,2,3,4] (held,q)).1.length+q.length=held.length+(bits x [0,1,2,3,4] (held,q)).2.length∧x<32:=by
 have hx:x∈held:=h.inv.qh x (.head _);have hx32:=h.inv.lt x hx;have i0:Inv held q:=⟨h.inv.srt,h.inv.lt,by have:=h.inv.ql;rw[List.length_cons] at this;exact lq1 [_,_] (.v 0) (.v 1) (.a (.v 0) (.k 1)) (.v 1) this rfl,fun y hy=>h.inv.qh y (.tail _ hy)⟩;have r:=bits_ok hx32 [0,1,2,3,4] held q i0;have mem5:∀ k,k<5→k∈[0,1,2,3,4]:=fun k hk=>by
  rcases k with ux | uy | uz | uw | ut | k<;>first | omega | simp
 have lt5:∀ k,k∈[0,1,2,3,4]→k<5:=fun k hk=>by simp at hk;omega
 refine ⟨⟨r.inv,fun m hm=>?_,fun n hn=>r.keep n (h.up n hn),fun y hy=>?_⟩,r.cnt,hx32⟩
 ·refine bC fun hN2=>?_;rcases r.from' m hm with e | ⟨k,a,b,rfl⟩
  ·refine hN2 ?_;exact h.dn m e
  ·refine Q12 (h.dn x hx) ?_;intro n hn hs;refine hN2 ?_;exact ⟨n,hn,isSub_trans (bit_sub hx32 (lt5 k a) b).1 hs⟩
 ·rcases r.new y hy with e | e
  ·rcases h.cl y e with e | e
   ·rcases List.mem_cons.mp e with rfl | e
    ·exact .inr fun k hk hb=>r.done k (mem5 k hk) hb
    ·exact .inl (r.keepq y e)
   ·exact .inr fun k hk hb=>r.keep _ (e k hk hb)
  ·exact .inl e
theorem cls_end {ns held:List Nat}(hns:∀ n∈ns,n<32) (h:Cls ns held []):held=toldP ns:=by
 refine sorted_ext h.inv.srt (filter_sorted 32 _) fun z=>?_;show z∈held↔z∈(upto 32).filter fun m=>ns.any fun n=>isSub m n;rw[List.mem_filter,upto_mem];constructor
 ·intro hz;refine bC fun hN1=>?_;refine Q12 (h.dn z hz) ?_;intro n hn hs;refine hN1 ?_;exact ⟨h.inv.lt z hz,List.any_eq_true.mpr ⟨n,hn,hs⟩⟩
 ·rintro ⟨hz,ha⟩;refine Q12 (List.any_eq_true.mp ha) ?_;intro n hn hs;have go:∀ (N n:Nat),n≤N→n∈held→isSub z n=true→z∈held:=by
   intro N;induction N with
   | zero=>
    intro n hN hm hs;rcases sub_step hz (h.inv.lt n hm) hs with rfl | ⟨k,a,b,c⟩
    ·exact hm
    ·have:=(bit_sub (h.inv.lt n hm) a b).2;omega
   | succ N ih=>
    intro n hN hm hs;rcases sub_step hz (h.inv.lt n hm) hs with rfl | ⟨k,a,b,c⟩
    ·exact hm
    ·have:=(bit_sub (h.inv.lt n hm) a b).2;rcases h.cl n hm with e | e
     ·cases e
     ·exact ih (n-2^k) (by exact lq2 [_,_,_] (.v 0) (.v 1) (.a (.v 0) (.k 1)) (.v 2) (.v 2) (.a (.v 1) (.k 1)) this hN rfl) (e k a b) c
  exact go n n (Nat.le_refl _) (h.up n hn) hs
noncomputable def ksF:Nat→Nat→List Nat
 | ux,0=>[]
 | k,c+1=>k::ksF (k+1) c
structure NumOk (pr:V→List V→St→Option (V × St)):Prop where
 num:∀ (W:St) (r e n lr lu:Nat),r<6→e<3→n<32→nth W lr=some (.list ((restsOf r).map .str))→nth W lu=some (.list [])→lr≠lu→noCits W=true→pr (.st 183) [.str (mailOf r e n),.ref lr,.ref lu] W=some (N n,W)
noncomputable def tl82 (tl:List (Nat × V)):Prop:=tl=[]∨∃ v,tl=[(82,v)]
section
variable {pr:V→List V→St→Option (V × St)}{line p:Nat}{T:List Nat}{mails rests:List V}{n:Nat}
theorem noc_app {a b:St}(ha:noCits a=true) (hb:noCits b=true):noCits (a++b)=true:=by unfold noCits at ha hb ⊢;rw[List.all_append,ha,hb];rfl
theorem k_for (P:PutOk pr) {r e num:Nat}{v81:V}{h0:St}(hr:r<6) (he:e<3) (hn:num<32) (hT:len T≤900000) (hp:p≤600000) (h0c:noCits h0=true):∀ (c k:Nat) (held q:List Nat) (t:St) (tl:List (Nat × V)) (n:Nat),k+c=5→Inv held q→noCits t=true→tl82 tl →
  ∃ t' tl',noCits t'=true∧tl82 tl'∧(ops (sig pr) (n+c+30)).frs gC false 82 (len h0+14) kB (CW line p T (qV r e q) mails rests (frC (endOf e) v81 ((77,N num)::(94,.ref (len h0+13))::tl)) held (RH h0 (rowsOf r e num) k c t)) =
   some (.next,CW line p T (qV r e (bits num (ksF k c) (held,q)).2) mails rests (frC (endOf e) v81 ((77,N num)::(94,.ref (len h0+13))::tl')) (bits num (ksF k c) (held,q)).1 (h0++(.list ((rowsOf r e num).map .str)::.junk::t'))):=by
 intro z0;induction z0 with
 | zero=>
  intro k held q t tl n hk hi ht htl;refine ⟨t,tl,ht,htl,?_⟩;rw[show n+0+30=(n+29)+1 from rfl];refine frs_end rfl ?_;rw[show n+29=(n+28)+1 from rfl];have e1:nth (CW line p T (qV r e q) mails rests (frC (endOf e) v81 ((77,N num)::(94,.ref (len h0+13))::tl)) held (RH h0 (rowsOf r e num) k 0 t)) (len h0+14)=some (.rit (.ofNat k) (.ofNat 0) 1):=by
   show nth (RH h0 (rowsOf r e num) k 0 t) (len h0+1)=_;rw[nth_app_add];rfl
  rw[o_nxt];unfold stepNxt;rw[e1];show nxRit _ _ _ _ _=_;rw[rit_end]
  congr 2
  show CW line p T (qV r e q) mails rests _ held (setAt (RH h0 (rowsOf r e num) k 0 t) (len h0+1) .junk)=_;rw[setAt_app_add];rfl
 | succ c ih0=>
  intro k held q t tl n hk hi ht htl;have hl:=hi.len;have hql:=hi.ql;refine Q12 (bit_ev (n:=n+c+5) (line:=line) (p:=p) (T:=T) (mails:=mails) (rests:=rests) (v81:=v81) (h0:=h0) (t:=t) (c:=c) P hr he hn (k:=k) (by exact lq1 [_,_] (.a (.v 0) (.k 1)) (.k 5) (.a (.v 0) (.a (.v 1) (.k 1))) (.k 5) (Nat.le_of_eq hk) rfl) (q:=q) (by exact lq2 [_,_] (.v 0) (.k 800) (.v 0) (.v 1) (.v 1) (.k 32) hql hl rfl) hT hp hi.srt (by rw[len_eq];exact lT hl (nL rfl)) h0c ht) ?_;intro t1 t1c hb;have hi':=bitStep_inv (k:=k) hn hi;refine Q23 (ih0 (k+1) _ _ t1 [(82,N k)] n (by exact eq1 [_,_] (.a (.a (.v 0) (.k 1)) (.v 1)) (.k 5) (.a (.v 0) (.a (.v 1) (.k 1))) (.k 5) hk rfl rfl) hi' t1c (.inr ⟨_,rfl⟩)) ?_;intro t2 tl2 k1 k2 k3;refine ⟨t2,tl2,k1,k2,?_⟩;rw[show n+(c+1)+30=(n+c+30)+1 by exact rfl];have nx:(ops (sig pr) (n+c+30)).nxt (len h0+14) (CW line p T (qV r e q) mails rests (frC (endOf e) v81 ((77,N num)::(94,.ref (len h0+13))::tl)) held (RH h0 (rowsOf r e num) k (c+1) t))=some (some (N k),CW line p T (qV r e q) mails rests (frC (endOf e) v81 ((77,N num)::(94,.ref (len h0+13))::tl)) held (RH h0 (rowsOf r e num) (k+1) c t)):=by
   have e1:nth (CW line p T (qV r e q) mails rests (frC (endOf e) v81 ((77,N num)::(94,.ref (len h0+13))::tl)) held (RH h0 (rowsOf r e num) k (c+1) t)) (len h0+14)=some (.rit (.ofNat k) (.ofNat (c+1)) 1):=by
    show nth (RH h0 (rowsOf r e num) k (c+1) t) (len h0+1)=_;rw[nth_app_add];rfl
   rw[show n+c+30=(n+c+29)+1 from rfl,o_nxt];unfold stepNxt;rw[e1];show nxRit _ _ _ _ _=_;rw[rit_next]
   congr 2
   show CW line p T (qV r e q) mails rests _ held (setAt (RH h0 (rowsOf r e num) k (c+1) t) (len h0+1) _)=_;rw[setAt_app_add];rfl
  have st:stName gC false 82 (N k) (CW line p T (qV r e q) mails rests (frC (endOf e) v81 ((77,N num)::(94,.ref (len h0+13))::tl)) held (RH h0 (rowsOf r e num) (k+1) c t))=some (CW line p T (qV r e q) mails rests (frC (endOf e) v81 [(77,N num),(94,.ref (len h0+13)),(82,N k)]) held (RH h0 (rowsOf r e num) (k+1) c t)):=by
   rcases htl with rfl | ⟨u,rfl⟩<;>rfl
  rw[show n+c+5+25=n+c+30 by exact rfl] at hb;rw[frs_next rfl nx st hb];exact k3
end
noncomputable def whT:X:=.cmp (.NotEq) (.att (.loc 92) 54) (.lst [])
noncomputable def whB:List S:=[.asg false 81 (.mcall (.loc 92) 47 []),.asg false 77 (.call (.c (.st 183)) [.loc 81,.loc 78,.loc 84]),.asg false 94 (.mcall (.loc 81) 89 [.loc 80]),.fr false 82 (.call (.c (.bi (.range))) [.c (.int 5)]) kB]
noncomputable def tlW (tl:List (Nat × V)):Prop:=tl=[]∨∃ a b u,tl=(77,a)::(94,b)::u∧tl82 u
section
variable {G:Sig}{n:Nat}{g:Ctx}{W W1 W2 W3:St}{v:V}{c:Bool}{x:Nat}{e:X}
theorem x_asg (h1:(ops G n).ev g e W=some (v,W1)) (h2:stName g c x v W1=some W2):(ops G (n+1)).ex g (.asg c x e) W=some (.next,W2):=by
 have e0:(ops G (n+1)).ex g (.asg c x e) W=b1 ((ops G n).ev g e W) fun v W=>nx (stName g c x v W):=rfl;rw[e0,h1];simp only[b1,h2,nx,b0]
theorem x_call {f:X}{es:List X}{fv:V}{vs:List V}(h1:(ops G n).ev g f W=some (fv,W1)) (h2:(ops G n).evs g es W1=some (vs,W2)):(ops G (n+1)).ev g (.call f es) W=eCall G (ops G n) fv vs W2:=by
 have e0:(ops G (n+1)).ev g (.call f es) W=b1 ((ops G n).ev g f W) fun f W=>b1 ((ops G n).evs g es W) fun vs W=>eCall G (ops G n) f vs W:=rfl;rw[e0,h1];simp only[b1,h2]
theorem x_fr {it:X}{i:Nat}{b:List S}(h1:(ops G n).ev g it W=some (v,W1)) (h2:iterOf v W1=some (i,W2)):(ops G (n+1)).ex g (.fr c x it b) W=(ops G n).frs g c x i b W2:=by
 have e0:(ops G (n+1)).ex g (.fr c x it b) W=b1 ((ops G n).ev g it W) fun v W=>b1 (iterOf v W) fun i W=>(ops G n).frs g c x i b W:=rfl;rw[e0,h1];simp only[b1,h2]
theorem whl_t {t:X}{b:List S}(h1:(ops G n).tst g t W=some (true,W1)) (h2:(ops G n).exs g b W1=some (.next,W2)):(ops G (n+1)).whl g t b W=(ops G n).whl g t b W2:=by
 have e0:(ops G (n+1)).whl g t b W=b1 ((ops G n).tst g t W) fun c W=>bif c then b1 ((ops G n).exs g b W) fun f W=>xLoop f W ((ops G n).whl g t b W) else some (.next,W):=rfl;rw[e0,h1];simp only[b1,h2,cond_true,J9]
theorem whl_f {t:X}{b:List S}(h1:(ops G n).tst g t W=some (false,W1)):(ops G (n+1)).whl g t b W=some (.next,W1):=by
 have e0:(ops G (n+1)).whl g t b W=b1 ((ops G n).tst g t W) fun c W=>bif c then b1 ((ops G n).exs g b W) fun f W=>xLoop f W ((ops G n).whl g t b W) else some (.next,W):=rfl;rw[e0,h1];rfl
end
section
variable {pr:V→List V→St→Option (V × St)}{line p:Nat}{T:List Nat}{mails:List V}{n:Nat}
noncomputable abbrev rsV (r:Nat):List V:=(restsOf r).map .str
theorem tl_st {tl:List (Nat × V)}(htl:tlW tl) (v:V):∃ tl1 tla,tl82 tl1∧(∀ line p T q mails rests en v81 held h,stName gC false 77 v (CW line p T q mails rests (frC en v81 tl) held h)=some (CW line p T q mails rests (frC en v81 tla) held h))∧∀ rw line p T q mails rests en v81 held h,stName gC false 94 (.ref rw) (CW line p T q mails rests (frC en v81 tla) held h)=some (CW line p T q mails rests (frC en v81 ((77,v)::(94,.ref rw)::tl1)) held h):=by
 refine bC fun hN=>?_;rcases htl with rfl | ⟨a,b,u,rfl,hu⟩
 ·refine hN ?_;exact ⟨[],_,.inl rfl,fun ux uy uz uw ut uq u1x u2x u3x u4x=>rfl,fun ux uy uz uw ut uq u1x u2x u3x u4x u5x=>rfl⟩
 ·refine hN ?_;exact ⟨u,_,hu,fun ux uy uz uw ut uq u1x u2x u3x u4x=>rfl,fun ux uy uz uw ut uq u1x u2x u3x u4x u5x=>rfl⟩
theorem wh_body (P:PutOk pr) (U:NumOk pr) {r e x:Nat}{q held:List Nat}{v81:V}{h:St}{tl:List (Nat × V)}(hr:r<6) (he:e<3) (hx:x<32) (hi:Inv held q) (hT:len T≤900000) (hp:p≤600000) (hc:noCits h=true) (htl:tlW tl) (hml:len (mailOf r e x)≤100) (hql:q.length≤800):
  ∃ h' tl',noCits h'=true∧tlW tl'∧(ops (sig pr) (n+60)).exs gC whB (CW line p T (qV r e (x::q)) mails (rsV r) (frC (endOf e) v81 tl) held h) =
   some (.next,CW line p T (qV r e (bits x [0,1,2,3,4] (held,q)).2) mails (rsV r) (frC (endOf e) (.str (mailOf r e x)) tl') (bits x [0,1,2,3,4] (held,q)).1 h'):=by
 have F0:∀ u w,isCit (frC (endOf e) u w)=false:=fun ux uy=>rfl;have la:lexAns 128 (lxC line p T (qV r e (x::q))) []=some (.str (mailOf r e x),line,p,qV r e q):=by
  have c:(flats (qV r e (x::q))&&(Nat.ble (len (qV r e (x::q))) 900&&(Nat.ble (len T) 900000&&Nat.ble p 600000)))=true:=by
   rw[qV_flats,nB hT,nB hp,nB (by rw[len_eq];unfold qV;rw[List.length_map,List.length_cons];omega)];rfl
  show (bif (flats (qV r e (x::q))&&(Nat.ble (len (qV r e (x::q))) 900&&(Nat.ble (len T) 900000&&Nat.ble p 600000))) then _ else none)=_;rw[c];rfl
 have pop:=P.lex (CW line p T (qV r e (x::q)) mails (rsV r) (frC (endOf e) v81 tl) held h) (lxC line p T (qV r e (x::q))) 128 [] _ _ _ _ lexC (nocC (F0 _ _) hc) la;rw[turnC] at pop;have s1:(ops (sig pr) (n+59)).ex gC (.asg false 81 (.mcall (.loc 92) 47 [])) (CW line p T (qV r e (x::q)) mails (rsV r) (frC (endOf e) v81 tl) held h)=some (.next,CW line p T (qV r e q) mails (rsV r) (frC (endOf e) (.str (mailOf r e x)) tl) held h):=by
  have fm:findM (sig pr) (.inst 138 0) 47 (CW line p T (qV r e (x::q)) mails (rsV r) (frC (endOf e) v81 tl) held h)=some (some (.st 128,[.inst 138 0])):=rfl;have is:isCall (sig pr) (.st 128)=true:=rfl;refine x_asg (n:=n+58) ((mcall_val (n:=n+57) (W1:=CW line p T (qV r e (x::q)) mails (rsV r) (frC (endOf e) v81 tl) held h) (vs:=[]) rfl fm rfl).trans ?_) (W1:=CW line p T (qV r e q) mails (rsV r) (frC (endOf e) v81 tl) held h) (v:=.str (mailOf r e x)) rfl;show (bif isCall (sig pr) (.st 128) then (ops (sig pr) (n+57)).call (.st 128) [.inst 138 0] _ else none)=_;rw[is,cond_true];exact call_pr (n:=n+56) pop
 have nm:=U.num (CW line p T (qV r e q) mails (rsV r) (frC (endOf e) (.str (mailOf r e x)) tl) held h) r e x 8 9 hr he hx rfl rfl (by decide) (nocC (F0 _ _) hc);refine Q23 (tl_st htl (N x)) ?_;intro tl1 tla ht1 hs77 hs94
 let W1:St→St:=fun h=>CW line p T (qV r e q) mails (rsV r) (frC (endOf e) (.str (mailOf r e x)) tl) held h
 let W2:St→St:=fun h=>CW line p T (qV r e q) mails (rsV r) (frC (endOf e) (.str (mailOf r e x)) tla) held h
 have s2:(ops (sig pr) (n+58)).ex gC (.asg false 77 (.call (.c (.st 183)) [.loc 81,.loc 78,.loc 84])) (W1 h)=some (.next,W2 h):=by
  have is:isCall (sig pr) (.st 183)=true:=rfl;refine x_asg (n:=n+57) ((x_call (n:=n+56) (W1:=W1 h) (fv:=.st 183) (vs:=[.str (mailOf r e x),.ref 8,.ref 9]) rfl rfl).trans ?_) (W1:=W1 h) (v:=N x) (hs77 _ _ _ _ _ _ _ _ _ _);show (bif isCall (sig pr) (.st 183) then (ops (sig pr) (n+56)).call (.st 183) _ _ else none)=_;rw[is,cond_true];exact call_pr (n:=n+55) nm
 have hll:len (W2 h)=len h+13:=rfl;have ssp:meth (sig pr) (.str (mailOf r e x)) 89 [.str (endOf e)] (W2 h)=some (.ref (len h+13),W2 (h++[.list ((rowsOf r e x).map .str)])):=by
  have e0:meth (sig pr) (.str (mailOf r e x)) 89 [.str (endOf e)] (W2 h)=(bif Nat.beq (len (endOf e)) 0||!Nat.ble (len (mailOf r e x)) strMax then none else some (.ref (len (W2 h)),W2 h++[.list ((splitS (endOf e) (mailOf r e x)).map .str)])):=rfl;have e1:Nat.beq (len (endOf e)) 0=false:=by rcases e with ux | uy | e<;>rfl
  rw[e0,e1,nB (by show len (mailOf r e x)≤1000000;exact lT hml (nL rfl))];rfl
 have s3:(ops (sig pr) (n+57)).ex gC (.asg false 94 (.mcall (.loc 81) 89 [.loc 80])) (W2 h)=some (.next,CW line p T (qV r e q) mails (rsV r) (frC (endOf e) (.str (mailOf r e x)) ((77,N x)::(94,.ref (len h+13))::tl1)) held (h++[.list ((rowsOf r e x).map .str)])):=by
  have fm:findM (sig pr) (.str (mailOf r e x)) 89 (W2 h)=some none:=rfl;exact x_asg (n:=n+56) ((mcall_val (n:=n+55) (W1:=W2 h) (W2:=W2 h) (ov:=.str (mailOf r e x)) (vs:=[.str (endOf e)]) rfl fm rfl).trans ssp) (hs94 _ _ _ _ _ _ _ _ _ _ _)
 let h1:St:=h
 let fr3:O:=frC (endOf e) (.str (mailOf r e x)) ((77,N x)::(94,.ref (len h+13))::tl1)
 let W3:St→St:=fun h=>CW line p T (qV r e q) mails (rsV r) fr3 held h
 refine Q23 (k_for P (mails:=mails) (rests:=rsV r) (line:=line) (p:=p) (T:=T) (v81:=.str (mailOf r e x)) (h0:=h) hr he hx hT hp hc 5 0 held q [] tl1 (n+20) rfl hi rfl ht1) ?_;intro t' tl' tc tl2 kf;have s4:(ops (sig pr) (n+56)).ex gC (.fr false 82 (.call (.c (.bi (.range))) [.c (.int 5)]) kB) (W3 (h++[.list ((rowsOf r e x).map .str)]))=some (.next,CW line p T (qV r e (bits x [0,1,2,3,4] (held,q)).2) mails (rsV r) (frC (endOf e) (.str (mailOf r e x)) ((77,N x)::(94,.ref (len h+13))::tl')) (bits x [0,1,2,3,4] (held,q)).1 (h++(.list ((rowsOf r e x).map .str)::.junk::t'))):=by
  have cr:(ops (sig pr) (n+54)).call (.bi .range) [.int 5] (W3 (h++[.list ((rowsOf r e x).map .str)]))=some (.range 0 5 1,W3 (h++[.list ((rowsOf r e x).map .str)])):=by
   rw[show n+54=(n+53)+1 from rfl,call_bi P.bi];rfl
  have ll:len (W3 (h++[.list ((rowsOf r e x).map .str)]))=len h+14:=by
   show len (h++[O.list ((rowsOf r e x).map .str)])+13=_;rw[len_app];rfl
  have it:iterOf (.range 0 5 1) (W3 (h++[.list ((rowsOf r e x).map .str)]))=some (len h+14,W3 (RH h (rowsOf r e x) 0 5 [])):=by
   have e0:iterOf (.range 0 5 1) (W3 (h++[.list ((rowsOf r e x).map .str)]))=some (len (W3 (h++[.list ((rowsOf r e x).map .str)])),W3 (h++[.list ((rowsOf r e x).map .str)])++[.rit 0 5 1]):=rfl;rw[e0,ll]
   congr 2
   show W3 (h++[.list ((rowsOf r e x).map .str)]++[.rit 0 5 1])=_;rw[List.append_assoc];rfl
  have ev:(ops (sig pr) (n+55)).ev gC (.call (.c (.bi (.range))) [.c (.int 5)]) (W3 (h++[.list ((rowsOf r e x).map .str)]))=some (.range 0 5 1,W3 (h++[.list ((rowsOf r e x).map .str)])):=(x_call (n:=n+54) (W1:=W3 (h++[.list ((rowsOf r e x).map .str)])) (fv:=.bi .range) (vs:=[.int 5]) rfl rfl).trans cr;exact (x_fr (n:=n+55) ev it).trans kf
 refine ⟨h++(.list ((rowsOf r e x).map .str)::.junk::t'),(77,N x)::(94,.ref (len h+13))::tl',noc_app hc (by show (true&&(true&&noCits t'))=true;rw[tc];rfl),.inr ⟨_,_,_,rfl,tl2⟩,?_⟩;exact (exs_cons s1).trans ((exs_cons s2).trans ((exs_cons s3).trans ((exs_cons s4).trans rfl)))
end
theorem mlen_tab:(upto 6).all (fun r=>(upto 3).all fun e=>(upto 32).all fun n=>Nat.ble (len (mailOf r e n)) 38&&!Nat.beq (len (mailOf r e n)) 0)=true:=by decide +kernel
theorem mail_len {r e n:Nat}(hr:r<6) (he:e<3) (hn:n<32):len (mailOf r e n)≤38∧len (mailOf r e n)≠0:=by
 have:=upto_all (upto_all (upto_all mlen_tab r hr) e he) n hn;have a:=al this;have b:=ar this;refine ⟨nL a,fun h=>?_⟩;rw[h] at b;exact ft b
section
variable {pr:V→List V→St→Option (V × St)}{line p:Nat}{T:List Nat}{mails:List V}{n:Nat}
theorem wh_tst {r e:Nat}{q held:List Nat}{fr1:O}{en:List Nat}{v81:V}{tl:List (Nat × V)}{h:St}:(ops (sig pr) (n+5)).tst gC whT (CW line p T (qV r e q) mails (rsV r) (frC en v81 tl) held h)=some (!q.isEmpty,CW line p T (qV r e q) mails (rsV r) (frC en v81 tl) held (h++[.list []])):=by
 let W:St→St:=fun h=>CW line p T (qV r e q) mails (rsV r) (frC en v81 tl) held h
 have e1:(ops (sig pr) (n+4)).ev gC (.att (.loc 92) 54) (W h)=some (.ref 5,W h):=rfl;have e2:(ops (sig pr) (n+4)).ev gC (.lst []) (W h)=some (.ref (len h+13),W (h++[.list []])):=rfl;have e3:(ops (sig pr) (n+5)).tst gC whT (W h)=b1 ((ops (sig pr) (n+4)).ev gC (.att (.loc 92) 54) (W h)) fun a W=>b1 ((ops (sig pr) (n+4)).ev gC (.lst []) W) fun b W=>b0 (cmpop .NotEq a b W) fun t=>some (t,W):=rfl;show (ops (sig pr) (n+5)).tst gC whT (W h)=some (!q.isEmpty,W (h++[.list []]));rw[e3,e1];simp only[b1s,e2];have x:nth (W (h++[.list []])) (len h+13)=some (.list []):=by
  show nth (h++[O.list []]) (len h)=_;rw[nth_app_len0];rfl
 have e4:cmpop .NotEq (.ref 5) (.ref (len h+13)) (W (h++[.list []]))=(onL (some (O.list (qV r e q))) fun a=>onL (nth (W (h++[.list []])) (len h+13)) fun b=>(do let r ← eqVs a b;some (!r))):=rfl;rw[e4,x];cases q with
 | nil=>rfl
 | cons y q=>rfl
theorem wh_loop (P:PutOk pr) (U:NumOk pr) {r e:Nat}{ns:List Nat}(hr:r<6) (he:e<3) (hns:∀ n∈ns,n<32) (hT:len T≤900000) (hp:p≤600000):∀ (N:Nat) (held q:List Nat) (h:St) (v81:V) (tl:List (Nat × V)) (n:Nat),Cls ns held q→(32-held.length)+q.length≤N→noCits h=true→tlW tl →
  ∃ h' v81' tl',noCits h'=true∧(ops (sig pr) (n+N+70)).whl gC whT whB (CW line p T (qV r e q) mails (rsV r) (frC (endOf e) v81 tl) held h)=some (.next,CW line p T [] mails (rsV r) (frC (endOf e) v81' tl') (toldP ns) h')
 | N,held,[],h,v81,tl,n,hC,hN,hc,htl=>by
  have:=cls_end hns hC;subst this;refine ⟨h++[.list []],v81,tl,noc_app hc rfl,?_⟩;have t:=wh_tst (pr:=pr) (line:=line) (p:=p) (T:=T) (mails:=mails) (n:=n+N+64) (r:=r) (e:=e) (q:=[]) (held:=toldP ns) (en:=endOf e) (v81:=v81) (tl:=tl) (h:=h) (fr1:=.junk);exact whl_f (n:=n+N+69) t
 | 0,held,x::q,h,v81,tl,n,hC,hN,hc,htl=>by
  rw[List.length_cons] at hN;omega
 | N+1,held,x::q,h,v81,tl,n,hC,hN,hc,htl=>by
  refine bC fun hN2=>?_;refine Q03 (cls_step hC) ?_;intro c1 c2 hx;have hql:=hC.inv.ql;have hl:=hC.inv.len;rw[List.length_cons] at hql hN;have i0:Inv held q:=⟨hC.inv.srt,hC.inv.lt,by exact lq1 [_,_] (.v 0) (.v 1) (.a (.v 0) (.k 1)) (.v 1) hql rfl,fun y hy=>hC.inv.qh y (.tail _ hy)⟩;have t:=wh_tst (pr:=pr) (line:=line) (p:=p) (T:=T) (mails:=mails) (n:=n+N+65) (r:=r) (e:=e) (q:=x::q) (held:=held) (en:=endOf e) (v81:=v81) (tl:=tl) (h:=h) (fr1:=.junk);refine Q23 (wh_body (n:=n+N+10) (line:=line) (p:=p) (T:=T) (mails:=mails) (v81:=v81) (h:=h++[.list []]) (tl:=tl) P U hr he hx i0 hT hp (noc_app hc rfl) htl (by have:=(mail_len hr he hx).1;exact lT this (nL rfl)) (by exact lq2 [_,_] (.v 0) (.k 800) (.v 1) (.k 32) (.a (.v 0) (.k 1)) (.v 1) hl hql rfl)) ?_;intro h1 tl1 hc1 ht1 hb;have hl1:=c1.inv.len;refine Q32 (wh_loop P U hr he hns hT hp N _ _ h1 (.str (mailOf r e x)) tl1 n c1 (by omega) hc1 ht1) ?_;intro h2 v2 tl2 hc2 hw;refine hN2 ?_;refine ⟨h2,v2,tl2,hc2,?_⟩;rw[show n+(N+1)+70=(n+N+70)+1 by exact rfl];exact (whl_t (n:=n+N+70) t hb).trans hw
end
noncomputable def fB:List S:=[.ifs (.call (.c (.st 190)) [.loc 90,.call (.c (.st 183)) [.loc 81,.loc 78,.loc 84]]) [.expr (.mcall (.loc 92) 48 [.loc 81])] []]
section
variable {pr:V→List V→St→Option (V × St)}{line p:Nat}{T:List Nat}{n:Nat}
noncomputable abbrev frF (en:List Nat) (tl:List (Nat × V)):O:=.ns ((92,.inst 138 0)::(93,.ref 7)::(78,.ref 8)::(80,.str en)::(84,.ref 9)::(90,.ref 11)::tl)
noncomputable abbrev FW (r e line p:Nat) (T ns q held:List Nat) (tl:List (Nat × V)) (o:O):St:=LW line p T (.list (qV r e q)::.list []::.list (qV r e ns)::.list (rsV r)::.list []::frF (endOf e) tl::.list (nums held)::o::[])
theorem lexF {r e:Nat}{ns q held:List Nat}{tl:List (Nat × V)}{o:O}:LexAt (FW r e line p T ns q held tl o) (lxC line p T (qV r e q)):=⟨rfl,rfl,rfl,rfl,rfl,rfl,rfl,(by decide:([0,1,2,3,4,5,6]:List Nat).Nodup)⟩
theorem f_body (P:PutOk pr) (U:NumOk pr) {r e x i:Nat}{ns q held:List Nat}(hr:r<6) (he:e<3) (hx:x<32) (hi:Inv held q) (hT:len T≤900000) (hp:p≤600000):
  (ops (sig pr) (n+30)).exs gC fB (FW r e line p T ns q held [(81,.str (mailOf r e x))] (.lit 7 i))=some (.next,FW r e line p T ns (putPush x held q).2 (putPush x held q).1 [(81,.str (mailOf r e x))] (.lit 7 i)):=by
 have hl:=hi.len;have hql:=hi.ql
 let W:List Nat→List Nat→St:=fun held q=>FW r e line p T ns q held [(81,.str (mailOf r e x))] (.lit 7 i)
 show (ops (sig pr) (n+30)).exs gC fB (W held q)=some (.next,W (putPush x held q).1 (putPush x held q).2);have nm:=U.num (W held q) r e x 8 9 hr he hx rfl rfl (by decide) rfl;have pt:=P.put (W held q) 11 x held rfl hi.srt (by rw[len_eq];exact lT hl (nL rfl)) rfl;have sw:setAt (W held q) 11 (.list (nums (putP x held).2))=W (putP x held).2 q:=rfl;rw[sw] at pt;have i1:isCall (sig pr) (.st 183)=true:=rfl;have i2:isCall (sig pr) (.st 190)=true:=rfl;have en:(ops (sig pr) (n+24)).ev gC (.call (.c (.st 183)) [.loc 81,.loc 78,.loc 84]) (W held q)=some (N x,W held q):=by
  refine (x_call (n:=n+23) (W1:=W held q) (fv:=.st 183) (vs:=[.str (mailOf r e x),.ref 8,.ref 9]) rfl rfl).trans ?_;show (bif isCall (sig pr) (.st 183) then (ops (sig pr) (n+23)).call (.st 183) _ _ else none)=_;rw[i1,cond_true];exact call_pr (n:=n+22) nm
 have ea:(ops (sig pr) (n+26)).evs gC [.loc 90,.call (.c (.st 183)) [.loc 81,.loc 78,.loc 84]] (W held q)=some ([.ref 11,N x],W held q):=by
  have e0:(ops (sig pr) (n+26)).evs gC [.loc 90,.call (.c (.st 183)) [.loc 81,.loc 78,.loc 84]] (W held q)=b1 ((ops (sig pr) (n+25)).evs gC [.call (.c (.st 183)) [.loc 81,.loc 78,.loc 84]] (W held q)) fun vs W=>some (.ref 11::vs,W):=rfl;rw[e0,evs_one (n:=n+23) en];rfl
 have et:(ops (sig pr) (n+28)).tst gC (.call (.c (.st 190)) [.loc 90,.call (.c (.st 183)) [.loc 81,.loc 78,.loc 84]]) (W held q)=some ((putP x held).1,W (putP x held).2 q):=by
  have e0:(ops (sig pr) (n+28)).tst gC (.call (.c (.st 190)) [.loc 90,.call (.c (.st 183)) [.loc 81,.loc 78,.loc 84]]) (W held q)=b1 ((ops (sig pr) (n+27)).ev gC (.call (.c (.st 190)) [.loc 90,.call (.c (.st 183)) [.loc 81,.loc 78,.loc 84]]) (W held q)) eTru:=rfl;have e1:(ops (sig pr) (n+27)).ev gC (.call (.c (.st 190)) [.loc 90,.call (.c (.st 183)) [.loc 81,.loc 78,.loc 84]]) (W held q)=some (.bool (putP x held).1,W (putP x held).2 q):=by
   refine (x_call (n:=n+26) (W1:=W held q) (fv:=.st 190) (vs:=[.ref 11,N x]) rfl ea).trans ?_;show (bif isCall (sig pr) (.st 190) then (ops (sig pr) (n+26)).call (.st 190) _ _ else none)=_;rw[i2,cond_true];exact call_pr (n:=n+25) pt
  rw[e0,e1];rfl
 unfold putPush;cases hput:(putP x held).1 with
 | false=>
  rw[hput] at et;exact exs_one (n:=n+28) (ifs_f (n:=n+27) et)
 | true=>
  rw[hput] at et;rw[cond_true];refine exs_one (n:=n+28) ((ifs_t (n:=n+28) et).trans (exs_one (n:=n+26) ?_));have la:lexAns 135 (lxC line p T (qV r e q)) [.str (mailOf r e x)]=some (.none,line,p,qV r e q++[.str (mailOf r e x)]):=by
   have c:(flats (qV r e q)&&(Nat.ble (len (qV r e q)) 900&&(Nat.ble (len T) 900000&&Nat.ble p 600000)))=true:=by
    rw[qV_flats,nB hT,nB hp,nB (by rw[len_eq];unfold qV;rw[List.length_map];omega)];rfl
   show (bif (flats (qV r e q)&&(Nat.ble (len (qV r e q)) 900&&(Nat.ble (len T) 900000&&Nat.ble p 600000))) then _ else none)=_;rw[c];rfl
  have psh:=P.lex (W (putP x held).2 q) (lxC line p T (qV r e q)) 135 [.str (mailOf r e x)] _ _ _ _ lexF rfl la;have hq':qV r e (q++[x])=qV r e q++[.str (mailOf r e x)]:=by unfold qV;rw[List.map_append];rfl
  have tw:(lxC line p T (qV r e q)).turn (W (putP x held).2 q) line p (qV r e q++[.str (mailOf r e x)])=W (putP x held).2 (q++[x]):=by
   rw[← hq'];rfl
  rw[tw] at psh;have fm:findM (sig pr) (.inst 138 0) 48 (W (putP x held).2 q)=some (some (.st 135,[.inst 138 0])):=rfl;have i3:isCall (sig pr) (.st 135)=true:=rfl;refine ex_expr (n:=n+26) ((mcall_val (n:=n+25) (W1:=W (putP x held).2 q) (ov:=.inst 138 0) (vs:=[.str (mailOf r e x)]) rfl fm rfl).trans ?_);show (bif isCall (sig pr) (.st 135) then (ops (sig pr) (n+25)).call (.st 135) [.inst 138 0,.str (mailOf r e x)] _ else none)=_;rw[i3,cond_true];exact call_pr (n:=n+24) psh
structure Fst (done held q:List Nat):Prop where
 inv:Inv held q
 dn:∀ m∈held,m∈done
 up:∀ n∈done,n∈held
 al:∀ x∈held,x∈q
noncomputable def tl81 (tl:List (Nat × V)):Prop:=tl=[]∨∃ v,tl=[(81,v)]
theorem f_loop (P:PutOk pr) (U:NumOk pr) {r e:Nat}{ns:List Nat}(hr:r<6) (he:e<3) (hns:∀ n∈ns,n<32) (hT:len T≤900000) (hp:p≤600000):∀ (rest done held q:List Nat) (tl:List (Nat × V)) (n:Nat),ns=done++rest→Fst done held q→tl81 tl→(rest=[]→tl≠[]) →
  ∃ held' q' v81,Fst ns held' q'∧(ops (sig pr) (n+rest.length+40)).frs gC false 81 12 fB (FW r e line p T ns q held tl (.lit 7 done.length))=some (.next,FW r e line p T ns q' held' [(81,v81)] .junk):=by
 intro z0;induction z0 with
 | nil=>
  intro done held q tl n hd hF htl hne;rw[List.append_nil] at hd;subst hd;rcases htl with rfl | ⟨v,rfl⟩
  ·exact absurd rfl (hne rfl)
  refine ⟨held,q,v,hF,?_⟩;refine frs_end (n:=n+39) rfl ?_;rw[show n+39=(n+38)+1 from rfl,o_nxt];have e0:stepNxt (sig pr) (ops (sig pr) (n+38)) 12 (FW r e line p T ns q held [(81,v)] (.lit 7 ns.length))=nxLit 12 7 ns.length (FW r e line p T ns q held [(81,v)] (.lit 7 ns.length)):=rfl;have e1:nth (qV r e ns) ns.length=none:=nth_none (by rw[len_eq];unfold qV;rw[List.length_map];exact Nat.le_refl _);rw[e0];show (match nth (qV r e ns) ns.length with | some v=>_ | none=>some (none,setAt (FW r e line p T ns q held [(81,v)] (.lit 7 ns.length)) 12 .junk))=_
  rw[e1];rfl
 | cons x rest ih0=>
  intro done held q tl n hd hF htl hne;have hxm:x∈ns:=by rw[hd];exact List.mem_append_right _ (.head _)
  have hx:=hns x hxm;refine Q06 (putPush_sub (x:=x) (held:=held) (q:=q)) ?_;intro s1 s2 s3 s4 s5 s6;have hF':Fst (done++[x]) (putPush x held q).1 (putPush x held q).2:={
   inv:=putPush_inv hx hF.inv
   dn:=fun m hm=>by
    rcases s3 m hm with rfl | h
    ·exact List.mem_append_right _ (List.mem_singleton.mpr rfl)
    ·exact List.mem_append_left _ (hF.dn m h)
   up:=fun m hm=>by
    rcases List.mem_append.mp hm with h | h
    ·exact s1 m (hF.up m h)
    ·rw[List.mem_singleton.mp h];exact s4
   al:=fun m hm=>by
    rcases s5 m hm with h | h
    ·exact s2 m (hF.al m h)
    ·exact h }
  refine Q32 (ih0 (done++[x]) _ _ [(81,.str (mailOf r e x))] n (by rw[List.append_assoc];exact hd) hF' (.inr ⟨_,rfl⟩) (fun ux h=>nomatch h)) ?_;intro held' q' v81 k1 k2;refine ⟨held',q',v81,k1,?_⟩;have nx:(ops (sig pr) (n+rest.length+40)).nxt 12 (FW r e line p T ns q held tl (.lit 7 done.length))=some (some (.str (mailOf r e x)),FW r e line p T ns q held tl (.lit 7 (done.length+1))):=by
   rw[show n+rest.length+40=(n+rest.length+39)+1 from rfl,o_nxt];have e0:stepNxt (sig pr) (ops (sig pr) (n+rest.length+39)) 12 (FW r e line p T ns q held tl (.lit 7 done.length))=nxLit 12 7 done.length (FW r e line p T ns q held tl (.lit 7 done.length)):=rfl;have e1:nth (qV r e ns) done.length=some (.str (mailOf r e x)):=by
    unfold qV;rw[nth_map,nth_eq,hd,List.getElem?_append_right (Nat.le_refl _),Nat.sub_self];rfl
   rw[e0];show (match nth (qV r e ns) done.length with | some v=>some (some v,setAt (FW r e line p T ns q held tl (.lit 7 done.length)) 12 (.lit 7 (done.length+1))) | none=>_)=_
   rw[e1];rfl
  have st:stName gC false 81 (.str (mailOf r e x)) (FW r e line p T ns q held tl (.lit 7 (done.length+1)))=some (FW r e line p T ns q held [(81,.str (mailOf r e x))] (.lit 7 (done.length+1))):=by
   rcases htl with rfl | ⟨v,rfl⟩<;>rfl
  have fb:=f_body (n:=n+rest.length+10) (line:=line) (p:=p) (T:=T) (i:=done.length+1) (ns:=ns) P U hr he hx hF.inv hT hp;rw[show n+(x::rest).length+40=(n+rest.length+40)+1 by rw[List.length_cons];exact rfl];rw[frs_next (n:=n+rest.length+40) rfl nx st fb];rw[List.length_append,List.length_singleton] at k2;exact k2
end
section
variable {pr:V→List V→St→Option (V × St)}{line p:Nat}{T:List Nat}
theorem closed_ev (P:PutOk pr) (U:NumOk pr) {r e:Nat}{ns:List Nat}(hr:r<6) (he:e<3) (hns:∀ n∈ns,n<32) (hne:ns≠[]) (hnl:ns.length≤10) (hT:len T≤900000) (hp:p≤600000):
  ∃ fr' h',noCits h'=true∧(ops (sig pr) 200).call (.st 197) [.inst 138 0,.ref 7,.ref 8,.str (endOf e),.ref 9] (LW line p T [.list [],.list [],.list (qV r e ns),.list (rsV r),.list []])=some (.ref 11,CW line p T [] (qV r e ns) (rsV r) fr' (toldP ns) h'):=by
 refine bC fun hN=>?_;refine Q32 (f_loop (line:=line) (p:=p) (T:=T) P U hr he hns hT hp ns [] [] [] [] (156-ns.length) rfl ⟨⟨rfl,fun ux h=>(nomatch h),Nat.le_refl _,fun ux h=>(nomatch h)⟩,fun ux h=>(nomatch h),fun ux h=>(nomatch h),fun ux h=>(nomatch h)⟩ (.inl rfl) (fun h=>absurd h hne)) ?_;intro held' q' v81 hF hf;rw[show 156-ns.length+ns.length+40=196 by exact eq1 [_,_] (.a (.a (.v 0) (.v 1)) (.k 40)) (.k 196) (.a (.v 0) (.v 1)) (.k 156) (Nat.sub_add_cancel (lT hnl (nL rfl))) rfl rfl] at hf;have hC:Cls ns held' q':=⟨hF.inv,fun m hm=>⟨m,hF.dn m hm,isSub_refl m⟩,hF.up,fun x hx=>.inl (hF.al x hx)⟩;have hl:=hF.inv.len;have hql:=hF.inv.ql;refine Q32 (wh_loop (line:=line) (p:=p) (T:=T) (mails:=qV r e ns) P U hr he hns hT hp 32 held' q' [] v81 [] 93 hC (by exact lq2 [_,_,_] (.a (.v 0) (.v 1)) (.k 32) (.v 1) (.v 2) (.a (.v 0) (.v 2)) (.k 32) hql (Nat.le_of_eq (Nat.sub_add_cancel (hl))) rfl) rfl (.inl rfl)) ?_;intro h' v' tl' hc' hw;refine hN ?_;refine ⟨frC (endOf e) v' tl',h',hc',?_⟩;have hpr:pr (.st 197) [.inst 138 0,.ref 7,.ref 8,.str (endOf e),.ref 9] (LW line p T [.list [],.list [],.list (qV r e ns),.list (rsV r),.list []])=none:=by rw[P.none']
 rw[show (200:Nat)=199+1 from rfl,call_st hpr rfl rfl];have e0:callFD (ops (sig pr) 199) fd197 [.inst 138 0,.ref 7,.ref 8,.str (endOf e),.ref 9] (LW line p T [.list [],.list [],.list (qV r e ns),.list (rsV r),.list []])=b1 ((ops (sig pr) 199).exs gC [.asg false 90 (.lst []),.fr false 81 (.loc 93) fB,.whl whT whB,.ret (.loc 90)] (LW line p T [.list [],.list [],.list (qV r e ns),.list (rsV r),.list [],.ns [(92,.inst 138 0),(93,.ref 7),(78,.ref 8),(80,.str (endOf e)),(84,.ref 9)]])) cRet:=rfl
 let W1:St:=LW line p T [.list [],.list [],.list (qV r e ns),.list (rsV r),.list [],frF (endOf e) [],.list []]
 have s1:(ops (sig pr) 198).ex gC (.asg false 90 (.lst [])) (LW line p T [.list [],.list [],.list (qV r e ns),.list (rsV r),.list [],.ns [(92,.inst 138 0),(93,.ref 7),(78,.ref 8),(80,.str (endOf e)),(84,.ref 9)]])=some (.next,W1):=rfl;have s2:(ops (sig pr) 197).ex gC (.fr false 81 (.loc 93) fB) W1=some (.next,FW r e line p T ns q' held' [(81,v81)] .junk):=by
  refine (x_fr (n:=196) (v:=.ref 7) (W1:=W1) (W2:=FW r e line p T ns [] [] [] (.lit 7 0)) (i:=12) rfl rfl).trans hf
 have s3:(ops (sig pr) 196).ex gC (.whl whT whB) (FW r e line p T ns q' held' [(81,v81)] .junk)=some (.next,CW line p T [] (qV r e ns) (rsV r) (frC (endOf e) v' tl') (toldP ns) h'):=by
  have e1:(ops (sig pr) 196).ex gC (.whl whT whB) (FW r e line p T ns q' held' [(81,v81)] .junk)=(ops (sig pr) 195).whl gC whT whB (CW line p T (qV r e q') (qV r e ns) (rsV r) (frC (endOf e) v81 []) held' []):=rfl;rw[e1];exact hw
 have s4:(ops (sig pr) 195).ex gC (.ret (.loc 90)) (CW line p T [] (qV r e ns) (rsV r) (frC (endOf e) v' tl') (toldP ns) h')=some (.ret (.ref 11),CW line p T [] (qV r e ns) (rsV r) (frC (endOf e) v' tl') (toldP ns) h'):=rfl;rw[e0];rw[show (199:Nat)=198+1 from rfl,exs_cons s1,show (198:Nat)=197+1 from rfl,exs_cons s2,show (197:Nat)=196+1 from rfl,exs_cons s3,show (196:Nat)=195+1 from rfl,exs_ret s4];rfl
end
theorem canon_no {fs:List Nat}{r:Ops}{a:Nat}{vs:List V}{W:St}(h:fs.any (Nat.beq a)=false):canon fs r (.st a) vs W=none:=by
 show (bif fs.any (Nat.beq a)&&_ then _ else none)=_;rw[h];rfl
theorem pPut_at {W:St}{l x:Nat}{xs:List Nat}(h1:nth W l=some (.list (nums xs))) (h2:sortedN xs=true) (h3:len xs≤99) (h4:noCits W=true):pPut (.st 190) [.ref l,N x] W=some (.bool (putP x xs).1,setAt W l (.list (nums (putP x xs).2))):=by
 show (bif _&&noCits W then onL (nth W l) _ else none)=_;rw[h1,h4];show b0 (natsOf (nums xs)) _=_;rw[natsOf_nums];show (bif sortedN xs&&Nat.ble (len xs) 99 then _ else _)=_;rw[h2,nB h3];rfl
theorem pPut_no {a:Nat}{vs:List V}{W:St}(h:Nat.beq a 190=false):pPut (.st a) vs W=none:=by
 cases q:pPut (.st a) vs W with
 | none=>rfl
 | some y=>
  revert q;refine OSt ?_;intro ux e0 e;obtain rfl:=st_inj e0;revert e;refine OC ?_;rintro ux uy rfl e;revert e;refine ORef ?_;rintro ux rfl e;revert e;refine OC ?_;rintro ux uy rfl e;revert e;refine ONat ?_;rintro ux rfl e;revert e;refine OE ?_;rintro rfl e;have:=bt e;rw[h] at this;exact ft this
theorem lexAns_a {a:Nat}{L:LX}{post:List V}{y:V × Nat × Nat × List V}(h:lexAns a L post=some y):a=128∨a=135:=by
 revert h;refine Bt ?_;intro z h;cases q:Nat.beq a 128 with
 | true=>exact .inl (nE q)
 | false=>exact .inr (nE (bt (cf q h)))
theorem pLex_no {a:Nat}{vs:List V}{W:St}(h1:a≠128) (h2:a≠135):pLex (.st a) vs W=none:=by
 cases q:pLex (.st a) vs W with
 | none=>rfl
 | some y=>
  revert q;refine OSt ?_;intro ux e0 e;obtain rfl:=st_inj e0;revert e;refine OC ?_;rintro ux uy rfl e;revert e;refine OInst ?_;rintro ux uy rfl e;split at e
  ·revert e;refine B0 ?_;intro y hy e;rcases lexAns_a hy with e | e
   ·exact absurd e h1
   ·exact absurd e h2
  ·exact nn e
noncomputable def PC:V→List V→St→Option (V × St):=por pNum (por pPut pLex)
theorem pc_put:PutOk PC where
 put:=fun W l x xs h1 h2 h3 h4=>by
  unfold PC por;rw[show pNum (.st 190) [.ref l,N x] W=none from canon_no rfl];dsimp only;rw[pPut_at h1 h2 h3 h4]
 lex:=fun W L a post v line p pb hL nc h=>by
  have hh:=lexAns_a h;unfold PC por;rw[show pNum (.st a) (.inst 138 L.d::post) W=none from canon_no (by rcases hh with rfl | rfl<;>rfl)]
  dsimp only;rw[pPut_no (by rcases hh with rfl | rfl<;>rfl)]
  exact pLex_at hL nc h
 bi:=fun c vs W=>rfl
 none':=by
  funext vs W
  unfold PC por;rw[show pNum (.st 197) vs W=none from canon_no rfl];dsimp only;rw[pPut_no rfl,pLex_no (by decide) (by decide)]
theorem pc_num:NumOk PC where
 num:=fun W r e n lr lu hr he hn h1 h2 hne nc=>by
  unfold PC por;rw[pNum_at hr he hn h1 h2 hne nc]
set_option tactic.hygienic true in
theorem pc_ok {b:BS}(H:Here b):PrimOk b 172 PC:=by
 have a:PrimOk b 172 (por pPut pLex):=por_ok (put_prim H) (lex_pr H) (by exact nL rfl);intro f vs W v W' fx xs A kp ρ s Q E e;unfold PC por at e;split at e
 ·rename_i y hy;refine Q02 (pj e) ?_;rintro rfl rfl;refine Q02 (num_prim H (fx:=fx) (xs:=xs) (A:=A) (kp:=kp) (ρ:=ρ) (s:=s) (Q:=Q) (E:=E) hy) ?_;intro h1 h2;exact ⟨h1,fun u v w x y=>h2 u v (w.le (by exact nL rfl)) x y⟩
 ·exact a e
structure ClsAt (r e:Nat) (ns:List Nat) (W:St) (L:LX) (m rs u:Nat):Prop where
 lx:LexAt W L
 pb:L.pb=[]
 hm:nth W m=some (.list (qV r e ns))
 hrs:nth W rs=some (.list (rsV r))
 hu:nth W u=some (.list [])
 nd:(L.sg++[m,rs,u]).Nodup
 nc:noCits W=true
 hT:len L.T≤900000
 hp:L.p≤600000
theorem rsV_flats (r:Nat):flats (rsV r)=true:=by
 show flats ((restsOf r).map V.str)=true;generalize restsOf r=ss;induction ss with
 | nil=>rfl
 | cons x s ih=>show (true&&flats (s.map V.str))=true;rw[ih];rfl
open Classical in
noncomputable def pCl (r e:Nat) (ns:List Nat) (f:V) (vs:List V) (W:St):Option (V × St):=
 if f=.st 197∧∃ L m rs u,vs=[.inst 138 L.d,.ref m,.ref rs,.str (endOf e),.ref u]∧ClsAt r e ns W L m rs u then some (.ref (len W),W++[.list (nums (toldP ns))]) else none
theorem cl_prim {b:BS}(H:Here b) {r e:Nat}{ns:List Nat}(hr:r<6) (he:e<3) (hns:∀ n∈ns,n<32) (hne:ns≠[]) (hnl:ns.length≤10):PrimOk b 372 (pCl r e ns):=by
 intro f vs W v W' fx xs A kp ρ s Q E ev;unfold pCl at ev;split at ev
 ·rename_i hh;obtain ⟨rfl,L,m,rs,u,rfl,h⟩:=hh;refine Q02 (pj ev) ?_;rintro rfl rfl;refine ⟨rfl,fun h1 h2 hA R hB=>?_⟩;obtain ⟨d,d2,lt,lp,l,q,q2,line,p,T,pb⟩:=L;obtain ⟨lx,hpb,hm,hrs,hu,nd,nc,hT,hp⟩:=h;dsimp only at hpb hT hp;subst hpb;refine Q22 (closed_ev (line:=line) (p:=p) (T:=T) pc_put pc_num hr he hns hne hnl hT hp) ?_;intro fr' h' hc' hc;have nd':([d,d2,lt,lp,l,q,q2,m,rs,u]:List Nat).Nodup:=nd;generalize hσ:([d,d2,lt,lp,l,q,q2,m,rs,u]:List Nat)=σ at nd';have idx:∀ j i,nth σ j=some i→posL σ i=j:=fun j i e=>nth_inj nd' (posL_nth (nth_mem e)) e;have a0:nth σ 0=some d:=by rw[← hσ];rfl
  have a1:nth σ 1=some d2:=by rw[← hσ];rfl
  have a2:nth σ 2=some lt:=by rw[← hσ];rfl
  have a3:nth σ 3=some lp:=by rw[← hσ];rfl
  have a4:nth σ 4=some l:=by rw[← hσ];rfl
  have a5:nth σ 5=some q:=by rw[← hσ];rfl
  have a6:nth σ 6=some q2:=by rw[← hσ];rfl
  have a7:nth σ 7=some m:=by rw[← hσ];rfl
  have a8:nth σ 8=some rs:=by rw[← hσ];rfl
  have a9:nth σ 9=some u:=by rw[← hσ];rfl
  have ro:∀ f,renO f (.list (rsV r))=.list (rsV r):=fun f=>by show O.list (renVs f (rsV r))=_;rw[flats_ren (rsV_flats r)]
  have ln:len σ=10:=by rw[← hσ];rfl
  have inn:∀ j i,nth σ j=some i→isInL σ i=true:=fun j i e=>isInL_iff.mpr (nth_mem e);have Z:Sel W σ (isInL σ) (posL σ) (LW line p T [.list [],.list [],.list (qV r e ns),.list (rsV r),.list []]):=by
   have SL:SelL W (isInL σ) (posL σ) [d,d2,lt,lp,l,q,q2,m,rs,u] (LW line p T [.list [],.list [],.list (qV r e ns),.list (rsV r),.list []]):=
    .cons lx.h0 rfl (by simp[YZ,YV,YW,YM,YN,YO,YP,inn 1 _ a1,inn 5 _ a5]<;>rfl) (by simp[Yn,Yj,Yk,Ya,Yb,Yc,Yd,idx 1 _ a1,idx 5 _ a5]<;>rfl)
    (.cons lx.h1 rfl (by simp[YZ,YV,YW,YM,YO,YP,YQ,Yo,inn 6 _ a6,inn 3 _ a3,inn 2 _ a2]<;>rfl) (by simp[Yn,Yj,Yk,Ya,Yc,Yd,Ye,Yp,idx 6 _ a6,idx 3 _ a3,idx 2 _ a2]<;>rfl)
    (.cons lx.h2 rfl rfl rfl
    (.cons lx.h3 rfl (inn 4 _ a4) (by simp[Yr,Ya,idx 4 _ a4]<;>rfl)
    (.cons lx.h4 rfl rfl rfl (.cons lx.h5 rfl rfl rfl (.cons lx.h6 rfl rfl rfl
    (.cons hm rfl (flatO_in (o:=.list _) (qV_flats r e ns)) (flatO_ren (o:=.list _) (qV_flats r e ns)).symm
    (.cons hrs rfl (flatO_in (o:=.list (rsV r)) (rsV_flats r)) (ro _).symm
    (.cons hu rfl rfl rfl .nil)))))))))
   rw[hσ] at SL;exact Sel.of nd' SL
  let p':Nat→Bool:=fun j=>decide (j<10)||Nat.beq j 11
  let f':Nat→Nat:=fun j=>bif Nat.beq j 11 then len W else (nth σ j).getD 0
  have fa:∀ j i,j≠11→nth σ j=some i→f' j=i:=fun j i hj ev=>by
   show (bif Nat.beq j 11 then len W else (nth σ j).getD 0)=i;have:Nat.beq j 11=false:=by cases z:Nat.beq j 11 with | false=>rfl | true=>exact absurd (nE z) hj
   rw[this,ev];rfl
  have f0:=fa 0 _ (by decide) a0;have f1:=fa 1 _ (by decide) a1;have f2:=fa 2 _ (by decide) a2;have f3:=fa 3 _ (by decide) a3;have f4:=fa 4 _ (by decide) a4;have f5:=fa 5 _ (by decide) a5;have f6:=fa 6 _ (by decide) a6;have RL:RetL W (CW line p T [] (qV r e ns) (rsV r) fr' (toldP ns) h') p' f' σ:=by
   have RL:RetL W (CW line p T [] (qV r e ns) (rsV r) fr' (toldP ns) h') p' f' [d,d2,lt,lp,l,q,q2,m,rs,u]:=
    .cons 0 lx.h0 f0 rfl rfl rfl (by simp[YZ,YV,YW,YM,YN,YO,YP,p']<;>rfl) (by simp[Yn,Yj,Yk,Ya,Yb,Yc,Yd,f1,f5]<;>rfl)
    (.cons 1 lx.h1 f1 rfl rfl rfl (by simp[YZ,YV,YW,YM,YO,YP,YQ,Yo,p']<;>rfl) (by simp[Yn,Yj,Yk,Ya,Yc,Yd,Ye,Yp,f6,f3,f2]<;>rfl)
    (.cons 2 lx.h2 f2 rfl rfl rfl rfl rfl
    (.cons 3 lx.h3 f3 rfl rfl rfl (by simp[Yq,YM,p']<;>rfl) (by simp[Yr,Ya,f4]<;>rfl)
    (.cons 4 lx.h4 f4 rfl rfl rfl rfl rfl (.cons 5 lx.h5 f5 rfl rfl rfl rfl rfl (.cons 6 lx.h6 f6 rfl rfl rfl rfl rfl
    (.cons 7 hm (fa 7 _ (by decide) a7) rfl rfl rfl (flatO_in (o:=.list _) (qV_flats r e ns)) (flatO_ren (o:=.list _) (qV_flats r e ns)).symm
    (.cons 8 hrs (fa 8 _ (by decide) a8) rfl rfl rfl (flatO_in (o:=.list (rsV r)) (rsV_flats r)) (ro _).symm
    (.cons 9 hu (fa 9 _ (by decide) a9) rfl rfl rfl rfl rfl .nil)))))))))
   rw[hσ] at RL;exact RL
  have Y:Ret W σ (CW line p T [] (qV r e ns) (rsV r) fr' (toldP ns) h') (W++[.list (nums (toldP ns))]) [11] p' f':={
   len:=by rw[len_app];rfl
   f1:=fun j ev=>by
    rcases Bool.or_eq_true_iff.mp ev with e1 | e1
    ·have hj:=of_decide_eq_true e1;refine Q11 (nth_some (l:=σ) (i:=j) (by rw[ln];exact hj)) ?_;intro i hi;exact .inl (by rw[fa j i (by omega) hi];exact hi)
    ·have:=nE e1;subst this;exact .inr ⟨0,rfl,rfl⟩
   newR:=fun k j ev=>by
    cases k with
    | zero=>obtain rfl:=sI ev;show 11<len h'+13;exact lq0 [_] (.a (.k 11) (.k 1)) (.a (.v 0) (.k 13)) rfl
    | succ k=>exact nn ev
   obj:=fun i o' ev hal=>by
    rcases nth_app1 ev with ev | ⟨rfl,rfl⟩
    ·by_cases z:i∈σ
     ·exact .inr (RL.all z ev)
     ·exact .inl ⟨ev,z⟩
    ·exact .inr ⟨11,_,rfl,rfl,rfl,rfl,flatO_in (o:=.list _) (flats_nums _),(flatO_ren (o:=.list _) (flats_nums _)).symm⟩
   cit:=fun i o ev ux uy=>noCits_at nc ev }
  refine (sound H (pc_ok H) 200).carry (fv:=.st 197) (vs:=[.inst 138 d,.ref m,.ref rs,.str (endOf e),.ref u]) ?_ rfl Z Y rfl ?_ (v0:=.ref 11) rfl h1 h2 (hA.le (by exact nL rfl)) R hB
  ·show (ops (sig PC) 200).call (.st 197) [.inst 138 (posL σ d),.ref (posL σ m),.ref (posL σ rs),.str (endOf e),.ref (posL σ u)] _=_;rw[idx 0 _ a0,idx 7 _ a7,idx 8 _ a8,idx 9 _ a9];exact hc
  ·show (isInL σ d&&(isInL σ m&&(isInL σ rs&&(true&&(isInL σ u&&true)))))=true;rw[inn 0 _ a0,inn 7 _ a7,inn 8 _ a8,inn 9 _ a9];rfl
 ·exact nn ev
theorem pCl_at {r e:Nat}{ns:List Nat}{W:St}{L:LX}{m rs u:Nat}(h:ClsAt r e ns W L m rs u):pCl r e ns (.st 197) [.inst 138 L.d,.ref m,.ref rs,.str (endOf e),.ref u] W=some (.ref (len W),W++[.list (nums (toldP ns))]):=by
 unfold pCl;rw[if_pos ⟨rfl,L,m,rs,u,rfl,h⟩]
noncomputable def pop:Nat→Nat→Nat
 | 0,ux=>0
 | f+1,n=>n%2+pop f (n/2)
noncomputable def popC (n:Nat):Nat:=pop 6 n
noncomputable def setL (k:Nat):List Nat:=(upto 64).filter fun n=>Nat.beq (popC n) k
noncomputable def lv5 (k:Nat):List Nat:=(upto 32).filter fun n=>Nat.beq (popC n) k
noncomputable def loT:Nat→List Nat
 | 1=>[0,1,1,1,1,1]
 | 2=>[0,2,3,3,4,4,4,5,5,5,5]
 | 3=>[0,3,5,6,6,8,9,9,10,10,10]
 | 4=>[0,4,7,9,10,10]
 | 5=>[0,5]
 | ux=>[]
noncomputable def loK (s k:Nat):Nat:=(nth (loT s) k).getD 0
noncomputable def allSub:List Nat→(List Nat→Bool)→Bool
 | [],p=>p []
 | x::r,p=>allSub r p&&allSub r fun l=>p (x::l)
theorem allSub_sub:∀ {L:List Nat}{p:List Nat→Bool},allSub L p=true→∀ l,l.Sublist L→p l=true
 | [],p,h,l,hl=>by rw[List.sublist_nil.mp hl];exact h
 | x::r,p,h,l,hl=>by
  have h1:=al h;have h2:=ar h;cases hl with
  | cons ux hl=>exact allSub_sub h1 l hl
  | cons_cons ux hl=>exact allSub_sub h2 _ hl
noncomputable def fLn {α:Type}(l:List Nat) (k:List Nat→α):α:=match l with
 | []=>k []
 | a::r=>fLn r fun r=>k (a::r)
theorem fLn_eq {α:Type}:∀ (l:List Nat) (k:List Nat→α),fLn l k=k l
 | [],ux=>rfl
 | a::r,k=>fLn_eq r fun r=>k (a::r)
noncomputable def kkChk (s:Nat):Bool:=fLn (lv5 s) fun L=>fLn (setL (s-1)) fun S=>allSub L fun here=>Nat.ble (loK s (len here)) (len (lessP S here))
theorem kk1:kkChk 1=true:=by decide +kernel
theorem kk5:kkChk 5=true:=by decide +kernel
theorem kk4:kkChk 4=true:=by decide +kernel
theorem kk2:kkChk 2=true:=by decide +kernel
theorem kk3:kkChk 3=true:=by decide +kernel
theorem kk {s:Nat}(h1:1≤s) (h5:s≤5) {here:List Nat}(hs:here.Sublist (lv5 s)):loK s (len here)≤len (lessP (setL (s-1)) here):=by
 have key:kkChk s=true:=by
  rcases s with ux | uy | uz | uw | ut | uq | s
  ·omega
  ·exact kk1
  ·exact kk2
  ·exact kk3
  ·exact kk4
  ·exact kk5
  ·omega
 unfold kkChk at key;rw[fLn_eq,fLn_eq] at key;exact nL (allSub_sub key here hs)
noncomputable def La:V→List V→St→Option (V × St):=por (canon [40,86] (ops (sig L1) 60)) L1
noncomputable def Lb:V→List V→St→Option (V × St):=por (canon [100] (ops (sig La) 80)) La
noncomputable def pCas:V→List V→St→Option (V × St):=canon [202] (ops (sig Lb) 70)
theorem La_ok {b:BS}(H:Here b):PrimOk b 100 La:=por_ok (canon_ok (sound H (L1_ok H) 60)) (L1_ok H) (by exact nL rfl)
theorem Lb_ok {b:BS}(H:Here b):PrimOk b 180 Lb:=por_ok (canon_ok (sound H (La_ok H) 80)) (La_ok H) (by exact nL rfl)
theorem cas_prim {b:BS}(H:Here b):PrimOk b 250 pCas:=canon_ok (sound H (Lb_ok H) 70)
noncomputable def casChk (s k:Nat):Bool:=match nth (setL s) k with
 | some x=>(match (ops (sig Lb) 70).call (.st 202) [N k,N s] [] with
  | some (.tup vs,ux)=>eqFs vs [N x,N (loK s k),N 0]
  | ux=>false)&&beqL (lessP (setL (s-1)) ((setL s).take k)) ((setL (s-1)).take (loK s k))
 | none=>false
noncomputable def lvN:Nat→Nat
 | 1=>6
 | 2=>11
 | 3=>11
 | 4=>6
 | 5=>2
 | ux=>0
theorem cas_1:(upto (lvN 1)).all (casChk 1)=true:=by decide +kernel
theorem cas_2:(upto (lvN 2)).all (casChk 2)=true:=by decide +kernel
theorem cas_3:(upto (lvN 3)).all (casChk 3)=true:=by decide +kernel
theorem cas_4:(upto (lvN 4)).all (casChk 4)=true:=by decide +kernel
theorem cas_5:(upto (lvN 5)).all (casChk 5)=true:=by decide +kernel
noncomputable def onesL:List Nat:=(upto 64).map popC
noncomputable abbrev LH (held:List Nat) (fr:O) (cv:Option V) (o15:O) (g:St):St:=
 .list (nums held)::fr::.cell (some (.ref 4))::.cell cv::.list (nums onesL)::.junk::.list (nums (setL 0))::.list (nums (setL 1))::.list (nums (setL 2))::.list (nums (setL 3))::.list (nums (setL 4))::.list (nums (setL 5))::.list (nums (setL 6)) ::
  .list [.ref 6,.ref 7,.ref 8,.ref 9,.ref 10,.ref 11,.ref 12]::.junk::o15::g
noncomputable def lvIf:X:=.cmp (.Eq) (.sub (.cel 112) (.loc 10)) (.cel 97)
section
variable {pr:V→List V→St→Option (V × St)}{held:List Nat}{fr o15:O}{s:Nat}{g:St}{n:Nat}
theorem ones_at {y:Nat}(hy:y<64):nth (nums onesL) y=some (N (popC y)):=by
 rw[nth_nums];unfold onesL;rw[List.getElem?_map,upto_range,List.getElem?_range hy];rfl
theorem lv_loop (hh:∀ x∈held,x<32) (hl:held.length≤900):∀ (r:List Nat) (i:Nat) (acc:List Nat) (tl:List (Nat × V)) (n:Nat),held.drop i=r→tl10 tl→acc.length+r.length≤900 →
  ∃ tl',(ops (sig pr) (n+r.length+20)).cpl ⟨len g+18,[(112,2),(97,3)]⟩ (.loc 10) false 10 (len g+16) [lvIf] (len g+17) (LH held fr (some (N s)) o15 (g++[.lit 0 i,.list (nums acc),.ns tl]))=some (LH held fr (some (N s)) o15 (g++[.junk,.list (nums (acc++r.filter fun n=>Nat.beq (popC n) s)),.ns tl'])):=by
 intro z0;induction z0 with
 | nil=>
  intro i acc tl n h ht ha;have hn:nth (nums held) i=none:=by rw[nth_nums,List.getElem?_eq_none (List.drop_eq_nil_iff.mp h)];rfl
  refine ⟨tl,?_⟩;rw[show n+([]:List Nat).length+20=(n+19)+1 from rfl,cpl_end (n:=n+19) (W1:=LH held fr (some (N s)) o15 (g++[.junk,.list (nums acc),.ns tl]))]
  ·rw[List.filter_nil,List.append_nil]
  ·simp only[Zx,Zy,nth_app_add,JE]
  ·simp only[o_nxt,stepNxt,Zx,Zy,nth_app_len0,nxLit,hn,J4,J5,setAt_app_len,JH]
 | cons y r ih0=>
  intro i acc tl n h ht ha;refine Q03 (drop_cons' h) ?_;intro h1 h2 h3;have hy:y<32:=hh y (List.mem_of_getElem? h2);have hn:nth (nums held) i=some (N y):=by rw[nth_nums,h2];rfl
  have hla:acc.length+(r.length+1)≤900:=ha;have fu:n+(y::r).length+20=(n+r.length+20)+1:=by rw[List.length_cons];exact rfl
  rw[fu];have ns:isNs (nth (LH held fr (some (N s)) o15 (g++[.lit 0 i,.list (nums acc),.ns tl])) (len g+18))=true:=by simp only[Zx,Zy,nth_app_add,JE]
  have nx:∀ k,(ops (sig pr) (k+1)).nxt (len g+16) (LH held fr (some (N s)) o15 (g++[.lit 0 i,.list (nums acc),.ns tl]))=some (some (N y),LH held fr (some (N s)) o15 (g++[.lit 0 (i+1),.list (nums acc),.ns tl])):=fun k=>by
   simp only[o_nxt,stepNxt,Zx,Zy,nth_app_len0,nxLit,hn,J4,J5,setAt_app_len,JH]
  have st:stName ⟨len g+18,[(112,2),(97,3)]⟩ false 10 (N y) (LH held fr (some (N s)) o15 (g++[.lit 0 (i+1),.list (nums acc),.ns tl]))=some (LH held fr (some (N s)) o15 (g++[.lit 0 (i+1),.list (nums acc),.ns [(10,N y)]])):=by
   rcases ht with rfl | ⟨v,rfl⟩<;>simp only[Zu,Zx,Zy,nth_app_add,J4,J5,setAt_app_add,J1,J2,Nat.beq,cond_true,JF]
  have ts:∀ k,(ops (sig pr) (k+5)).tsts ⟨len g+18,[(112,2),(97,3)]⟩ true [lvIf] (LH held fr (some (N s)) o15 (g++[.lit 0 (i+1),.list (nums acc),.ns [(10,N y)]]))=some (Nat.beq (popC y) s,LH held fr (some (N s)) o15 (g++[.lit 0 (i+1),.list (nums acc),.ns [(10,N y)]])):=fun k=>by
   have eq:=eqI_N (popC y) s;have on:=ones_at (y:=y) (by exact lT hy (nL rfl));have lb:Nat.ble y lstMax=true:=nB (by show y≤100000;exact lq1 [_] (.v 0) (.k 100000) (.a (.v 0) (.k 1)) (.k 32) hy rfl);cases q:Nat.beq (popC y) s<;>rw[q] at eq<;>simp only[lvIf,Jy,eq,on,lb,getSub,nth_app_add,o_ev,o_tst,o_tsts,Z1,Z2,ZB,ZW,ZX,ZY,b1,b0,ldLoc,ldCel,Zx,Zy,Zz,J0,Nat.beq,cond_true,cond_false,Option.bind_some,cmpop,N,JF,JG,JR,JJ,JL,JH,JV,JW,Jk,JN]
  cases hs:Nat.beq (popC y) s with
  | false=>
   refine Q11 (ih0 (i+1) acc [(10,N y)] n h3 (.inr ⟨_,rfl⟩) (by exact lq1 [_,_] (.a (.v 0) (.v 1)) (.k 900) (.a (.v 0) (.a (.v 1) (.k 1))) (.k 900) hla rfl)) ?_;intro tl' k1;refine ⟨tl',?_⟩;have ts':=ts (n+r.length+15);rw[hs] at ts';rw[cpl_skip ns (nx (n+r.length+19)) st ts',k1,List.filter_cons,hs];rfl
  | true=>
   refine Q11 (ih0 (i+1) (acc++[y]) [(10,N y)] n h3 (.inr ⟨_,rfl⟩) (by rw[List.length_append,List.length_singleton];exact lq1 [_,_] (.a (.a (.v 0) (.k 1)) (.v 1)) (.k 900) (.a (.v 0) (.a (.v 1) (.k 1))) (.k 900) hla rfl)) ?_;intro tl' k1;refine ⟨tl',?_⟩;have ts':=ts (n+r.length+15);rw[hs] at ts';have ev:(ops (sig pr) (n+r.length+20)).ev ⟨len g+18,[(112,2),(97,3)]⟩ (.loc 10) (LH held fr (some (N s)) o15 (g++[.lit 0 (i+1),.list (nums acc),.ns [(10,N y)]]))=some (N y,LH held fr (some (N s)) o15 (g++[.lit 0 (i+1),.list (nums acc),.ns [(10,N y)]])):=by
    rw[show n+r.length+20=(n+r.length+19)+1 from rfl];simp only[nth_app_add,o_ev,Z1,b0,ldLoc,Zx,Zy,Zz,J0,Nat.beq,cond_true,N,JF]
   have ac:nth (LH held fr (some (N s)) o15 (g++[.lit 0 (i+1),.list (nums acc),.ns [(10,N y)]])) (len g+17)=some (.list (nums acc)):=by simp only[Zx,Zy,nth_app_add]
   have lb:Nat.ble (len (nums acc)) lstMax=true:=by rw[len_nums];exact nB (by show _≤100000;omega)
   rw[cpl_take ns (nx (n+r.length+19)) st ts' ev ac lb];have sa:setAt (LH held fr (some (N s)) o15 (g++[.lit 0 (i+1),.list (nums acc),.ns [(10,N y)]])) (len g+17) (.list (nums acc++[N y]))=LH held fr (some (N s)) o15 (g++[.lit 0 (i+1),.list (nums (acc++[y])),.ns [(10,N y)]]):=by
    rw[show nums acc++[N y]=nums (acc++[y]) by simp[nums]];simp only[J4,J5,setAt_app_add]
   rw[sa,k1,List.filter_cons,hs,if_pos rfl,List.append_assoc];rfl
end
structure LevOk (pr:V→List V→St→Option (V × St)):Prop where
 less:∀ (W:St) (la lb:Nat) (sets many:List Nat),nth W la=some (.list (nums sets))→nth W lb=some (.list (nums many))→la≠lb→noCits W=true→sets.length≤20→many.length≤20→pr (.st 207) [.ref la,.ref lb] W=some (.ref (len W),W++[.list (nums (lessP sets many))])
 cas:∀ (W:St) (s k x:Nat),1≤s→s≤5→k<lvN s→nth (setL s) k=some x→noCits W=true→pr (.st 202) [N k,N s] W=some (.tup [N x,N (loK s k),N 0],W)
 bi:∀ c vs W,pr (.bi c) vs W=none
 none':∀ vs W,pr (.st 212) vs W=none
noncomputable def cB1:X:=.comp (.loc 10) false 10 (.loc 90) [lvIf] [112,97] []
noncomputable def lvB:List S:=[.asg false 113 cB1,.asg false 114 (.slc (.sub (.loc 109) (.cel 97)) none (some (.call (.c (.bi (.len))) [.loc 113]))),.asgT [(false,115),(false,33),(false,100)] (.call (.c (.st 202)) [.call (.c (.bi (.len))) [.loc 113],.cel 97]),
 .ifs (.boo (.Or) [.cmp (.NotEq) (.loc 115) (.sub (.sub (.loc 109) (.cel 97)) (.call (.c (.bi (.len))) [.loc 113])),.cmp (.NotEq) (.loc 100) (.c (.int 0))]) [.ret (.c (.bool false))] [],
 .ifs (.cmp (.Lt) (.call (.c (.bi (.len))) [.call (.c (.st 207)) [.sub (.loc 109) (.bin (.Sub) (.cel 97) (.c (.int 1))),.loc 113]]) (.loc 33)) [.ret (.c (.bool false))] [],
 .ifs (.cmp (.NotEq) (.call (.c (.st 207)) [.sub (.loc 109) (.bin (.Sub) (.cel 97) (.c (.int 1))),.loc 114]) (.slc (.sub (.loc 109) (.bin (.Sub) (.cel 97) (.c (.int 1)))) none (some (.loc 33)))) [.ret (.c (.bool false))] []]
noncomputable abbrev gL:Ctx:=⟨1,[(112,2),(97,3)]⟩
noncomputable abbrev frL (tl:List (Nat × V)):O:=.ns ((90,.ref 0)::(10,N 63)::(109,.ref 13)::tl)
noncomputable abbrev tlL (a b c d e:V):List (Nat × V):=[(113,a),(114,b),(115,c),(33,d),(100,e)]
noncomputable def tlL0 (tl:List (Nat × V)):Prop:=tl=[]∨∃ a b c d e,tl=tlL a b c d e
section
variable {pr:V→List V→St→Option (V × St)}{held:List Nat}{o15:O}{s:Nat}{g:St}{n:Nat}{tl:List (Nat × V)}
noncomputable abbrev LW2 (held:List Nat) (tl:List (Nat × V)) (s:Nat) (o15:O) (g:St):St:=LH held (frL tl) (some (N s)) o15 g
theorem sets_at {fr:O}{cv:Option V}(hs:s≤6):nth (LH held fr cv o15 g) (6+s)=some (.list (nums (setL s))):=by
 rcases s with ux | uy | uz | uw | ut | uq | u1x | s<;>first | rfl | omega
theorem refs_at {fr:O}{cv:Option V}(hs:s≤6):getSub (.ref 13) (N s) (LH held fr cv o15 g)=some (.ref (6+s)):=by
 rcases s with ux | uy | uz | uw | ut | uq | u1x | s<;>first | rfl | omega
theorem noc_L {fr:O}{cv:Option V}(h1:isCit fr=false) (h2:isCit o15=false) (hg:noCits g=true):noCits (LH held fr cv o15 g)=true:=by
 show (true&&((!isCit fr)&&(true&&(true&&(true&&(true&&(true&&(true&&(true&&(true&&(true&&(true&&(true&&(true&&(true&&((!isCit o15)&&noCits g))))))))))))))))=true;rw[h1,h2,hg];rfl
theorem lv_here (hh:∀ x∈held,x<32) (hl:held.length≤40) (htl:tlL0 tl) (hs6:s≤6):∃ t,noCits t=true∧nth t 1=some (.list (nums (held.filter fun n=>Nat.beq (popC n) s)))∧(ops (sig pr) (n+70)).ev gL cB1 (LW2 held tl s o15 g)=some (.ref (len g+17),LW2 held tl s o15 (g++t)):=by
 refine Q11 (lv_loop (pr:=pr) (fr:=frL tl) (o15:=o15) (s:=s) (g:=g) hh (by exact lT hl (nL rfl)) held 0 [] [] (n+49-held.length) rfl (.inl rfl) (by show 0+_≤_;exact lq1 [_] (.a (.k 0) (.v 0)) (.k 900) (.v 0) (.k 40) hl rfl)) ?_;intro tl' h;rw[show n+49-held.length+held.length+20=n+69 by exact eq1 [_,_,_] (.a (.a (.v 0) (.v 1)) (.k 20)) (.a (.v 2) (.k 69)) (.a (.v 0) (.v 1)) (.a (.v 2) (.k 49)) (Nat.sub_add_cancel (lq1 [_,_] (.v 0) (.a (.v 1) (.k 49)) (.v 0) (.k 40) hl rfl)) rfl rfl,List.nil_append] at h;refine ⟨[.junk,.list (nums (held.filter fun n=>Nat.beq (popC n) s)),.junk],rfl,rfl,?_⟩;have ce:(ops (sig pr) (n+69)).ev gL (.loc 90) (LW2 held tl s o15 g)=some (.ref 0,LW2 held tl s o15 g):=rfl;have it:iterOf (.ref 0) (LW2 held tl s o15 g)=some (len g+16,LW2 held tl s o15 (g++[.lit 0 0])):=rfl;have cp:captured gL [112,97]=some [(112,2),(97,3)]:=rfl;have hh':LW2 held tl s o15 (g++[.lit 0 0])++(.list []::.ns []::noCells [])=LW2 held tl s o15 (g++[.lit 0 0,.list (nums []),.ns []]):=by simp[noCells,nums]
 have l1:len (LW2 held tl s o15 (g++[.lit 0 0]))=len g+17:=by simp only[len,len_app]
 have e1:stepEv (sig pr) (ops (sig pr) (n+69)) gL cB1 (LW2 held tl s o15 g)=b1 ((ops (sig pr) (n+69)).ev gL (.loc 90) (LW2 held tl s o15 g)) fun v W=>eComp (ops (sig pr) (n+69)) gL (.loc 10) false 10 [lvIf] [112,97] [] v W:=rfl;rw[show n+70=(n+69)+1 from rfl,o_ev,e1,ce];simp only[b1s,eComp,it,b0s,cp,mkCells,List.nil_append,hh',l1,h];simp only[Zx,Zy,nth_app_add,JE,cond_true,J4,J5,setAt_app_add]
end
section
variable {pr:V→List V→St→Option (V × St)}{n:Nat}{W W':St}{i:Nat}{xs:List Nat}{v:V}
theorem len_at (hb:∀ c vs W,pr (.bi c) vs W=none) (h:nth W i=some (.list (nums xs))) (hl:xs.length≤900):(ops (sig pr) (n+1)).call (.bi .len) [.ref i] W=some (N xs.length,W):=by
 rw[call_bi hb];show (onL (nth W i) fun ws=>(bif Nat.ble (len ws) lstMax then some (V.int (Int.ofNat (len ws)),W) else none))=_;rw[h];show (bif Nat.ble (len (nums xs)) lstMax then some (V.int (Int.ofNat (len (nums xs))),W) else none)=_;rw[len_nums,nB (by show _≤100000;omega)];rfl
theorem ev_len {e:X}(hb:∀ c vs W,pr (.bi c) vs W=none) (he:(ops (sig pr) (n+2)).ev gL e W=some (.ref i,W')) (h:nth W' i=some (.list (nums xs))) (hl:xs.length≤900):(ops (sig pr) (n+4)).ev gL (.call (.c (.bi (.len))) [e]) W=some (N xs.length,W'):=
 (x_call (n:=n+3) (W1:=W) (fv:=.bi .len) rfl (evs_one (n:=n+1) he)).trans (len_at (n:=n+2) hb h hl)
theorem slc_at (h:nth W i=some (.list (nums xs))) (hl:xs.length≤900) {k:Nat}(hk:k≤900):getSlc (.ref i) .none (N k) W=some (.ref (len W),W++[.list (nums (xs.take k))]):=by
 show (onL (nth W i) fun vs=>(do let lo ← bnd .none 0;let hi ← bnd (N k) (len vs);bif Nat.ble (len vs) lstMax then some (V.ref (len W),W++[O.list (sliceL lo hi vs)]) else none))=_;rw[h];show (do let hi ← (bif Nat.ble k strMax then some k else none);bif Nat.ble (len (nums xs)) lstMax then some (V.ref (len W),W++[O.list (sliceL 0 hi (nums xs))]) else none)=_;rw[nB (by show k≤1000000;exact lT hk (nL rfl)),len_nums,nB (by show xs.length≤100000;exact lT hl (nL rfl))];show some (V.ref (len W),W++[O.list (((nums xs).take k).drop 0)])=_;rw[List.drop_zero];show some (V.ref (len W),W++[O.list ((xs.map _).take k)])=_;rw[← List.map_take];rfl
theorem sub_at (h:nth W i=some (.list (nums xs))) {k x:Nat}(hx:nth xs k=some x) (hk:k≤900):getSub (.ref i) (N k) W=some (N x):=by
 show (onL (nth W i) fun vs=>(bif Nat.ble k lstMax then nth vs k else none))=_;rw[h,nB (by show k≤100000;exact lT hk (nL rfl))];show nth (nums xs) k=_;rw[nth_nums,← nth_eq,hx];rfl
theorem ev_sub {a b:X}{va vb vr:V}{W1 W2:St}(h1:(ops (sig pr) n).ev gL a W=some (va,W1)) (h2:(ops (sig pr) n).ev gL b W1=some (vb,W2)) (h3:getSub va vb W2=some vr):(ops (sig pr) (n+1)).ev gL (.sub a b) W=some (vr,W2):=by
 have e:(ops (sig pr) (n+1)).ev gL (.sub a b) W=b1 ((ops (sig pr) n).ev gL a W) fun a W=>b1 ((ops (sig pr) n).ev gL b W) fun i W=>b0 (getSub a i W) fun v=>some (v,W):=rfl;rw[e,h1];simp only[b1s,h2,b0s,h3]
theorem ev_slc {a b:X}{va vb vr:V}{W1 W2 W3:St}(h1:(ops (sig pr) n).ev gL a W=some (va,W1)) (h2:(ops (sig pr) n).ev gL b W1=some (vb,W2)) (h3:getSlc va .none vb W2=some (vr,W3)):(ops (sig pr) (n+1)).ev gL (.slc a none (some b)) W=some (vr,W3):=by
 have e:(ops (sig pr) (n+1)).ev gL (.slc a none (some b)) W=b1 ((ops (sig pr) n).ev gL a W) fun a W=>b1 ((ops (sig pr) n).ev gL b W) fun hi W=>getSlc a .none hi W:=rfl;rw[e,h1];simp only[b1s,h2,h3]
theorem evs_two {a b:X}{va vb:V}{W1 W2:St}(h1:(ops (sig pr) (n+2)).ev gL a W=some (va,W1)) (h2:(ops (sig pr) (n+1)).ev gL b W1=some (vb,W2)):(ops (sig pr) (n+3)).evs gL [a,b] W=some ([va,vb],W2):=by
 have e:(ops (sig pr) (n+3)).evs gL [a,b] W=b1 ((ops (sig pr) (n+2)).ev gL a W) fun v W=>b1 ((ops (sig pr) (n+2)).evs gL [b] W) fun vs W=>some (v::vs,W):=rfl;rw[e,h1];simp only[b1];rw[evs_one (n:=n) h2]
theorem tst_cmp {op:CmpOp}{a b:X}{va vb:V}{t:Bool}{W1 W2:St}(h1:(ops (sig pr) n).ev gL a W=some (va,W1)) (h2:(ops (sig pr) n).ev gL b W1=some (vb,W2)) (h3:cmpop op va vb W2=some t):(ops (sig pr) (n+1)).tst gL (.cmp op a b) W=some (t,W2):=by
 have e:(ops (sig pr) (n+1)).tst gL (.cmp op a b) W=b1 ((ops (sig pr) n).ev gL a W) fun a W=>b1 ((ops (sig pr) n).ev gL b W) fun b W=>b0 (cmpop op a b W) fun t=>some (t,W):=rfl;rw[e,h1];simp only[b1s,h2,b0s,h3]
theorem tst_or {t1 t2:X}{W1 W2:St}(h1:(ops (sig pr) (n+2)).tst gL t1 W=some (false,W1)) (h2:(ops (sig pr) (n+1)).tst gL t2 W1=some (false,W2)):(ops (sig pr) (n+4)).tst gL (.boo .Or [t1,t2]) W=some (false,W2):=by
 show (ops (sig pr) (n+3)).tsts gL false [t1,t2] W=_;show b1 ((ops (sig pr) (n+2)).tst gL t1 W) (fun t W=>bif t then some (true,W) else (ops (sig pr) (n+2)).tsts gL false [t2] W)=_;rw[h1];show b1 ((ops (sig pr) (n+1)).tst gL t2 W1) (fun t W=>bif t then some (true,W) else (ops (sig pr) (n+1)).tsts gL false [] W)=_;rw[h2];rfl
theorem eqEl_nums:∀ xs:List Nat,eqEl (nums xs) (nums xs)=some true:=by
 intro z0;induction z0 with
 | nil=>
  exact rfl
 | cons x r ih0=>
  show ((eqV (N x) (N x)).bind fun t=>(eqEl (nums r) (nums r)).bind fun u=>some (t&&u))=_;rw[ih0];show some (eqI (.ofNat x) (.ofNat x)&&true)=_;rw[eqI_self];rfl
theorem eqVs_nums (xs:List Nat):eqVs (nums xs) (nums xs)=some true:=by
 unfold eqVs;rw[Nat.beq_refl,cond_true];exact eqEl_nums xs
end
section
variable {pr:V→List V→St→Option (V × St)}{held:List Nat}{o15:O}{s:Nat}{g:St}{n:Nat}
theorem ev_l113 {v:V}(h:ldLoc gL 113 W=some v):(ops (sig pr) (n+1)).ev gL (.loc 113) W=some (v,W):=by
 show b0 (ldLoc gL 113 W) _=_;rw[h];rfl
theorem lv_body (P:LevOk pr) {T0:List (Nat × V)}{U1:V→List (Nat × V)}{U2:V→V→List (Nat × V)}(ht0:tlL0 T0) (q1:∀ A g,stName gL false 113 A (LW2 held T0 s o15 g)=some (LW2 held (U1 A) s o15 g)) (q2:∀ A B g,stName gL false 114 B (LW2 held (U1 A) s o15 g)=some (LW2 held (U2 A B) s o15 g)) (q3:∀ A B a b c g,xAsgT gL [(false,115),(false,33),(false,100)] (.tup [a,b,c]) (LW2 held (U2 A B) s o15 g)=some (.next,LW2 held (tlL A B a b c) s o15 g)) (l1:∀ A g,ldLoc gL 113 (LW2 held (U1 A) s o15 g)=some A) (l2:∀ A B g,ldLoc gL 113 (LW2 held (U2 A B) s o15 g)=some A) (hh:∀ x∈held,x<32) (hl:held.length≤40) (h1:1≤s) (h5:s≤5) (ho:isCit o15=false) (hg:noCits g=true) {x:Nat}{here:List Nat}(hhe:here=held.filter fun n=>Nat.beq (popC n) s) (hk:here.length<lvN s) (hx:nth (setL s) here.length=some x)
  (hlo:loK s here.length≤(lessP (setL (s-1)) here).length) (hfi:lessP (setL (s-1)) ((setL s).take here.length)=(setL (s-1)).take (loK s here.length)) (hset:∀ k,(setL k).length≤20) (hlob:loK s here.length≤20):
  ∃ g' A B,noCits g'=true∧(ops (sig pr) (n+110)).exs gL lvB (LW2 held (T0) s o15 g)=some (.next,LW2 held (tlL A B (N x) (N (loK s here.length)) (N 0)) s o15 (g++g')):=by
 have hh20:here.length≤20:=by
  have:lvN s≤11:=by rcases s with ux | uy | uz | uw | ut | uq | s<;>first | omega | decide
  exact lq2 [_,_] (.v 0) (.k 20) (.v 1) (.k 11) (.a (.v 0) (.k 1)) (.v 1) this hk rfl
 refine Q13 (lv_here (pr:=pr) (o15:=o15) (s:=s) (g:=g) (n:=n+38) (tl:=(T0)) hh hl ht0 (by exact lT h5 (nL rfl))) ?_;intro t tc t1 eh;rw[← hhe] at t1
 let A:V:=.ref (len g+17)
 let g1:St:=g++t
 have hA:∀ T u,nth (LW2 held T s o15 (g1++u)) (len g+17)=some (.list (nums here)):=fun T u=>by
  show nth (g++t++u) (len g+1)=_;rw[List.append_assoc,nth_app_add];exact nth_app_lt u t1
 have s1:(ops (sig pr) (n+109)).ex gL (.asg false 113 cB1) (LW2 held (T0) s o15 g)=some (.next,LW2 held (U1 A) s o15 g1):=x_asg (n:=n+108) eh (q1 _ _)
 let B:V:=.ref (len g1+16)
 let g2:St:=g1++[.list (nums ((setL s).take here.length))]
 have ls:(setL s).length≤20:=hset s;have ls':(setL (s-1)).length≤20:=hset (s-1);have refs:∀ T u m,(ops (sig pr) (m+3)).ev gL (.sub (.loc 109) (.cel 97)) (LW2 held T s o15 u)=some (.ref (6+s),LW2 held T s o15 u):=fun T u m=>ev_sub (n:=m+2) (va:=.ref 13) (vb:=N s) rfl rfl (refs_at (by exact lT h5 (nL rfl)));have bs:binI .Sub (.ofNat s) 1=some (.ofNat (s-1)):=sub_N s 1 h1;have refs':∀ T u m,(ops (sig pr) (m+5)).ev gL (.sub (.loc 109) (.bin (.Sub) (.cel 97) (.c (.int 1)))) (LW2 held T s o15 u)=some (.ref (6+(s-1)),LW2 held T s o15 u):=fun T u m=>by
  have eb:(ops (sig pr) (m+4)).ev gL (.bin (.Sub) (.cel 97) (.c (.int 1))) (LW2 held T s o15 u)=some (N (s-1),LW2 held T s o15 u):=by
   have e0:(ops (sig pr) (m+4)).ev gL (.bin (.Sub) (.cel 97) (.c (.int 1))) (LW2 held T s o15 u)=(do let i ← binI .Sub (.ofNat s) 1;some (V.int i,LW2 held T s o15 u)):=rfl;rw[e0,bs];rfl
  exact ev_sub (n:=m+4) (va:=.ref 13) (vb:=N (s-1)) rfl eb (refs_at (by exact lq2 [_,_] (.v 0) (.k 6) (.v 1) (.k 5) (.v 0) (.v 1) h5 (Nat.sub_le _ _) rfl))
 have s2:(ops (sig pr) (n+108)).ex gL (.asg false 114 (.slc (.sub (.loc 109) (.cel 97)) none (some (.call (.c (.bi (.len))) [.loc 113])))) (LW2 held (U1 A) s o15 g1)=some (.next,LW2 held (U2 A B) s o15 g2):=by
  have e1:=refs (U1 A) g1 (n+103);have hA1:=hA (U1 A) [];rw[List.append_nil] at hA1;have e2:=ev_len (n:=n+102) (e:=.loc 113) P.bi (W:=LW2 held (U1 A) s o15 g1) (W':=LW2 held (U1 A) s o15 g1) (i:=len g+17) (ev_l113 (l1 _ _)) hA1 (by exact lT hh20 (nL rfl));have e3:=slc_at (sets_at (held:=held) (fr:=frL (U1 A)) (cv:=some (N s)) (o15:=o15) (g:=g1) (s:=s) (by exact lT h5 (nL rfl))) (by exact lT ls (nL rfl)) (k:=here.length) (by exact lT hh20 (nL rfl));exact x_asg (n:=n+107) (ev_slc (n:=n+106) e1 e2 e3) (q2 _ _ _)
 have s3:(ops (sig pr) (n+107)).ex gL (.asgT [(false,115),(false,33),(false,100)] (.call (.c (.st 202)) [.call (.c (.bi (.len))) [.loc 113],.cel 97])) (LW2 held (U2 A B) s o15 g2)=some (.next,LW2 held (tlL A B (N x) (N (loK s here.length)) (N 0)) s o15 g2):=by
  have hA2:=hA (U2 A B) [.list (nums ((setL s).take here.length))];have e2:=ev_len (n:=n+100) (e:=.loc 113) P.bi (W:=LW2 held (U2 A B) s o15 g2) (W':=LW2 held (U2 A B) s o15 g2) (i:=len g+17) (ev_l113 (l2 _ _ _)) hA2 (by exact lT hh20 (nL rfl));have ea:=evs_two (n:=n+102) (b:=.cel 97) (vb:=N s) e2 rfl;have g2c:noCits g2=true:=noc_app (noc_app hg tc) rfl;have cs:=P.cas (LW2 held (U2 A B) s o15 g2) s here.length x h1 h5 hk hx (noc_L rfl ho g2c);have ev:(ops (sig pr) (n+106)).ev gL (.call (.c (.st 202)) [.call (.c (.bi (.len))) [.loc 113],.cel 97]) (LW2 held (U2 A B) s o15 g2)=some (.tup [N x,N (loK s here.length),N 0],LW2 held (U2 A B) s o15 g2):=by
   refine (x_call (n:=n+105) (W1:=LW2 held (U2 A B) s o15 g2) (fv:=.st 202) (vs:=[N here.length,N s]) rfl ea).trans ?_;show (bif isCall (sig pr) (.st 202) then (ops (sig pr) (n+105)).call (.st 202) _ _ else none)=_;rw[show isCall (sig pr) (.st 202)=true from rfl,cond_true];exact call_pr (n:=n+104) cs
  have e0:(ops (sig pr) (n+107)).ex gL (.asgT [(false,115),(false,33),(false,100)] (.call (.c (.st 202)) [.call (.c (.bi (.len))) [.loc 113],.cel 97])) (LW2 held (U2 A B) s o15 g2)=b1 ((ops (sig pr) (n+106)).ev gL (.call (.c (.st 202)) [.call (.c (.bi (.len))) [.loc 113],.cel 97]) (LW2 held (U2 A B) s o15 g2)) fun v W=>xAsgT gL [(false,115),(false,33),(false,100)] v W:=rfl;rw[e0,ev];exact q3 _ _ _ _ _ _
 have hA3:=hA (tlL A B (N x) (N (loK s here.length)) (N 0)) [.list (nums ((setL s).take here.length))];have g2c:noCits g2=true:=noc_app (noc_app hg tc) rfl;have s4:(ops (sig pr) (n+106)).ex gL (.ifs (.boo (.Or) [.cmp (.NotEq) (.loc 115) (.sub (.sub (.loc 109) (.cel 97)) (.call (.c (.bi (.len))) [.loc 113])),.cmp (.NotEq) (.loc 100) (.c (.int 0))]) [.ret (.c (.bool false))] []) (LW2 held (tlL A B (N x) (N (loK s here.length)) (N 0)) s o15 g2)=some (.next,LW2 held (tlL A B (N x) (N (loK s here.length)) (N 0)) s o15 g2):=by
  have e1:=refs (tlL A B (N x) (N (loK s here.length)) (N 0)) g2 (n+98);have e2:=ev_len (n:=n+97) (e:=.loc 113) P.bi (W:=LW2 held (tlL A B (N x) (N (loK s here.length)) (N 0)) s o15 g2) (W':=LW2 held (tlL A B (N x) (N (loK s here.length)) (N 0)) s o15 g2) (i:=len g+17) rfl hA3 (by exact lT hh20 (nL rfl));have e3:=ev_sub (n:=n+101) e1 e2 (sub_at (sets_at (held:=held) (fr:=frL (tlL A B (N x) (N (loK s here.length)) (N 0))) (cv:=some (N s)) (o15:=o15) (g:=g2) (s:=s) (by exact lT h5 (nL rfl))) hx (by exact lT hh20 (nL rfl)));have c1:cmpop .NotEq (N x) (N x) (LW2 held (tlL A B (N x) (N (loK s here.length)) (N 0)) s o15 g2)=some false:=by
   show some (!eqI (.ofNat x) (.ofNat x))=_;rw[eqI_self];rfl
  have t1:=tst_cmp (n:=n+102) (a:=.loc 115) (va:=N x) (W:=LW2 held (tlL A B (N x) (N (loK s here.length)) (N 0)) s o15 g2) (W1:=LW2 held (tlL A B (N x) (N (loK s here.length)) (N 0)) s o15 g2) rfl e3 c1;have t2:(ops (sig pr) (n+102)).tst gL (.cmp (.NotEq) (.loc 100) (.c (.int 0))) (LW2 held (tlL A B (N x) (N (loK s here.length)) (N 0)) s o15 g2)=some (false,LW2 held (tlL A B (N x) (N (loK s here.length)) (N 0)) s o15 g2):=rfl;exact ifs_f (n:=n+104) (tst_or (n:=n+101) t1 t2)
 have lsn:6+(s-1)≠len g+17:=by omega
 have l1:=P.less (LW2 held (tlL A B (N x) (N (loK s here.length)) (N 0)) s o15 g2) (6+(s-1)) (len g+17) (setL (s-1)) here (sets_at (by exact lq2 [_,_] (.v 0) (.k 6) (.v 1) (.k 5) (.v 0) (.v 1) h5 (Nat.sub_le _ _) rfl)) hA3 lsn (noc_L rfl ho g2c) ls' hh20
 let g3:St:=g2++[.list (nums (lessP (setL (s-1)) here))]
 have ll2:len (LW2 held (tlL A B (N x) (N (loK s here.length)) (N 0)) s o15 g2)=len g2+16:=rfl;have g3c:noCits g3=true:=noc_app g2c rfl;have isl:isCall (sig pr) (.st 207)=true:=rfl;have s5:(ops (sig pr) (n+105)).ex gL (.ifs (.cmp (.Lt) (.call (.c (.bi (.len))) [.call (.c (.st 207)) [.sub (.loc 109) (.bin (.Sub) (.cel 97) (.c (.int 1))),.loc 113]]) (.loc 33)) [.ret (.c (.bool false))] []) (LW2 held (tlL A B (N x) (N (loK s here.length)) (N 0)) s o15 g2)=some (.next,LW2 held (tlL A B (N x) (N (loK s here.length)) (N 0)) s o15 g3):=by
  have ea:=evs_two (n:=n+97) (b:=.loc 113) (vb:=A) (W2:=LW2 held (tlL A B (N x) (N (loK s here.length)) (N 0)) s o15 g2) (refs' (tlL A B (N x) (N (loK s here.length)) (N 0)) g2 (n+94)) rfl;have ec:(ops (sig pr) (n+101)).ev gL (.call (.c (.st 207)) [.sub (.loc 109) (.bin (.Sub) (.cel 97) (.c (.int 1))),.loc 113]) (LW2 held (tlL A B (N x) (N (loK s here.length)) (N 0)) s o15 g2)=some (.ref (len g2+16),LW2 held (tlL A B (N x) (N (loK s here.length)) (N 0)) s o15 g3):=by
   refine (x_call (n:=n+100) (W1:=LW2 held (tlL A B (N x) (N (loK s here.length)) (N 0)) s o15 g2) (fv:=.st 207) (vs:=[.ref (6+(s-1)),A]) rfl ea).trans ?_;show (bif isCall (sig pr) (.st 207) then (ops (sig pr) (n+100)).call (.st 207) _ _ else none)=_;rw[isl,cond_true];exact call_pr (n:=n+99) l1
  have hn:nth (LW2 held (tlL A B (N x) (N (loK s here.length)) (N 0)) s o15 g3) (len g2+16)=some (.list (nums (lessP (setL (s-1)) here))):=by
   show nth (g2++[O.list (nums (lessP (setL (s-1)) here))]) (len g2)=_;rw[nth_app_len0];rfl
  have hfl:(lessP (setL (s-1)) here).length≤20:=by
   have:(lessP (setL (s-1)) here).length≤(setL (s-1)).length:=List.length_filter_le _ _;exact lq2 [_,_] (.v 0) (.k 20) (.v 0) (.v 1) (.v 1) (.k 20) this ls' rfl
  have e2:=ev_len (n:=n+99) P.bi ec hn (by exact lT hfl (nL rfl));have c1:cmpop .Lt (N (lessP (setL (s-1)) here).length) (N (loK s here.length)) (LW2 held (tlL A B (N x) (N (loK s here.length)) (N 0)) s o15 g3)=some false:=by
   show cmpI .Lt (.ofNat _) (.ofNat _)=_;rw[lt_N,decide_eq_false (by exact Nat.not_lt_of_le (lq1 [_,_] (.v 0) (.v 1) (.v 0) (.v 1) hlo rfl))]
  have t1:=tst_cmp (n:=n+103) (b:=.loc 33) (vb:=N (loK s here.length)) (W2:=LW2 held (tlL A B (N x) (N (loK s here.length)) (N 0)) s o15 g3) e2 rfl c1;exact ifs_f (n:=n+103) t1
 let g4:St:=g3++[.list (nums (lessP (setL (s-1)) ((setL s).take here.length)))]
 let g5:St:=g4++[.list (nums ((setL (s-1)).take (loK s here.length)))]
 have hB:nth (LW2 held (tlL A B (N x) (N (loK s here.length)) (N 0)) s o15 g3) (len g1+16)=some (.list (nums ((setL s).take here.length))):=by
  show nth (g1++[O.list (nums ((setL s).take here.length))]++[O.list (nums (lessP (setL (s-1)) here))]) (len g1)=_;rw[List.append_assoc,nth_app_len0];rfl
 have l2:=P.less (LW2 held (tlL A B (N x) (N (loK s here.length)) (N 0)) s o15 g3) (6+(s-1)) (len g1+16) (setL (s-1)) ((setL s).take here.length) (sets_at (by exact lq2 [_,_] (.v 0) (.k 6) (.v 1) (.k 5) (.v 0) (.v 1) h5 (Nat.sub_le _ _) rfl)) hB (by omega) (noc_L rfl ho g3c) ls' (by rw[List.length_take];omega);have s6:(ops (sig pr) (n+104)).ex gL (.ifs (.cmp (.NotEq) (.call (.c (.st 207)) [.sub (.loc 109) (.bin (.Sub) (.cel 97) (.c (.int 1))),.loc 114]) (.slc (.sub (.loc 109) (.bin (.Sub) (.cel 97) (.c (.int 1)))) none (some (.loc 33)))) [.ret (.c (.bool false))] []) (LW2 held (tlL A B (N x) (N (loK s here.length)) (N 0)) s o15 g3)=some (.next,LW2 held (tlL A B (N x) (N (loK s here.length)) (N 0)) s o15 g5):=by
  have ea:=evs_two (n:=n+98) (b:=.loc 114) (vb:=B) (W2:=LW2 held (tlL A B (N x) (N (loK s here.length)) (N 0)) s o15 g3) (refs' (tlL A B (N x) (N (loK s here.length)) (N 0)) g3 (n+95)) rfl;have ec:(ops (sig pr) (n+102)).ev gL (.call (.c (.st 207)) [.sub (.loc 109) (.bin (.Sub) (.cel 97) (.c (.int 1))),.loc 114]) (LW2 held (tlL A B (N x) (N (loK s here.length)) (N 0)) s o15 g3)=some (.ref (len g3+16),LW2 held (tlL A B (N x) (N (loK s here.length)) (N 0)) s o15 g4):=by
   refine (x_call (n:=n+101) (W1:=LW2 held (tlL A B (N x) (N (loK s here.length)) (N 0)) s o15 g3) (fv:=.st 207) (vs:=[.ref (6+(s-1)),B]) rfl ea).trans ?_;show (bif isCall (sig pr) (.st 207) then (ops (sig pr) (n+101)).call (.st 207) _ _ else none)=_;rw[isl,cond_true];exact call_pr (n:=n+100) l2
  have es:=ev_slc (n:=n+101) (W:=LW2 held (tlL A B (N x) (N (loK s here.length)) (N 0)) s o15 g4) (b:=.loc 33) (vb:=N (loK s here.length)) (W2:=LW2 held (tlL A B (N x) (N (loK s here.length)) (N 0)) s o15 g4) (refs' (tlL A B (N x) (N (loK s here.length)) (N 0)) g4 (n+96)) rfl (slc_at (sets_at (held:=held) (fr:=frL (tlL A B (N x) (N (loK s here.length)) (N 0))) (cv:=some (N s)) (o15:=o15) (g:=g4) (s:=s-1) (by exact lq2 [_,_] (.v 0) (.k 6) (.v 1) (.k 5) (.v 0) (.v 1) h5 (Nat.sub_le _ _) rfl)) (by exact lT ls' (nL rfl)) (by exact lT hlob (nL rfl)));have n4:nth (LW2 held (tlL A B (N x) (N (loK s here.length)) (N 0)) s o15 g5) (len g3+16)=some (.list (nums (lessP (setL (s-1)) ((setL s).take here.length)))):=by
   show nth (g3++[O.list (nums (lessP (setL (s-1)) ((setL s).take here.length)))]++[O.list (nums ((setL (s-1)).take (loK s here.length)))]) (len g3)=_;rw[List.append_assoc,nth_app_len0];rfl
  have n5:nth (LW2 held (tlL A B (N x) (N (loK s here.length)) (N 0)) s o15 g5) (len g4+16)=some (.list (nums ((setL (s-1)).take (loK s here.length)))):=by
   show nth (g4++[O.list (nums ((setL (s-1)).take (loK s here.length)))]) (len g4)=_;rw[nth_app_len0];rfl
  have c1:cmpop .NotEq (.ref (len g3+16)) (.ref (len g4+16)) (LW2 held (tlL A B (N x) (N (loK s here.length)) (N 0)) s o15 g5)=some false:=by
   have e0:cmpop .NotEq (.ref (len g3+16)) (.ref (len g4+16)) (LW2 held (tlL A B (N x) (N (loK s here.length)) (N 0)) s o15 g5)=(onL (nth (LW2 held (tlL A B (N x) (N (loK s here.length)) (N 0)) s o15 g5) (len g3+16)) fun a=>onL (nth (LW2 held (tlL A B (N x) (N (loK s here.length)) (N 0)) s o15 g5) (len g4+16)) fun b=>(do let r ← eqVs a b;some (!r))):=rfl;rw[e0,n4,n5,hfi];show (do let r ← eqVs (nums _) (nums _);some (!r))=_;rw[eqVs_nums];rfl
  have t1:=tst_cmp (n:=n+102) ec es c1;exact ifs_f (n:=n+102) t1
 refine ⟨t++[.list (nums ((setL s).take here.length))]++[.list (nums (lessP (setL (s-1)) here))]++[.list (nums (lessP (setL (s-1)) ((setL s).take here.length)))]++[.list (nums ((setL (s-1)).take (loK s here.length)))],A,B,noc_app (noc_app (noc_app (noc_app tc rfl) rfl) rfl) rfl,?_⟩;have eg:g++(t++[.list (nums ((setL s).take here.length))]++[.list (nums (lessP (setL (s-1)) here))]++[.list (nums (lessP (setL (s-1)) ((setL s).take here.length)))]++[.list (nums ((setL (s-1)).take (loK s here.length)))])=g5:=by
  show _=g++t++_++_++_++_;simp only[List.append_assoc]
 rw[eg];exact (exs_cons s1).trans ((exs_cons s2).trans ((exs_cons s3).trans ((exs_cons s4).trans ((exs_cons s5).trans ((exs_cons s6).trans rfl)))))
end
noncomputable def PL:V→List V→St→Option (V × St):=por pCas pLess
noncomputable abbrev W4 (held:List Nat):St:=[.list (nums held),frL [],.cell (some (.ref 4)),.cell none,.list (nums onesL),.junk,.list (nums (setL 0)),.list (nums (setL 1)),.list (nums (setL 2)),.list (nums (setL 3)),.list (nums (setL 4)),.list (nums (setL 5)),.list (nums (setL 6)),.list [.ref 6,.ref 7,.ref 8,.ref 9,.ref 10,.ref 11,.ref 12],.junk]
noncomputable def lh1:S:=.asg true 112 (.lst [.c (.int 0)])
noncomputable def lh2:S:=.fr false 10 (.call (.c (.bi (.range))) [.c (.int 1),.c (.int 64)]) [.expr (.mcall (.cel 112) 41 [.bin (.Add) (.sub (.cel 112) (.bin (.FloorDiv) (.loc 10) (.c (.int 2)))) (.bin (.Mod) (.loc 10) (.c (.int 2)))])]
noncomputable def lh3:S:=.asg false 109 (.lst [.lst [],.lst [],.lst [],.lst [],.lst [],.lst [],.lst []])
noncomputable def lh4:S:=.fr false 10 (.call (.c (.bi (.range))) [.c (.int 64)]) [.expr (.mcall (.sub (.loc 109) (.sub (.cel 112) (.loc 10))) 41 [.loc 10])]
theorem lv_h1 (held:List Nat):(ops (sig PL) 128).ex gL lh1 [.list (nums held),.ns [(90,.ref 0)],.cell none,.cell none]=some (.next,[.list (nums held),.ns [(90,.ref 0)],.cell (some (.ref 4)),.cell none,.list [N 0]]):=by kernel_rfl
theorem lv_h2 (held:List Nat):(ops (sig PL) 127).ex gL lh2 [.list (nums held),.ns [(90,.ref 0)],.cell (some (.ref 4)),.cell none,.list [N 0]]=some (.next,[.list (nums held),.ns [(90,.ref 0),(10,N 63)],.cell (some (.ref 4)),.cell none,.list (nums onesL),.junk]):=by kernel_rfl
theorem lv_h3 (held:List Nat):(ops (sig PL) 126).ex gL lh3 [.list (nums held),.ns [(90,.ref 0),(10,N 63)],.cell (some (.ref 4)),.cell none,.list (nums onesL),.junk]=some (.next,[.list (nums held),frL [],.cell (some (.ref 4)),.cell none,.list (nums onesL),.junk,.list [],.list [],.list [],.list [],.list [],.list [],.list [],.list [.ref 6,.ref 7,.ref 8,.ref 9,.ref 10,.ref 11,.ref 12]]):=by kernel_rfl
theorem lv_h4 (held:List Nat):(ops (sig PL) 125).ex gL lh4 [.list (nums held),frL [],.cell (some (.ref 4)),.cell none,.list (nums onesL),.junk,.list [],.list [],.list [],.list [],.list [],.list [],.list [],.list [.ref 6,.ref 7,.ref 8,.ref 9,.ref 10,.ref 11,.ref 12]]=some (.next,W4 held):=by kernel_rfl
theorem cas_tab {s k:Nat}(h1:1≤s) (h5:s≤5) (hk:k<lvN s):casChk s k=true:=by
 have key:(upto (lvN s)).all (casChk s)=true:=by
  rcases s with ux | uy | uz | uw | ut | uq | s
  ·omega
  ·exact cas_1
  ·exact cas_2
  ·exact cas_3
  ·exact cas_4
  ·exact cas_5
  ·omega
 exact upto_all key k hk
set_option tactic.hygienic true in
theorem cas_facts {s k:Nat}(h1:1≤s) (h5:s≤5) (hk:k<lvN s):∃ x,nth (setL s) k=some x∧(∃ W0,(ops (sig Lb) 70).call (.st 202) [N k,N s] []=some (.tup [N x,N (loK s k),N 0],W0))∧lessP (setL (s-1)) ((setL s).take k)=(setL (s-1)).take (loK s k):=by
 have t:=cas_tab h1 h5 hk;unfold casChk at t;split at t
 ·rename_i x hx;have t1:=al t;have t2:=ar t;rw[beqL_eq] at t2;refine ⟨x,hx,?_,eq_of_beq t2⟩;split at t1
  ·rename_i vs W0 hc;refine Q02 (eqFs_eq t1) ?_;intro e ux;exact ⟨W0,by rw[hc,e]⟩
  ·exact ft t1
 ·exact ft t
theorem pLess_at {W:St}{la lb:Nat}{sets many:List Nat}(h1:nth W la=some (.list (nums sets))) (h2:nth W lb=some (.list (nums many))) (hne:la≠lb) (nc:noCits W=true) (k1:sets.length≤20) (k2:many.length≤20):pLess (.st 207) [.ref la,.ref lb] W=some (.ref (len W),W++[.list (nums (lessP sets many))]):=by
 have hb:Nat.beq la lb=false:=by
  cases q:Nat.beq la lb with
  | false=>rfl
  | true=>exact absurd (nE q) hne
 show (bif _&&(noCits W&&!Nat.beq la lb) then onL (nth W la) (fun xa=>onL (nth W lb) _) else none)=_;rw[hb,nc,h1,h2];show b0 (natsOf (nums sets)) (fun ux=>b0 (natsOf (nums many)) _)=_;rw[natsOf_nums,natsOf_nums];show (bif Nat.ble (len sets) 20&&Nat.ble (len many) 20 then _ else _)=_;rw[nB (by rw[len_eq];exact k1),nB (by rw[len_eq];exact k2)];rfl
theorem pLess_no {a:Nat}{vs:List V}{W:St}(h:Nat.beq a 207=false):pLess (.st a) vs W=none:=by
 cases q:pLess (.st a) vs W with
 | none=>rfl
 | some y=>
  revert q;refine OSt ?_;intro ux e0 e;obtain rfl:=st_inj e0;revert e;refine OC ?_;rintro ux uy rfl e;revert e;refine ORef ?_;rintro ux rfl e;revert e;refine OC ?_;rintro ux uy rfl e;revert e;refine ORef ?_;rintro ux rfl e;revert e;refine OE ?_;rintro rfl e;have:=bt e;rw[h] at this;exact ft this
theorem pc_lev:LevOk PL where
 less:=fun W la lb sets many h1 h2 hne nc k1 k2=>by
  unfold PL por;rw[show pCas (.st 207) [.ref la,.ref lb] W=none by unfold pCas canon;rfl];dsimp only;exact pLess_at h1 h2 hne nc k1 k2
 cas:=fun W s k x h1 h5 hk hx nc=>by
  refine Q13 (cas_facts h1 h5 hk) ?_;rintro x' hx' ⟨W0,hc⟩ ux;rw[hx] at hx';cases hx';unfold PL por;rw[show pCas (.st 202) [N k,N s] W=some (.tup [N x,N (loK s k),N 0],W) from canon_at (σ:=[]) (W0:=[]) rfl nc rfl rfl rfl rfl hc rfl rfl]
 bi:=fun c vs W=>rfl
 none':=fun vs W=>by
  unfold PL por;rw[show pCas (.st 212) vs W=none by unfold pCas canon;rfl];dsimp only;exact pLess_no rfl
theorem pl_ok {b:BS}(H:Here b):PrimOk b 250 PL:=por_ok (cas_prim H) (less_prim H) (by exact nL rfl)
theorem set_len:∀ k,(setL k).length≤20:=fun k=>by
 rcases k with ux | uy | uz | uw | ut | uq | u1x | k
 ·decide +kernel
 ·decide +kernel
 ·decide +kernel
 ·decide +kernel
 ·decide +kernel
 ·decide +kernel
 ·decide +kernel
 ·have:setL (k+7)=[]:=by
   unfold setL;rw[List.filter_eq_nil_iff];intro n ux h;have h:=nE h;have m:∀ f x,pop f x≤f:=by
    intro f;induction f with
    | zero=>intro x;exact Nat.le_refl _
    | succ f ih=>intro x;show x%2+pop f (x/2)≤f+1;have:=ih (x/2);omega
   have:=m 6 n;unfold popC at h;exact Nat.not_le_of_lt (lq1 [_,_] (.a (.k 6) (.k 1)) (.v 0) (.a (.v 1) (.k 7)) (.v 0) (Nat.le_of_eq h.symm) rfl) this
  rw[this];exact Nat.zero_le _
theorem lv5_len:∀ s,1≤s→s≤5→(lv5 s).length<lvN s:=fun s h1 h5=>by
 rcases s with ux | uy | uz | uw | ut | uq | s
 ·omega
 ·decide +kernel
 ·decide +kernel
 ·decide +kernel
 ·decide +kernel
 ·decide +kernel
 ·omega
theorem lo_le:∀ s k,1≤s→s≤5→k<lvN s→loK s k≤20:=fun s k h1 h5 hk=>by
 have t:(upto 6).all (fun s=>(upto 12).all fun k=>Nat.ble (loK s k) 20)=true:=by decide +kernel
 have hk12:k<12:=by
  have:lvN s≤11:=by rcases s with ux | uy | uz | uw | ut | uq | s<;>first | omega | decide
  exact lq2 [_,_] (.a (.v 0) (.k 1)) (.k 12) (.v 1) (.k 11) (.a (.v 0) (.k 1)) (.v 1) this hk rfl
 exact nL (upto_all (upto_all t s (by exact lq1 [_] (.a (.v 0) (.k 1)) (.k 6) (.v 0) (.k 5) h5 rfl)) k hk12)
section
variable {n:Nat}{P:Nat→Bool}
theorem sub_lv5 (P:Nat→Bool) (s:Nat):(((upto 32).filter P).filter fun n=>Nat.beq (popC n) s).Sublist (lv5 s):=by
 rw[List.filter_filter];have:(fun a=>(Nat.beq (popC a) s)&&P a)=fun a=>P a&&Nat.beq (popC a) s:=by funext a;exact Bool.and_comm _ _
 rw[this,← List.filter_filter];exact List.filter_sublist
theorem lv_sizes (P:Nat→Bool):∀ (c s:Nat) (cv:Option V) (tl:List (Nat × V)) (g:St) (n:Nat),s+c=6→1≤s→tlL0 tl→noCits g=true →
  ∃ cv' tl' g',(ops (sig PL) (n+c+115)).frs gL true 97 15 lvB (LH ((upto 32).filter P) (frL tl) cv (.rit (.ofNat s) (.ofNat c) 1) g)=some (.next,LH ((upto 32).filter P) (frL tl') cv' .junk g'):=by
 intro z0;induction z0 with
 | zero=>
  intro s cv tl g n hs h1 ht hg;refine ⟨cv,tl,g,?_⟩;rw[show n+0+115=(n+114)+1 from rfl];refine frs_end rfl ?_;rw[show n+114=(n+113)+1 from rfl,o_nxt];show nxRit 15 (.ofNat s) (.ofNat 0) 1 _=_;rw[rit_end];rfl
 | succ c ih0=>
  intro s cv tl g n hs h1 ht hg;have h5:s≤5:=by exact lq1 [_,_] (.v 0) (.k 5) (.a (.v 0) (.a (.v 1) (.k 1))) (.k 6) (Nat.le_of_eq hs) rfl
  let held:=(upto 32).filter P
  have hh:∀ x∈held,x<32:=fun x hx=>upto_mem.mp (List.mem_filter.mp hx).1;have hl:held.length≤40:=by
   have:held.length≤(upto 32).length:=List.length_filter_le _ _;have e:(upto 32).length=32:=by rw[upto_range,List.length_range]
   exact lq2 [_,_] (.v 0) (.k 40) (.v 1) (.k 32) (.v 0) (.v 1) (Nat.le_of_eq e) this rfl
  have sb:=sub_lv5 P s;have hk:(held.filter fun n=>Nat.beq (popC n) s).length<lvN s:=Nat.lt_of_le_of_lt sb.length_le (lv5_len s h1 h5);refine Q13 (cas_facts h1 h5 hk) ?_;intro x hx ux hfi;have hkk:=kk h1 h5 sb;rw[len_eq,len_eq] at hkk;have hlb:=lo_le s _ h1 h5 hk;obtain ⟨g',A,B,hg',hb⟩:∃ g' A B,noCits g'=true∧(ops (sig PL) (n+c+5+110)).exs gL lvB (LW2 held tl s (.rit (.ofNat (s+1)) (.ofNat c) 1) g)=some (.next,LW2 held (tlL A B (N x) (N (loK s (held.filter fun n=>Nat.beq (popC n) s).length)) (N 0)) s (.rit (.ofNat (s+1)) (.ofNat c) 1) (g++g')):=by
   rcases ht with rfl | ⟨a,b,c',d,e,rfl⟩
   ·exact lv_body (U1:=fun A=>[(113,A)]) (U2:=fun A B=>[(113,A),(114,B)]) (.inl rfl) (fun ux uy=>rfl) (fun ux uy uz=>rfl) (fun ux uy uz uw ut uq=>rfl) (fun ux uy=>rfl) (fun ux uy uz=>rfl) (n:=n+c+5) (held:=held) (s:=s) (g:=g) (o15:=.rit (.ofNat (s+1)) (.ofNat c) 1) (P:=pc_lev) hh hl h1 h5 rfl hg rfl hk hx hkk hfi set_len hlb
   ·exact lv_body (U1:=fun A=>tlL A b c' d e) (U2:=fun A B=>tlL A B c' d e) (.inr ⟨_,_,_,_,_,rfl⟩) (fun ux uy=>rfl) (fun ux uy uz=>rfl) (fun ux uy uz uw ut uq=>rfl) (fun ux uy=>rfl) (fun ux uy uz=>rfl) (n:=n+c+5) (held:=held) (s:=s) (g:=g) (o15:=.rit (.ofNat (s+1)) (.ofNat c) 1) (P:=pc_lev) hh hl h1 h5 rfl hg rfl hk hx hkk hfi set_len hlb
  refine Q31 (ih0 (s+1) (some (N s)) (tlL A B (N x) (N (loK s (held.filter fun n=>Nat.beq (popC n) s).length)) (N 0)) (g++g') n (by exact eq1 [_,_] (.a (.a (.v 0) (.k 1)) (.v 1)) (.k 6) (.a (.v 0) (.a (.v 1) (.k 1))) (.k 6) hs rfl rfl) (by omega) (.inr ⟨_,_,_,_,_,rfl⟩) (noc_app hg hg')) ?_;intro cv' tl' g2 k1;refine ⟨cv',tl',g2,?_⟩;have nx:(ops (sig PL) (n+c+115)).nxt 15 (LH held (frL tl) cv (.rit (.ofNat s) (.ofNat (c+1)) 1) g)=some (some (N s),LH held (frL tl) cv (.rit (.ofNat (s+1)) (.ofNat c) 1) g):=by
   rw[show n+c+115=(n+c+114)+1 from rfl,o_nxt];show nxRit 15 (.ofNat s) (.ofNat (c+1)) 1 _=_;rw[rit_next];rfl
  have st:stName gL true 97 (N s) (LH held (frL tl) cv (.rit (.ofNat (s+1)) (.ofNat c) 1) g)=some (LW2 held tl s (.rit (.ofNat (s+1)) (.ofNat c) 1) g):=rfl;rw[show n+(c+1)+115=(n+c+115)+1 by exact rfl];rw[show n+c+5+110=n+c+115 by exact rfl] at hb;exact (frs_next (n:=n+c+115) rfl nx st hb).trans k1
theorem lv_rng (W:St):(ops (sig PL) 123).ev gL (.call (.c (.bi (.range))) [.c (.int 1),.c (.int 6)]) W=some (.range 1 6 1,W):=by
 have cr:(ops (sig PL) 122).call (.bi .range) [.int 1,.int 6] W=some (.range 1 6 1,W):=by
  rw[show (122:Nat)=121+1 from rfl,call_bi pc_lev.bi];rfl
 exact (x_call (n:=122) (W1:=W) (fv:=.bi .range) (vs:=[.int 1,.int 6]) rfl rfl).trans cr
theorem lv_fr {W W2:St}{R:Option (Fl × St)}(h1:iterOf (.range 1 6 1) W=some (15,W2)) (h2:(ops (sig PL) 123).frs gL true 97 15 lvB W2=R):(ops (sig PL) 124).ex gL (.fr true 97 (.call (.c (.bi (.range))) [.c (.int 1),.c (.int 6)]) lvB) W=R:=(x_fr (n:=123) (lv_rng W) h1).trans h2
theorem lv_it (held:List Nat):iterOf (.range 1 6 1) (W4 held)=some (15,LH held (frL []) none (.rit (.ofNat 1) (.ofNat 5) 1) []):=by kernel_rfl
theorem lev_e0 (held:List Nat):callFD (ops (sig PL) 129) fd212 [.ref 0] [.list (nums held)]=b1 ((ops (sig PL) 129).exs gL [lh1,lh2,lh3,lh4,.fr true 97 (.call (.c (.bi (.range))) [.c (.int 1),.c (.int 6)]) lvB,.ret (.c (.bool true))] [.list (nums held),.ns [(90,.ref 0)],.cell none,.cell none]) cRet:=by kernel_rfl
theorem lev_ev (P:Nat→Bool):∃ W',(ops (sig PL) 130).call (.st 212) [.ref 0] [.list (nums ((upto 32).filter P))]=some (.bool true,.list (nums ((upto 32).filter P))::W'):=by
 let held:=(upto 32).filter P
 refine Q31 (lv_sizes P 5 1 none [] [] 3 rfl (Nat.le_refl _) (.inl rfl) rfl) ?_;intro cv' tl' g' hs;rw[show 3+5+115=123 from rfl] at hs;refine ⟨(LH held (frL tl') cv' .junk g').tail,?_⟩;rw[show (130:Nat)=129+1 from rfl,call_st (pc_lev.none' _ _) rfl rfl];have e0:callFD (ops (sig PL) 129) fd212 [.ref 0] [.list (nums held)]=b1 ((ops (sig PL) 129).exs gL [lh1,lh2,lh3,lh4,.fr true 97 (.call (.c (.bi (.range))) [.c (.int 1),.c (.int 6)]) lvB,.ret (.c (.bool true))] [.list (nums held),.ns [(90,.ref 0)],.cell none,.cell none]) cRet:=lev_e0 held;have s5:=lv_fr (lv_it held) hs;have s6:(ops (sig PL) 123).ex gL (.ret (.c (.bool true))) (LH held (frL tl') cv' .junk g')=some (.ret (.bool true),LH held (frL tl') cv' .junk g'):=rfl;rw[e0,show (129:Nat)=128+1 from rfl,exs_cons (lv_h1 held),show (128:Nat)=127+1 from rfl,exs_cons (lv_h2 held),show (127:Nat)=126+1 from rfl,exs_cons (lv_h3 held),show (126:Nat)=125+1 from rfl,exs_cons (lv_h4 held),show (125:Nat)=124+1 from rfl,exs_cons s5,show (124:Nat)=123+1 from rfl,exs_ret s6];rfl
end
noncomputable def pLev (P:Nat→Bool) (f:V) (vs:List V) (W:St):Option (V × St):=onSt f fun a=>onC vs fun x vs=>onRef x fun l=>onE vs (bif Nat.beq a 212&&noCits W then (onL (nth W l) fun ws=>bif eqFs ws (nums ((upto 32).filter P)) then some (.bool true,W) else none) else none)
theorem lev_prim {b:BS}(H:Here b) (P:Nat→Bool):PrimOk b 380 (pLev P):=by
 intro f vs W v W' fx xs A kp ρ s Q E e;revert e;refine OSt ?_;rintro a rfl e;revert e;refine OC ?_;rintro ux uy rfl e;revert e;refine ORef ?_;rintro l rfl e;revert e;refine OE ?_;rintro rfl e;revert e;refine Bt ?_;intro z e;have z1:=al z;have zc:=ar z;have:=nE z1;subst this;revert e;refine OL ?_;intro ws hw e;revert e;refine Bt ?_;intro z2 e;refine Q02 (pj e) ?_;rintro rfl rfl;refine Q02 (eqFs_eq z2) ?_;rintro rfl ux;refine Q11 (lev_ev P) ?_;intro W1 hc;exact ⟨rfl,fun h1 h2 hA R h=>flat1 (pre:=[]) (post:=[]) (sound H (pl_ok H) 130) hc (eqFs_nums _) rfl rfl rfl hw zc h1 h2 (hA.le (by exact nL rfl)) R h⟩
noncomputable def repChk (r e n:Nat):Bool:=fLc (mailOf r e n) fun w=>beqL (replS [34] [92,34] (replS [92] [92,92] w)) (escQ w)&&(w.all (Nat.blt · 128)&&Nat.ble (len (replS [92] [92,92] w)) 1000)
where
 fLc {α:Type}(l:List Nat) (k:List Nat→α):α:=k l
theorem rep_0_0:(upto 32).all (repChk 0 0)=true:=by decide +kernel
theorem rep_0_1:(upto 32).all (repChk 0 1)=true:=by decide +kernel
theorem rep_0_2:(upto 32).all (repChk 0 2)=true:=by decide +kernel
theorem rep_1_0:(upto 32).all (repChk 1 0)=true:=by decide +kernel
theorem rep_1_1:(upto 32).all (repChk 1 1)=true:=by decide +kernel
theorem rep_1_2:(upto 32).all (repChk 1 2)=true:=by decide +kernel
theorem rep_2_0:(upto 32).all (repChk 2 0)=true:=by decide +kernel
theorem rep_2_1:(upto 32).all (repChk 2 1)=true:=by decide +kernel
theorem rep_2_2:(upto 32).all (repChk 2 2)=true:=by decide +kernel
theorem rep_3_0:(upto 32).all (repChk 3 0)=true:=by decide +kernel
theorem rep_3_1:(upto 32).all (repChk 3 1)=true:=by decide +kernel
theorem rep_3_2:(upto 32).all (repChk 3 2)=true:=by decide +kernel
theorem rep_4_0:(upto 32).all (repChk 4 0)=true:=by decide +kernel
theorem rep_4_1:(upto 32).all (repChk 4 1)=true:=by decide +kernel
theorem rep_4_2:(upto 32).all (repChk 4 2)=true:=by decide +kernel
theorem rep_5_0:(upto 32).all (repChk 5 0)=true:=by decide +kernel
theorem rep_5_1:(upto 32).all (repChk 5 1)=true:=by decide +kernel
theorem rep_5_2:(upto 32).all (repChk 5 2)=true:=by decide +kernel
theorem rep_key:∀ r e:Nat,r<6→e<3→(upto 32).all (repChk r e)=true:=fun r e hr=>lt6 (P:=fun r=>∀ e,e<3→(upto 32).all (repChk r e)=true) (lt3 rep_0_0 rep_0_1 rep_0_2) (lt3 rep_1_0 rep_1_1 rep_1_2) (lt3 rep_2_0 rep_2_1 rep_2_2) (lt3 rep_3_0 rep_3_1 rep_3_2) (lt3 rep_4_0 rep_4_1 rep_4_2) (lt3 rep_5_0 rep_5_1 rep_5_2) r hr e
theorem rep_tab {r e n:Nat}(hr:r<6) (he:e<3) (hn:n<32):replS [34] [92,34] (replS [92] [92,92] (mailOf r e n))=escQ (mailOf r e n)∧(mailOf r e n).all (Nat.blt · 128)=true∧len (replS [92] [92,92] (mailOf r e n))≤1000:=by
 have t:=upto_all (rep_key r e hr he) n hn;unfold repChk repChk.fLc at t;have a:=al t;have b:=ar t;have c:=ar b;have b:=al b;rw[beqL_eq] at a;exact ⟨eq_of_beq a,b,nL c⟩
noncomputable abbrev G1:Sig:=sigR noPrim
noncomputable def bareP (l:List Nat):List V:=l.map fun c=>.str [92,c]
noncomputable abbrev frW (w:List Nat) (b:Nat):O:=.ns [(73,.str w),(74,N b)]
noncomputable def tl72 (tl:List (Nat × V)):Prop:=tl=[]∨∃ v,tl=[(72,v)]
theorem w_loop {w:List Nat}(hw:w.length≤900) (b:Nat):∀ (r:List Nat) (i:Nat) (acc:List V) (tl:List (Nat × V)) (n:Nat),w.drop i=r→tl72 tl→acc.length+r.length≤900 →
  ∃ tl',(ops G1 (n+r.length+20)).cpl ⟨3,[]⟩ (.bin (.Add) (.c (.str [92])) (.loc 72)) false 72 1 [] 2 [frW w b,.sit w i,.list acc,.ns tl]=some [frW w b,.junk,.list (acc++bareP r),.ns tl']:=by
 intro z0;induction z0 with
 | nil=>
  intro i acc tl n h ht ha;have hn:nth w i=none:=by rw[nth_eq,List.getElem?_eq_none (List.drop_eq_nil_iff.mp h)]
  refine ⟨tl,?_⟩;rw[show n+([]:List Nat).length+20=(n+19)+1 from rfl,cpl_end (n:=n+19) (W1:=[frW w b,.junk,.list acc,.ns tl]) rfl]
  ·show _=some [frW w b,O.junk,O.list (acc++[]),O.ns tl];rw[List.append_nil]
  ·simp only[o_nxt,stepNxt,Zx,Zy,nxSit,hn,J4,J5]
 | cons c r ih0=>
  intro i acc tl n h ht ha;refine Q03 (drop_cons' h) ?_;intro h1 h2 h3;have hn:nth w i=some c:=by rw[nth_eq];exact h2
  have hla:acc.length+(r.length+1)≤900:=ha;rw[show n+(c::r).length+20=(n+r.length+20)+1 by rw[List.length_cons];exact rfl];refine Q11 (ih0 (i+1) (acc++[.str [92,c]]) [(72,.str [c])] n h3 (.inr ⟨_,rfl⟩) (by rw[List.length_append,List.length_singleton];exact lq1 [_,_] (.a (.a (.v 0) (.k 1)) (.v 1)) (.k 900) (.a (.v 0) (.a (.v 1) (.k 1))) (.k 900) hla rfl)) ?_;intro tl' k1;refine ⟨tl',?_⟩;have nx:(ops G1 (n+r.length+20)).nxt 1 [frW w b,.sit w i,.list acc,.ns tl]=some (some (.str [c]),[frW w b,.sit w (i+1),.list acc,.ns tl]):=by
   rw[show n+r.length+20=(n+r.length+19)+1 from rfl];simp only[o_nxt,stepNxt,Zx,Zy,nxSit,hn,J4,J5]
  have st:stName ⟨3,[]⟩ false 72 (.str [c]) [frW w b,.sit w (i+1),.list acc,.ns tl]=some [frW w b,.sit w (i+1),.list acc,.ns [(72,.str [c])]]:=by
   rcases ht with rfl | ⟨v,rfl⟩<;>rfl
  have lb:Nat.ble (len acc) lstMax=true:=by rw[len_eq];exact nB (by show _≤100000;omega)
  have ev:(ops G1 (n+r.length+20)).ev ⟨3,[]⟩ (.bin (.Add) (.c (.str [92])) (.loc 72)) [frW w b,.sit w (i+1),.list acc,.ns [(72,.str [c])]]=some (.str [92,c],[frW w b,.sit w (i+1),.list acc,.ns [(72,.str [c])]]):=by
   rw[show n+r.length+20=(n+r.length+18)+2 from rfl];rfl
  rw[cpl_take rfl nx st rfl ev rfl lb];have sa:setAt [frW w b,.sit w (i+1),.list acc,.ns [(72,.str [c])]] 2 (.list (acc++[.str [92,c]]))=[frW w b,.sit w (i+1),.list (acc++[.str [92,c]]),.ns [(72,.str [c])]]:=rfl;rw[sa,k1,List.append_assoc];rfl
theorem bare_strs:∀ w:List Nat,strsOf (bareP w)=some (w.map fun c=>[92,c]):=by
 intro z0;induction z0 with
 | nil=>
  exact rfl
 | cons c w ih0=>
  show (do let s ← strsOf (bareP w);some ([92,c]::s))=_;rw[ih0];rfl
theorem flat_escB:∀ w:List Nat,(w.map fun c=>[92,c]).flatten=escB w:=by
 intro z0;induction z0 with
 | nil=>
  exact rfl
 | cons c w ih0=>
  show [92,c]++(w.map fun c=>[92,c]).flatten=_;rw[ih0];rfl
theorem join_bare {w:List Nat}(hw:w.length≤100):JoinOk (mkS []) ((w.map fun c=>[92,c]).map mkS)=true∧joinS [] (w.map fun c=>[92,c])=escB w:=by
 constructor
 ·exact flat_ok (fun p hp=>by obtain ⟨c,ux,rfl⟩:=List.mem_map.mp hp;show 2≤1000;exact nL rfl) (by rw[List.length_map];exact lT hw (nL rfl))
 ·unfold joinS;rw[flat_join,flat_escB]
theorem bare_ev {w:List Nat}(hw:w.length≤40) (ha:w.all (Nat.blt · 128)=true):∃ W',(ops G1 80).exs ⟨0,[]⟩ fd171.body [frW w 1]=some (.ret (.str (escB w++[9])),W'):=by
 refine bC fun hN=>?_;refine Q11 (w_loop (by exact lT hw (nL rfl):w.length≤900) 1 w 0 [] [] (52-w.length) rfl (.inl rfl) (by show 0+_≤_;exact lq1 [_] (.a (.k 0) (.v 0)) (.k 900) (.v 0) (.k 40) hw rfl)) ?_;intro tl' h;rw[show 52-w.length+w.length+20=72 by exact eq1 [_,_] (.a (.a (.v 0) (.v 1)) (.k 20)) (.k 72) (.a (.v 0) (.v 1)) (.k 52) (Nat.sub_add_cancel (lT hw (nL rfl))) rfl rfl,List.nil_append] at h;refine Q02 (join_bare (w:=w) (by exact lT hw (nL rfl))) ?_;intro j1 j2;have hl2:∀ v:List Nat,len (escB v)=2*len v:=fun v=>by
  induction v with
  | nil=>rfl
  | cons c v ih=>show len (escB v)+1+1=2*(len v+1);exact eq1 [_,_] (.a (.a (.v 0) (.k 1)) (.k 1)) (.m 2 (.a (.v 1) (.k 1))) (.v 0) (.m 2 (.v 1)) ih rfl rfl
 refine hN ?_;refine ⟨[frW w 1,.junk,.list (bareP w),.junk],?_⟩;have ec:(ops G1 73).ev ⟨0,[]⟩ (.comp (.bin (.Add) (.c (.str [92])) (.loc 72)) false 72 (.loc 73) [] [] []) [frW w 1]=some (.ref 2,[frW w 1,.junk,.list (bareP w),.junk]):=by
  have it:iterOf (.str w) [frW w 1]=some (1,[frW w 1,.sit w 0]):=by
   show (bif w.all (Nat.blt · 128) then _ else none)=_;rw[ha];rfl
  have e0:(ops G1 73).ev ⟨0,[]⟩ (.comp (.bin (.Add) (.c (.str [92])) (.loc 72)) false 72 (.loc 73) [] [] []) [frW w 1]=eComp (ops G1 72) ⟨0,[]⟩ (.bin (.Add) (.c (.str [92])) (.loc 72)) false 72 [] [] [] (.str w) [frW w 1]:=rfl;rw[e0];unfold eComp;rw[it];show b0 ((ops G1 72).cpl ⟨3,[]⟩ (.bin (.Add) (.c (.str [92])) (.loc 72)) false 72 1 [] 2 [frW w 1,.sit w 0,.list [],.ns []]) _=_;rw[h];rfl
 have m1:∀ W,findM G1 (.str []) 75 W=some none:=fun W=>rfl;have js:meth G1 (.str []) 75 [.ref 2] [frW w 1,.junk,.list (bareP w),.junk]=some (.str (escB w),[frW w 1,.junk,.list (bareP w),.junk]):=by
  show ((strsOf (bareP w)).bind fun ss=>bif JoinOk (mkS []) (ss.map mkS) then some (V.str (joinS [] ss),[frW w 1,.junk,.list (bareP w),.junk]) else none)=_;rw[bare_strs];show (bif JoinOk (mkS []) ((w.map fun c=>[92,c]).map mkS) then some (V.str (joinS [] (w.map fun c=>[92,c])),_) else none)=_;rw[j1,j2];rfl
 have ea:(ops G1 74).evs ⟨0,[]⟩ [.comp (.bin (.Add) (.c (.str [92])) (.loc 72)) false 72 (.loc 73) [] [] []] [frW w 1]=some ([.ref 2],[frW w 1,.junk,.list (bareP w),.junk]):=by
  have e0:(ops G1 74).evs ⟨0,[]⟩ [.comp (.bin (.Add) (.c (.str [92])) (.loc 72)) false 72 (.loc 73) [] [] []] [frW w 1]=b1 ((ops G1 73).ev ⟨0,[]⟩ (.comp (.bin (.Add) (.c (.str [92])) (.loc 72)) false 72 (.loc 73) [] [] []) [frW w 1]) fun v W=>some ([v],W):=rfl;rw[e0,ec];rfl
 have ej:(ops G1 75).ev ⟨0,[]⟩ (.mcall (.c (.str [])) 75 [.comp (.bin (.Add) (.c (.str [92])) (.loc 72)) false 72 (.loc 73) [] [] []]) [frW w 1]=some (.str (escB w),[frW w 1,.junk,.list (bareP w),.junk]):=by
  have e0:(ops G1 75).ev ⟨0,[]⟩ (.mcall (.c (.str [])) 75 [.comp (.bin (.Add) (.c (.str [92])) (.loc 72)) false 72 (.loc 73) [] [] []]) [frW w 1]=b1 ((ops G1 74).evs ⟨0,[]⟩ [.comp (.bin (.Add) (.c (.str [92])) (.loc 72)) false 72 (.loc 73) [] [] []] [frW w 1]) fun vs W=>meth G1 (.str []) 75 vs W:=rfl;rw[e0,ea];exact js
 have eb:(ops G1 76).ev ⟨0,[]⟩ (.bin (.Add) (.mcall (.c (.str [])) 75 [.comp (.bin (.Add) (.c (.str [92])) (.loc 72)) false 72 (.loc 73) [] [] []]) (.c (.str [9]))) [frW w 1]=some (.str (escB w++[9]),[frW w 1,.junk,.list (bareP w),.junk]):=by
  have e0:(ops G1 76).ev ⟨0,[]⟩ (.bin (.Add) (.mcall (.c (.str [])) 75 [.comp (.bin (.Add) (.c (.str [92])) (.loc 72)) false 72 (.loc 73) [] [] []]) (.c (.str [9]))) [frW w 1]=b1 ((ops G1 75).ev ⟨0,[]⟩ (.mcall (.c (.str [])) 75 [.comp (.bin (.Add) (.c (.str [92])) (.loc 72)) false 72 (.loc 73) [] [] []]) [frW w 1]) fun a W=>binop .Add a (.str [9]) W:=rfl;rw[e0,ej];show (bif Nat.ble (len (escB w)+1) strMax then some (V.str (escB w++[9]),_) else none)=_;rw[hl2,nB (by rw[len_eq];show 2*w.length+1≤1000000;exact lq2 [_] (.a (.m 2 (.v 0)) (.k 1)) (.k 1000000) (.v 0) (.k 40) (.v 0) (.k 40) hw hw rfl)];rfl
 have s1:(ops G1 79).ex ⟨0,[]⟩ (.ifs (.loc 74) [.ret (.bin (.Add) (.mcall (.c (.str [])) 75 [.comp (.bin (.Add) (.c (.str [92])) (.loc 72)) false 72 (.loc 73) [] [] []]) (.c (.str [9])))] []) [frW w 1]=some (.ret (.str (escB w++[9])),[frW w 1,.junk,.list (bareP w),.junk]):=by
  have t:(ops G1 78).tst ⟨0,[]⟩ (.loc 74) [frW w 1]=some (true,[frW w 1]):=rfl;refine (ifs_t (n:=78) t).trans (exs_ret (n:=77) ?_);have e0:(ops G1 77).ex ⟨0,[]⟩ (.ret (.bin (.Add) (.mcall (.c (.str [])) 75 [.comp (.bin (.Add) (.c (.str [92])) (.loc 72)) false 72 (.loc 73) [] [] []]) (.c (.str [9])))) [frW w 1]=b1 ((ops G1 76).ev ⟨0,[]⟩ (.bin (.Add) (.mcall (.c (.str [])) 75 [.comp (.bin (.Add) (.c (.str [92])) (.loc 72)) false 72 (.loc 73) [] [] []]) (.c (.str [9]))) [frW w 1]) fun v W=>some (Fl.ret v,W):=rfl;rw[e0,eb];rfl
 exact exs_ret (n:=79) s1
theorem escQ_len:∀ w:List Nat,len (escQ w)≤2*len w:=by
 intro z0;induction z0 with
 | nil=>
  exact Nat.le_refl _
 | cons c w ih0=>
  have h:=ih0;have:len (esc1 c)≤2:=by
   unfold esc1;cases Nat.beq c 34<;>cases Nat.beq c 92<;>first | exact Nat.le_refl _ | (show 1≤2;exact nL rfl)
  show len (esc1 c++escQ w)≤2*(len w+1);rw[len_app];exact lq2 [_,_,_] (.a (.v 0) (.v 1)) (.m 2 (.a (.v 2) (.k 1))) (.v 0) (.k 2) (.v 1) (.m 2 (.v 2)) this h rfl
theorem quo_ev {w:List Nat}(hw:w.length≤40) (hr:replS [34] [92,34] (replS [92] [92,92] w)=escQ w) (hu:len (replS [92] [92,92] w)≤1000):∃ W',(ops G1 80).exs ⟨0,[]⟩ fd171.body [frW w 0]=some (.ret (.str (34::escQ w++[34])),W'):=by
 have hq:=escQ_len w;rw[len_eq w] at hq;refine ⟨[frW w 0],?_⟩;have s1:(ops G1 79).ex ⟨0,[]⟩ (.ifs (.loc 74) [.ret (.bin (.Add) (.mcall (.c (.str [])) 75 [.comp (.bin (.Add) (.c (.str [92])) (.loc 72)) false 72 (.loc 73) [] [] []]) (.c (.str [9])))] []) [frW w 0]=some (.next,[frW w 0]):=rfl;have r1:eRepl [92] [92,92] (.str w) [frW w 0]=some (.str (replS [92] [92,92] w),[frW w 0]):=by
  show (bif Nat.ble (len w) strMax&&true&&true then some (V.str (replS [92] [92,92] w),[frW w 0]) else none)=_;rw[nB (by rw[len_eq];show w.length≤1000000;exact lT hw (nL rfl))];rfl
 have r2:eRepl [34] [92,34] (.str (replS [92] [92,92] w)) [frW w 0]=some (.str (escQ w),[frW w 0]):=by
  show (bif Nat.ble (len (replS [92] [92,92] w)) strMax&&true&&true then some (V.str (replS [34] [92,34] (replS [92] [92,92] w)),[frW w 0]) else none)=_;rw[nB (by show _≤1000000;omega),hr];rfl
 have e2:(ops G1 75).ev ⟨0,[]⟩ (.repl (.repl (.loc 73) [92] [92,92]) [34] [92,34]) [frW w 0]=b1 (eRepl [92] [92,92] (.str w) [frW w 0]) fun o W=>eRepl [34] [92,34] o W:=rfl;have e3:(ops G1 77).ev ⟨0,[]⟩ (.bin (.Add) (.bin (.Add) (.c (.str [34])) (.repl (.repl (.loc 73) [92] [92,92]) [34] [92,34])) (.c (.str [34]))) [frW w 0]=b1 (b1 ((ops G1 75).ev ⟨0,[]⟩ (.repl (.repl (.loc 73) [92] [92,92]) [34] [92,34]) [frW w 0]) fun b W=>binop .Add (.str [34]) b W) fun a W=>binop .Add a (.str [34]) W:=rfl;have e4:(ops G1 77).ev ⟨0,[]⟩ (.bin (.Add) (.bin (.Add) (.c (.str [34])) (.repl (.repl (.loc 73) [92] [92,92]) [34] [92,34])) (.c (.str [34]))) [frW w 0]=some (.str (34::escQ w++[34]),[frW w 0]):=by
  rw[e3,e2,r1];simp only[b1,r2];have g1:Nat.ble (len [34]+len (escQ w)) strMax=true:=nB (by show 1+len (escQ w)≤1000000;exact lq3 [_,_] (.a (.k 1) (.v 0)) (.k 1000000) (.v 0) (.m 2 (.v 1)) (.v 1) (.k 40) (.v 1) (.k 40) hq hw hw rfl);have g2:Nat.ble (len ([34]++escQ w)+len [34]) strMax=true:=nB (by rw[len_app];show 1+len (escQ w)+1≤1000000;exact lq3 [_,_] (.a (.a (.k 1) (.v 0)) (.k 1)) (.k 1000000) (.v 0) (.m 2 (.v 1)) (.v 1) (.k 40) (.v 1) (.k 40) hq hw hw rfl);simp only[binop,g1,g2,cond_true,JS,JK,JU];rfl
 have s2:(ops G1 78).ex ⟨0,[]⟩ (.ret (.bin (.Add) (.bin (.Add) (.c (.str [34])) (.repl (.repl (.loc 73) [92] [92,92]) [34] [92,34])) (.c (.str [34])))) [frW w 0]=some (.ret (.str (34::escQ w++[34])),[frW w 0]):=by
  have e0:(ops G1 78).ex ⟨0,[]⟩ (.ret (.bin (.Add) (.bin (.Add) (.c (.str [34])) (.repl (.repl (.loc 73) [92] [92,92]) [34] [92,34])) (.c (.str [34])))) [frW w 0]=b1 ((ops G1 77).ev ⟨0,[]⟩ (.bin (.Add) (.bin (.Add) (.c (.str [34])) (.repl (.repl (.loc 73) [92] [92,92]) [34] [92,34])) (.c (.str [34]))) [frW w 0]) fun v W=>some (Fl.ret v,W):=rfl;rw[e0,e4];rfl
 exact (exs_cons s1).trans (exs_ret s2)
noncomputable abbrev BS.up (b:BS):BS:={ b with tk0:=1 }
section
variable {b:BS}{kp:Kp}{ρ:List Addr}{W:St}{s:Shared}{A:Around}{E:Value→Shared→Prop}
theorem SR.to1 (R:SR b kp ρ W s) (h:1≤s.toks):SR b.up kp ρ W s:=⟨R.len,R.keep,R.base,R.rel,R.apart,R.off,R.lo,R.kptab,R.tab,R.os,R.gens,R.sz,h⟩
theorem SR.to0 (R:SR b.up kp ρ W s) (h:b.tk0≤1):SR b kp ρ W s:=⟨R.len,R.keep,R.base,R.rel,R.apart,R.off,R.lo,R.kptab,R.tab,R.os,R.gens,R.sz,lT h R.tk⟩
theorem Here.up (H:Here b):Here b.up:=⟨H.K,H.tabs,H.tq⟩
theorem no_cell {names:List (Str × NameKind)}(h:namesBy ce .cell names=some []):∀ x∈names,x.2≠.cell:=
 namesBy_ind (P:=fun names cs=>cs=[]→∀ x∈names,x.2≠.cell) (fun ux x hx=>nomatch hx) (fun nm j r t y yq ih e=>nomatch e) (fun nm k r t z ih e x hx=>(List.mem_cons.mp hx).elim (fun w=>by rw[w];exact z) (ih e x)) h rfl
theorem s_enter {m:Nat}{r:Ops}{a:Addr}{fd:FD}{fo:Obj}{d:FuncData}{body:List Stmt}{N:Nat}{vs:List V}{v:V}{W':St}{xs:List Value}{Q:Value→Shared→Prop}(h0:b.tk0≤1) (S:Sound b.up m r) (F:FnIs b a fd fo d body N) (hc:fd.cells=[]) (hps:fd.ps≠[]) (e:callFD r fd vs W=some (v,W')) (hs:VRs kp ρ vs xs) (hA:AOk (m+1) A) (R:SR b kp ρ W s)
  (h:Back b kp ρ W' (fun kp ρ y=>VR kp ρ v y) Q):codeAny (model b.prog b.w) A (.call (.ref a) ⟨xs,[]⟩) (CallBack Q E) s:=by
 unfold callFD at e;rw[hc] at e;revert e;refine B0 ?_;intro bs e1 e;revert e;refine B0 ?_;intro W₄ e2 e;revert e;refine B1 ?_;intro f W₅ e3 e4;refine Q12 (F.bind kp ρ vs xs bs e1 hs) ?_;intro binds hb1 hb2;rw[hc] at hb2;have hnd:((bs++fd.kw).map (·.1)).Nodup:=by rw[List.map_append,zipB_fst e1];exact F.names
 have hce:=F.cells;rw[hc] at hce;have h10:=no_cell hce;have hbl:1≤binds.length:=by
  generalize hq:bs++fd.kw=l at hb2;cases hb2 with
  | nil=>
   have:bs.map (·.1)=[]:=by rw[(List.append_eq_nil_iff.mp hq).1];rfl
   rw[zipB_fst e1] at this;exact absurd this hps
  | cons ux uy uz uw=>exact Nat.succ_le_succ (Nat.zero_le _)
 have hzn:(binds.map (·.1)).Nodup:=by
  have go:∀ {l:List (Nat × V)}{xs:List (Str × Value)},BindsR kp ρ d.scope [] l xs→(l.map (·.1)).Nodup→(xs.map (·.1)).Nodup:=by
   intro l xs hB;induction hB with
   | nil=>intro ux;exact List.nodup_nil
   | @cons i v n x bs xs hi hk hv hB ih=>
    intro hn;rw[List.map_cons] at hn ⊢;refine Q02 (List.nodup_cons.mp hn) ?_;intro n1 n2;refine List.nodup_cons.mpr ⟨fun hm=>?_,ih n2⟩;refine Q12 (List.mem_map.mp hm) ?_;intro p hp hpe;have mm:∀ {l:List (Nat × V)}{xs:List (Str × Value)},BindsR kp ρ d.scope [] l xs→∀ p∈xs,∃ j,idx p.1 tab=some j∧j∈l.map (·.1):=by
     intro l xs hB;induction hB with
     | nil=>intro p hp;cases hp
     | @cons i' v' n' x' bs' xs' hi' hk' hv' hB' ih'=>
      intro p hp;rcases List.mem_cons.mp hp with rfl | hp
      ·exact ⟨i',hi',by rw[List.map_cons];exact .head _⟩
      ·refine Q12 (ih' p hp) ?_;intro j j1 j2;exact ⟨j,j1,by rw[List.map_cons];exact .tail _ j2⟩
    refine Q12 (mm hB p hp) ?_;intro j j1 j2;rw[hpe,hi] at j1;obtain rfl:=sI j1;exact n1 j2
  exact go hb2 hnd
 refine codeAny_call_def hA.room (R.hbGet F.get) F.data R.noLimit (F.code.keeps fun ux uy e=>R.hbGet e) F.fb (hb1 s (fun ux uy e=>R.hbGet e)) h10 (fun x hx=>?_) (fun h' hns hkeep=>?_) F.co F.gen F.kind
 ·refine bC fun hN6=>?_;refine Q12 (hb2.mem x hx) ?_;intro i i1 i2;rcases i2 with ⟨i2,ux⟩ | ⟨uy,i2⟩
  ·exact ft i2
  ·refine hN6 ?_;exact i2
 ·refine Q12 (LCg.ns_obj hns) ?_;intro ob o1 o2;have hz:b.hb.objs.size≤h'.objs.size:=lT R.sz (Nat.le_of_lt (Heap.lt_size o1));have R₁:SR b kp ρ W { s with heap:=h',toks:=s.toks+binds.length }:=R.ext hkeep hz (Nat.le_add_right _ _);have f1:kp s.heap.objs.size=none:=by
   cases q:kp s.heap.objs.size with
   | none=>rfl
   | some ob=>exact absurd (Heap.lt_size (R.keep _ _ q)) (Nat.lt_irrefl _)
  have R₂:=R₁.allocAt (a:=s.heap.objs.size) (o:=.ns []) (fun i o c e ha hc=>Nat.ne_of_lt (R.rhoLt e ha hc)) f1 (fun q hq z=>absurd (R.tabLt hq) (by rw[← z];exact Nat.lt_irrefl _)) R.sz o1 ⟨_,o2,NsR.nil⟩;have hlf:nth (ρ++[s.heap.objs.size]) (len W)=some s.heap.objs.size:=by rw[← R.len,nth_app_len];rfl
  have hC:CellsR d.scope [] [] (ρ++[s.heap.objs.size]):=fun ux uy uz uw ut e=>nomatch e;have R₄:=bind_all (g:=⟨len W,[]⟩) (sc:=d.scope) (cm:=fun ux=>none) (ko:=fun n=>d.scope.names.lookup n) hlf hns hC (fun n c hc ux=>absurd rfl (h10 _ (mem_lookup hc))) (hb2.mono (leR _ _ _))
   (fun n x hx=>⟨fun ux=>zip_lookup hzn hx,fun hc=>absurd rfl (h10 _ (mem_lookup hc))⟩) R₂ (fun o ho=>by rw[nth_app_len] at ho;obtain rfl:=sI ho;exact ⟨_,rfl⟩) (fun i l hi ux=>by exact ft hi) e2
  have R₅:SR b.up kp (ρ++[s.heap.objs.size]) W₄ _:=R₄.to1 (by show 1≤s.toks+binds.length;exact lq1 [_,_] (.k 1) (.a (.v 0) (.v 1)) (.k 1) (.v 1) hbl rfl);have EN:EnvR b.up kp (ρ++[s.heap.objs.size]) d.scope ⟨len W,mkCells (len W+1) []⟩ (callEnv d s.heap.objs.size a):=
   {lf:=hlf,kind:=F.kind,gl:=F.glob,bu:=F.bu,kl:=fun n h=>h,kc:=fun n h=>h,kf:=fun n h=>.inl h,kg:=fun n h=>h,cells:=fun ux uy uz uw ut e=>(nomatch e),tb:=F.tb }
  rw[← F.comp] at e3;refine S.exs e3 EN (hA.deeper _) R₅ fun kp' ρ' y s'' k R' hy=>?_;have:=ret_back (kp':=kp') (ρ':=ρ') e4 hy (R'.to0 h0) (h.mono ((leR _ _ _).trans k));cases y<;>exact this
end
theorem statR {b:BS}(H:Here b):StatOk b.up (sigR noPrim) 0:=by
 have T:=stat H.up (prim_none b.up);exact {
  glob:=T.glob
  cls:=⟨T.cls.get,T.cls.hook,T.cls.set,T.cls.over,T.cls.hasDict,T.cls.att,T.cls.meth,T.cls.make,T.cls.ini,T.cls.iniT,T.cls.keep⟩
  names:=⟨T.names.join,T.names.split,T.names.count,T.names.append,T.names.insert,T.names.pop,T.names.reverse,T.names.bitLength,T.names.sub⟩
  pat:=T.pat
  fn:=T.fn
  keep:=T.keep
  ini:=T.ini
  rep:=fun ux=>Nat.le_refl 1
  prim:=T.prim }
theorem soundR {b:BS}(H:Here b) (n:Nat):Sound b.up (0+n) (ops G1 n):=sound_ops (statR H) n
noncomputable def wrP (b:Nat) (w:List Nat):List Nat:=bif Nat.beq b 1 then escB w++[9] else 34::escQ w++[34]
open Classical in
noncomputable def pWr (r e:Nat) (f:V) (vs:List V) (W:St):Option (V × St):=
 if h:f=.st 171∧noCits W=true∧∃ n b,n<32∧b<2∧vs=[.str (mailOf r e n),N b] then some (.str (wrP h.2.2.choose_spec.choose (mailOf r e h.2.2.choose)),W) else none
theorem wr_call {b:BS}(H:Here b) (h0:b.tk0≤1) {r e n t:Nat}(hr:r<6) (he:e<3) (hn:n<32) (ht:t<2) {W:St}(nc:noCits W=true) {fx:Value}{xs:List Value}{A:Around}{kp:Kp}{ρ:List Addr}{s:Shared}{Q E:Value→Shared→Prop}
  (h1:VR kp ρ (.st 171) fx) (h2:VRs kp ρ [.str (mailOf r e n),N t] xs) (hA:AOk 81 A) (R:SR b kp ρ W s) (h:Back b kp ρ W (fun kp ρ y=>VR kp ρ (.str (wrP t (mailOf r e n))) y) Q):codeAny (model b.prog b.w) A (.call fx ⟨xs,[]⟩) (CallBack Q E) s:=by
 refine bC fun hN=>?_;refine Q03 (rep_tab hr he hn) ?_;intro q1 q2 q3;have ml:=(mail_len hr he hn).1;rw[len_eq] at ml;obtain ⟨W',hx⟩:∃ W',(ops G1 80).exs ⟨0,[]⟩ fd171.body [frW (mailOf r e n) t]=some (.ret (.str (wrP t (mailOf r e n))),W'):=by
  rcases t with ux | uy | t
  ·exact quo_ev (by exact lT ml (nL rfl)) q1 q3
  ·exact bare_ev (by exact lT ml (nL rfl)) q2
  ·omega
 have hc:callFD (ops G1 80) fd171 [.str (mailOf r e n),N t] []=some (.str (wrP t (mailOf r e n)),W'):=by
  have e0:callFD (ops G1 80) fd171 [.str (mailOf r e n),N t] []=b1 ((ops G1 80).exs ⟨0,[]⟩ fd171.body [frW (mailOf r e n) t]) cRet:=rfl;rw[e0,hx];rfl
 refine hN ?_;have Z:Sel W [] (fun ux=>false) (fun j=>j) []:=⟨List.nodup_nil,rfl,fun ux uy e=>(nomatch e),fun ux uy e=>(nomatch e),fun ux e=>(nomatch e)⟩;have Y:Ret W [] W' W [] (fun ux=>false) (fun j=>j):=⟨rfl,fun ux e=>(nomatch e),fun ux uy e=>(nomatch e),fun i o e ux=>.inl ⟨e,List.not_mem_nil⟩,fun i o e ux uy=>noCits_at nc e⟩;apply VR.ct h1;have L:Le kp ρ (addU kp ρ W [] s.heap) ρ:=⟨fun a o e=>R.leAdd e,fun ux uy e=>e⟩;have T:Tr (addU kp ρ W [] s.heap) ρ (addU kp ρ W [] s.heap) (rho0 ρ []) (fun ux=>false) (fun j=>j):=⟨fun ux uy e uz=>e,fun ux uy e=>(nomatch e)⟩;have R0:=R.into Z;have h2':VRs (addU kp ρ W [] s.heap) (rho0 ρ []) [.str (mailOf r e n),N t] xs:=(VRs.mono L h2).tr T rfl;refine Q41 ((stat H (prim_none b)).fn 171 fd171 rfl) ?_;intro fo d body N' F;refine s_enter h0 (soundR H 80) F rfl (by decide) hc h2' (hA.le (by exact nL rfl)) R0 ?_;intro kp' ρ' y s' L' R' hy;refine Q03 (R.out Z R' L' Y) ?_;intro R2 L2 T2;exact h _ _ y s' L2 R2 (hy.tr T2 rfl)
theorem wr_prim {b:BS}(H:Here b) (h0:b.tk0≤1) {r e:Nat}(hr:r<6) (he:e<3):PrimOk b 81 (pWr r e):=by
 intro f vs W v W' fx xs A kp ρ s Q E ev;unfold pWr at ev;split at ev
 ·rename_i hh;refine Q03 hh.2.2.choose_spec.choose_spec ?_;intro a1 a2 a3;have hf:=hh.1;have nc:=hh.2.1;generalize hh.2.2.choose_spec.choose=t at ev a2 a3;generalize hh.2.2.choose=n at ev a1 a3;refine Q02 (pj ev) ?_;rintro rfl rfl;subst hf;subst a3;exact ⟨rfl,fun h1 h2 hA R h=>wr_call H h0 hr he a1 a2 nc h1 h2 hA R h⟩
 ·exact nn ev
end Mine
end
section
open PySem PySem.W PySem.Spec PySem.Calls PyProof.Rows
set_option genSizeOf false
set_option genInjectivity false
namespace Mine
section
variable {G:Sig}{elt:X}{x:Nat}{fs:List (Nat × Nat)}{W:St}{es rs:List V}{it:Nat→O}{K:Nat}
structure PcOk (G:Sig) (elt:X) (x:Nat) (fs:List (Nat × Nat)) (W:St) (es rs:List V) (it:Nat→O) (K:Nat):Prop where
 hl:len rs=len es
 hs:len es≤1000
 nx:∀ j v m a b,nth es j=some v→(ops G (m+1)).nxt (len W) (W++[it j,a,b])=some (some v,W++[it (j+1),a,b])
 nd:∀ m a b,(ops G (m+1)).nxt (len W) (W++[it (len es),a,b])=some (none,W++[.junk,a,b])
 ev:∀ j v u m a,nth es j=some v→nth rs j=some u→(ops G (m+K)).ev ⟨len W+2,fs⟩ elt (W++[it (j+1),.list a,.ns [(x,v)]])=some (u,W++[it (j+1),.list a,.ns [(x,v)]])
theorem pc_loop (P:PcOk G elt x fs W es rs it K):∀ (c j:Nat) (tl:List (Nat × V)) (n:Nat),j+c=len es→(tl=[]∨∃ v,tl=[(x,v)]) →
  ∃ tl',(ops G (n+c+K+2)).cpl ⟨len W+2,fs⟩ elt false x (len W) [] (len W+1) (W++[it j,.list (rs.take j),.ns tl])=some (W++[.junk,.list rs,.ns tl']):=by
 intro z0;induction z0 with
 | zero=>
  intro j tl n h ht;have hj:j=len es:=by exact h
  subst hj;refine ⟨tl,?_⟩;rw[show n+0+K+2=(n+K+1)+1 by exact rfl,cpl_end (n:=n+K+1) (W1:=W++[.junk,.list (rs.take (len es)),.ns tl])]
  ·rw[List.take_of_length_le (by rw[← len_eq,P.hl];exact Nat.le_refl _)]
  ·simp only[Zx,Zy,nth_app_add,JE]
  ·exact P.nd (n+K) _ _
 | succ c ih0=>
  intro j tl n h ht;have hj:j<len es:=by exact lq1 [_,_,_] (.a (.v 0) (.k 1)) (.v 1) (.a (.v 0) (.a (.v 2) (.k 1))) (.v 1) (Nat.le_of_eq h) rfl
  obtain ⟨v,hv⟩:=nth_some (l:=es) (i:=j) hj;obtain ⟨u,hu⟩:=nth_some (l:=rs) (i:=j) (by rw[P.hl];exact hj);obtain ⟨tl',k1⟩:=ih0 (j+1) [(x,v)] n (by exact eq1 [_,_,_] (.a (.a (.v 0) (.k 1)) (.v 1)) (.v 2) (.a (.v 0) (.a (.v 1) (.k 1))) (.v 2) h rfl rfl) (.inr ⟨_,rfl⟩);refine ⟨tl',?_⟩;rw[show n+(c+1)+K+2=(n+c+K+2)+1 by exact eq0 [_,_,_] (.a (.a (.a (.v 0) (.a (.v 1) (.k 1))) (.v 2)) (.k 2)) (.a (.a (.a (.a (.v 0) (.v 1)) (.v 2)) (.k 2)) (.k 1)) rfl rfl];have ns:isNs (nth (W++[it j,.list (rs.take j),.ns tl]) (len W+2))=true:=by simp only[Zx,Zy,nth_app_add,JE]
  have nx:=P.nx j v (n+c+K+1) (.list (rs.take j)) (.ns tl) hv;have st:stName ⟨len W+2,fs⟩ false x v (W++[it (j+1),.list (rs.take j),.ns tl])=some (W++[it (j+1),.list (rs.take j),.ns [(x,v)]]):=by
   rcases ht with rfl | ⟨v',rfl⟩<;>simp only[Zu,Zx,Zy,nth_app_add,J4,J5,setAt_app_add,J1,J2,Nat.beq_refl,cond_true,JF]
  have ts:(ops G (n+c+K+2)).tsts ⟨len W+2,fs⟩ true [] (W++[it (j+1),.list (rs.take j),.ns [(x,v)]])=some (true,W++[it (j+1),.list (rs.take j),.ns [(x,v)]]):=rfl;have ev:=P.ev j v u (n+c+2) (rs.take j) hv hu;rw[show n+c+2+K=n+c+K+2 by exact eq0 [_,_,_] (.a (.a (.a (.v 0) (.v 1)) (.k 2)) (.v 2)) (.a (.a (.a (.v 0) (.v 1)) (.v 2)) (.k 2)) rfl rfl] at ev;have ac:nth (W++[it (j+1),.list (rs.take j),.ns [(x,v)]]) (len W+1)=some (.list (rs.take j)):=by simp only[Zx,Zy,nth_app_add]
  have hs:=P.hs;have lb:Nat.ble (len (rs.take j)) lstMax=true:=by rw[len_eq,List.length_take];exact nB (by show _≤100000;omega)
  rw[cpl_take ns nx st ts ev ac lb];have sa:setAt (W++[it (j+1),.list (rs.take j),.ns [(x,v)]]) (len W+1) (.list (rs.take j++[u]))=W++[it (j+1),.list (rs.take (j+1)),.ns [(x,v)]]:=by
   rw[nth_eq] at hu;rw[List.take_succ,hu];simp only[J4,J5,setAt_app_add,Option.toList]
  rw[sa];exact k1
theorem pc_ev (P:PcOk G elt x fs W es rs it K) {n:Nat}{g:Ctx}{src:X}{fr:List Nat}{W0:St}{v:V}(h1:(ops G (n+len es+K+2)).ev g src W0=some (v,W)) (h2:iterOf v W=some (len W,W++[it 0])) (h3:captured g fr=some fs):
  (ops G (n+len es+K+3)).ev g (.comp elt false x src [] fr []) W0=some (.ref (len W+1),W++[.junk,.list rs,.junk]):=by
 refine bC fun hN=>?_;obtain ⟨tl',k1⟩:=pc_loop P (len es) 0 [] n (by exact eq0 [_] (.a (.k 0) (.v 0)) (.v 0) rfl rfl) (.inl rfl);have e0:(ops G (n+len es+K+3)).ev g (.comp elt false x src [] fr []) W0=b1 ((ops G (n+len es+K+2)).ev g src W0) fun v W=>eComp (ops G (n+len es+K+2)) g elt false x [] fr [] v W:=rfl;refine hN ?_;rw[e0,h1];show eComp (ops G (n+len es+K+2)) g elt false x [] fr [] v W=_;unfold eComp;rw[h2];simp only[b1s,h3,b0s];have l1:len (W++[it 0])=len W+1:=by rw[len_app];rfl
 have w1:W++[it 0]++(O.list []::O.ns []::noCells [])=W++[it 0,.list (rs.take 0),.ns []]:=by
  rw[List.append_assoc];rfl
 rw[l1,w1];simp only[mkCells,List.nil_append];rw[k1];show (bif isNs (nth (W++[O.junk,O.list rs,O.ns tl']) (len W+2)) then some (V.ref (len W+1),setAt (W++[O.junk,O.list rs,O.ns tl']) (len W+2) O.junk) else none)=_;simp only[Zx,Zy,nth_app_add,JE,cond_true,J4,J5,setAt_app_add]
end
theorem pc_lit {G:Sig}{elt:X}{x la:Nat}{fs:List (Nat × Nat)}{W:St}{es rs:List V}{K:Nat}(ha:nth W la=some (.list es)) (hl:len rs=len es) (hs:len es≤1000)
  (ev:∀ j v u m a,nth es j=some v→nth rs j=some u→(ops G (m+K)).ev ⟨len W+2,fs⟩ elt (W++[.lit la (j+1),.list a,.ns [(x,v)]])=some (u,W++[.lit la (j+1),.list a,.ns [(x,v)]])):PcOk G elt x fs W es rs (fun j=>.lit la j) K where
 hl:=hl
 hs:=hs
 nx:=fun j v m a b h=>by
  simp only[o_nxt,stepNxt,Zx,nth_app_len0,nxLit,nth_app_lt _ ha,h,J4,setAt_app_len,JH]
 nd:=fun m a b=>by
  have h:nth es (len es)=none:=by rw[nth_eq,len_eq,List.getElem?_eq_none (Nat.le_refl _)]
  simp only[o_nxt,stepNxt,Zx,nth_app_len0,nxLit,nth_app_lt _ ha,h,J4,setAt_app_len,JH]
 ev:=ev
theorem nth_upto {n j:Nat}{v:V}(h:nth (nums (upto n)) j=some v):v=N j∧j<n:=by
 rw[nth_nums,upto_range] at h;have hj:j<n:=by
  rcases Nat.lt_or_ge j n with h1 | h1
  ·exact h1
  ·rw[List.getElem?_eq_none (by rw[List.length_range];exact h1)] at h;exact nn h
 rw[List.getElem?_range hj] at h;obtain rfl:=sI h;exact ⟨rfl,hj⟩
theorem len_upto (n:Nat):len (nums (upto n))=n:=by rw[len_nums,upto_range,List.length_range]
theorem pc_rit {G:Sig}{elt:X}{x n:Nat}{fs:List (Nat × Nat)}{W:St}{rs:List V}{K:Nat}(hl:len rs=n) (hs:n≤1000)
  (ev:∀ j u m a,j<n→nth rs j=some u→(ops G (m+K)).ev ⟨len W+2,fs⟩ elt (W++[.rit (.ofNat (j+1)) (.ofNat (n-(j+1))) 1,.list a,.ns [(x,N j)]])=some (u,W++[.rit (.ofNat (j+1)) (.ofNat (n-(j+1))) 1,.list a,.ns [(x,N j)]])):PcOk G elt x fs W (nums (upto n)) rs (fun j=>.rit (.ofNat j) (.ofNat (n-j)) 1) K where
 hl:=by rw[hl,len_upto]
 hs:=by rw[len_upto];exact hs
 nx:=fun j v m a b h=>by
  obtain ⟨rfl,hj⟩:=nth_upto h;have r:=fun W=>rit_next (len (W:St)) j (n-(j+1)) (W++[.rit (.ofNat j) (.ofNat (n-(j+1)+1)) 1,a,b]);simp only[o_nxt,stepNxt,Zx,nth_app_len0,show n-j=n-(j+1)+1 by exact eq2 [_,_,_,_] (.v 0) (.a (.v 1) (.k 1)) (.a (.v 0) (.v 2)) (.v 3) (.v 3) (.a (.v 1) (.a (.v 2) (.k 1))) (Nat.sub_add_cancel (lq1 [_,_] (.v 0) (.v 1) (.a (.v 0) (.k 1)) (.v 1) hj rfl)) (Nat.sub_add_cancel (lq1 [_,_] (.a (.v 0) (.k 1)) (.v 1) (.a (.v 0) (.k 1)) (.v 1) hj rfl)).symm rfl rfl,r,J4,setAt_app_len]
 nd:=fun m a b=>by
  rw[len_upto,Nat.sub_self];simp only[o_nxt,stepNxt,Zx,nth_app_len0,rit_end,J4,setAt_app_len]
 ev:=fun j v u m a h1 h2=>by
  obtain ⟨rfl,hj⟩:=nth_upto h1;exact ev j u m a hj h2
structure LawOk (pr:V→List V→St→Option (V × St)) (r e:Nat) (ns:List Nat):Prop where
 bi:∀ c vs W,pr (.bi c) vs W=none
 mail:∀ (n l:Nat) (W:St),nth W l=some (.list (rsV r))→noCits W=true→pr (.st 178) [N n,.ref l,.str [46],.str (endOf e)] W=some (.str (mailOf r e n),W)
 wr:∀ (n t:Nat) (W:St),n<32→t<2→noCits W=true→pr (.st 171) [.str (mailOf r e n),N t] W=some (.str (wrP t (mailOf r e n)),W)
 n166:∀ vs W,pr (.st 166) vs W=none
 n138:∀ vs W,pr (.st 138) vs W=none
 n114:∀ vs W,pr (.st 114) vs W=none
 n217:∀ vs W,pr (.st 217) vs W=none
 lex:∀ (W:St) (L:LX) (v:V) (line p:Nat) (pb:List V),LexAt W L→noCits W=true→lexAns 128 L []=some (v,line,p,pb)→pr (.st 128) [.inst 138 L.d] W=some (v,L.turn W line p pb)
 cls:∀ (W:St) (L:LX) (m rs u:Nat),ClsAt r e ns W L m rs u→pr (.st 197) [.inst 138 L.d,.ref m,.ref rs,.str (endOf e),.ref u] W=some (.ref (len W),W++[.list (nums (toldP ns))])
 lev:∀ (W:St) (l:Nat),nth W l=some (.list (nums (toldP ns)))→noCits W=true→pr (.st 212) [.ref l] W=some (.bool true,W)
noncomputable def md (k:Nat) (i:Int):Nat:=(Int.fmod i (.ofNat k)).toNat
theorem md_eq {k:Nat}(hk:0<k) (i:Int):Int.fmod i (.ofNat k)=.ofNat (md k i):=by
 have h:0≤Int.fmod i (.ofNat k):=Int.fmod_nonneg_of_pos i (by show (0:Int)<(k:Int);omega);exact (Int.toNat_of_nonneg h).symm
theorem md_lt {k:Nat}(hk:0<k) (i:Int):md k i<k:=by
 have h:=md_eq hk i;have h2:Int.fmod i (.ofNat k)<(.ofNat k:Int):=Int.fmod_lt_of_pos i (by show (0:Int)<(k:Int);omega);rw[h] at h2;exact Int.ofNat_lt.mp h2
theorem mod_N {k:Nat}(hk:0<k) (a:Nat):binI .Mod (.ofNat a) (.ofNat k)=some (.ofNat (a%k)):=by
 show (bif eqI (.ofNat k) 0 then none else some (Int.fmod (.ofNat a) (.ofNat k)))=_;have:eqI (.ofNat k) 0=false:=decide_eq_false (by show ¬ (k:Int)=0;omega);rw[this,Int.fmod_eq_emod_of_nonneg _ (by show (0:Int)≤(k:Int);omega)];rfl
theorem mod_I {k:Nat}(hk:0<k) (i:Int):binI .Mod i (.ofNat k)=some (.ofNat (md k i)):=by
 show (bif eqI (.ofNat k) 0 then none else some (Int.fmod i (.ofNat k)))=_;have:eqI (.ofNat k) 0=false:=decide_eq_false (by show ¬ (k:Int)=0;omega);rw[this,md_eq hk];rfl
theorem sum_nums:∀ xs:List Nat,sumInts (nums xs)=some (.ofNat xs.sum):=by
 intro z0;induction z0 with
 | nil=>
  exact rfl
 | cons x xs ih0=>
  show (do let s ← sumInts (nums xs);some (Int.ofNat x+s))=_;rw[ih0];rfl
section
variable {G:Sig}{pr:V→List V→St→Option (V × St)}{r e:Nat}{ns:List Nat}{W:St}{o:O}{a:List V}{m:Nat}
theorem el_mod {fs:List (Nat × Nat)}{k:Nat}(hk:0<k) (i:Int):(ops G (m+2)).ev ⟨len W+2,fs⟩ (.bin (.Mod) (.loc 1) (.c (.int (.ofNat k)))) (W++[o,.list a,.ns [(1,.int i)]])=some (N (md k i),W++[o,.list a,.ns [(1,.int i)]]):=by
 have h:=mod_I hk i;simp only[nth_app_add,h,o_ev,Z0,Z1,Z3,b1,b0,ldLoc,Zx,Zy,Zz,J0,Nat.beq,cond_true,binop,YI,Option.bind_eq_bind,Option.bind_some,N,JF,JR,JJ]
theorem cel_at {x l lf:Nat}{cs:List (Nat × Nat)}{v:V}{t:St}(h1:lkp x cs=some l) (h2:nth W l=some (.cell (some v))):(ops G (m+1)).ev ⟨lf,cs⟩ (.cel x) (W++t)=some (v,W++t):=by
 simp only[o_ev,Z2,ldCel,h1,Option.bind_some,nth_app_lt t h2,b0,JG]
theorem loc_at {x:Nat}{fs:List (Nat × Nat)}{p q:O}{v:V}:(ops G (m+1)).ev ⟨len W+2,fs⟩ (.loc x) (W++[p,q,.ns [(x,v)]])=some (v,W++[p,q,.ns [(x,v)]]):=by
 simp only[o_ev,Z1,ldLoc,nth_app_add,Zx,Zy,Zz,J0,Nat.beq_refl,cond_true,b0,JF]
theorem bin_at {g:Ctx}{op:Operator}{x y:X}{u v:V}{W W1 W2:St}(h1:(ops G m).ev g x W=some (u,W1)) (h2:(ops G m).ev g y W1=some (v,W2)):(ops G (m+1)).ev g (.bin op x y) W=binop op u v W2:=by
 have e0:(ops G (m+1)).ev g (.bin op x y) W=b1 ((ops G m).ev g x W) fun a W=>b1 ((ops G m).ev g y W) fun b W=>binop op a b W:=rfl;rw[e0,h1];simp only[b1,h2]
theorem sub_ev {g:Ctx}{x y:X}{u v w:V}{W W1 W2:St}(h1:(ops G m).ev g x W=some (u,W1)) (h2:(ops G m).ev g y W1=some (v,W2)) (h3:getSub u v W2=some w):(ops G (m+1)).ev g (.sub x y) W=some (w,W2):=by
 have e0:(ops G (m+1)).ev g (.sub x y) W=b1 ((ops G m).ev g x W) fun a W=>b1 ((ops G m).ev g y W) fun i W=>b0 (getSub a i W) fun v=>some (v,W):=rfl;rw[e0,h1];simp only[b1,b0,h2,h3]
theorem evs_cons {g:Ctx}{x:X}{xs:List X}{v:V}{vs:List V}{W W1 W2:St}(h1:(ops G m).ev g x W=some (v,W1)) (h2:(ops G m).evs g xs W1=some (vs,W2)):(ops G (m+1)).evs g (x::xs) W=some (v::vs,W2):=by
 have e0:(ops G (m+1)).evs g (x::xs) W=b1 ((ops G m).ev g x W) fun v W=>b1 ((ops G m).evs g xs W) fun vs W=>some (v::vs,W):=rfl;rw[e0,h1];simp only[b1,h2]
theorem getSub_at {l i:Nat}{vs:List V}{v:V}{t:St}(h1:nth W l=some (.list vs)) (h2:nth vs i=some v) (h3:i≤1000):getSub (.ref l) (N i) (W++t)=some v:=by
 show (onL (nth (W++t) l) fun vs=>bif Nat.ble i lstMax then nth vs i else none)=_;rw[nth_app_lt t h1];show (bif Nat.ble i lstMax then nth vs i else none)=_;rw[nB (by show i≤100000;exact lT h3 (nL rfl))];exact h2
noncomputable def sgV:List V:=[.str [97],.str [],.str [32],.str [34],.str [92],.str [98,46]]
set_option tactic.hygienic true in
theorem sg_at {t j:Nat}(hj:j<5):nth sgV ((t+j)%6)=nth (rsV (t%6)) j:=by
 have key:(upto 6).all (fun r=>(upto 5).all fun j=>match nth sgV ((r+j)%6),nth (rsV r) j with
  | some a,some b=>eqF a b
  | ux,uy=>false)=true:=by decide +kernel
 have h:=upto_all (upto_all key (t%6) (Nat.mod_lt _ (by exact nL rfl))) j hj;rw[show (t%6+j)%6=(t+j)%6 by omega] at h;split at h
 ·rename_i a b h1 h2;rw[h1,h2,(eqF_eq h).1]
 ·exact ft h
theorem el_sig {t sl j:Nat}{u:V}(h1:nth W 1=some (.cell (some (N t)))) (h2:nth W 2=some (.cell (some (.ref sl)))) (h3:nth W sl=some (.list sgV)) (hj:j<5) (hu:nth (rsV (t%6)) j=some u):
  (ops G (m+4)).ev ⟨len W+2,[(120,2),(119,1)]⟩ (.sub (.cel 120) (.bin (.Mod) (.bin (.Add) (.cel 119) (.loc 82)) (.c (.int 6)))) (W++[o,.list a,.ns [(82,N j)]])=some (u,W++[o,.list a,.ns [(82,N j)]]):=by
 have e1:(ops G (m+3)).ev ⟨len W+2,[(120,2),(119,1)]⟩ (.bin (.Mod) (.bin (.Add) (.cel 119) (.loc 82)) (.c (.int 6))) (W++[o,.list a,.ns [(82,N j)]])=some (N ((t+j)%6),W++[o,.list a,.ns [(82,N j)]]):=by
  refine (bin_at (m:=m+2) (u:=N (t+j)) (v:=N 6) ((bin_at (m:=m+1) (cel_at rfl h1) loc_at).trans rfl) rfl).trans ?_;show (do let i ← binI .Mod (.ofNat (t+j)) (.ofNat 6);some (V.int i,W++[o,O.list a,O.ns [(82,N j)]]))=_;rw[mod_N (by exact nL rfl)];rfl
 refine sub_ev (m:=m+3) (cel_at rfl h2) e1 ?_;exact getSub_at h3 (by rw[sg_at hj];exact hu) (by omega)
theorem el_mail (P:LawOk pr r e ns) {n lr:Nat}(h1:nth W 4=some (.cell (some (.str (endOf e))))) (h2:nth W 3=some (.cell (some (.ref lr)))) (h3:nth W lr=some (.list (rsV r))) (nc:noCits W=true) (ho:isCit o=false):
  (ops (sig pr) (m+7)).ev ⟨len W+2,[(80,4),(78,3)]⟩ (.call (.c (.st 178)) [.loc 77,.cel 78,.c (.str [46]),.cel 80]) (W++[o,.list a,.ns [(77,N n)]])=some (.str (mailOf r e n),W++[o,.list a,.ns [(77,N n)]]):=by
 have ea:(ops (sig pr) (m+6)).evs ⟨len W+2,[(80,4),(78,3)]⟩ [.loc 77,.cel 78,.c (.str [46]),.cel 80] (W++[o,.list a,.ns [(77,N n)]])=some ([N n,.ref lr,.str [46],.str (endOf e)],W++[o,.list a,.ns [(77,N n)]]):=
  evs_cons (m:=m+5) loc_at (evs_cons (m:=m+4) (cel_at rfl h2) (evs_cons (m:=m+3) rfl (evs_cons (m:=m+2) (cel_at rfl h1) rfl)))
 refine (x_call (n:=m+6) (fv:=.st 178) rfl ea).trans ?_;show (ops (sig pr) (m+6)).call (.st 178) _ _=_;refine call_pr (P.mail n lr _ (nth_app_lt _ h3) (noc_app nc ?_));show ((!isCit o)&&(true&&(true&&true)))=true;rw[ho];rfl
theorem qV_at {j:Nat}{ns:List Nat}{n:Nat}(h:ns[j]?=some n):nth (qV r e ns) j=some (.str (mailOf r e n)):=by
 rw[nth_eq];unfold qV;rw[List.getElem?_map,h];rfl
theorem el_wr (P:LawOk pr r e ns) {t n lq j:Nat}(h1:nth W 1=some (.cell (some (N t)))) (h2:nth W 6=some (.cell (some (.ref lq)))) (h3:nth W lq=some (.list (qV r e ns))) (hj:ns[j]?=some n) (hn:n<32) (hjl:j≤1000) (nc:noCits W=true) (ho:isCit o=false):
  (ops (sig pr) (m+7)).ev ⟨len W+2,[(122,6),(119,1)]⟩ (.call (.c (.st 171)) [.sub (.cel 122) (.loc 82),.bin (.Mod) (.bin (.Add) (.cel 119) (.loc 82)) (.c (.int 2))]) (W++[o,.list a,.ns [(82,N j)]])=some (.str (wrP ((t+j)%2) (mailOf r e n)),W++[o,.list a,.ns [(82,N j)]]):=by
 have e1:(ops (sig pr) (m+4)).ev ⟨len W+2,[(122,6),(119,1)]⟩ (.bin (.Mod) (.bin (.Add) (.cel 119) (.loc 82)) (.c (.int 2))) (W++[o,.list a,.ns [(82,N j)]])=some (N ((t+j)%2),W++[o,.list a,.ns [(82,N j)]]):=by
  refine (bin_at (m:=m+3) (u:=N (t+j)) (v:=N 2) ((bin_at (m:=m+2) (cel_at rfl h1) loc_at).trans rfl) rfl).trans ?_;show (do let i ← binI .Mod (.ofNat (t+j)) (.ofNat 2);some (V.int i,W++[o,O.list a,O.ns [(82,N j)]]))=_;rw[mod_N (by exact nL rfl)];rfl
 have e2:(ops (sig pr) (m+5)).ev ⟨len W+2,[(122,6),(119,1)]⟩ (.sub (.cel 122) (.loc 82)) (W++[o,.list a,.ns [(82,N j)]])=some (.str (mailOf r e n),W++[o,.list a,.ns [(82,N j)]]):=
  sub_ev (m:=m+4) (cel_at rfl h2) loc_at (getSub_at h3 (qV_at hj) hjl)
 have ea:(ops (sig pr) (m+6)).evs ⟨len W+2,[(122,6),(119,1)]⟩ [.sub (.cel 122) (.loc 82),.bin (.Mod) (.bin (.Add) (.cel 119) (.loc 82)) (.c (.int 2))] (W++[o,.list a,.ns [(82,N j)]])=some ([.str (mailOf r e n),N ((t+j)%2)],W++[o,.list a,.ns [(82,N j)]]):=
  evs_cons (m:=m+5) e2 (evs_cons (m:=m+4) e1 rfl)
 refine (x_call (n:=m+6) (fv:=.st 171) rfl ea).trans ?_;show (ops (sig pr) (m+6)).call (.st 171) _ _=_;refine call_pr (P.wr n _ _ hn (Nat.mod_lt _ (by exact nL rfl)) (noc_app nc ?_));show ((!isCit o)&&(true&&(true&&true)))=true;rw[ho];rfl
end
end Mine
end
section
open PySem PySem.W PySem.Spec PySem.Calls PyProof.Rows
namespace Mine
noncomputable abbrev HA (fr:O) (c1 c2 c3 c4 c5 c6 c7:Option V) (g:St):St:=fr::.cell c1::.cell c2::.cell c3::.cell c4::.cell c5::.cell c6::.cell c7::g
noncomputable abbrev g0:Ctx:=⟨0,[(119,1),(120,2),(78,3),(80,4),(121,5),(122,6),(92,7)]⟩
noncomputable abbrev frL0 (ks:List V) (tl:List (Nat × V)):O:=.ns ((118,.klst ks)::tl)
noncomputable def lw1:S:=.asg true 119 (.call (.c (.bi (.sum))) [.comp (.bin (.Mod) (.loc 1) (.c (.int 36))) false 1 (.slc (.loc 118) none (some (.c (.int 63)))) [] [] []])
noncomputable def lw2:S:=.asg true 120 (.lst [.c (.str [97]),.c (.str []),.c (.str [32]),.c (.str [34]),.c (.str [92]),.c (.str [98,46])])
noncomputable def lw3:S:=.asg true 78 (.comp (.sub (.cel 120) (.bin (.Mod) (.bin (.Add) (.cel 119) (.loc 82)) (.c (.int 6)))) false 82 (.call (.c (.bi (.range))) [.c (.int 5)]) [] [120,119] [])
noncomputable def lw4:S:=.asg true 80 (.sub (.lst [.c (.str [10]),.c (.str [13]),.c (.str [13,10])]) (.bin (.Mod) (.bin (.FloorDiv) (.cel 119) (.c (.int 6))) (.c (.int 3))))
noncomputable def lw5:S:=.asg true 121 (.comp (.bin (.Mod) (.loc 1) (.c (.int 32))) false 1 (.bin (.Add) (.lst [.c (.int 11),.c (.int 12)]) (.slc (.loc 118) none (some (.c (.int 4))))) [] [] [])
noncomputable def lw6:S:=.asg true 122 (.comp (.call (.c (.st 178)) [.loc 77,.cel 78,.c (.str [46]),.cel 80]) false 77 (.cel 121) [] [80,78] [])
noncomputable def lw7:S:=.asg false 66 (.mcall (.c (.str [])) 75 [.comp (.call (.c (.st 171)) [.sub (.cel 122) (.loc 82),.bin (.Mod) (.bin (.Add) (.cel 119) (.loc 82)) (.c (.int 2))]) false 82 (.call (.c (.bi (.range))) [.call (.c (.bi (.len))) [.cel 122]]) [] [122,119] []])
noncomputable def xsOf (l:List Int):List Nat:=l.map (md 36)
noncomputable def tOf (l:List Int):Nat:=(xsOf l).sum
noncomputable def nsOf (l:List Int):List Nat:=11::12::(l.take 4).map (md 32)
theorem sum_le {k:Nat}:∀ {xs:List Nat},(∀ x∈xs,x≤k)→xs.sum≤k*xs.length
 | [],ux=>Nat.le_refl _
 | x::xs,h=>by
  have h1:=h x (.head _);have h2:=sum_le (xs:=xs) fun y hy=>h y (.tail _ hy);rw[List.sum_cons,List.length_cons,Nat.mul_add];exact lq2 [_,_,_,_] (.a (.v 0) (.v 1)) (.a (.v 2) (.r (.v 3) 1)) (.v 1) (.v 2) (.v 0) (.v 3) h2 h1 rfl
theorem t_le {l:List Int}(hl:l.length≤63):tOf l≤3000:=by
 have h:=sum_le (k:=36) (xs:=xsOf l) fun x hx=>by
  refine Q12 (List.mem_map.mp hx) ?_;rintro i ux rfl;exact Nat.le_of_lt (md_lt (by exact nL rfl) i)
 have e:(xsOf l).length=l.length:=List.length_map _;rw[e] at h;unfold tOf;omega
theorem ns_lt {l:List Int}{n:Nat}(h:n∈nsOf l):n<32:=by
 rcases List.mem_cons.mp h with rfl | h
 ·exact nL rfl
 rcases List.mem_cons.mp h with rfl | h
 ·exact nL rfl
 refine Q12 (List.mem_map.mp h) ?_;rintro i ux rfl;exact md_lt (by exact nL rfl) i
theorem ns_len (l:List Int):(nsOf l).length≤6:=by
 unfold nsOf;simp only[List.length_cons,List.length_map,List.length_take];omega
section
variable {pr:V→List V→St→Option (V × St)}{r e:Nat}{ns:List Nat}{m:Nat}
theorem asg_of {G:Sig}{c:Bool}{x:Nat}{ex:X}{g:Ctx}{v:V}{W W1 W2:St}(h1:(ops G m).ev g ex W=some (v,W1)) (h2:stName g c x v W1=some W2):(ops G (m+1)).ex g (.asg c x ex) W=some (.next,W2):=x_asg h1 h2
theorem map_int_at {l:List Int}{j:Nat}{v:V}(h:nth (l.map V.int) j=some v):∃ i,l[j]?=some i∧v=.int i:=by
 rw[nth_eq,List.getElem?_map] at h;cases q:l[j]? with
 | none=>rw[q] at h;exact nn h
 | some i=>rw[q] at h;obtain rfl:=sI h;exact ⟨i,rfl,rfl⟩
theorem md_at {k:Nat}{l:List Int}{j:Nat}{v u:V}(h1:nth (l.map V.int) j=some v) (h2:nth (nums (l.map (md k))) j=some u):∃ i,v=.int i∧u=N (md k i):=by
 refine Q12 (map_int_at h1) ?_;rintro i hi rfl;rw[nth_nums,List.getElem?_map,hi] at h2;obtain rfl:=sI h2;exact ⟨i,rfl,rfl⟩
theorem l_s1 (P:LawOk pr r e ns) {l:List Int}(hl:l.length≤63):(ops (sig pr) (m+120)).ex g0 lw1 (HA (frL0 (l.map .int) []) none none none none none none none []) =
  some (.next,HA (frL0 (l.map .int) []) (some (N (tOf l))) none none none none none none [.list (l.map .int),.junk,.list (nums (xsOf l)),.junk]):=by
 let W0:St:=HA (frL0 (l.map .int) []) none none none none none none none []
 have hk:len (l.map V.int)≤63:=by rw[len_eq,List.length_map];exact hl
 have sl:∀ k,(ops (sig pr) (k+2)).ev g0 (.slc (.loc 118) none (some (.c (.int 63)))) W0=some (.ref 8,W0++[.list (l.map .int)]):=fun k=>by
  have e0:(ops (sig pr) (k+2)).ev g0 (.slc (.loc 118) none (some (.c (.int 63)))) W0=bif Nat.ble (len (l.map V.int)) lstMax then some (.ref 8,W0++[.list (sliceL 0 63 (l.map V.int))]) else none:=rfl;rw[e0,nB (by show _≤100000;omega)];show some (V.ref 8,W0++[O.list (((l.map V.int).take 63).drop 0)])=_;rw[List.take_of_length_le (by rw[← len_eq];exact hk),List.drop_zero]
 have C:PcOk (sig pr) (.bin (.Mod) (.loc 1) (.c (.int 36))) 1 [] (W0++[.list (l.map .int)]) (l.map .int) (nums (xsOf l)) (fun j=>.lit 8 j) 2:=by
  refine pc_lit rfl (by rw[len_nums,len_eq,List.length_map];exact List.length_map _) (by exact lT hk (nL rfl)) (fun j v u m a h1 h2=>?_);refine Q12 (md_at (k:=36) h1 h2) ?_;rintro i rfl rfl;exact el_mod (k:=36) (by exact nL rfl) i
 have ec:(ops (sig pr) (m+117)).ev g0 (.comp (.bin (.Mod) (.loc 1) (.c (.int 36))) false 1 (.slc (.loc 118) none (some (.c (.int 63)))) [] [] []) W0=some (.ref 10,W0++[.list (l.map .int),.junk,.list (nums (xsOf l)),.junk]):=by
  have h:=pc_ev C (n:=m+112-len (l.map V.int)) (g:=g0) (src:=.slc (.loc 118) none (some (.c (.int 63)))) (fr:=[]) (W0:=W0) (v:=.ref 8) (sl _) rfl rfl;rw[show m+112-len (l.map V.int)+len (l.map V.int)+2+3=m+117 by exact eq1 [_,_,_] (.a (.a (.a (.v 0) (.v 1)) (.k 2)) (.k 3)) (.a (.v 2) (.k 117)) (.a (.v 0) (.v 1)) (.a (.v 2) (.k 112)) (Nat.sub_add_cancel (lq1 [_,_] (.v 0) (.a (.v 1) (.k 112)) (.v 0) (.k 63) hk rfl)) rfl rfl] at h;exact h
 have cs:(ops (sig pr) (m+118)).call (.bi .sum) [.ref 10] (W0++[.list (l.map .int),.junk,.list (nums (xsOf l)),.junk])=some (N (tOf l),W0++[.list (l.map .int),.junk,.list (nums (xsOf l)),.junk]):=by
  rw[show m+118=(m+117)+1 from rfl,call_bi P.bi];show (do let s ← sumInts (nums (xsOf l));some (V.int s,W0++[O.list (l.map V.int),O.junk,O.list (nums (xsOf l)),O.junk]))=_;rw[sum_nums];rfl
 exact asg_of (m:=m+119) ((x_call (n:=m+118) (fv:=.bi .sum) rfl (evs_one (n:=m+116) ec)).trans cs) rfl
end
noncomputable abbrev rL (l:List Int):Nat:=tOf l%6
noncomputable abbrev eL (l:List Int):Nat:=tOf l/6%3
noncomputable def endV:List V:=[.str [10],.str [13],.str [13,10]]
noncomputable abbrev ga (l:List Int):St:=[.list (l.map .int),.junk,.list (nums (xsOf l)),.junk]
noncomputable abbrev gb (l:List Int):St:=ga l++[.list sgV]
noncomputable abbrev gc (l:List Int):St:=gb l++[.junk,.list (rsV (rL l)),.junk]
noncomputable abbrev gd (l:List Int):St:=gc l++[.list endV]
noncomputable abbrev ge1 (l:List Int):St:=gd l++[.list [.int 11,.int 12],.list ((l.take 4).map .int),.list (((11:Int)::12::l.take 4).map .int)]
noncomputable abbrev ge (l:List Int):St:=ge1 l++[.junk,.list (nums (nsOf l)),.junk]
noncomputable abbrev gf (l:List Int):St:=ge l++[.junk,.list (qV (rL l) (eL l) (nsOf l)),.junk]
noncomputable def pcsF (r e t:Nat):Nat→List Nat→List (List Nat)
 | ux,[]=>[]
 | j,n::ns=>wrP ((t+j)%2) (mailOf r e n)::pcsF r e t (j+1) ns
noncomputable def pcsL (l:List Int):List (List Nat):=pcsF (rL l) (eL l) (tOf l) 0 (nsOf l)
noncomputable abbrev gg (l:List Int):St:=gf l++[.junk,.list ((pcsL l).map .str),.junk]
noncomputable def txt (l:List Int):List Nat:=(pcsL l).flatten
noncomputable abbrev FR (l:List Int) (tl:List (Nat × V)):O:=frL0 (l.map .int) tl
theorem div_N {a k:Nat}(h:a≤1000000) (hk:k≤1000000) (h0:0<k):binI .FloorDiv (.ofNat a) (.ofNat k)=some (.ofNat (a/k)):=by
 show (bif eqI (.ofNat k) 0||!smallI (.ofNat k) then none else bif smallI (.ofNat a) then some (Int.fdiv (.ofNat a) (.ofNat k)) else none)=_;have sm:∀ a:Nat,a≤1000000→smallI (.ofNat a)=true:=fun a h=>by
  unfold smallI leI;rw[Bool.and_eq_true];exact ⟨decide_eq_true (by show (-1000000:Int)≤(a:Int);omega),decide_eq_true (by show (a:Int)≤1000000;omega)⟩
 have:eqI (.ofNat k) 0=false:=decide_eq_false (by show ¬ (k:Int)=0;omega);rw[this,sm a h,sm k hk];show some (Int.fdiv (a:Int) (k:Int))=some ((a/k:Nat):Int);rw[Int.fdiv_eq_ediv_of_nonneg _ (by omega)];rfl
theorem end_at:∀ {e:Nat},e<3→nth endV e=some (.str (endOf e))
 | 0,ux=>rfl
 | 1,ux=>rfl
 | 2,ux=>rfl
 | e+3,h=>absurd h (by exact Nat.not_lt_of_le (lq0 [_] (.k 3) (.a (.v 0) (.k 3)) rfl))
theorem ns_eq (l:List Int):nsOf l=((11:Int)::12::l.take 4).map (md 32):=rfl
theorem pcs_at {r e t:Nat}:∀ {ns:List Nat}{j k n:Nat},ns[j]?=some n→nth ((pcsF r e t k ns).map V.str) j=some (.str (wrP ((t+(k+j))%2) (mailOf r e n)))
 | [],ux,uy,uz,h=>by exact nn h
 | n::ns,0,k,n',h=>by obtain rfl:=sI h;rfl
 | n::ns,j+1,k,n',h=>by
  have:=pcs_at (r:=r) (e:=e) (t:=t) (ns:=ns) (j:=j) (k:=k+1) h;rw[show t+(k+1+j)=t+(k+(j+1)) by exact eq0 [_,_,_] (.a (.v 0) (.a (.a (.v 1) (.k 1)) (.v 2))) (.a (.v 0) (.a (.v 1) (.a (.v 2) (.k 1)))) rfl rfl] at this;exact this
theorem pcs_len {r e t:Nat}:∀ {ns:List Nat}{k:Nat},(pcsF r e t k ns).length=ns.length
 | [],ux=>rfl
 | n::ns,k=>by show (pcsF r e t (k+1) ns).length+1=_;rw[pcs_len];rfl
theorem escB_len:∀ w:List Nat,len (escB w)=2*len w:=by
 intro z0;induction z0 with
 | nil=>
  exact rfl
 | cons c w ih0=>
  show len (escB w)+1+1=2*(len w+1);rw[ih0];exact rfl
theorem wrP_len (b:Nat) (w:List Nat):len (wrP b w)≤2*len w+2:=by
 unfold wrP;cases Nat.beq b 1 with
 | true=>show len (escB w++[9])≤_;rw[len_app,escB_len];show _+1≤_;exact lq0 [_] (.a (.m 2 (.v 0)) (.k 1)) (.a (.m 2 (.v 0)) (.k 2)) rfl
 | false=>show len (34::escQ w++[34])≤_;rw[len_app];have:=escQ_len w;show len (escQ w)+1+1≤_;exact lq1 [_,_] (.a (.a (.v 0) (.k 1)) (.k 1)) (.a (.m 2 (.v 1)) (.k 2)) (.v 0) (.m 2 (.v 1)) this rfl
theorem pcs_short {r e t:Nat}(hr:r<6) (he:e<3):∀ {ns:List Nat}{k:Nat},(∀ n∈ns,n<32)→∀ p∈pcsF r e t k ns,p.length≤100
 | [],ux,uy,p,h=>by cases h
 | n::ns,k,hn,p,h=>by
  rcases List.mem_cons.mp h with rfl | h
  ·have h1:=wrP_len ((t+k)%2) (mailOf r e n);have h2:=(mail_len hr he (hn n (.head _))).1;rw[← len_eq];exact lq3 [_,_] (.v 0) (.k 100) (.v 1) (.k 38) (.v 1) (.k 38) (.v 0) (.a (.m 2 (.v 1)) (.k 2)) h2 h2 h1 rfl
  ·exact pcs_short hr he (fun x hx=>hn x (.tail _ hx)) p h
theorem flat_len {k:Nat}:∀ {ps:List (List Nat)},(∀ p∈ps,p.length≤k)→ps.flatten.length≤k*ps.length
 | [],ux=>Nat.le_refl _
 | p::ps,h=>by
  have h1:=h p (.head _);have h2:=flat_len (ps:=ps) fun q hq=>h q (.tail _ hq);rw[List.flatten_cons,List.length_append,List.length_cons,Nat.mul_add];exact lq2 [_,_,_,_] (.a (.v 0) (.v 1)) (.a (.v 2) (.r (.v 3) 1)) (.v 1) (.v 2) (.v 0) (.v 3) h2 h1 rfl
theorem rL_lt (l:List Int):rL l<6:=Nat.mod_lt _ (by exact nL rfl)
theorem eL_lt (l:List Int):eL l<3:=Nat.mod_lt _ (by exact nL rfl)
theorem txt_len (l:List Int):(txt l).length≤600:=by
 have h:=flat_len (ps:=pcsL l) (pcs_short (rL_lt l) (eL_lt l) fun n hn=>ns_lt hn);have h2:(pcsL l).length≤6:=by unfold pcsL;rw[pcs_len];exact ns_len l
 unfold txt;omega
theorem rng_N (n:Nat):rngSz 0 (.ofNat n) 1=.ofNat n:=by
 show (bif ltI 0 (.ofNat n) then (.ofNat n:Int)-0 else 0)=_;unfold ltI;cases n with
 | zero=>rfl
 | succ n=>
  have:decide ((0:Int) < .ofNat (n+1))=true:=decide_eq_true (by show (0:Int)<((n+1:Nat):Int);omega);rw[this,cond_true,Int.sub_zero]
theorem small_N {a:Nat}(h:a≤1000000):smallI (.ofNat a)=true:=by
 unfold smallI leI;rw[Bool.and_eq_true];exact ⟨decide_eq_true (by show (-1000000:Int)≤(a:Int);omega),decide_eq_true (by show (a:Int)≤1000000;omega)⟩
theorem iter_N {n:Nat}(h:n≤1000) (W:St):iterOf (.range 0 (.ofNat n) 1) W=some (len W,W++[.rit (.ofNat 0) (.ofNat (n-0)) 1]):=by
 show (bif smallI 0&&smallI (.ofNat n)&&true then some (len W,W++[O.rit 0 (rngSz 0 (.ofNat n) 1) 1]) else none)=_;rw[small_N (by exact lT h (nL rfl):n≤1000000),rng_N];rfl
section
variable {pr:V→List V→St→Option (V × St)}{l:List Int}{m:Nat}
theorem rng_ev {r e:Nat}{ns:List Nat}(P:LawOk pr r e ns) {g:Ctx}{x:X}{n:Nat}{W W1:St}(hn:n≤1000) (h:(ops (sig pr) (m+1)).ev g x W=some (N n,W1)):(ops (sig pr) (m+3)).ev g (.call (.c (.bi (.range))) [x]) W=some (.range 0 (.ofNat n) 1,W1):=by
 refine (x_call (n:=m+2) (fv:=.bi .range) rfl (evs_one (n:=m) h)).trans ?_;show (ops (sig pr) (m+2)).call (.bi .range) [N n] W1=_;rw[show m+2=(m+1)+1 from rfl,call_bi P.bi];show (bif smallI (.ofNat n) then some (V.range 0 (.ofNat n) 1,W1) else none)=_;rw[small_N (by exact lT hn (nL rfl))];rfl
theorem l_s2 (v1:Option V):(ops (sig pr) (m+119)).ex g0 lw2 (HA (FR l []) v1 none none none none none none (ga l))=some (.next,HA (FR l []) v1 (some (.ref 12)) none none none none none (gb l)):=by kernel_rfl
theorem l_s3 {r e:Nat}{ns:List Nat}(P:LawOk pr r e ns):(ops (sig pr) (m+118)).ex g0 lw3 (HA (FR l []) (some (N (tOf l))) (some (.ref 12)) none none none none none (gb l))=some (.next,HA (FR l []) (some (N (tOf l))) (some (.ref 12)) (some (.ref 14)) none none none none (gc l)):=by
 let W0:St:=HA (FR l []) (some (N (tOf l))) (some (.ref 12)) none none none none none (gb l)
 have C:PcOk (sig pr) (.sub (.cel 120) (.bin (.Mod) (.bin (.Add) (.cel 119) (.loc 82)) (.c (.int 6)))) 82 [(120,2),(119,1)] W0 (nums (upto 5)) (rsV (rL l)) (fun j=>.rit (.ofNat j) (.ofNat (5-j)) 1) 4:=
  pc_rit rfl (by exact nL rfl) fun j u m a hj hu=>el_sig rfl rfl rfl hj hu
 have ec:(ops (sig pr) (m+117)).ev g0 (.comp (.sub (.cel 120) (.bin (.Mod) (.bin (.Add) (.cel 119) (.loc 82)) (.c (.int 6)))) false 82 (.call (.c (.bi (.range))) [.c (.int 5)]) [] [120,119] []) W0=some (.ref 14,W0++[.junk,.list (rsV (rL l)),.junk]):=
  pc_ev C (n:=m+105) (g:=g0) (fr:=[120,119]) (W0:=W0) (v:=.range 0 5 1) (rng_ev P (m:=m+113) (n:=5) (by exact nL rfl) rfl) (iter_N (n:=5) (by exact nL rfl) W0) rfl
 exact asg_of (m:=m+117) ec rfl
theorem l_s4 (hl:l.length≤63):(ops (sig pr) (m+117)).ex g0 lw4 (HA (FR l []) (some (N (tOf l))) (some (.ref 12)) (some (.ref 14)) none none none none (gc l))=some (.next,HA (FR l []) (some (N (tOf l))) (some (.ref 12)) (some (.ref 14)) (some (.str (endOf (eL l)))) none none none (gd l)):=by
 let W0:St:=HA (FR l []) (some (N (tOf l))) (some (.ref 12)) (some (.ref 14)) none none none none (gc l)
 have ht:=t_le hl;have e1:(ops (sig pr) (m+115)).ev g0 (.lst [.c (.str [10]),.c (.str [13]),.c (.str [13,10])]) W0=some (.ref 16,W0++[.list endV]):=by kernel_rfl
 have e3:(ops (sig pr) (m+114)).ev g0 (.bin (.FloorDiv) (.cel 119) (.c (.int 6))) (W0++[.list endV])=some (N (tOf l/6),W0++[.list endV]):=by
  refine (bin_at (m:=m+113) (u:=N (tOf l)) (v:=N 6) rfl rfl).trans ?_;show (do let i ← binI .FloorDiv (.ofNat (tOf l)) (.ofNat 6);some (V.int i,W0++[O.list endV]))=_;rw[div_N (by exact lT ht (nL rfl)) (by exact nL rfl) (by exact nL rfl)];rfl
 have e2:(ops (sig pr) (m+115)).ev g0 (.bin (.Mod) (.bin (.FloorDiv) (.cel 119) (.c (.int 6))) (.c (.int 3))) (W0++[.list endV])=some (N (eL l),W0++[.list endV]):=by
  refine (bin_at (m:=m+114) (u:=N (tOf l/6)) (v:=N 3) e3 rfl).trans ?_;show (do let i ← binI .Mod (.ofNat (tOf l/6)) (.ofNat 3);some (V.int i,W0++[O.list endV]))=_;rw[mod_N (by exact nL rfl)];rfl
 have he:=eL_lt l;have gs:getSub (.ref 16) (N (eL l)) (W0++[.list endV])=some (.str (endOf (eL l))):=by
  have:=getSub_at (W:=W0++[.list endV]) (l:=16) (i:=eL l) (vs:=endV) (t:=[]) rfl (end_at he) (by exact lq1 [_] (.v 0) (.k 1000) (.a (.v 0) (.k 1)) (.k 3) he rfl);rw[List.append_nil] at this;exact this
 exact asg_of (m:=m+116) (sub_ev (m:=m+115) e1 e2 gs) rfl
theorem l_s5 {r e:Nat}{ns:List Nat}(P:LawOk pr r e ns) (hl:l.length≤63) {v1 v2 v3 v4:Option V}:(ops (sig pr) (m+116)).ex g0 lw5 (HA (FR l []) v1 v2 v3 v4 none none none (gd l))=some (.next,HA (FR l []) v1 v2 v3 v4 (some (.ref 21)) none none (ge l)):=by
 let W0:St:=HA (FR l []) v1 v2 v3 v4 none none none (gd l)
 let W1:St:=HA (FR l []) v1 v2 v3 v4 none none none (ge1 l)
 let es:List Int:=(11:Int)::12::l.take 4
 have hk:len (l.map V.int)≤63:=by rw[len_eq,List.length_map];exact hl
 have h4:len ((l.take 4).map V.int)≤4:=by rw[len_eq,List.length_map,List.length_take];omega
 have hes:len (es.map V.int)≤6:=by show len ((l.take 4).map V.int)+1+1≤6;exact lq1 [_] (.a (.a (.v 0) (.k 1)) (.k 1)) (.k 6) (.v 0) (.k 4) h4 rfl
 have C:PcOk (sig pr) (.bin (.Mod) (.loc 1) (.c (.int 32))) 1 [] W1 (es.map .int) (nums (nsOf l)) (fun j=>.lit 19 j) 2:=by
  refine pc_lit rfl (by rw[ns_eq,len_nums,len_eq,List.length_map,List.length_map]) (by exact lT hes (nL rfl)) (fun j v u m a h1 h2=>?_);rw[ns_eq] at h2;refine Q12 (md_at (k:=32) h1 h2) ?_;rintro i rfl rfl;exact el_mod (k:=32) (by exact nL rfl) i
 have e1:∀ k,(ops (sig pr) (k+4)).ev g0 (.lst [.c (.int 11),.c (.int 12)]) W0=some (.ref 17,W0++[.list [.int 11,.int 12]]):=fun k=>by kernel_rfl
 have e2:∀ k,(ops (sig pr) (k+4)).ev g0 (.slc (.loc 118) none (some (.c (.int 4)))) (W0++[.list [.int 11,.int 12]])=some (.ref 18,W0++[.list [.int 11,.int 12],.list ((l.take 4).map .int)]):=fun k=>by
  have e0:(ops (sig pr) (k+4)).ev g0 (.slc (.loc 118) none (some (.c (.int 4)))) (W0++[.list [.int 11,.int 12]])=bif Nat.ble (len (l.map V.int)) lstMax then some (.ref 18,W0++[.list [.int 11,.int 12],.list (sliceL 0 4 (l.map V.int))]) else none:=rfl;rw[e0,nB (by show _≤100000;omega)];show some (V.ref 18,W0++[O.list [.int 11,.int 12],O.list (((l.map V.int).take 4).drop 0)])=_;rw[List.drop_zero,← List.map_take]
 have e3:∀ k,(ops (sig pr) (k+5)).ev g0 (.bin (.Add) (.lst [.c (.int 11),.c (.int 12)]) (.slc (.loc 118) none (some (.c (.int 4))))) W0=some (.ref 19,W1):=fun k=>by
  refine (bin_at (m:=k+4) (e1 k) (e2 k)).trans ?_;show (bif Nat.ble (2+len ((l.take 4).map V.int)) lstMax then some (V.ref 19,W1) else none)=_;rw[nB (by show _≤100000;omega)];rfl
 have ec:(ops (sig pr) (m+115)).ev g0 (.comp (.bin (.Mod) (.loc 1) (.c (.int 32))) false 1 (.bin (.Add) (.lst [.c (.int 11),.c (.int 12)]) (.slc (.loc 118) none (some (.c (.int 4))))) [] [] []) W0=some (.ref 21,W1++[.junk,.list (nums (nsOf l)),.junk]):=by
  have h:=pc_ev C (n:=m+110-len (es.map V.int)) (g:=g0) (src:=.bin (.Add) (.lst [.c (.int 11),.c (.int 12)]) (.slc (.loc 118) none (some (.c (.int 4))))) (fr:=[]) (W0:=W0) (v:=.ref 19) (by
   rw[show m+110-len (es.map V.int)+len (es.map V.int)+2+2=(m+109)+5 by exact eq1 [_,_,_] (.a (.a (.a (.v 0) (.v 1)) (.k 2)) (.k 2)) (.a (.a (.v 2) (.k 109)) (.k 5)) (.a (.v 0) (.v 1)) (.a (.v 2) (.k 110)) (Nat.sub_add_cancel (lq1 [_,_] (.v 0) (.a (.v 1) (.k 110)) (.v 0) (.k 6) hes rfl)) rfl rfl];exact e3 _) rfl rfl
  rw[show m+110-len (es.map V.int)+len (es.map V.int)+2+3=m+115 by exact eq1 [_,_,_] (.a (.a (.a (.v 0) (.v 1)) (.k 2)) (.k 3)) (.a (.v 2) (.k 115)) (.a (.v 0) (.v 1)) (.a (.v 2) (.k 110)) (Nat.sub_add_cancel (lq1 [_,_] (.v 0) (.a (.v 1) (.k 110)) (.v 0) (.k 6) hes rfl)) rfl rfl] at h;exact h
 exact asg_of (m:=m+115) ec rfl
theorem l_s6 (P:LawOk pr (rL l) (eL l) (nsOf l)) {v1 v2:Option V}:(ops (sig pr) (m+115)).ex g0 lw6 (HA (FR l []) v1 v2 (some (.ref 14)) (some (.str (endOf (eL l)))) (some (.ref 21)) none none (ge l))=some (.next,HA (FR l []) v1 v2 (some (.ref 14)) (some (.str (endOf (eL l)))) (some (.ref 21)) (some (.ref 24)) none (gf l)):=by
 let W0:St:=HA (FR l []) v1 v2 (some (.ref 14)) (some (.str (endOf (eL l)))) (some (.ref 21)) none none (ge l)
 have hn:len (nums (nsOf l))≤6:=by rw[len_nums];exact ns_len l
 have C:PcOk (sig pr) (.call (.c (.st 178)) [.loc 77,.cel 78,.c (.str [46]),.cel 80]) 77 [(80,4),(78,3)] W0 (nums (nsOf l)) (qV (rL l) (eL l) (nsOf l)) (fun j=>.lit 21 j) 7:=by
  refine pc_lit rfl (by rw[len_nums,len_eq];exact List.length_map _) (by exact lT hn (nL rfl)) (fun j v u m a h1 h2=>?_);rw[nth_nums] at h1;cases q:(nsOf l)[j]? with
  | none=>rw[q] at h1;exact nn h1
  | some n=>
   rw[q] at h1;obtain rfl:=sI h1;rw[qV_at q] at h2;obtain rfl:=sI h2;exact el_mail P rfl rfl rfl rfl rfl
 have ec:(ops (sig pr) (m+114)).ev g0 (.comp (.call (.c (.st 178)) [.loc 77,.cel 78,.c (.str [46]),.cel 80]) false 77 (.cel 121) [] [80,78] []) W0=some (.ref 24,W0++[.junk,.list (qV (rL l) (eL l) (nsOf l)),.junk]):=by
  have h:=pc_ev C (n:=m+104-len (nums (nsOf l))) (g:=g0) (src:=.cel 121) (fr:=[80,78]) (W0:=W0) (v:=.ref 21) rfl rfl rfl;rw[show m+104-len (nums (nsOf l))+len (nums (nsOf l))+7+3=m+114 by exact eq1 [_,_,_] (.a (.a (.a (.v 0) (.v 1)) (.k 7)) (.k 3)) (.a (.v 2) (.k 114)) (.a (.v 0) (.v 1)) (.a (.v 2) (.k 104)) (Nat.sub_add_cancel (lq1 [_,_] (.v 0) (.a (.v 1) (.k 104)) (.v 0) (.k 6) hn rfl)) rfl rfl] at h;exact h
 exact asg_of (m:=m+114) ec rfl
theorem l_s7 (P:LawOk pr (rL l) (eL l) (nsOf l)) {v2 v3 v4 v5:Option V}:(ops (sig pr) (m+114)).ex g0 lw7 (HA (FR l []) (some (N (tOf l))) v2 v3 v4 v5 (some (.ref 24)) none (gf l))=some (.next,HA (FR l [(66,.str (txt l))]) (some (N (tOf l))) v2 v3 v4 v5 (some (.ref 24)) none (gg l)):=by
 let W0:St:=HA (FR l []) (some (N (tOf l))) v2 v3 v4 v5 (some (.ref 24)) none (gf l)
 have hn:=ns_len l;have hq:len (qV (rL l) (eL l) (nsOf l))=(nsOf l).length:=by rw[len_eq];exact List.length_map _
 have pl:(pcsL l).length=(nsOf l).length:=pcs_len;have C:PcOk (sig pr) (.call (.c (.st 171)) [.sub (.cel 122) (.loc 82),.bin (.Mod) (.bin (.Add) (.cel 119) (.loc 82)) (.c (.int 2))]) 82 [(122,6),(119,1)] W0 (nums (upto (nsOf l).length)) ((pcsL l).map .str) (fun j=>.rit (.ofNat j) (.ofNat ((nsOf l).length-j)) 1) 7:=by
  refine pc_rit (by rw[len_eq,List.length_map,pl]) (by exact lT hn (nL rfl)) (fun j u m a hj h2=>?_);have q:(nsOf l)[j]?=some (nsOf l)[j]:=List.getElem?_eq_getElem hj;have:=pcs_at (r:=rL l) (e:=eL l) (t:=tOf l) (k:=0) q;rw[Nat.zero_add] at this;rw[show (pcsL l).map V.str=(pcsF (rL l) (eL l) (tOf l) 0 (nsOf l)).map V.str from rfl,this] at h2;obtain rfl:=sI h2;exact el_wr P rfl rfl rfl q (ns_lt (List.getElem_mem hj)) (by exact lq2 [_,_] (.v 0) (.k 1000) (.a (.v 0) (.k 1)) (.v 1) (.v 1) (.k 6) hj hn rfl) rfl rfl
 have el:∀ k,(ops (sig pr) (k+3)).ev g0 (.call (.c (.bi (.len))) [.cel 122]) W0=some (N (nsOf l).length,W0):=fun k=>by
  refine (x_call (n:=k+2) (fv:=.bi .len) (vs:=[.ref 24]) rfl rfl).trans ?_;show (ops (sig pr) (k+2)).call (.bi .len) [.ref 24] W0=_;rw[show k+2=(k+1)+1 from rfl,call_bi P.bi];show (bif Nat.ble (len (qV (rL l) (eL l) (nsOf l))) lstMax then some (V.int (Int.ofNat (len (qV (rL l) (eL l) (nsOf l)))),W0) else none)=_;rw[hq,nB (by show _≤100000;omega)];rfl
 have ec:(ops (sig pr) (m+111)).ev g0 (.comp (.call (.c (.st 171)) [.sub (.cel 122) (.loc 82),.bin (.Mod) (.bin (.Add) (.cel 119) (.loc 82)) (.c (.int 2))]) false 82 (.call (.c (.bi (.range))) [.call (.c (.bi (.len))) [.cel 122]]) [] [122,119] []) W0=some (.ref 27,W0++[.junk,.list ((pcsL l).map .str),.junk]):=by
  have lu:=len_upto (nsOf l).length;have h:=pc_ev C (n:=m+101-len (nums (upto (nsOf l).length))) (g:=g0) (src:=.call (.c (.bi (.range))) [.call (.c (.bi (.len))) [.cel 122]]) (fr:=[122,119]) (W0:=W0) (v:=.range 0 (.ofNat (nsOf l).length) 1)
   (by rw[show m+101-len (nums (upto (nsOf l).length))+len (nums (upto (nsOf l).length))+7+2=(m+107)+3 by exact eq1 [_,_,_] (.a (.a (.a (.v 0) (.v 1)) (.k 7)) (.k 2)) (.a (.a (.v 2) (.k 107)) (.k 3)) (.a (.v 0) (.v 1)) (.a (.v 2) (.k 101)) (Nat.sub_add_cancel (lq2 [_,_,_] (.v 0) (.a (.v 1) (.k 101)) (.v 0) (.v 2) (.v 2) (.k 6) (Nat.le_of_eq lu) hn rfl)) rfl rfl];exact rng_ev P (m:=m+107) (by omega) (el (m+105))) (iter_N (by omega) W0) rfl
  rw[show m+101-len (nums (upto (nsOf l).length))+len (nums (upto (nsOf l).length))+7+3=m+111 by exact eq1 [_,_,_] (.a (.a (.a (.v 0) (.v 1)) (.k 7)) (.k 3)) (.a (.v 2) (.k 111)) (.a (.v 0) (.v 1)) (.a (.v 2) (.k 101)) (Nat.sub_add_cancel (lq2 [_,_,_] (.v 0) (.a (.v 1) (.k 101)) (.v 0) (.v 2) (.v 2) (.k 6) (Nat.le_of_eq lu) hn rfl)) rfl rfl] at h;exact h
 have js:meth (sig pr) (.str []) 75 [.ref 27] (W0++[.junk,.list ((pcsL l).map .str),.junk])=some (.str (txt l),W0++[.junk,.list ((pcsL l).map .str),.junk]):=by
  show ((strsOf ((pcsL l).map .str)).bind fun ss=>bif JoinOk (mkS []) (ss.map mkS) then some (V.str (joinS [] ss),W0++[O.junk,O.list ((pcsL l).map V.str),O.junk]) else none)=_;rw[strsOf_map];show (bif JoinOk (mkS []) ((pcsL l).map mkS) then some (V.str (joinS [] (pcsL l)),W0++[O.junk,O.list ((pcsL l).map V.str),O.junk]) else none)=_;have j1:JoinOk (mkS []) ((pcsL l).map mkS)=true:=flat_ok (fun p hp=>lT (pcs_short (rL_lt l) (eL_lt l) (fun n hn=>ns_lt hn) p hp) (by exact nL rfl)) (by exact lq2 [_,_] (.v 0) (.k 10000) (.v 0) (.v 1) (.v 1) (.k 6) (Nat.le_of_eq pl) hn rfl);have j2:joinS [] (pcsL l)=txt l:=by unfold joinS;rw[flat_join];rfl
  rw[j1,j2];rfl
 have em:=(mcall_val (n:=m+112) (o:=.c (.str [])) (m:=75) (ov:=.str []) (fo:=none) (W:=W0) (W1:=W0) (g:=g0) (G:=sig pr) rfl rfl (evs_one (n:=m+110) ec)).trans js;exact asg_of (m:=m+113) em rfl
end
noncomputable abbrev HB (l:List Int) (tl:List (Nat × V)) (c7:Option V) (g:St):St:=HA (FR l tl) (some (N (tOf l))) (some (.ref 12)) (some (.ref 14)) (some (.str (endOf (eL l)))) (some (.ref 21)) (some (.ref 24)) c7 (gg l++g)
noncomputable abbrev takeL:V:=.clo [71] takeB [(69,31),(66,30)]
noncomputable abbrev fr34:O:=.ns [(49,.inst 138 33),(50,.none)]
noncomputable abbrev fr37:O:=.ns [(49,.inst 138 36),(50,.inst 138 33)]
noncomputable abbrev dS0:O:=.dict [(51,N 1),(52,.none),(53,.str wsS),(54,.ref 35)]
noncomputable abbrev LQ (l:List Int) (line p:Nat) (x:St):St:=.ns [(67,takeL),(68,.inst 138 33)]::.cell (some (.str (txt l)))::.cell (some (.ref 32))::.list [N p]::dS 35 31 30::fr34::.list []::dL line 33 38::fr37::.list []::x
noncomputable def lw8:S:=.asg true 92 (.call (.c (.st 166)) [.loc 66])
noncomputable def lx1:S:=.asg true 69 (.lst [.c (.int 0)])
noncomputable def lx2:S:=.fdef false 67 [71] [69,66] takeB
noncomputable def lx3:S:=.asg false 68 (.call (.c (.st 138)) [.c (.none)])
noncomputable def lx4:S:=.asgA (.loc 68) 56 (.loc 67)
noncomputable def lx5:S:=.ret (.call (.c (.st 138)) [.loc 68])
noncomputable abbrev gX:Ctx:=⟨29,[(66,30),(69,31)]⟩
section
variable {pr:V→List V→St→Option (V × St)}{l:List Int}{m:Nat}
theorem call_cls {r e:Nat}{ns:List Nat}(P:LawOk pr r e ns) {n:Nat}{v:V}{W W':St}(h:callFD (ops (sig pr) n) fd114 [.inst 138 (len W),v] (W++[.dict []])=some (.none,W')):(ops (sig pr) (n+2)).call (.st 138) [v] W=some (.inst 138 (len W),W'):=by
 have e0:(ops (sig pr) (n+2)).call (.st 138) [v] W=callCls (sig pr) (ops (sig pr) (n+1)) 138 [v] W:=by
  show (match pr (.st 138) [v] W with | some y=>some y | none=>callV (sig pr) (ops (sig pr) (n+1)) (.st 138) [v] W)=_
  rw[P.n138];rfl
 rw[e0];show b1 ((ops (sig pr) (n+1)).call (.st 114) [.inst 138 (len W),v] (W++[.dict []])) _=_;rw[call_st (P.n114 _ _) rfl rfl,h];rfl
noncomputable abbrev T8 (l:List Int):List (Nat × V):=[(66,.str (txt l))]
theorem l_i1:callFD (ops (sig pr) (m+103)) fd114 [.inst 138 33,.none] (HB l (T8 l) none [.ns [(67,takeL)],.cell (some (.str (txt l))),.cell (some (.ref 32)),.list [N 0],.dict []]) =
  some (.none,HB l (T8 l) none [.ns [(67,takeL)],.cell (some (.str (txt l))),.cell (some (.ref 32)),.list [N 0],dS0,fr34,.list []]):=by kernel_rfl
theorem l_i2:callFD (ops (sig pr) (m+101)) fd114 [.inst 138 36,.inst 138 33] (HB l (T8 l) none [.ns [(67,takeL),(68,.inst 138 33)],.cell (some (.str (txt l))),.cell (some (.ref 32)),.list [N 0],dS 35 31 30,fr34,.list [],.dict []]) =
  some (.none,HB l (T8 l) none (LQ l 1 0 [])):=by kernel_rfl
theorem l_x1:(ops (sig pr) (m+109)).ex gX lx1 (HB l (T8 l) none [.ns [],.cell (some (.str (txt l))),.cell none])=some (.next,HB l (T8 l) none [.ns [],.cell (some (.str (txt l))),.cell (some (.ref 32)),.list [N 0]]):=by kernel_rfl
theorem l_x2:(ops (sig pr) (m+108)).ex gX lx2 (HB l (T8 l) none [.ns [],.cell (some (.str (txt l))),.cell (some (.ref 32)),.list [N 0]])=some (.next,HB l (T8 l) none [.ns [(67,takeL)],.cell (some (.str (txt l))),.cell (some (.ref 32)),.list [N 0]]):=by kernel_rfl
theorem l_x3 {r e:Nat}{ns:List Nat}(P:LawOk pr r e ns):(ops (sig pr) (m+107)).ex gX lx3 (HB l (T8 l) none [.ns [(67,takeL)],.cell (some (.str (txt l))),.cell (some (.ref 32)),.list [N 0]]) =
  some (.next,HB l (T8 l) none [.ns [(67,takeL),(68,.inst 138 33)],.cell (some (.str (txt l))),.cell (some (.ref 32)),.list [N 0],dS0,fr34,.list []]):=by
 have c:(ops (sig pr) (m+105)).call (.st 138) [.none] (HB l (T8 l) none [.ns [(67,takeL)],.cell (some (.str (txt l))),.cell (some (.ref 32)),.list [N 0]])=some (.inst 138 33,HB l (T8 l) none [.ns [(67,takeL)],.cell (some (.str (txt l))),.cell (some (.ref 32)),.list [N 0],dS0,fr34,.list []]):=call_cls P (n:=m+103) l_i1;exact asg_of (m:=m+106) ((x_call (n:=m+105) (fv:=.st 138) (vs:=[.none]) rfl rfl).trans c) rfl
theorem l_x4:(ops (sig pr) (m+106)).ex gX lx4 (HB l (T8 l) none [.ns [(67,takeL),(68,.inst 138 33)],.cell (some (.str (txt l))),.cell (some (.ref 32)),.list [N 0],dS0,fr34,.list []]) =
  some (.next,HB l (T8 l) none [.ns [(67,takeL),(68,.inst 138 33)],.cell (some (.str (txt l))),.cell (some (.ref 32)),.list [N 0],dS 35 31 30,fr34,.list []]):=by kernel_rfl
theorem l_x5 {r e:Nat}{ns:List Nat}(P:LawOk pr r e ns):(ops (sig pr) (m+105)).ex gX lx5 (HB l (T8 l) none [.ns [(67,takeL),(68,.inst 138 33)],.cell (some (.str (txt l))),.cell (some (.ref 32)),.list [N 0],dS 35 31 30,fr34,.list []]) =
  some (.ret (.inst 138 36),HB l (T8 l) none (LQ l 1 0 [])):=by
 have c:(ops (sig pr) (m+103)).call (.st 138) [.inst 138 33] (HB l (T8 l) none [.ns [(67,takeL),(68,.inst 138 33)],.cell (some (.str (txt l))),.cell (some (.ref 32)),.list [N 0],dS 35 31 30,fr34,.list []])=some (.inst 138 36,HB l (T8 l) none (LQ l 1 0 [])):=call_cls P (n:=m+101) l_i2;have e1:(ops (sig pr) (m+104)).ev gX (.call (.c (.st 138)) [.loc 68]) (HB l (T8 l) none [.ns [(67,takeL),(68,.inst 138 33)],.cell (some (.str (txt l))),.cell (some (.ref 32)),.list [N 0],dS 35 31 30,fr34,.list []])=some (.inst 138 36,HB l (T8 l) none (LQ l 1 0 [])):=(x_call (n:=m+103) (fv:=.st 138) (vs:=[.inst 138 33]) rfl rfl).trans c;have e0:∀ W,(ops (sig pr) (m+105)).ex gX lx5 W=b1 ((ops (sig pr) (m+104)).ev gX (.call (.c (.st 138)) [.loc 68]) W) fun v W=>some (Fl.ret v,W):=fun W=>rfl;rw[e0,e1];rfl
theorem l_e0:callFD (ops (sig pr) (m+110)) fd166 [.str (txt l)] (HB l (T8 l) none [])=b1 ((ops (sig pr) (m+110)).exs gX [lx1,lx2,lx3,lx4,lx5] (HB l (T8 l) none [.ns [],.cell (some (.str (txt l))),.cell none])) cRet:=by kernel_rfl
theorem l_s8 {r e:Nat}{ns:List Nat}(P:LawOk pr r e ns):(ops (sig pr) (m+113)).ex g0 lw8 (HB l (T8 l) none [])=some (.next,HB l (T8 l) (some (.inst 138 36)) (LQ l 1 0 [])):=by
 have c:(ops (sig pr) (m+111)).call (.st 166) [.str (txt l)] (HB l (T8 l) none [])=some (.inst 138 36,HB l (T8 l) none (LQ l 1 0 [])):=by
  rw[show m+111=(m+110)+1 from rfl,call_st (P.n166 _ _) rfl rfl,l_e0,show m+110=(m+109)+1 from rfl,exs_cons l_x1,show m+109=(m+108)+1 from rfl,exs_cons l_x2,show m+108=(m+107)+1 from rfl,exs_cons (l_x3 P)];have q:(ops (sig pr) (m+107)).exs gX [lx4,lx5] (HB l (T8 l) none [.ns [(67,takeL),(68,.inst 138 33)],.cell (some (.str (txt l))),.cell (some (.ref 32)),.list [N 0],dS0,fr34,.list []])=some (.ret (.inst 138 36),HB l (T8 l) none (LQ l 1 0 [])):=by
   rw[show m+107=(m+106)+1 from rfl,exs_cons l_x4];exact exs_ret (n:=m+105) (l_x5 P)
  rw[q];rfl
 exact asg_of (m:=m+112) ((x_call (n:=m+111) (fv:=.st 166) (vs:=[.str (txt l)]) rfl rfl).trans c) rfl
end
theorem cnt10_app:∀ a b:List Nat,cnt10 (a++b)=cnt10 a+cnt10 b:=by
 intro z0;induction z0 with
 | nil=>
  intro b;exact (Nat.zero_add _).symm
 | cons c a ih0=>
  intro b;show ln [c]+cnt10 (a++b)=ln [c]+cnt10 a+cnt10 b;rw[ih0 b,Nat.add_assoc]
theorem cnt10_escQ:∀ w:List Nat,cnt10 (escQ w)=cnt10 w:=by
 intro z0;induction z0 with
 | nil=>
  exact rfl
 | cons c w ih0=>
  show cnt10 (esc1 c++escQ w)=ln [c]+cnt10 w;rw[cnt10_app,ih0]
  congr 1
  unfold esc1;cases z:Nat.beq c 34 with
  | true=>rw[nE z];rfl
  | false=>
   rw[cond_false];cases z2:Nat.beq c 92 with
   | true=>rw[nE z2];rfl
   | false=>rfl
theorem cnt10_escB:∀ w:List Nat,cnt10 (escB w)=cnt10 w:=by
 intro z0;induction z0 with
 | nil=>
  exact rfl
 | cons c w ih0=>
  show ln [92]+(ln [c]+cnt10 (escB w))=ln [c]+cnt10 w;rw[ih0];show 0+_=_;rw[Nat.zero_add]
theorem cnt10_wrP (b:Nat) (w:List Nat):cnt10 (wrP b w)=cnt10 w:=by
 unfold wrP;cases Nat.beq b 1 with
 | true=>show cnt10 (escB w++[9])=_;rw[cnt10_app,cnt10_escB];rfl
 | false=>
  show ln [34]+cnt10 (escQ w++[34])=_;rw[cnt10_app,cnt10_escQ];show 0+(cnt10 w+0)=_;exact eq0 [_] (.a (.k 0) (.a (.v 0) (.k 0))) (.v 0) rfl rfl
theorem tok_wr {b:Nat}{w post:List Nat}(hw:len w≠0):tokT (wrP b w++post)=some (w,len (wrP b w)):=by
 unfold wrP;cases Nat.beq b 1 with
 | true=>
  rw[cond_true];cases w with
  | nil=>exact absurd rfl hw
  | cons c w=>
   show tokT (92::c::(escB w++[9])++post)=_;have h:=parseB_esc (c::w) post;have e:92::c::(escB w++[9])++post=escB (c::w)++9::post:=by
    show 92::c::((escB w++[9])++post)=92::c::(escB w++9::post);rw[List.append_assoc];rfl
   rw[e];show b0 (parseB (escB (c::w)++9::post)) _=_;rw[h];show some (c::w,len (escB (c::w))+1)=some (c::w,len (escB (c::w)++[9]));rw[len_app];rfl
 | false=>
  rw[cond_false];have h:=parseQ_esc w post;have e:34::escQ w++[34]++post=34::(escQ w++34::post):=by
   show 34::((escQ w++[34])++post)=_;rw[List.append_assoc];rfl
  rw[e];show b0 (pQ false (escQ w++34::post)) _=_;rw[h];show some (w,len (escQ w)+2)=some (w,len (escQ w++[34])+1);rw[len_app];rfl
noncomputable abbrev lxL (l:List Int) (line p:Nat):LX:=⟨36,33,30,31,32,38,35,line,p,txt l,[]⟩
theorem lexA {l:List Int}{line p k:Nat}{w:List Nat}(hp:p≤700) (ht:tokT ((txt l).drop p)=some (w,k)) (hw:len w≤40):lexAns 128 (lxL l line p) []=some (.str w,line+cnt10 w,p+k,[]):=by
 have h:=txt_len l;unfold lexAns;dsimp only;rw[nB (by rw[len_eq];exact lT h (nL rfl):len (txt l)≤900000),nB (by exact lT hp (nL rfl):p≤600000)];show b0 (tokT ((txt l).drop p)) _=_;rw[ht];show (bif Nat.ble (len w) 40 then some (V.str w,line+cnt10 w,p+k,[]) else none)=_;rw[nB hw];rfl
noncomputable def mlE:X:=.mcall (.cel 92) 47 []
noncomputable def lw9:S:=.asg false 93 (.comp mlE false 81 (.cel 122) [] [92] [])
noncomputable def lw10:S:=.ifs (.cmp (.NotEq) (.loc 93) (.cel 122)) [.ret (.c (.bool false))] []
noncomputable def lw11:S:=.asg false 84 (.lst [])
noncomputable def lw12:S:=.asg false 90 (.call (.c (.st 197)) [.cel 92,.loc 93,.cel 78,.cel 80,.loc 84])
noncomputable abbrev gM:Ctx:=⟨41,[(92,7)]⟩
section
variable {pr:V→List V→St→Option (V × St)}{l:List Int}{m:Nat}
noncomputable abbrev HC (l:List Int) (tl:List (Nat × V)) (line p:Nat) (x:St):St:=HB l tl (some (.inst 138 36)) (LQ l line p x)
theorem lexH {tl:List (Nat × V)}{line p:Nat}{x:St}:LexAt (HC l tl line p x) (lxL l line p):=⟨rfl,rfl,rfl,rfl,rfl,rfl,rfl,(by decide:([36,33,30,31,32,38,35]:List Nat).Nodup)⟩
theorem nocH {tl:List (Nat × V)}{line p:Nat}{x:St}(h:noCits x=true):noCits (HC l tl line p x)=true:=by
 have e:HC l tl line p x=HC l tl line p []++x:=rfl;rw[e];exact noc_app rfl h
theorem get_tok {r e:Nat}{ns:List Nat}(P:LawOk pr r e ns) {g:Ctx}{tl:List (Nat × V)}{line p k:Nat}{x:St}{w:List Nat}(hc:ldCel g 92 (HC l tl line p x)=some (.inst 138 36)) (hx:noCits x=true) (hp:p≤700) (ht:tokT ((txt l).drop p)=some (w,k)) (hw:len w≤40):
  (ops (sig pr) (m+5)).ev g mlE (HC l tl line p x)=some (.str w,HC l tl (line+cnt10 w) (p+k) x):=by
 have h1:(ops (sig pr) (m+4)).ev g (.cel 92) (HC l tl line p x)=some (.inst 138 36,HC l tl line p x):=by
  show b0 (ldCel g 92 (HC l tl line p x)) (fun v=>some (v,HC l tl line p x))=_;rw[hc];rfl
 refine (mcall_val (n:=m+4) (vs:=[]) h1 (fo:=some (.st 128,[.inst 138 36])) rfl rfl).trans ?_;show (ops (sig pr) (m+4)).call (.st 128) [.inst 138 36] (HC l tl line p x)=_;rw[show m+4=(m+3)+1 from rfl];exact call_pr (P.lex _ (lxL l line p) _ _ _ _ lexH (nocH hx) (lexA hp ht hw))
theorem ml_loop (P:LawOk pr (rL l) (eL l) (nsOf l)):∀ (rest:List Nat) (j line p:Nat) (tl:List (Nat × V)) (n:Nat),(nsOf l).drop j=rest→(txt l).drop p=(pcsF (rL l) (eL l) (tOf l) j rest).flatten→p+len (pcsF (rL l) (eL l) (tOf l) j rest).flatten≤600→(tl=[]∨∃ v,tl=[(81,v)]) →
  ∃ tl',(ops (sig pr) (n+rest.length+10)).cpl gM mlE false 81 39 [] 40 (HC l (T8 l) line p [.lit 24 j,.list ((qV (rL l) (eL l) (nsOf l)).take j),.ns tl]) =
   some (HC l (T8 l) (line+cnt10 (pcsF (rL l) (eL l) (tOf l) j rest).flatten) (p+len (pcsF (rL l) (eL l) (tOf l) j rest).flatten) [.junk,.list (qV (rL l) (eL l) (nsOf l)),.ns tl']):=by
 intro z0;induction z0 with
 | nil=>
  intro j line p tl n h hp hl ht;have hj:(nsOf l).length≤j:=List.drop_eq_nil_iff.mp h;have hq:(qV (rL l) (eL l) (nsOf l)).length=(nsOf l).length:=List.length_map _;have hn:nth (qV (rL l) (eL l) (nsOf l)) j=none:=by rw[nth_eq,List.getElem?_eq_none (by exact lq2 [_,_,_] (.v 0) (.v 1) (.v 0) (.v 2) (.v 2) (.v 1) (Nat.le_of_eq hq) hj rfl)]
  refine ⟨tl,?_⟩;rw[show n+([]:List Nat).length+10=(n+9)+1 from rfl,cpl_end (n:=n+9) (W1:=HC l (T8 l) line p [.junk,.list ((qV (rL l) (eL l) (nsOf l)).take j),.ns tl]) rfl]
  ·rw[List.take_of_length_le (by exact lq2 [_,_,_] (.v 0) (.v 1) (.v 0) (.v 2) (.v 2) (.v 1) (Nat.le_of_eq hq) hj rfl)];rfl
  ·show (match nth (qV (rL l) (eL l) (nsOf l)) j with
    | some v=>some (some v,HC l (T8 l) line p [.lit 24 (j+1),.list ((qV (rL l) (eL l) (nsOf l)).take j),.ns tl])
    | none=>some (none,HC l (T8 l) line p [.junk,.list ((qV (rL l) (eL l) (nsOf l)).take j),.ns tl]))=_
   rw[hn]
 | cons y rest ih0=>
  intro j line p tl n h hp hl ht;refine Q03 (drop_cons' h) ?_;intro h1 h2 h3;have hy:y<32:=ns_lt (List.mem_of_getElem? h2);have hn:nth (qV (rL l) (eL l) (nsOf l)) j=some (.str (mailOf (rL l) (eL l) y)):=qV_at h2;refine Q02 (mail_len (rL_lt l) (eL_lt l) hy) ?_;intro m1 m2;have ns6:=ns_len l;have fe:(pcsF (rL l) (eL l) (tOf l) j (y::rest)).flatten=wrP ((tOf l+j)%2) (mailOf (rL l) (eL l) y)++(pcsF (rL l) (eL l) (tOf l) (j+1) rest).flatten:=by
   show (wrP ((tOf l+j)%2) (mailOf (rL l) (eL l) y)::pcsF (rL l) (eL l) (tOf l) (j+1) rest).flatten=_;rw[List.flatten_cons]
  rw[fe] at hp hl ⊢;rw[len_app] at hl;generalize hw:wrP ((tOf l+j)%2) (mailOf (rL l) (eL l) y)=piece at hp hl ⊢;have tk:tokT ((txt l).drop p)=some (mailOf (rL l) (eL l) y,len piece):=by rw[hp,← hw];exact tok_wr m2
  have cw:cnt10 piece=cnt10 (mailOf (rL l) (eL l) y):=by rw[← hw,cnt10_wrP]
  have d2:(txt l).drop (p+len piece)=(pcsF (rL l) (eL l) (tOf l) (j+1) rest).flatten:=by
   rw[← List.drop_drop,hp,len_eq,List.drop_left]
  have tks:(qV (rL l) (eL l) (nsOf l)).take j++[.str (mailOf (rL l) (eL l) y)]=(qV (rL l) (eL l) (nsOf l)).take (j+1):=by
   rw[nth_eq] at hn;rw[List.take_add_one,hn];rfl
  refine Q11 (ih0 (j+1) (line+cnt10 (mailOf (rL l) (eL l) y)) (p+len piece) [(81,.str (mailOf (rL l) (eL l) y))] n h3 d2 (by exact lq1 [_,_,_] (.a (.a (.v 0) (.v 1)) (.v 2)) (.k 600) (.a (.v 0) (.a (.v 1) (.v 2))) (.k 600) hl rfl) (.inr ⟨_,rfl⟩)) ?_;intro tl' k1;refine ⟨tl',?_⟩;rw[show n+(y::rest).length+10=(n+rest.length+10)+1 by rw[List.length_cons];exact rfl];have nx:(ops (sig pr) (n+rest.length+10)).nxt 39 (HC l (T8 l) line p [.lit 24 j,.list ((qV (rL l) (eL l) (nsOf l)).take j),.ns tl])=some (some (.str (mailOf (rL l) (eL l) y)),HC l (T8 l) line p [.lit 24 (j+1),.list ((qV (rL l) (eL l) (nsOf l)).take j),.ns tl]):=by
   rw[show n+rest.length+10=(n+rest.length+9)+1 from rfl];show (match nth (qV (rL l) (eL l) (nsOf l)) j with
    | some v=>some (some v,HC l (T8 l) line p [.lit 24 (j+1),.list ((qV (rL l) (eL l) (nsOf l)).take j),.ns tl])
    | none=>some (none,HC l (T8 l) line p [.junk,.list ((qV (rL l) (eL l) (nsOf l)).take j),.ns tl]))=_
   rw[hn]
  have st:stName gM false 81 (.str (mailOf (rL l) (eL l) y)) (HC l (T8 l) line p [.lit 24 (j+1),.list ((qV (rL l) (eL l) (nsOf l)).take j),.ns tl])=some (HC l (T8 l) line p [.lit 24 (j+1),.list ((qV (rL l) (eL l) (nsOf l)).take j),.ns [(81,.str (mailOf (rL l) (eL l) y))]]):=by
   rcases ht with rfl | ⟨v,rfl⟩<;>rfl
  have ev:=get_tok (m:=n+rest.length+5) (l:=l) (g:=gM) (tl:=T8 l) (line:=line) (p:=p) (x:=[.lit 24 (j+1),.list ((qV (rL l) (eL l) (nsOf l)).take j),.ns [(81,.str (mailOf (rL l) (eL l) y))]]) P rfl rfl (by exact lq1 [_,_,_] (.v 0) (.k 700) (.a (.v 0) (.a (.v 1) (.v 2))) (.k 600) hl rfl) tk (by exact lT m1 (nL rfl));have lb:Nat.ble (len ((qV (rL l) (eL l) (nsOf l)).take j)) lstMax=true:=by rw[len_eq,List.length_take];exact nB (by show _≤100000;omega)
  rw[cpl_take (n:=n+rest.length+10) rfl nx st rfl ev rfl lb];have sa:setAt (HC l (T8 l) (line+cnt10 (mailOf (rL l) (eL l) y)) (p+len piece) [.lit 24 (j+1),.list ((qV (rL l) (eL l) (nsOf l)).take j),.ns [(81,.str (mailOf (rL l) (eL l) y))]]) 40 (.list ((qV (rL l) (eL l) (nsOf l)).take j++[.str (mailOf (rL l) (eL l) y)])) =
    HC l (T8 l) (line+cnt10 (mailOf (rL l) (eL l) y)) (p+len piece) [.lit 24 (j+1),.list ((qV (rL l) (eL l) (nsOf l)).take (j+1)),.ns [(81,.str (mailOf (rL l) (eL l) y))]]:=by
   rw[tks];rfl
  rw[sa,k1,cnt10_app,cw,len_app,Nat.add_assoc,Nat.add_assoc]
noncomputable abbrev ln1 (l:List Int):Nat:=1+cnt10 (txt l)
noncomputable abbrev qL (l:List Int):List V:=qV (rL l) (eL l) (nsOf l)
theorem l_s9 (P:LawOk pr (rL l) (eL l) (nsOf l)):(ops (sig pr) (m+112)).ex g0 lw9 (HC l (T8 l) 1 0 [])=some (.next,HC l (T8 l++[(93,.ref 40)]) (ln1 l) (len (txt l)) [.junk,.list (qL l),.junk]):=by
 refine bC fun hN=>?_;have tl6:=txt_len l;have n6:=ns_len l;refine Q11 (ml_loop P (nsOf l) 0 1 0 [] (m+100-(nsOf l).length) rfl (by rw[List.drop_zero];rfl) (by show 0+len (txt l)≤600;rw[len_eq];exact lq1 [_] (.a (.k 0) (.v 0)) (.k 600) (.v 0) (.k 600) tl6 rfl) (.inl rfl)) ?_;intro tl' k1;rw[show m+100-(nsOf l).length+(nsOf l).length+10=m+110 by exact eq1 [_,_,_] (.a (.a (.v 0) (.v 1)) (.k 10)) (.a (.v 2) (.k 110)) (.a (.v 0) (.v 1)) (.a (.v 2) (.k 100)) (Nat.sub_add_cancel (lq1 [_,_] (.v 0) (.a (.v 1) (.k 100)) (.v 0) (.k 6) n6 rfl)) rfl rfl] at k1;have k2:(ops (sig pr) (m+110)).cpl gM mlE false 81 39 [] 40 (HC l (T8 l) 1 0 [.lit 24 0,.list [],.ns []])=some (HC l (T8 l) (ln1 l) (len (txt l)) [.junk,.list (qL l),.ns tl']):=by
  have e:(0:Nat)+len (txt l)=len (txt l):=Nat.zero_add _;have k1:(ops (sig pr) (m+110)).cpl gM mlE false 81 39 [] 40 (HC l (T8 l) 1 0 [.lit 24 0,.list [],.ns []])=some (HC l (T8 l) (ln1 l) (0+len (txt l)) [.junk,.list (qL l),.ns tl']):=k1;rw[e] at k1;exact k1
 have ec:(ops (sig pr) (m+111)).ev g0 (.comp mlE false 81 (.cel 122) [] [92] []) (HC l (T8 l) 1 0 [])=some (.ref 40,HC l (T8 l) (ln1 l) (len (txt l)) [.junk,.list (qL l),.junk]):=by
  have e0:(ops (sig pr) (m+111)).ev g0 (.comp mlE false 81 (.cel 122) [] [92] []) (HC l (T8 l) 1 0 [])=b0 ((ops (sig pr) (m+110)).cpl gM mlE false 81 39 [] 40 (HC l (T8 l) 1 0 [.lit 24 0,.list [],.ns []])) fun W'=>bif isNs (nth W' 41) then some (V.ref 40,setAt W' 41 .junk) else none:=by kernel_rfl
  rw[e0,k2];rfl
 refine hN ?_;exact asg_of (m:=m+111) ec rfl
theorem eqEl_strs:∀ ss:List (List Nat),eqEl (ss.map V.str) (ss.map V.str)=some true:=by
 intro z0;induction z0 with
 | nil=>
  exact rfl
 | cons s ss ih0=>
  show ((some (beqL s s)).bind fun t=>(eqEl (ss.map V.str) (ss.map V.str)).bind fun u=>some (t&&u))=_;rw[ih0,beqL_self];rfl
theorem eqVs_q (r e:Nat) (ns:List Nat):eqVs (qV r e ns) (qV r e ns)=some true:=by
 unfold eqVs;rw[Nat.beq_refl,cond_true];have:qV r e ns=(ns.map (mailOf r e)).map V.str:=by unfold qV;rw[List.map_map];rfl
 rw[this];exact eqEl_strs _
theorem l_s10:(ops (sig pr) (m+111)).ex g0 lw10 (HC l (T8 l++[(93,.ref 40)]) (ln1 l) (len (txt l)) [.junk,.list (qL l),.junk])=some (.next,HC l (T8 l++[(93,.ref 40)]) (ln1 l) (len (txt l)) [.junk,.list (qL l),.junk]):=by
 refine ifs_f (n:=m+109) ?_;have e0:(ops (sig pr) (m+110)).tst g0 (.cmp (.NotEq) (.loc 93) (.cel 122)) (HC l (T8 l++[(93,.ref 40)]) (ln1 l) (len (txt l)) [.junk,.list (qL l),.junk])=b0 (do let r ← eqVs (qL l) (qL l);some (!r)) fun t=>some (t,HC l (T8 l++[(93,.ref 40)]) (ln1 l) (len (txt l)) [.junk,.list (qL l),.junk]):=by kernel_rfl
 rw[e0,eqVs_q];rfl
noncomputable abbrev T12 (l:List Int):List (Nat × V):=[(66,.str (txt l)),(93,.ref 40),(84,.ref 42),(90,.ref 43)]
theorem l_s11:(ops (sig pr) (m+110)).ex g0 lw11 (HC l (T8 l++[(93,.ref 40)]) (ln1 l) (len (txt l)) [.junk,.list (qL l),.junk])=some (.next,HC l (T8 l++[(93,.ref 40),(84,.ref 42)]) (ln1 l) (len (txt l)) [.junk,.list (qL l),.junk,.list []]):=by kernel_rfl
noncomputable abbrev toldL (l:List Int):List Nat:=toldP (nsOf l)
theorem l_s12 (P:LawOk pr (rL l) (eL l) (nsOf l)):(ops (sig pr) (m+109)).ex g0 lw12 (HC l (T8 l++[(93,.ref 40),(84,.ref 42)]) (ln1 l) (len (txt l)) [.junk,.list (qL l),.junk,.list []])=some (.next,HC l (T12 l) (ln1 l) (len (txt l)) [.junk,.list (qL l),.junk,.list [],.list (nums (toldL l))]):=by
 have tl6:=txt_len l;rw[← len_eq] at tl6;have C:ClsAt (rL l) (eL l) (nsOf l) (HC l (T8 l++[(93,.ref 40),(84,.ref 42)]) (ln1 l) (len (txt l)) [.junk,.list (qL l),.junk,.list []]) (lxL l (ln1 l) (len (txt l))) 40 14 42:={
  lx:=lexH
  pb:=rfl
  hm:=rfl
  hrs:=rfl
  hu:=rfl
  nd:=(by decide:([36,33,30,31,32,38,35,40,14,42]:List Nat).Nodup)
  nc:=nocH rfl
  hT:=by show len (txt l)≤_;exact lT tl6 (nL rfl)
  hp:=by show len (txt l)≤_;exact lT tl6 (nL rfl) }
 have c:(ops (sig pr) (m+107)).call (.st 197) [.inst 138 36,.ref 40,.ref 14,.str (endOf (eL l)),.ref 42] (HC l (T8 l++[(93,.ref 40),(84,.ref 42)]) (ln1 l) (len (txt l)) [.junk,.list (qL l),.junk,.list []])=some (.ref 43,HC l (T8 l++[(93,.ref 40),(84,.ref 42)]) (ln1 l) (len (txt l)) [.junk,.list (qL l),.junk,.list [],.list (nums (toldL l))]):=
  call_pr (n:=m+106) (P.cls _ _ _ _ _ C)
 exact asg_of (m:=m+108) ((x_call (n:=m+107) (fv:=.st 197) (vs:=[.inst 138 36,.ref 40,.ref 14,.str (endOf (eL l)),.ref 42]) rfl rfl).trans c) rfl
end
section
variable {G:Sig}{x la:Nat}{fs:List (Nat × Nat)}{W:St}{xs:List Nat}{p:Nat→Bool}{cond:X}
theorem fc_loop (ha:nth W la=some (.list (nums xs))) (hl:xs.length≤1000) (hts:∀ y k a o,(ops G (k+5)).tsts ⟨len W+2,fs⟩ true [cond] (W++[o,.list a,.ns [(x,N y)]])=some (p y,W++[o,.list a,.ns [(x,N y)]])):
  ∀ (r:List Nat) (i:Nat) (acc:List Nat) (tl:List (Nat × V)) (n:Nat),xs.drop i=r→(tl=[]∨∃ v,tl=[(x,v)])→acc.length+r.length≤1000 →
  ∃ tl',(ops G (n+r.length+20)).cpl ⟨len W+2,fs⟩ (.loc x) false x (len W) [cond] (len W+1) (W++[.lit la i,.list (nums acc),.ns tl])=some (W++[.junk,.list (nums (acc++r.filter p)),.ns tl']):=by
 intro z0;induction z0 with
 | nil=>
  intro i acc tl n h ht hb;have hn:nth (nums xs) i=none:=by rw[nth_nums,List.getElem?_eq_none (List.drop_eq_nil_iff.mp h)];rfl
  refine ⟨tl,?_⟩;rw[show n+([]:List Nat).length+20=(n+19)+1 from rfl,cpl_end (n:=n+19) (W1:=W++[.junk,.list (nums acc),.ns tl])]
  ·rw[List.filter_nil,List.append_nil]
  ·simp only[Zx,Zy,nth_app_add,JE]
  ·simp only[o_nxt,stepNxt,Zx,nth_app_len0,nxLit,nth_app_lt _ ha,hn,J4,setAt_app_len,JH]
 | cons y r ih0=>
  intro i acc tl n h ht hb;refine Q03 (drop_cons' h) ?_;intro h1 h2 h3;have hn:nth (nums xs) i=some (N y):=by rw[nth_nums,h2];rfl
  have hla:acc.length+(r.length+1)≤1000:=hb;rw[show n+(y::r).length+20=(n+r.length+20)+1 by rw[List.length_cons];exact rfl];have ns:isNs (nth (W++[.lit la i,.list (nums acc),.ns tl]) (len W+2))=true:=by simp only[Zx,Zy,nth_app_add,JE]
  have nx:(ops G (n+r.length+20)).nxt (len W) (W++[.lit la i,.list (nums acc),.ns tl])=some (some (N y),W++[.lit la (i+1),.list (nums acc),.ns tl]):=by
   rw[show n+r.length+20=(n+r.length+19)+1 from rfl];simp only[o_nxt,stepNxt,Zx,nth_app_len0,nxLit,nth_app_lt _ ha,hn,J4,setAt_app_len,JH]
  have st:stName ⟨len W+2,fs⟩ false x (N y) (W++[.lit la (i+1),.list (nums acc),.ns tl])=some (W++[.lit la (i+1),.list (nums acc),.ns [(x,N y)]]):=by
   rcases ht with rfl | ⟨v',rfl⟩<;>simp only[Zu,Zx,Zy,nth_app_add,J4,J5,setAt_app_add,J1,J2,Nat.beq_refl,cond_true,JF]
  have ts:=hts y (n+r.length+15) (nums acc) (.lit la (i+1));cases hs:p y with
  | false=>
   refine Q11 (ih0 (i+1) acc [(x,N y)] n h3 (.inr ⟨_,rfl⟩) (by exact lq1 [_,_] (.a (.v 0) (.v 1)) (.k 1000) (.a (.v 0) (.a (.v 1) (.k 1))) (.k 1000) hla rfl)) ?_;intro tl' k1;refine ⟨tl',?_⟩;rw[hs] at ts;rw[cpl_skip ns nx st ts,k1,List.filter_cons,hs];rfl
  | true=>
   refine Q11 (ih0 (i+1) (acc++[y]) [(x,N y)] n h3 (.inr ⟨_,rfl⟩) (by rw[List.length_append,List.length_singleton];exact lq1 [_,_] (.a (.a (.v 0) (.k 1)) (.v 1)) (.k 1000) (.a (.v 0) (.a (.v 1) (.k 1))) (.k 1000) hla rfl)) ?_;intro tl' k1;refine ⟨tl',?_⟩;rw[hs] at ts;have ac:nth (W++[.lit la (i+1),.list (nums acc),.ns [(x,N y)]]) (len W+1)=some (.list (nums acc)):=by simp only[Zx,Zy,nth_app_add]
   have lb:Nat.ble (len (nums acc)) lstMax=true:=by rw[len_nums];exact nB (by show _≤100000;omega)
   rw[cpl_take ns nx st ts (loc_at (m:=n+r.length+19)) ac lb];have sa:setAt (W++[.lit la (i+1),.list (nums acc),.ns [(x,N y)]]) (len W+1) (.list (nums acc++[N y]))=W++[.lit la (i+1),.list (nums (acc++[y])),.ns [(x,N y)]]:=by
    rw[show nums acc++[N y]=nums (acc++[y]) by simp[nums]];simp only[J4,J5,setAt_app_add]
   rw[sa,k1,List.filter_cons,hs,if_pos rfl,List.append_assoc];rfl
theorem fc_ev (ha:nth W la=some (.list (nums xs))) (hl:xs.length≤1000) (hts:∀ y k a o,(ops G (k+5)).tsts ⟨len W+2,fs⟩ true [cond] (W++[o,.list a,.ns [(x,N y)]])=some (p y,W++[o,.list a,.ns [(x,N y)]]))
  {n:Nat}{g:Ctx}{src:X}{fr:List Nat}(h1:(ops G (n+xs.length+20)).ev g src W=some (.ref la,W)) (h3:captured g fr=some fs):
  (ops G (n+xs.length+21)).ev g (.comp (.loc x) false x src [cond] fr []) W=some (.ref (len W+1),W++[.junk,.list (nums (xs.filter p)),.junk]):=by
 refine bC fun hN=>?_;refine Q11 (fc_loop ha hl hts xs 0 [] [] n rfl (.inl rfl) (by show 0+_≤_;exact lq1 [_] (.a (.k 0) (.v 0)) (.k 1000) (.v 0) (.k 1000) hl rfl)) ?_;intro tl' k1;have e0:(ops G (n+xs.length+21)).ev g (.comp (.loc x) false x src [cond] fr []) W=b1 ((ops G (n+xs.length+20)).ev g src W) fun v W=>eComp (ops G (n+xs.length+20)) g (.loc x) false x [cond] fr [] v W:=rfl;have h2:iterOf (.ref la) W=some (len W,W++[.lit la 0]):=by
  show (match nth W la with | some (.list _)=>some (len W,W++[O.lit la 0]) | some (.vit _ _) | some (.cit _)=>some (la,W) | _=>none)=_
  rw[ha]
 refine hN ?_;rw[e0,h1];show eComp (ops G (n+xs.length+20)) g (.loc x) false x [cond] fr [] (.ref la) W=_;unfold eComp;rw[h2];simp only[b1,h3,b0];have l1:len (W++[.lit la 0])=len W+1:=by rw[len_app];rfl
 have w1:W++[.lit la 0]++(O.list []::O.ns []::noCells [])=W++[.lit la 0,.list (nums []),.ns []]:=by
  rw[List.append_assoc];rfl
 rw[l1,w1];simp only[mkCells,List.nil_append];rw[k1];show (bif isNs (nth (W++[O.junk,O.list (nums ([]++xs.filter p)),O.ns tl']) (len W+2)) then some (V.ref (len W+1),setAt (W++[O.junk,O.list (nums ([]++xs.filter p)),O.ns tl']) (len W+2) O.junk) else none)=_;simp only[Zx,Zy,nth_app_add,JE,cond_true,J4,J5,setAt_app_add,List.nil_append]
end
noncomputable def inT:X:=.comp (.loc 77) false 77 (.cel 121) [.cmp (.Eq) (.bin (.BitAnd) (.loc 77) (.cel 10)) (.cel 10)] [10] []
noncomputable def ifT:X:=.cmp (.NotEq) inT (.lst [])
noncomputable def lw13:S:=.asg false 123 (.comp (.cel 10) true 10 (.call (.c (.bi (.range))) [.c (.int 32)]) [ifT] [121] [10])
noncomputable abbrev gT:Ctx:=⟨46,[(10,47),(121,5)]⟩
section
variable {G:Sig}{W:St}{ns:List Nat}{la k:Nat}{m:Nat}
theorem in_ts (h:nth W 47=some (.cell (some (N k)))) (y j:Nat) (a:List V) (o:O):(ops G (j+5)).tsts ⟨len W+2,[(10,47)]⟩ true [.cmp (.Eq) (.bin (.BitAnd) (.loc 77) (.cel 10)) (.cel 10)] (W++[o,.list a,.ns [(77,N y)]])=some (isSub k y,W++[o,.list a,.ns [(77,N y)]]):=by
 have e1:(ops G (j+3)).ev ⟨len W+2,[(10,47)]⟩ (.bin (.BitAnd) (.loc 77) (.cel 10)) (W++[o,.list a,.ns [(77,N y)]])=some (N (Nat.land y k),W++[o,.list a,.ns [(77,N y)]]):=
  (bin_at (m:=j+2) (loc_at (m:=j+1)) (cel_at (m:=j+1) rfl h)).trans rfl
 have e2:(ops G (j+3)).ev ⟨len W+2,[(10,47)]⟩ (.cel 10) (W++[o,.list a,.ns [(77,N y)]])=some (N k,W++[o,.list a,.ns [(77,N y)]]):=cel_at rfl h;have t1:(ops G (j+4)).tst ⟨len W+2,[(10,47)]⟩ (.cmp (.Eq) (.bin (.BitAnd) (.loc 77) (.cel 10)) (.cel 10)) (W++[o,.list a,.ns [(77,N y)]])=some (isSub k y,W++[o,.list a,.ns [(77,N y)]]):=by
  rw[show j+4=(j+3)+1 from rfl,o_tst];have q:=eqI_N (Nat.land y k) k;simp only[ZW,b1,b0,e1,e2,cmpop,Jy,q,JR,JJ,JV,JW,Jk];rfl
 have e3:∀ A V,(ops G (j+5)).tsts ⟨len W+2,[(10,47)]⟩ true [A] V=b1 ((ops G (j+4)).tst ⟨len W+2,[(10,47)]⟩ A V) fun t W=>bif t then some (true,W) else some (false,W):=fun ux uy=>rfl;rw[e3,t1];simp only[b1];cases isSub k y<;>rfl
theorem out_ts (h1:nth W 47=some (.cell (some (N k)))) (h2:nth W 5=some (.cell (some (.ref la)))) (h3:nth W la=some (.list (nums ns))) (hl:ns.length≤6):
  ∃ g',noCits g'=true∧(ops G (m+40)).tsts gT true [ifT] W=some (ns.any (isSub k),W++g'):=by
 refine ⟨[.junk,.list (nums (ns.filter (isSub k))),.junk,.list []],rfl,?_⟩;have c1:=fc_ev (G:=G) (x:=77) (fs:=[(10,47)]) (p:=isSub k) (n:=m+17-ns.length) (g:=gT) (src:=.cel 121) (fr:=[10]) h3 (by exact lT hl (nL rfl)) (fun y j a o=>in_ts h1 y j a o) (by
  have:=cel_at (G:=G) (m:=m+17-ns.length+ns.length+19) (x:=121) (l:=5) (lf:=46) (cs:=[(10,47),(121,5)]) (t:=[]) rfl h2;rw[List.append_nil] at this;exact this) rfl
 rw[show m+17-ns.length+ns.length+21=m+38 by exact eq1 [_,_,_] (.a (.a (.v 0) (.v 1)) (.k 21)) (.a (.v 2) (.k 38)) (.a (.v 0) (.v 1)) (.a (.v 2) (.k 17)) (Nat.sub_add_cancel (lq1 [_,_] (.v 0) (.a (.v 1) (.k 17)) (.v 0) (.k 6) hl rfl)) rfl rfl] at c1;have e2:(ops G (m+38)).ev gT (.lst []) (W++[.junk,.list (nums (ns.filter (isSub k))),.junk])=some (.ref (len W+3),W++[.junk,.list (nums (ns.filter (isSub k))),.junk,.list []]):=by
  have e0:∀ V,(ops G (m+38)).ev gT (.lst []) V=some (.ref (len V),V++[.list []]):=fun ux=>rfl;rw[e0,len_app,List.append_assoc];rfl
 have x1:nth (W++[.junk,.list (nums (ns.filter (isSub k))),.junk,.list []]) (len W+1)=some (.list (nums (ns.filter (isSub k)))):=by rw[nth_app_add];rfl
 have x2:nth (W++[.junk,.list (nums (ns.filter (isSub k))),.junk,.list []]) (len W+3)=some (.list []):=by rw[nth_app_add];rfl
 have cm:cmpop .NotEq (.ref (len W+1)) (.ref (len W+3)) (W++[.junk,.list (nums (ns.filter (isSub k))),.junk,.list []])=some (ns.any (isSub k)):=by
  show (onL (nth (W++[.junk,.list (nums (ns.filter (isSub k))),.junk,.list []]) (len W+1)) fun a=>onL (nth (W++[.junk,.list (nums (ns.filter (isSub k))),.junk,.list []]) (len W+3)) fun b=>(do let r ← eqVs a b;some (!r)))=_;rw[x1,x2];show (do let r ← eqVs (nums (ns.filter (isSub k))) [];some (!r))=_;cases q:ns.filter (isSub k) with
  | nil=>
   have:ns.any (isSub k)=false:=by
    rw[List.any_eq_false];intro x hx hs;have:x∈ns.filter (isSub k):=List.mem_filter.mpr ⟨hx,hs⟩;rw[q] at this;cases this
   rw[this];rfl
  | cons y r=>
   have:ns.any (isSub k)=true:=by
    have hy:y∈ns.filter (isSub k):=by rw[q];exact .head _
    exact List.any_eq_true.mpr ⟨y,(List.mem_filter.mp hy).1,(List.mem_filter.mp hy).2⟩
   rw[this];rfl
 have t1:(ops G (m+39)).tst gT ifT W=some (ns.any (isSub k),W++[.junk,.list (nums (ns.filter (isSub k))),.junk,.list []]):=by
  have e0:(ops G (m+39)).tst gT ifT W=b1 ((ops G (m+38)).ev gT inT W) fun a W=>b1 ((ops G (m+38)).ev gT (.lst []) W) fun b W=>b0 (cmpop .NotEq a b W) fun t=>some (t,W):=rfl;have c1':(ops G (m+38)).ev gT inT W=_:=c1;rw[e0,c1'];simp only[b1,e2,cm,b0]
 have e3:∀ A V,(ops G (m+40)).tsts gT true [A] V=b1 ((ops G (m+39)).tst gT A V) fun t W=>bif t then some (true,W) else some (false,W):=fun ux uy=>rfl;rw[e3,t1];simp only[b1];cases ns.any (isSub k)<;>rfl
end
section
variable {pr:V→List V→St→Option (V × St)}{l:List Int}{m:Nat}
noncomputable abbrev HT (l:List Int) (o:O) (acc:List Nat) (n46:O) (cv:Option V) (g:St):St:=HC l (T12 l) (ln1 l) (len (txt l)) (.junk::.list (qL l)::.junk::.list []::.list (nums (toldL l))::o::.list (nums acc)::n46::.cell cv::g)
theorem told_loop:∀ (c k:Nat) (acc:List Nat) (cv:Option V) (g:St) (n:Nat),k+c=32→acc.length+c≤100→noCits g=true →
  ∃ cv' g',noCits g'=true∧(ops (sig pr) (n+c+50)).cpl gT (.cel 10) true 10 44 [ifT] 45 (HT l (.rit (.ofNat k) (.ofNat c) 1) acc (.ns []) cv g)=some (HT l .junk (acc++(List.range' k c).filter fun m=>(nsOf l).any (isSub m)) (.ns []) cv' g'):=by
 intro z0;induction z0 with
 | zero=>
  intro k acc cv g n hk ha hg;refine ⟨cv,g,hg,?_⟩;rw[show n+0+50=(n+49)+1 from rfl,cpl_end (n:=n+49) (W1:=HT l .junk acc (.ns []) cv g) rfl]
  ·rw[show List.range' k 0=[] from rfl,List.filter_nil,List.append_nil]
  ·rw[show n+49=(n+48)+1 from rfl,o_nxt];show nxRit 44 (.ofNat k) (.ofNat 0) 1 _=_;rw[rit_end];rfl
 | succ c ih0=>
  intro k acc cv g n hk ha hg;rw[show n+(c+1)+50=(n+c+50)+1 by exact rfl];have nx:(ops (sig pr) (n+c+50)).nxt 44 (HT l (.rit (.ofNat k) (.ofNat (c+1)) 1) acc (.ns []) cv g)=some (some (N k),HT l (.rit (.ofNat (k+1)) (.ofNat c) 1) acc (.ns []) cv g):=by
   rw[show n+c+50=(n+c+49)+1 from rfl,o_nxt];show nxRit 44 (.ofNat k) (.ofNat (c+1)) 1 _=_;rw[rit_next];rfl
  have st:stName gT true 10 (N k) (HT l (.rit (.ofNat (k+1)) (.ofNat c) 1) acc (.ns []) cv g)=some (HT l (.rit (.ofNat (k+1)) (.ofNat c) 1) acc (.ns []) (some (N k)) g):=rfl;refine Q12 (out_ts (G:=sig pr) (W:=HT l (.rit (.ofNat (k+1)) (.ofNat c) 1) acc (.ns []) (some (N k)) g) (k:=k) (la:=21) (ns:=nsOf l) (m:=n+c+10) rfl rfl rfl (ns_len l)) ?_;intro g1 hg1 ts;have w1:HT l (.rit (.ofNat (k+1)) (.ofNat c) 1) acc (.ns []) (some (N k)) g++g1=HT l (.rit (.ofNat (k+1)) (.ofNat c) 1) acc (.ns []) (some (N k)) (g++g1):=rfl;rw[w1] at ts;have ng:=noc_app hg hg1;have fe:(List.range' k (c+1)).filter (fun m=>(nsOf l).any (isSub m))=if (nsOf l).any (isSub k)=true then k::(List.range' (k+1) c).filter (fun m=>(nsOf l).any (isSub m)) else (List.range' (k+1) c).filter (fun m=>(nsOf l).any (isSub m)):=by
   rw[List.range'_succ,List.filter_cons]
  cases hq:(nsOf l).any (isSub k) with
  | false=>
   rw[hq] at ts fe;refine Q22 (ih0 (k+1) acc (some (N k)) (g++g1) n (by exact eq1 [_,_] (.a (.a (.v 0) (.k 1)) (.v 1)) (.k 32) (.a (.v 0) (.a (.v 1) (.k 1))) (.k 32) hk rfl rfl) (by omega) ng) ?_;intro cv' g' k0 k1;refine ⟨cv',g',k0,?_⟩;rw[cpl_skip (n:=n+c+50) rfl nx st ts,k1,fe,if_neg Bool.false_ne_true]
  | true=>
   rw[hq] at ts fe;refine Q22 (ih0 (k+1) (acc++[k]) (some (N k)) (g++g1) n (by exact eq1 [_,_] (.a (.a (.v 0) (.k 1)) (.v 1)) (.k 32) (.a (.v 0) (.a (.v 1) (.k 1))) (.k 32) hk rfl rfl) (by rw[List.length_append,List.length_singleton];omega) ng) ?_;intro cv' g' k0 k1;refine ⟨cv',g',k0,?_⟩;have ev:(ops (sig pr) (n+c+50)).ev gT (.cel 10) (HT l (.rit (.ofNat (k+1)) (.ofNat c) 1) acc (.ns []) (some (N k)) (g++g1))=some (N k,HT l (.rit (.ofNat (k+1)) (.ofNat c) 1) acc (.ns []) (some (N k)) (g++g1)):=rfl;have lb:Nat.ble (len (nums acc)) lstMax=true:=by rw[len_nums];exact nB (by show _≤100000;omega)
   rw[cpl_take (n:=n+c+50) rfl nx st ts ev rfl lb];have sa:setAt (HT l (.rit (.ofNat (k+1)) (.ofNat c) 1) acc (.ns []) (some (N k)) (g++g1)) 45 (.list (nums acc++[N k]))=HT l (.rit (.ofNat (k+1)) (.ofNat c) 1) (acc++[k]) (.ns []) (some (N k)) (g++g1):=by
    rw[show nums acc++[N k]=nums (acc++[k]) by simp[nums]];rfl
   rw[sa,k1,fe,if_pos rfl,List.append_assoc];rfl
noncomputable abbrev HD (l:List Int) (line p:Nat) (cv:Option V) (g:St):St:=HC l (T12 l++[(123,.ref 45)]) line p (.junk::.list (qL l)::.junk::.list []::.list (nums (toldL l))::.junk::.list (nums (toldL l))::.junk::.cell cv::g)
theorem l_s13 (P:LawOk pr (rL l) (eL l) (nsOf l)):∃ cv g,noCits g=true∧(ops (sig pr) (m+108)).ex g0 lw13 (HC l (T12 l) (ln1 l) (len (txt l)) [.junk,.list (qL l),.junk,.list [],.list (nums (toldL l))])=some (.next,HD l (ln1 l) (len (txt l)) cv g):=by
 refine bC fun hN=>?_;refine Q22 (told_loop (pr:=pr) (l:=l) 32 0 [] none [] (m+24) rfl (by show 0+_≤_;exact nL rfl) rfl) ?_;intro cv g hg k1;refine hN ?_;refine ⟨cv,g,hg,?_⟩;have te:[]++(List.range' 0 32).filter (fun m=>(nsOf l).any (isSub m))=toldL l:=by
  rw[List.nil_append,← List.range_eq_range',← upto_range];rfl
 rw[te] at k1;have ec:(ops (sig pr) (m+107)).ev g0 (.comp (.cel 10) true 10 (.call (.c (.bi (.range))) [.c (.int 32)]) [ifT] [121] [10]) (HC l (T12 l) (ln1 l) (len (txt l)) [.junk,.list (qL l),.junk,.list [],.list (nums (toldL l))])=some (.ref 45,HC l (T12 l) (ln1 l) (len (txt l)) (.junk::.list (qL l)::.junk::.list []::.list (nums (toldL l))::.junk::.list (nums (toldL l))::.junk::.cell cv::g)):=by
  have e0:∀ W,(ops (sig pr) (m+107)).ev g0 (.comp (.cel 10) true 10 (.call (.c (.bi (.range))) [.c (.int 32)]) [ifT] [121] [10]) W=b1 ((ops (sig pr) (m+106)).ev g0 (.call (.c (.bi (.range))) [.c (.int 32)]) W) fun v W=>eComp (ops (sig pr) (m+106)) g0 (.cel 10) true 10 [ifT] [121] [10] v W:=fun W=>rfl;have e1:(ops (sig pr) (m+106)).ev g0 (.call (.c (.bi (.range))) [.c (.int 32)]) (HC l (T12 l) (ln1 l) (len (txt l)) [.junk,.list (qL l),.junk,.list [],.list (nums (toldL l))])=some (.range 0 32 1,HC l (T12 l) (ln1 l) (len (txt l)) [.junk,.list (qL l),.junk,.list [],.list (nums (toldL l))]):=rng_ev P (m:=m+103) (n:=32) (by exact nL rfl) rfl;have e2:∀ W,len W=44→eComp (ops (sig pr) (m+106)) g0 (.cel 10) true 10 [ifT] [121] [10] (.range 0 32 1) W=b0 ((ops (sig pr) (m+106)).cpl gT (.cel 10) true 10 44 [ifT] 45 (W++[.rit (.ofNat 0) (.ofNat 32) 1,.list [],.ns [],.cell none])) fun W'=>bif isNs (nth W' 46) then some (.ref 45,setAt W' 46 .junk) else none:=fun W hW=>by
   have it:iterOf (.range 0 32 1) W=some (len W,W++[.rit (.ofNat 0) (.ofNat 32) 1]):=iter_N (n:=32) (by exact nL rfl) W;unfold eComp;rw[it,hW];have l1:len (W++[.rit (.ofNat 0) (.ofNat 32) 1])=45:=by rw[len_app,hW];rfl
   have w1:W++[.rit (.ofNat 0) (.ofNat 32) 1]++(O.list []::O.ns []::noCells [10])=W++[.rit (.ofNat 0) (.ofNat 32) 1,.list [],.ns [],.cell none]:=by rw[List.append_assoc];rfl
   have c1:captured g0 [121]=some [(121,5)]:=rfl;simp only[b1,c1,b0,l1,w1];rfl
  rw[e0,e1];simp only[b1];rw[e2 _ rfl];have k2:(ops (sig pr) (m+106)).cpl gT (.cel 10) true 10 44 [ifT] 45 (HC l (T12 l) (ln1 l) (len (txt l)) [.junk,.list (qL l),.junk,.list [],.list (nums (toldL l))]++[.rit (.ofNat 0) (.ofNat 32) 1,.list [],.ns [],.cell none])=_:=k1;rw[k2];rfl
 exact asg_of (m:=m+107) ec rfl
end
theorem ln_one (c:Nat):ln [c]=if c=10 then 1 else 0:=by
 unfold ln;rw[beq1];cases q:Nat.beq c 10 with
 | true=>rw[if_pos (nE q)];rfl
 | false=>rw[if_neg (fun e=>by rw[e] at q;cases q)];rfl
theorem cnt_go (T:List Nat):∀ (c i:Nat) (a:Array Nat) (free:Nat),i+c=T.length+1→free≤i→a.size≤i→(forIn (List.range' i c) (a,free) (PySem.StrLaws.occBody (mkS T) (mkS [10]) T.length (T.length+1))).run.fst.size=a.size+cnt10 (T.drop i):=by
 intro z0;induction z0 with
 | zero=>
  intro i a free h hf ha;rw[List.drop_eq_nil_iff.mpr (by exact lq1 [_,_] (.v 0) (.v 1) (.a (.v 0) (.k 1)) (.a (.v 1) (.k 0)) (Nat.le_of_eq h.symm) rfl)];rfl
 | succ c ih0=>
  intro i a free h hf ha;rw[List.range'_succ,List.forIn_cons];have s1:=PySem.StrLaws.subAt_one (mkS T) 10 i;have hl:(mkS T).length=T.length:=by simp[Str.length]
  have hT:(mkS T).cps.toList=T:=by simp
  unfold PySem.StrLaws.occBody;by_cases z:T[i]?=some 10
  ·refine Q02 (s1.mpr z) ?_;intro z1 z2;rw[if_pos ⟨⟨⟨(by show a.size < _;exact lq2 [_,_,_,_] (.a (.v 0) (.k 1)) (.a (.v 1) (.k 1)) (.v 0) (.v 2) (.a (.v 2) (.a (.v 3) (.k 1))) (.a (.v 1) (.k 1)) ha (Nat.le_of_eq h) rfl),hf⟩,z1⟩,z2⟩];have ih:=ih0 (i+1) (a.push i) (i+(mkS [10]).length) (by exact eq1 [_,_,_] (.a (.a (.v 0) (.k 1)) (.v 1)) (.a (.v 2) (.k 1)) (.a (.v 0) (.a (.v 1) (.k 1))) (.a (.v 2) (.k 1)) h rfl rfl) (Nat.le_refl _) (by rw[Array.size_push];omega);refine Q11 (List.getElem?_eq_some_iff.mp z) ?_;intro hlt hz;simp only[List.drop_eq_getElem_cons hlt,hz];refine Eq.trans ih ?_;rw[Array.size_push];show a.size+1+cnt10 (T.drop (i+1))=a.size+(1+cnt10 (T.drop (i+1)));exact eq0 [_,_] (.a (.a (.v 0) (.k 1)) (.v 1)) (.a (.v 0) (.a (.k 1) (.v 1))) rfl rfl
  ·have n1:¬ ((((a,free).fst.size<T.length+1∧(a,free).snd≤i)∧i+(mkS [10]).length≤T.length)∧Builtin.Str.subAt (mkS T) (mkS [10]) i=true):=fun hh=>z (s1.mp ⟨hh.1.2,hh.2⟩);rw[if_neg n1];have ih:=ih0 (i+1) a free (by exact eq1 [_,_,_] (.a (.a (.v 0) (.k 1)) (.v 1)) (.a (.v 2) (.k 1)) (.a (.v 0) (.a (.v 1) (.k 1))) (.a (.v 2) (.k 1)) h rfl rfl) (by omega) (by omega);refine Eq.trans ih ?_
   congr 1
   rcases Nat.lt_or_ge i T.length with hlt | hge
   ·rw[List.drop_eq_getElem_cons hlt];show _=ln [T[i]]+cnt10 (T.drop (i+1));rw[ln_one,if_neg (fun e=>z (by rw[List.getElem?_eq_getElem hlt,e]))];exact eq0 [_] (.v 0) (.a (.k 0) (.v 0)) rfl rfl
   ·rw[List.drop_eq_nil_iff.mpr hge,List.drop_eq_nil_iff.mpr (by exact lq1 [_,_] (.v 0) (.a (.v 1) (.k 1)) (.v 0) (.v 1) hge rfl)]
theorem count_10 (T:List Nat):countS [10] T=.ofNat (cnt10 T):=by
 unfold countS Txt.count;have hl:(mkS T).length=T.length:=by simp[Str.length]
 simp only[hl,PySem.StrLaws.occ_eq,Array.length_toList];have:=cnt_go T (T.length+1-0) 0 #[] 0 (by exact eq1 [_,_] (.a (.k 0) (.v 0)) (.a (.v 1) (.k 1)) (.a (.v 0) (.k 0)) (.a (.v 1) (.k 1)) (Nat.sub_add_cancel (Nat.zero_le _)) rfl rfl) (Nat.le_refl _) (Nat.le_refl _);rw[this];show (((0+cnt10 T:Nat)):Int)=_;rw[Nat.zero_add];rfl
noncomputable def lw14:S:=.ifs (.boo (.Or) [.cmp (.NotEq) (.loc 84) (.lst []),.cmp (.NotEq) (.loc 90) (.loc 123)]) [.ret (.c (.bool false))] []
noncomputable def lw15:S:=.ifs (.boo (.Or) [.cmp (.NotEq) mlE (.c (.str [])),.cmp (.NotEq) (.att (.cel 92) 51) (.bin (.Add) (.c (.int 1)) (.mcall (.loc 66) 71 [.c (.str [10])]))]) [.ret (.c (.bool false))] []
noncomputable def lw16:S:=.ret (.call (.c (.st 212)) [.loc 90])
section
variable {pr:V→List V→St→Option (V × St)}{l:List Int}{m:Nat}
theorem or_ff {G:Sig}{g:Ctx}{t1 t2:X}{W W1 W2:St}(h1:(ops G (m+2)).tst g t1 W=some (false,W1)) (h2:(ops G (m+1)).tst g t2 W1=some (false,W2)):(ops G (m+4)).tst g (.boo .Or [t1,t2]) W=some (false,W2):=by
 have e0:(ops G (m+4)).tst g (.boo .Or [t1,t2]) W=b1 ((ops G (m+2)).tst g t1 W) fun t W=>bif t then some (true,W) else (ops G (m+2)).tsts g false [t2] W:=rfl;have e1:∀ W,(ops G (m+2)).tsts g false [t2] W=b1 ((ops G (m+1)).tst g t2 W) fun t W=>bif t then some (true,W) else some (false,W):=fun W=>rfl;refine (e0).trans ?_;rw[h1];simp only[b1s,cond_false,e1,h2]
theorem ne_at {G:Sig}{g:Ctx}{x y:X}{u v:V}{t:Bool}{W W1 W2:St}(h1:(ops G m).ev g x W=some (u,W1)) (h2:(ops G m).ev g y W1=some (v,W2)) (h3:cmpop .NotEq u v W2=some t):(ops G (m+1)).tst g (.cmp .NotEq x y) W=some (t,W2):=by
 have e0:(ops G (m+1)).tst g (.cmp .NotEq x y) W=b1 ((ops G m).ev g x W) fun a W=>b1 ((ops G m).ev g y W) fun b W=>b0 (cmpop .NotEq a b W) fun t=>some (t,W):=rfl;refine (e0).trans ?_;rw[h1];simp only[b1s,h2,h3,b0s]
theorem eqVs_self (xs:List Nat):eqVs (nums xs) (nums xs)=some true:=by
 unfold eqVs;rw[Nat.beq_refl,cond_true];induction xs with
 | nil=>rfl
 | cons x xs ih=>
  show ((some (eqI (.ofNat x) (.ofNat x))).bind fun t=>(eqEl (nums xs) (nums xs)).bind fun u=>some (t&&u))=_;rw[ih,eqI_self];rfl
theorem l_s14 {cv:Option V}{g:St}:(ops (sig pr) (m+107)).ex g0 lw14 (HD l (ln1 l) (len (txt l)) cv g)=some (.next,HD l (ln1 l) (len (txt l)) cv (g++[.list []])):=by
 refine ifs_f (n:=m+105) (or_ff (m:=m+102) (W1:=HD l (ln1 l) (len (txt l)) cv (g++[.list []])) ?_ ?_)
 ·refine ne_at (m:=m+103) (u:=.ref 42) (v:=.ref (len (HD l (ln1 l) (len (txt l)) cv g))) (W1:=HD l (ln1 l) (len (txt l)) cv g) rfl rfl ?_;have x1:nth (HD l (ln1 l) (len (txt l)) cv g++[.list []]) 42=some (.list []):=rfl;have x2:nth (HD l (ln1 l) (len (txt l)) cv g++[.list []]) (len (HD l (ln1 l) (len (txt l)) cv g))=some (.list []):=by rw[nth_app_len0];rfl
  generalize len (HD l (ln1 l) (len (txt l)) cv g)=q at x2;show (onL (nth (HD l (ln1 l) (len (txt l)) cv g++[.list []]) 42) fun a=>onL (nth (HD l (ln1 l) (len (txt l)) cv g++[.list []]) q) fun b=>(do let r ← eqVs a b;some (!r)))=_;refine x1.symm ▸ x2.symm ▸ ?_;rfl
 ·refine ne_at (m:=m+102) (u:=.ref 43) (v:=.ref 45) (W1:=HD l (ln1 l) (len (txt l)) cv (g++[.list []])) rfl rfl ?_;have e0:cmpop .NotEq (.ref 43) (.ref 45) (HD l (ln1 l) (len (txt l)) cv (g++[.list []]))=(do let r ← eqVs (nums (toldL l)) (nums (toldL l));some (!r)):=rfl;refine (e0).trans ?_;rw[eqVs_self];rfl
theorem l_s15 {r e:Nat}{ns:List Nat}(P:LawOk pr r e ns) {cv:Option V}{g:St}(hg:noCits g=true):(ops (sig pr) (m+106)).ex g0 lw15 (HD l (ln1 l) (len (txt l)) cv g)=some (.next,HD l (ln1 l) (len (txt l)+1) cv g):=by
 have tl6:=txt_len l;rw[← len_eq] at tl6;refine ifs_f (n:=m+104) (or_ff (m:=m+101) (W1:=HD l (ln1 l) (len (txt l)+1) cv g) ?_ ?_)
 ·have tk:=get_tok (m:=m+97) (l:=l) (g:=g0) (tl:=T12 l++[(123,.ref 45)]) (line:=ln1 l) (p:=len (txt l)) (k:=1) (w:=[]) (x:=.junk::.list (qL l)::.junk::.list []::.list (nums (toldL l))::.junk::.list (nums (toldL l))::.junk::.cell cv::g) P rfl hg (lT ‹_› (by decide)) (by rw[List.drop_eq_nil_iff.mpr (by rw[len_eq];exact Nat.le_refl _)];rfl) (by show 0≤40;exact Nat.zero_le _);exact ne_at (m:=m+102) (u:=.str []) (v:=.str []) tk rfl rfl
 ·have a1:(ops (sig pr) (m+101)).ev g0 (.att (.cel 92) 51) (HD l (ln1 l) (len (txt l)+1) cv g)=some (N (ln1 l),HD l (ln1 l) (len (txt l)+1) cv g):=rfl;have a2:(ops (sig pr) (m+100)).ev g0 (.mcall (.loc 66) 71 [.c (.str [10])]) (HD l (ln1 l) (len (txt l)+1) cv g)=some (.int (countS [10] (txt l)),HD l (ln1 l) (len (txt l)+1) cv g):=by
   refine (mcall_val (n:=m+99) (ov:=.str (txt l)) (fo:=none) (vs:=[.str [10]]) (W1:=HD l (ln1 l) (len (txt l)+1) cv g) (W2:=HD l (ln1 l) (len (txt l)+1) cv g) rfl rfl rfl).trans rfl
  rw[count_10] at a2;have a3:(ops (sig pr) (m+101)).ev g0 (.bin (.Add) (.c (.int 1)) (.mcall (.loc 66) 71 [.c (.str [10])])) (HD l (ln1 l) (len (txt l)+1) cv g)=some (N (ln1 l),HD l (ln1 l) (len (txt l)+1) cv g):=
   (bin_at (m:=m+100) (u:=N 1) (W1:=HD l (ln1 l) (len (txt l)+1) cv g) rfl a2).trans rfl
  refine ne_at (m:=m+101) (u:=N (ln1 l)) (v:=N (ln1 l)) a1 a3 ?_;show some (!eqI (.ofNat (ln1 l)) (.ofNat (ln1 l)))=_;rw[eqI_self];rfl
theorem l_s16 (P:LawOk pr (rL l) (eL l) (nsOf l)) {cv:Option V}{g:St}(hg:noCits g=true):(ops (sig pr) (m+105)).ex g0 lw16 (HD l (ln1 l) (len (txt l)+1) cv g)=some (.ret (.bool true),HD l (ln1 l) (len (txt l)+1) cv g):=by
 have c:(ops (sig pr) (m+103)).call (.st 212) [.ref 43] (HD l (ln1 l) (len (txt l)+1) cv g)=some (.bool true,HD l (ln1 l) (len (txt l)+1) cv g):=
  call_pr (n:=m+102) (P.lev _ 43 rfl (nocH hg))
 have e1:(ops (sig pr) (m+104)).ev g0 (.call (.c (.st 212)) [.loc 90]) (HD l (ln1 l) (len (txt l)+1) cv g)=some (.bool true,HD l (ln1 l) (len (txt l)+1) cv g):=(x_call (n:=m+103) (fv:=.st 212) (vs:=[.ref 43]) rfl rfl).trans c;have e0:∀ W,(ops (sig pr) (m+105)).ex g0 lw16 W=b1 ((ops (sig pr) (m+104)).ev g0 (.call (.c (.st 212)) [.loc 90]) W) fun v W=>some (Fl.ret v,W):=fun W=>rfl;simp only[e0,e1];rfl
noncomputable abbrev H00 (l:List Int):St:=HA (FR l []) none none none none none none none []
theorem l_all (P:LawOk pr (rL l) (eL l) (nsOf l)) (hl:l.length≤63):∃ W',(ops (sig pr) (m+121)).exs g0 [lw1,lw2,lw3,lw4,lw5,lw6,lw7,lw8,lw9,lw10,lw11,lw12,lw13,lw14,lw15,lw16] (H00 l)=some (.ret (.bool true),W'):=by
 refine bC fun hN=>?_;refine Q22 (l_s13 (m:=m) (l:=l) P) ?_;intro cv g hg s13;have ng:noCits (g++[.list []])=true:=noc_app hg rfl;refine hN ?_;refine ⟨HD l (ln1 l) (len (txt l)+1) cv (g++[.list []]),?_⟩;have s8:=l_s8 (m:=m) (l:=l) P;refine (exs_cons (l_s1 P hl)).trans ((exs_cons (l_s2 _)).trans ((exs_cons (l_s3 P)).trans ((exs_cons (l_s4 hl)).trans ((exs_cons (l_s5 P hl)).trans ((exs_cons (l_s6 P)).trans ((exs_cons (l_s7 P)).trans ?_))))));refine Eq.trans (exs_cons (n:=m+113) s8) ?_;refine Eq.trans (exs_cons (n:=m+112) (l_s9 P)) ?_;refine Eq.trans (exs_cons (n:=m+111) l_s10) ?_;refine Eq.trans (exs_cons (n:=m+110) l_s11) ?_;refine Eq.trans (exs_cons (n:=m+109) (l_s12 P)) ?_;refine Eq.trans (exs_cons (n:=m+108) s13) ?_;refine Eq.trans (exs_cons (n:=m+107) l_s14) ?_;refine Eq.trans (exs_cons (n:=m+106) (l_s15 P ng)) ?_;exact exs_ret (n:=m+105) (l_s16 P ng)
theorem l_call (P:LawOk pr (rL l) (eL l) (nsOf l)) (hl:l.length≤63):∃ W',(ops (sig pr) (m+122)).call (.st 217) [.klst (l.map .int)] []=some (.bool true,W'):=by
 refine Q11 (l_all (m:=m) (l:=l) P hl) ?_;intro W' h;refine ⟨W',?_⟩;have e0:callFD (ops (sig pr) (m+121)) fd217 [.klst (l.map .int)] []=b1 ((ops (sig pr) (m+121)).exs g0 [lw1,lw2,lw3,lw4,lw5,lw6,lw7,lw8,lw9,lw10,lw11,lw12,lw13,lw14,lw15,lw16] (H00 l)) cRet:=by kernel_rfl
 refine (call_st (P.n217 _ _) rfl rfl).trans ?_;rw[e0,h];rfl
end
noncomputable def PW (r e:Nat) (ns:List Nat):V→List V→St→Option (V × St):=por (pLev fun m=>ns.any fun n=>isSub m n) (por (pCl r e ns) (por pLex (por (pWr r e) pMail)))
theorem pLev_no {Q:Nat→Bool}{a:Nat}{vs:List V}{W:St}(h:Nat.beq a 212=false):pLev Q (.st a) vs W=none:=by
 cases q:pLev Q (.st a) vs W with
 | none=>rfl
 | some y=>
  revert q;refine OSt ?_;intro ux e0 e;obtain rfl:=st_inj e0;revert e;refine OC ?_;rintro ux uy rfl e;revert e;refine ORef ?_;rintro ux rfl e;revert e;refine OE ?_;rintro rfl e;have:=bt e;rw[h] at this;exact ft this
theorem pCl_no {r e a:Nat}{ns:List Nat}{vs:List V}{W:St}(h:a≠197):pCl r e ns (.st a) vs W=none:=by
 unfold pCl;rw[if_neg];rintro ⟨q,_⟩;cases q;exact h rfl
theorem pWr_no {r e a:Nat}{vs:List V}{W:St}(h:a≠171):pWr r e (.st a) vs W=none:=by
 unfold pWr;rw[dif_neg];rintro ⟨q,_⟩;cases q;exact h rfl
theorem pMail_no {a:Nat}{vs:List V}{W:St}(h:Nat.beq a 178=false):pMail (.st a) vs W=none:=by
 cases q:pMail (.st a) vs W with
 | none=>rfl
 | some y=>
  revert q;refine OSt ?_;intro ux e0 e;obtain rfl:=st_inj e0;revert e;refine OC ?_;rintro ux uy rfl e;revert e;refine ONat ?_;rintro ux rfl e;revert e;refine OC ?_;rintro ux uy rfl e;revert e;refine ORef ?_;rintro ux rfl e;revert e;refine OC ?_;rintro ux uy rfl e;revert e;refine OStr ?_;rintro ux rfl e;revert e;refine OC ?_;rintro ux uy rfl e;revert e;refine OStr ?_;rintro ux rfl e;revert e;refine OE ?_;rintro rfl e;have:=bt e;rw[h] at this;exact ft this
theorem pw_no {r e a:Nat}{ns:List Nat}{vs:List V}{W:St}(h1:Nat.beq a 212=false) (h2:a≠197) (h3:a≠128) (h4:a≠135) (h5:a≠171) (h6:Nat.beq a 178=false):PW r e ns (.st a) vs W=none:=by
 unfold PW por;rw[pLev_no h1];rw[pCl_no h2];rw[pLex_no h3 h4];rw[pWr_no h5];dsimp only;exact pMail_no h6
theorem pWr_at {r e n t:Nat}{W:St}(hn:n<32) (ht:t<2) (nc:noCits W=true):pWr r e (.st 171) [.str (mailOf r e n),N t] W=some (.str (wrP t (mailOf r e n)),W):=by
 unfold pWr;have h:V.st 171=.st 171∧noCits W=true∧∃ n' b,n'<32∧b<2∧[V.str (mailOf r e n),N t]=[.str (mailOf r e n'),N b]:=⟨rfl,nc,n,t,hn,ht,rfl⟩;refine (dif_pos h).symm ▸ ?_;refine Q03 h.2.2.choose_spec.choose_spec ?_;intro a1 a2 a3;generalize h.2.2.choose_spec.choose=t' at a2 a3 ⊢;generalize h.2.2.choose=n' at a3 ⊢;simp only[List.cons.injEq,V.str.injEq,V.int.injEq,Int.ofNat.injEq,and_true] at a3;simp only[← a3.1,← a3.2]
theorem sgn_short (k:Nat):Nat.ble (len (sgn k)) 50=true:=by
 rcases k with ux | uy | uz | uw | ut | k<;>rfl
theorem end_short:∀ e,Nat.ble (len (endOf e)) 50=true
 | 0=>rfl
 | 1=>rfl
 | e+2=>rfl
theorem pMail_at {r e n l:Nat}{W:St}(h:nth W l=some (.list (rsV r))) (nc:noCits W=true):pMail (.st 178) [N n,.ref l,.str [46],.str (endOf e)] W=some (.str (mailOf r e n),W):=by
 show (bif _&&noCits W then onL (nth W l) _ else none)=_;refine (congrArg (fun z=>cond z _ _) (nc)).trans ?_;rw[h];show b0 (strsOf (rsV r)) (fun ss=>bif five ss&&(shortS ss&&shortS [[46],endOf e]) then some (V.str (mailFrom n [46] (endOf e) 0 ss),W) else none)=_;refine (congrArg (fun z=>b0 z _) (show strsOf (rsV r)=some (restsOf r) from strsOf_map _)).trans ?_;show (bif five (restsOf r)&&(shortS (restsOf r)&&shortS [[46],endOf e]) then _ else _)=_;have s1:shortS (restsOf r)=true:=by
  unfold shortS restsOf;simp only[List.all_cons,List.all_nil,sgn_short,Bool.and_true]
 have s2:shortS [[46],endOf e]=true:=by
  unfold shortS;simp only[List.all_cons,List.all_nil,end_short,Bool.and_true];rfl
 refine s1.symm ▸ s2.symm ▸ ?_;rfl
theorem pLev_at {ns:List Nat}{W:St}{l:Nat}(h:nth W l=some (.list (nums (toldP ns)))) (nc:noCits W=true):pLev (fun m=>ns.any fun n=>isSub m n) (.st 212) [.ref l] W=some (.bool true,W):=by
 show (bif _&&noCits W then onL (nth W l) _ else none)=_;refine (congrArg (fun z=>cond z _ _) (nc)).trans ?_;rw[h];show (bif eqFs (nums (toldP ns)) (nums ((upto 32).filter fun m=>ns.any fun n=>isSub m n)) then _ else _)=_;refine (congrArg (fun z=>cond z _ _) (show eqFs (nums (toldP ns)) (nums ((upto 32).filter fun m=>ns.any fun n=>isSub m n))=true from eqFs_nums _)).trans ?_;rfl
theorem pw_ok (r e:Nat) (ns:List Nat):LawOk (PW r e ns) r e ns where
 bi:=fun c vs W=>by
  unfold PW por;rw[show pLev (fun m=>ns.any fun n=>isSub m n) (.bi c) vs W=none from rfl];rw[show pCl r e ns (.bi c) vs W=none by
   unfold pCl;rw[if_neg];rintro ⟨q,_⟩;cases q]
  rw[show pLex (.bi c) vs W=none from rfl];rw[show pWr r e (.bi c) vs W=none by
   unfold pWr;rw[dif_neg];rintro ⟨q,_⟩;cases q]
  rfl
 mail:=fun n l W h nc=>by
  unfold PW por;rw[pLev_no rfl];rw[pCl_no (by decide)];rw[pLex_no (by decide) (by decide)];rw[pWr_no (by decide)];dsimp only;exact pMail_at h nc
 wr:=fun n t W hn ht nc=>by
  unfold PW por;rw[pLev_no rfl];rw[pCl_no (by decide)];rw[pLex_no (by decide) (by decide)];rw[pWr_at hn ht nc]
 n166:=fun vs W=>pw_no rfl (by decide) (by decide) (by decide) (by decide) rfl
 n138:=fun vs W=>pw_no rfl (by decide) (by decide) (by decide) (by decide) rfl
 n114:=fun vs W=>pw_no rfl (by decide) (by decide) (by decide) (by decide) rfl
 n217:=fun vs W=>pw_no rfl (by decide) (by decide) (by decide) (by decide) rfl
 lex:=fun W L v line p pb hL nc h=>by
  unfold PW por;rw[pLev_no rfl];rw[pCl_no (by decide)];rw[pLex_at hL nc h]
 cls:=fun W L m rs u h=>by
  unfold PW por;rw[pLev_no rfl];rw[pCl_at h]
 lev:=fun W l h nc=>by
  unfold PW por;rw[pLev_at h nc]
theorem law_ev:LawEv:=by
 intro l hl b H hb;refine Q11 (l_call (m:=100) (pw_ok (rL l) (eL l) (nsOf l)) hl) ?_;intro W' h;refine ⟨380,222,PW (rL l) (eL l) (nsOf l),W',?_,by exact nL rfl,h⟩;have hns:∀ n∈nsOf l,n<32:=fun n hn=>ns_lt hn;have hlen:=ns_len l;have a1:PrimOk b 81 (por (pWr (rL l) (eL l)) pMail):=por_ok (wr_prim H (by exact lT (Nat.le_of_eq hb) (nL rfl)) (rL_lt l) (eL_lt l)) (mail_prim H) (by decide);have a2:PrimOk b 130 (por pLex (por (pWr (rL l) (eL l)) pMail)):=por_ok (lex_pr H) a1 (by decide);have a3:PrimOk b 372 (por (pCl (rL l) (eL l) (nsOf l)) (por pLex (por (pWr (rL l) (eL l)) pMail))):=por_ok (cl_prim H (rL_lt l) (eL_lt l) hns (by unfold nsOf;exact List.cons_ne_nil _ _) (lT ‹_› (by decide))) a2 (by exact nL rfl);have a4:PrimOk b 380 (por (pLev fun m=>(nsOf l).any fun n=>isSub m n) (por (pCl (rL l) (eL l) (nsOf l)) (por pLex (por (pWr (rL l) (eL l)) pMail)))):=por_ok (lev_prim H _) a3 (by decide);intro f vs W v W' fx xs A kp ρ s Q E e;exact a4 e
end Mine
end
end
theorem PySem.Challenge.cw_sw0066_01_holds : PySem.Challenge.rw_sw0066_01.Holds := by
  exact Mine.lawGoal Mine.law_ev
