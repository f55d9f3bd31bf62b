import PyProof.Rows.All
import Wide.All
import OpenK.AllK
import Wide.FinOn
import Lean
import PySem.Challenge.RW_pk0035_01
open PySem PySem.W PySem.W.X PyProof.Rows
set_option Elab.async false
set_option maxRecDepth 1000000
set_option maxHeartbeats 0
set_option linter.all false
set_option genSizeOf false
set_option genInjectivity false
set_option compiler.extract_closed false
namespace Mine
noncomputable section
theorem uC {a b c:Nat} (h:a<b) (g:b≤c):a<c:=Nat.lt_of_lt_of_le h g
theorem yL {a b c:Nat} (h:a≤b) (g:b<c):a<c:=Nat.lt_of_le_of_lt h g
theorem jc {a b c:Nat} (h:a≤b) (g:b≤c):a≤c:=Nat.le_trans h g
theorem dW {a b c:Nat} (h:a<b) (g:b<c):a<c:=Nat.lt_trans h g
theorem JC {a b c:Nat} (h:a<b) (g:b=c):a<c:=Nat.lt_of_lt_of_eq h g
theorem jH {a b:Nat} (h:a<b):a≤b:=Nat.le_of_lt h
theorem Vi {a b:Nat} (h:a<b+1):a≤b:=Nat.le_of_lt_succ h
theorem lM {a b:Nat} (h:a≤b):a<b+1:=Nat.lt_succ_of_le h
theorem dx {a b:Nat} (h:a≤b):a≤b+1:=Nat.le_succ_of_le h
theorem gU {a b:Nat} (h:a<b):a<b+1:=Nat.lt_succ_of_lt h
theorem gV {a b:Nat} (h: ¬a<b):b≤a:=Nat.le_of_not_lt h
theorem nO {a b:Nat} (h:b<a):a≠b:=Nat.ne_of_gt h
theorem lN {a b:Nat} (h:a<b):a≠b:=Nat.ne_of_lt h
inductive Tr where
 |nil
 |node (a:Addr) (o:Obj) (l r:Tr)
namespace Tr
noncomputable def get:Tr→Nat→Option (Addr×Obj)
 | .nil,_=>none
 | .node a o l r,i=>match Nat.beq i 0 with
  |true=>some (a,o)
  |false=>match Nat.beq (i%2) 1 with
   |true=>l.get (i/2)
   |false=>r.get (i/2-1)
noncomputable def upd:Tr→Nat→(Obj→Obj)→Tr
 | .nil,_,_=> .nil
 | .node a o l r,i,f=>match Nat.beq i 0 with
  |true=> .node a (f o) l r
  |false=>match Nat.beq (i%2) 1 with
   |true=> .node a o (l.upd (i/2) f) r
   |false=> .node a o l (r.upd (i/2-1) f)
noncomputable def ins:Tr→Nat→Addr→Obj→Tr
 | .nil,_,b,p=> .node b p .nil .nil
 | .node a o l r,i,b,p=>match Nat.beq i 0 with
  |true=> .node b p l r
  |false=>match Nat.beq (i%2) 1 with
   |true=> .node a o (l.ins (i/2) b p) r
   |false=> .node a o l (r.ins (i/2-1) b p)
theorem fC {i j:Nat} (h:i≠j):Nat.beq i j=false:=by rw [BT.beq_eq];exact decide_eq_false h
theorem rd {i j:Nat} (h:i=j):Nat.beq i j=true:=by rw [BT.beq_eq];exact decide_eq_true h
theorem Xd (a o l r):(node a o l r).get 0=some (a,o):=rfl
theorem dh {a o l r i} (h:i%2=1):(node a o l r).get i=l.get (i/2):=by
 show (match Nat.beq i 0 with|true=>some (a,o)|false=>match Nat.beq (i%2) 1 with|true=>l.get (i/2)|false=>r.get (i/2-1))=_
 rw [fC (by lia),rd h]
theorem di {a o l r i} (h0:i≠0) (h: ¬i%2=1):(node a o l r).get i=r.get (i/2-1):=by
 show (match Nat.beq i 0 with|true=>some (a,o)|false=>match Nat.beq (i%2) 1 with|true=>l.get (i/2)|false=>r.get (i/2-1))=_
 rw [fC h0,fC h]
theorem Eh (a o l r f):(node a o l r).upd 0 f=node a (f o) l r:=rfl
theorem Ei {a o l r i f} (h:i%2=1):(node a o l r).upd i f=node a o (l.upd (i/2) f) r:=by
 show (match Nat.beq i 0 with|true=>node a (f o) l r|false=>match Nat.beq (i%2) 1 with|true=>node a o (l.upd (i/2) f) r|false=>node a o l (r.upd (i/2-1) f))=_
 rw [fC (by lia),rd h]
theorem Ej {a o l r i f} (h0:i≠0) (h: ¬i%2=1):(node a o l r).upd i f=node a o l (r.upd (i/2-1) f):=by
 show (match Nat.beq i 0 with|true=>node a (f o) l r|false=>match Nat.beq (i%2) 1 with|true=>node a o (l.upd (i/2) f) r|false=>node a o l (r.upd (i/2-1) f))=_
 rw [fC h0,fC h]
theorem Ek (a o l r b p):(node a o l r).ins 0 b p=node b p l r:=rfl
theorem wq {a o l r i b p} (h:i%2=1):(node a o l r).ins i b p=node a o (l.ins (i/2) b p) r:=by
 show (match Nat.beq i 0 with|true=>node b p l r|false=>match Nat.beq (i%2) 1 with|true=>node a o (l.ins (i/2) b p) r|false=>node a o l (r.ins (i/2-1) b p))=_
 rw [fC (by lia),rd h]
theorem wu {a o l r i b p} (h0:i≠0) (h: ¬i%2=1):(node a o l r).ins i b p=node a o l (r.ins (i/2-1) b p):=by
 show (match Nat.beq i 0 with|true=>node b p l r|false=>match Nat.beq (i%2) 1 with|true=>node a o (l.ins (i/2) b p) r|false=>node a o l (r.ins (i/2-1) b p))=_
 rw [fC h0,fC h]
theorem eH (f:Obj→Obj): ∀(t:Tr) (j i:Nat),(t.upd j f).get i=if i=j then (t.get j).map (fun p=>(p.1,f p.2)) else t.get i
 | .nil,j,i=>by
  have:(Tr.nil.upd j f).get i=none:=rfl
  rw [this];split<;>rfl
 | .node a o l r,j,i=>by
  by_cases hj:j=0
  ·subst hj
   by_cases hi:i=0
   ·subst hi;rfl
   ·rw [if_neg hi,Eh]
    by_cases p:i%2=1
    ·rw [dh p,dh p]
    ·rw [di hi p,di hi p]
  ·by_cases q:j%2=1
   ·rw [Ei q,dh q]
    by_cases hi:i=0
    ·subst hi;rw [if_neg (Ne.symm hj)];rfl
    ·by_cases p:i%2=1
     ·rw [dh p,dh p,eH f l]
      by_cases e:i=j
      ·subst e;rw [if_pos rfl,if_pos rfl]
      ·rw [if_neg e,if_neg (by lia)]
     ·rw [di hi p,di hi p,if_neg (by lia)]
   ·rw [Ej hj q,di hj q]
    by_cases hi:i=0
    ·subst hi;rw [if_neg (Ne.symm hj)];rfl
    ·by_cases p:i%2=1
     ·rw [dh p,dh p,if_neg (by lia)]
     ·rw [di hi p,di hi p,eH f r]
      by_cases e:i=j
      ·subst e;rw [if_pos rfl,if_pos rfl]
      ·rw [if_neg e,if_neg (by lia)]
theorem get_ins (b:Addr) (p:Obj): ∀(t:Tr) (j:Nat),((t.ins j b p).get j).isSome=true→ ∀i,(t.ins j b p).get i=if i=j then some (b,p) else t.get i
 | .nil,j,h,i=>by
  have e:(Tr.nil.ins j b p)=node b p nil nil:=rfl
  rw [e] at h⊢
  by_cases hj:j=0
  ·subst hj
   by_cases hi:i=0
   ·subst hi;rfl
   ·rw [if_neg hi]
    by_cases q:i%2=1
    ·rw [dh q];rfl
    ·rw [di hi q];rfl
  ·exfalso
   by_cases q:j%2=1
   ·rw [dh q] at h;cases h
   ·rw [di hj q] at h;cases h
 | .node a o l r,j,h,i=>by
  by_cases hj:j=0
  ·subst hj
   rw [Ek]
   by_cases hi:i=0
   ·subst hi;rfl
   ·rw [if_neg hi]
    by_cases q:i%2=1
    ·rw [dh q,dh q]
    ·rw [di hi q,di hi q]
  ·by_cases q:j%2=1
   ·rw [wq q] at h⊢
    rw [dh q] at h
    by_cases hi:i=0
    ·subst hi;rw [if_neg (Ne.symm hj)];rfl
    ·by_cases z:i%2=1
     ·rw [dh z,dh z,get_ins b p l _ h]
      by_cases e:i=j
      ·subst e;rw [if_pos rfl,if_pos rfl]
      ·rw [if_neg e,if_neg (by lia)]
     ·rw [di hi z,di hi z,if_neg (by lia)]
   ·rw [wu hj q] at h⊢
    rw [di hj q] at h
    by_cases hi:i=0
    ·subst hi;rw [if_neg (Ne.symm hj)];rfl
    ·by_cases z:i%2=1
     ·rw [dh z,dh z,if_neg (by lia)]
     ·rw [di hi z,di hi z,get_ins b p r _ h]
      by_cases e:i=j
      ·subst e;rw [if_pos rfl,if_pos rfl]
      ·rw [if_neg e,if_neg (by lia)]
noncomputable def put (t:Tr):Nat→List (Addr×Obj)→Tr
 |_,[]=>t
 |n,p::l=>put (t.ins n p.1 p.2) (n+1) l
def of (l:List (Addr×Obj)):Tr:=put .nil 0 l
end Tr
abbrev D:Code→Sem Fin:=ZFast.zw11892475500146522536 ZFast.tableZ
theorem nP:denote table=D:=by rw [ZFast.tableZ_eq,ZFast.ze11892475500146522536]
abbrev JA:Code→Bool:=ZFast.zw17772548960776305114
theorem JK:Code.quiet=JA:=by rw [ZFast.ze17772548960776305114]
structure jZ where
 ids:List Nat
 na:Nat
 nt:Nat
 res:List Addr→List Tok→Result
 upd:List Addr→List Tok→List (Obj→Obj)
 new:List Addr→List Tok→List Obj
structure y0 where
 prog:Program
 P:Params
 kt:KT
 ask:Nat→Nat→Code→List (Option (Addr×Obj))→Prop
 bR:Nat→Nat→CmpOp→Value→Value→List (Option (Addr×Obj))→Prop
 bN:Nat→Nat→List Stmt→Env→List (Option (Addr×Obj))→Prop
 ak:Nat→Code→jZ
noncomputable def jJ:Code:= .call .none ⟨[],[]⟩
abbrev Kt (α:Type):=Except Value α→Tr→Nat→Nat→Prop
structure YZ where
 tree:(α:Type)→Sem α→Kt α→Nat→Tr→Nat→Nat→Prop
 code:Code→Kt Flow→Nat→Tr→Nat→Nat→Prop
noncomputable def pre (self:Addr) (fd:FuncData) (args:Args):Sem Code:=do
 let compiled←match fd.code with
  | .none=>pure fd.qualname
  |c=>do match←field c 1 with
   | .str q _=>pure q
   |_=>pure fd.qualname
 let env←newFunctionEnv fd.scope fd.globals fd.closure (←bindArgs fd args) (compiled++ ".<locals>.") (some self) fd.code none fd.builtins
 return match fd.body with
  | .stmts b=> .func b env
  | .expr e=> .expr e env
def nQ (self:Addr) (fd:FuncData) (args:Args):Sem Code:=
 have jp:=fun compiled=>(do
  let l←ZFast.zw9782568553167038054 fd args
  let env←ZFast.zw11113344188204177931 fd.scope fd.globals fd.closure l (compiled++({cps:={toList:= [46,60,108,111,99,97,108,115,62,46]}}:Str)) (some self) fd.code none fd.builtins
  return match fd.body with
   | .stmts b=> .func b env
   | .expr e=> .expr e env:Sem Code)
 match fd.code with
 | .none=>jp fd.qualname
 |c=>do
  match←ZFast.zw6609576154772507232 c 1 with
  | .str q _=>jp q
  |_=>jp fd.qualname
theorem El:(".<locals>.":Str)=({cps:={toList:= [46,60,108,111,99,97,108,115,62,46]}}:Str):=by decide+kernel
theorem Em:pre=nQ:=by
 funext self fd args
 unfold pre nQ
 rw [ZFast.ze9782568553167038054,ZFast.ze11113344188204177931,ZFast.ze6609576154772507232,El]
 split
 ·rfl
 ·rfl
inductive PR where
 |val (v:Value)
 |int (i:Int)
 |txt (x:Str)
 |str (x:Str)
 |iG (p:Prop) (x:Str)
 |iH (p:Prop) (i:Int)
noncomputable def y5 (b:Int):Bool:=match b with
 | .ofNat n=>match Nat.ble 1 n with
  |true=>Nat.ble n 1000000
  |false=>false
 | .negSucc _=>false
noncomputable def lO:Nat→Nat
 |0=>116512096292018843154739050
 |1=>116512060628576343961202538
 |2=>116512245094328231196454762
 |3=>116512097088030077292474218
 |4=>128106770130096871752080967664072486762
 |5=>116512151707967833018560362
 |6=>455126313168696235093866
 |7=>455125451010842570354538
 |8=>455126531311803185852266
 |9=>455125450447892616933226
 |10=>455126529904428302298986
 |11=>455125449040517733379946
 |12=>455126313168696234964340
 |13=>455125451010842570225012
 |14=>455125450447892616803700
 |15=>116512096292018843154609524
 |16=>116512280834613399031870836
 |17=>500416356548588640944365259017385332
 |18=>128106709680535770272165659069392319860
 |19=>2166300787185074533748
 |20=>500416356548588640944365259017385332
 |21=>116512096292018843154609524
 |_=>0
def wx (a b:Int) (k:Nat):Option PR:=match k with
 |0=>some (.int (a+b))
 |1=>some (.int (a-b))
 |2=>some (.iH (IntMulOk a b) (a*b))
 |3=>match y5 b with
  |true=>some (.int (Int.fmod a b))
  |false=>none
 |4=>match y5 b with
  |true=>some (.int (Int.fdiv a b))
  |false=>none
 |6=>some (.val (.bool (a==b)))
 |7=>some (.val (.bool (a !=b)))
 |8=>some (.val (.bool (decide (a<b))))
 |9=>some (.val (.bool (decide (a≤b))))
 |10=>some (.val (.bool (decide (a>b))))
 |11=>some (.val (.bool (decide (a≥b))))
 |_=>none
noncomputable def sel (k n:Nat) (x y:Option PR):Option PR:=match Nat.beq k n with
 |true=>x
 |false=>y
def wy (a b:Str) (k:Nat):Option PR:=
 sel k 12 (some (.val (.bool (a.cps.toList==b.cps.toList)))) <|
 sel k 13 (some (.val (.bool (a.cps.toList !=b.cps.toList)))) <|
 sel k 14 (some (.val (.bool (!(decide (b.cps.toList<a.cps.toList)))))) <|
 sel k 15 (some (.str (a++b))) <|
 sel k 18 (some (.val (.bool (!(Builtin.Str.occurrences a b 0 a.length 1).isEmpty)))) <|
 sel k 19 (some (.int (Builtin.Str.occurrences a b 0 a.length (a.length+1)).length)) <|
 sel k 21 (match Nat.ble (a.length+b.length) 1000000 with
  |true=>some (.txt (a++b))
  |false=>none) none
def wz (a:Str) (i:Int) (k:Nat):Option PR:=
 sel k 17 (match i with
  | .ofNat n=>match Nat.ble n 1000000 with
   |true=>match a.cps[n]? with
    |some c=>some (.txt ⟨#[c]⟩)
    |none=>none
   |false=>none
  | .negSucc _=>none) <|
 sel k 20 (some (.iG (0≤i∧i<a.length∧a.length≤1000000) ⟨#[a.cps.getD i.toNat 0]⟩)) none
def En (k:Nat) (args:List Value):Option PR:=match args with
 | [x]=>match x with
  | .int a _=>sel k 5 (some (.int (-a))) none
  | .str a _=>sel k 16 (some (.int a.length)) none
  |_=>none
 | [x,y]=>match x with
  | .int a _=>match y with
   | .int b _=>wx a b k
   |_=>none
  | .bool a=>match y with
   | .bool b=>sel k 6 (some (.val (.bool (a==b)))) none
   |_=>none
  | .str a _=>match y with
   | .str b _=>wy a b k
   | .int i _=>wz a i k
   |_=>none
  |_=>none
 |_=>none
def prim (k:Nat) (c:Code):Option PR:=match c with
 | .call f as=>match f with
  | .builtin id=>match as.kw with
   | []=>match Nat.beq (S.codeS id) (lO k) with
    |true=>En k as.pos
    |false=>none
   |_::_=>none
  |_=>none
 |_=>none
def yo:Nat→(List Nat→Prop)→Prop
 |0,P=>P []
 |n+1,P=> ∀a,yo n (fun l=>P (a::l))
noncomputable def vM:Tr→List Nat→List (Obj→Obj)→Tr
 |T,[],_=>T
 |T,_::_,[]=>T
 |T,i::is,f::fs=>vM (T.upd i f) is fs
noncomputable def Ui:Tr→Nat→List Addr→List Obj→Option Tr
 |T,_,[],_=>some T
 |T,_,_::_,[]=>some T
 |T,m,a::as,o::os=>match (T.ins m a o).get m with
  |some _=>Ui (T.ins m a o) (m+1) as os
  |none=>none
def fD (ih:YZ) (α:Type) (k:Result→Sem α) (K:Kt α) (d d':Nat) (x:Addr) (a:Args) (o:Obj) (T:Tr) (m h:Nat):Prop:=match o.data with
 | .func fd=>match fd.scope.isGenerator with
  |false=>match fd.scope.isCoroutine with
   |false=>ih.tree Code (nQ x fd a) (fun c'=>match c' with
     | .ok c'=>match JA c' with
      |true=>ih.code c' (fun r=>ih.tree α (k r) K d) d
      |false=>fun _ _ _=>False
     | .error _=>fun _ _ _=>False) d' T m h
   |true=>False
  |true=>False
 |_=>False
inductive CK where
 |prim (op kind:Nat)
 |ask (j:Nat)
 |inside
 |fn
 |bad
def lQ (D:Nat):CK:=match Nat.ble 3100 D with
 |true=> .prim ((D-3100)/8) ((D-3100)%8)
 |false=>match Nat.ble 3010 D with
  |true=> .ask (D-3010)
  |false=>match D-3001 with
   |0=> .inside
   |1=> .fn
   |_=> .bad
inductive DK where
 |skip
 |own (v:Nat)
 |nR
 |tok
 |rh
 |ask (j:Nat)
 |adr
noncomputable def wA (D:Nat):DK:=match Nat.ble 3001 D with
 |false=>match D with
  |0=> .skip
  |v+1=> .own v
 |true=>match Nat.ble 3100 D with
  |true=>match Nat.ble 3900 D with
   |true=> .skip
   |false=>match (D-3100)%8 with
    |0=> .skip
    |1=> .nR
    |2=> .nR
    |3=> .tok
    |_=> .rh
  |false=>match Nat.ble 3010 D with
   |true=> .ask (D-3010)
   |false=>match D-3001 with
    |0=> .skip
    |1=> .skip
    |2=> .adr
    |_=> .tok
noncomputable def lU:List (Option (Addr×Obj))→List Value
 | []=> []
 |none::l=>lU l
 |some p::l=> .ref p.1::(match p.2.cls with
  | .none=>match p.2.data with
   | .fields xs=>xs.toList++lU l
   |_=>lU l
  |_=>lU l)
def y4 (vs:List (Option (Addr×Obj))):Code:= .call .none ⟨lU vs,[]⟩
noncomputable def Ux (c:Code) (i:Nat):Addr:=match c with
 | .call _ a=>match a.pos.getD i .none with
  | .ref x=>x
  |_=>0
 |_=>0
def Eo (V:y0) (ih:YZ) (α:Type) (k:Result→Sem α) (K:Kt α) (d:Nat) (c:Code) (j:Nat) (T:Tr) (m h:Nat):Prop:=
 V.ask j d c ((V.ak j jJ).ids.map T.get)∧yo (V.ak j jJ).na (fun as=>yo (V.ak j jJ).nt (fun ts=>
  match Ui (vM T (V.ak j jJ).ids ((V.ak j (y4 ((V.ak j jJ).ids.map T.get))).upd as ts)) m as ((V.ak j (y4 ((V.ak j jJ).ids.map T.get))).new as ts) with
  |some T'=>ih.tree α (k ((V.ak j (y4 ((V.ak j jJ).ids.map T.get))).res as ts)) K d T' (m+(V.ak j jJ).na) h
  |none=>False))
noncomputable def Yl:Result→Sem Flow
 | .ok f=> .pure f
 | .error e=> .raise e
def Ep (V:y0) (K:Kt Flow) (d:Nat) (c:Code) (j:Nat) (T:Tr) (m h:Nat):Prop:=
 V.ask j d c ((V.ak j jJ).ids.map T.get)∧yo (V.ak j jJ).na (fun as=>yo (V.ak j jJ).nt (fun ts=>
  match Ui (vM T (V.ak j jJ).ids ((V.ak j (y4 ((V.ak j jJ).ids.map T.get))).upd as ts)) m as ((V.ak j (y4 ((V.ak j jJ).ids.map T.get))).new as ts) with
  |some T'=>K ((V.ak j (y4 ((V.ak j jJ).ids.map T.get))).res as ts) T' (m+(V.ak j jJ).na) h
  |none=>False))
def ri (V:y0) (ih:YZ) (K:Kt Flow) (d d':Nat) (c:Code):Tr→Nat→Nat→Prop:=match c with
 | .call f a=>match f with
  | .ref x=>fun T m h=>match Nat.beq (h%4096) 3002 with
   |true=>match (h/4096)%4096 with
    |0=>match V.kt.get x with
     |some o=>fD ih Flow Yl K d d' x a o T m (h/4096/4096)
     |none=>False
    |v+1=>match T.get v with
     |some p=>x=p.1∧fD ih Flow Yl K d d' x a p.2 T m (h/4096/4096)
     |none=>False
   |false=>ih.code c K d T m h
  |_=>ih.code c K d
 |_=>ih.code c K d
def rj (V:y0) (ih:YZ) (K:Kt Flow) (d d':Nat) (c:Code):Tr→Nat→Nat→Prop:=fun T m h=>match Nat.beq (h%4096) 3906 with
 |true=>match lQ (h/4096%4096) with
  | .ask j=>Ep V K d c j T m (h/4096/4096)
  |_=>False
 |false=>ri V ih K d d' c T m h
abbrev uq:List Stmt→Env→Sem Flow:=ZFast.zw12563942051412417395
abbrev lV:Expr→Env→Sem Value:=ZFast.zw14044960220447912780
theorem yg:PySem.execs=uq:=ZFast.ze12563942051412417395
theorem Er:PySem.eval=lV:=ZFast.ze14044960220447912780
noncomputable def lX:CmpOp→Bool
 | .Eq=>true
 | .NotEq=>true
 |_=>false
def Vj (K:Kt Flow) (go:Tr→Nat→Nat→Prop):Kt Flow:=fun r=>match r with
 | .ok f=>match f with
  | .next=>go
  | .brk=>K (.ok .brk)
  | .cont=>K (.ok .cont)
  | .ret v=>K (.ok (.ret v))
 | .error _=>fun _ _ _=>False
def rk (V:y0) (ih:YZ) (env:Env) (d:Nat) (l:Expr) (op:CmpOp) (r:Expr) (k:Bool→Tr→Nat→Nat→Prop):Tr→Nat→Nat→Prop:=
 ih.tree Value (lV l env) (fun v=>match v with
  | .ok v=>ih.tree Value (lV r env) (fun w=>match w with
   | .ok w=>fun T m h=>match lQ (h%4096) with
    | .ask j=>V.bR j d op v w ((V.ak j jJ).ids.map T.get)∧(match (V.ak j jJ).res [] [] with
     | .ok f=>match f with
      | .ret x=>match x with
       | .bool b=>k b T m (h/4096)
       |_=>False
      |_=>False
     | .error _=>False)
    |_=>False
   | .error _=>fun _ _ _=>False) d
  | .error _=>fun _ _ _=>False) d
def nS (V:y0) (ih:YZ) (env:Env) (d:Nat) (e:Expr) (k:Bool→Tr→Nat→Nat→Prop):Tr→Nat→Nat→Prop:=match e with
 | .Compare l ops rs _=>match ops with
  | [op]=>match rs with
   | [r]=>match lX op with
    |true=>rk V ih env d l op r k
    |false=>fun _ _ _=>False
   |_=>fun _ _ _=>False
  |_=>fun _ _ _=>False
 |_=>fun _ _ _=>False
def rl (V:y0) (ih:YZ) (env:Env) (d:Nat) (k:Bool→Tr→Nat→Nat→Prop):List Expr→Tr→Nat→Nat→Prop
 | []=>k false
 |e::es=>nS V ih env d e (fun b=>match b with
  |true=>k true
  |false=>rl V ih env d k es)
def rm (V:y0) (ih:YZ) (env:Env) (d:Nat) (e:Expr) (k:Bool→Tr→Nat→Nat→Prop):Tr→Nat→Nat→Prop:=match e with
 | .BoolOp op es _=>match op with
  | .Or=>rl V ih env d k es
  | .And=>fun _ _ _=>False
 |e=>nS V ih env d e k
inductive XK where
 |run (g:Nat)
 |test
 |ask (g:Nat)
 |bad
noncomputable def wB (D:Nat):XK:=match Nat.ble D 3900 with
 |true=> .bad
 |false=>match Nat.ble D 3949 with
  |true=> .run (D-3900)
  |false=>match Nat.beq D 3950 with
   |true=> .test
   |false=>match Nat.ble D 3960 with
    |true=> .bad
    |false=> .ask (D-3960)
def y6 (V:y0) (ih:YZ) (env:Env) (d:Nat) (K:Kt Flow) (n:Nat):List Stmt→Tr→Nat→Nat→Prop:=Nat.rec (fun _ _ _ _=>False) (fun _ go ss=>match ss with
 | []=>K (.ok .next)
 |s::rest=>fun T m h=>match wB (h%4096) with
  | .run g=>ih.tree Flow (uq ((s::rest).take g) env) (Vj K (go ((s::rest).drop g))) d T m (h/4096)
  | .test=>match s with
   | .If test body orelse _=>rm V ih env d test (fun b=>match b with
    |true=>ih.tree Flow (uq body env) (Vj K (go rest)) d
    |false=>ih.tree Flow (uq orelse env) (Vj K (go rest)) d) T m (h/4096)
   |_=>False
  | .ask g=>match lQ (h/4096%4096) with
   | .ask j=>V.bN j d ((s::rest).take g) env ((V.ak j jJ).ids.map T.get)∧yo (V.ak j jJ).na (fun as=>yo (V.ak j jJ).nt (fun ts=>
    match Ui (vM T (V.ak j jJ).ids ((V.ak j (y4 ((V.ak j jJ).ids.map T.get))).upd as ts)) m as ((V.ak j (y4 ((V.ak j jJ).ids.map T.get))).new as ts) with
    |some T'=>Vj K (go ((s::rest).drop g)) ((V.ak j (y4 ((V.ak j jJ).ids.map T.get))).res as ts) T' (m+(V.ak j jJ).na) (h/4096/4096)
    |none=>False))
   |_=>False
  | .bad=>False) n
def wC (K:Kt Flow):Kt Flow:=fun r=>match r with
 | .ok f=>match f with
  | .ret v=>K (.ok (.ret v))
  |_=>K (.ok (.ret .none))
 | .error _=>fun _ _ _=>False
def Et (K:Kt Flow) (again:Tr→Nat→Nat→Prop):Kt Flow:=fun r=>match r with
 | .ok f=>match f with
  | .next=>again
  | .cont=>again
  | .brk=>K (.ok .next)
  | .ret v=>K (.ok (.ret v))
 | .error _=>fun _ _ _=>False
abbrev rn:Value→Sem (Option Value):=ZFast.zw9404975358583537561
abbrev wD:Expr→Value→Value→Sem Unit:=ZFast.zw1578499551869305889
abbrev wF:Expr→Env→Value→Sem Unit:=ZFast.zw17772580674575903948
def wG (V:y0) (ih:YZ) (c:Code) (K:Kt Flow) (d d':Nat):Tr→Nat→Nat→Prop:=match c with
 | .func body env=>y6 V ih env d' (wC K) 100 body
 | .forLoop target it body orelse env=>ih.tree (Option Value) (rn it) (fun r=>match r with
  | .ok o=>match o with
   |none=>match JA (.block orelse env) with
    |true=>ih.code (.block orelse env) K d
    |false=>fun _ _ _=>False
   |some v=>ih.tree Unit (wD target it v) (fun u=>match u with
    | .ok _=>ih.tree Unit (wF target env v) (fun u=>match u with
     | .ok _=>match JA (.forLoop target it body orelse env) with
      |true=>y6 V ih env d' (Et K (ih.code (.forLoop target it body orelse env) K d)) 100 body
      |false=>fun _ _ _=>False
     | .error _=>fun _ _ _=>False) d'
    | .error _=>fun _ _ _=>False) d'
  | .error _=>fun _ _ _=>False) d'
 |_=>fun _ _ _=>False
def wH (ih:YZ) (α:Type) (o:Obj) (k:Addr→Sem α) (K:Kt α) (d:Nat) (T:Tr) (m h:Nat):Prop:= ∀a:Addr,match o.isFreed with
 |true=>False
 |false=>match (T.ins m a o).get m with
  |some _=>ih.tree α (k a) K d (T.ins m a o) (m+1) (h/4096)
  |none=>False
def nT (V:y0) (ih:YZ) (α:Type) (a:Addr) (k:Obj→Sem α) (K:Kt α) (d:Nat) (T:Tr) (m h n:Nat):Prop:=match n with
 |0=>match V.kt.get a with
  |some o=>ih.tree α (k o) K d T m (h/4096)
  |none=>False
 |v+1=>match T.get v with
  |some p=>a=p.1∧ih.tree α (k p.2) K d T m (h/4096)
  |none=>False
def ro (ih:YZ) (α:Type) (a:Addr) (f:Obj→Obj) (k:Unit→Sem α) (K:Kt α) (d:Nat) (T:Tr) (m h n:Nat):Prop:=match n with
 |0=>False
 |v+1=>match T.get v with
  |some p=>match (f p.2).isFreed with
   |false=>a=p.1∧ih.tree α (k ()) K d (T.upd v f) m (h/4096)
   |true=>False
  |none=>False
def rp (ih:YZ) (α:Type) (k:Result→Sem α) (K:Kt α) (d:Nat) (b:Bool) (p:PR) (T:Tr) (m h:Nat):Prop:=match p with
 | .val v=>match v with
  | .bool x=>x=b∧ih.tree α (k (.ok (.ret (.bool b)))) K d T m (h/4096)
  |_=>False
 |_=>False
def wI (ih:YZ) (α:Type) (k:Result→Sem α) (K:Kt α) (d:Nat) (kind:Nat) (p:PR) (T:Tr) (m h:Nat):Prop:=match kind with
 |0=>match p with
  | .val v=>ih.tree α (k (.ok (.ret v))) K d T m (h/4096)
  |_=>False
 |1=>rp ih α k K d true p T m h
 |2=>rp ih α k K d false p T m h
 |3=>match p with
  | .int i=> ∀t:Tok,ih.tree α (k (.ok (.ret (.int i t)))) K d T m (h/4096)
  | .txt x=> ∀t:Tok,ih.tree α (k (.ok (.ret (.str x t)))) K d T m (h/4096)
  |_=>False
 |4=>match p with
  | .str x=>x.length≤sizeLine∧ ∀t:Tok,ih.tree α (k (.ok (.ret (.str x t)))) K d T m (h/4096)
  |_=>False
 |5=>match p with
  | .int i=>i=((h/4096%4096-3900:Nat):Int)∧ ∀t:Tok,ih.tree α (k (.ok (.ret (.int ((h/4096%4096-3900:Nat):Int) t)))) K d T m (h/4096/4096)
  |_=>False
 |6=>match p with
  | .iG q x=>(q∧x.length≤sizeLine)∧ ∀t:Tok,ih.tree α (k (.ok (.ret (.str x t)))) K d T m (h/4096)
  |_=>False
 |_=>match p with
  | .iH q i=>q∧ ∀t:Tok,ih.tree α (k (.ok (.ret (.int i t)))) K d T m (h/4096)
  |_=>False
def nU (V:y0) (ih:YZ) (α:Type) (k:Result→Sem α) (K:Kt α) (d d':Nat) (x:Addr) (a:Args) (T:Tr) (m h n:Nat):Prop:=match n with
 |0=>match V.kt.get x with
  |some o=>fD ih α k K d d' x a o T m (h/4096/4096)
  |none=>False
 |v+1=>match T.get v with
  |some p=>x=p.1∧fD ih α k K d d' x a p.2 T m (h/4096/4096)
  |none=>False
def nV (V:y0) (ih:YZ) (α:Type) (c:Code) (k:Result→Sem α) (K:Kt α) (d:Nat) (T:Tr) (m h:Nat) (κ:CK):Prop:=match κ with
 | .prim op kind=>match prim op c with
  |some p=>wI ih α k K d kind p T m h
  |none=>False
 | .ask j=>Eo V ih α k K d c j T m (h/4096)
 | .inside=>ih.code c (fun r=>ih.tree α (k r) K d) d T m (h/4096)
 | .fn=>match d with
  |0=>False
  |d'+1=>match c with
   | .call f a=>match f with
    | .ref x=>nU V ih α k K (d'+1) d' x a T m h ((h/4096)%4096)
    |_=>False
   |_=>False
 | .bad=>False
def rq (V:y0) (ih:YZ) (c:Code) (K:Kt Flow) (d:Nat):Tr→Nat→Nat→Prop:=match d with
 |0=>fun _ _ _=>False
 |d'+1=>fun T m h=>match Nat.beq (h%4096) 3905 with
  |true=>wG V ih c K d d' T m (h/4096)
  |false=>ih.tree Fin (D c) (fun fin=>match fin with
   | .ok f=>match f with
    | .done f=>K (.ok f)
    | .again c'=>match JA c' with
     |true=>rj V ih K d d' c'
     |false=>fun _ _ _=>False
   | .error e=>K (.error e)) d' T m h
def rr (V:y0) (ih:YZ):YZ where
 tree:=fun α t K d=>match t with
  | .pure a=>K (.ok a)
  | .raise e=>K (.error e)
  | .rule _ k=>ih.tree α (k ()) K d
  | .at _ k=>ih.tree α (k ()) K d
  | .point _ k=>ih.tree α (k ()) K d
  | .ask k=>ih.tree α (k ⟨V.prog,V.P⟩) K d
  | .fresh k=>fun T m h=> ∀t:Tok,ih.tree α (k t) K d T m (h/4096)
  | .handled own k=>match own with
   |false=>ih.tree α (k none) K d
   |true=>fun _ _ _=>False
  | .alloc o k=>wH ih α o k K d
  | .load a _ k=>fun T m h=>nT V ih α a k K d T m h (h%4096)
  | .update a _ f k=>fun T m h=>ro ih α a f k K d T m h (h%4096)
  | .call c hd _ _ k=>match hd with
   |none=>fun T m h=>nV V ih α c k K d T m h (lQ (h%4096))
   |some _=>fun _ _ _=>False
  |_=>fun _ _ _=>False
 code:=fun c K d=>rq V ih c K d
def hx (V:y0) (n:Nat):YZ:=Nat.rec ⟨fun _ _ _ _ _ _ _=>False,fun _ _ _ _ _ _=>False⟩ (fun _ ih=>rr V ih) n
def e7 (t:Tr) (i:Nat):Nat:=match t.get i with
 |some p=>p.1
 |none=>0
def ru:Nat→(List Nat→Prop)→Prop:=fun n=>Nat.rec (fun P=>P []) (fun _ ih P=> ∀a,ih (fun l=>P (a::l))) n
def JG (an:Nat→Code→jZ) (F:(Nat→Addr)→(Nat→Tok)→Prop):Nat→List ((Nat→Addr)→(Nat→Tok)→Prop)→Tr→Nat→Tr→Nat→Nat→Prop
 |0,_,A,_,K,_,_=>F (e7 A) (e7 K)
 |n+1,L,A,m,K,i,h=>match wA (h%4096) with
  | .skip=>JG an F n L A m K i (h/4096)
  | .own v=>e7 A v=e7 A v∧JG an F n L A m K i (h/4096)
  | .nR=>match L with
   |p::L=>p (e7 A) (e7 K)∧JG an F n L A m K i (h/4096)
   | []=>True
  | .tok=> ∀t:Tok,JG an F n L A m (K.ins i t default) (i+1) (h/4096)
  | .rh=>match L with
   |p::L=>p (e7 A) (e7 K)∧ ∀t:Tok,JG an F n L A m (K.ins i t default) (i+1) (h/4096)
   | []=>True
  | .ask j=>match L with
   |p::L=>p (e7 A) (e7 K)∧ru (an j jJ).na (fun as=>ru (an j jJ).nt (fun ts=>JG an F n L (Tr.put A m (as.map fun a=>(a,default))) (m+(an j jJ).na) (Tr.put K i (ts.map fun a=>(a,default))) (i+(an j jJ).nt) (h/4096)))
   | []=>True
  | .adr=> ∀a:Addr,JG an F n L (A.ins m a default) (m+1) K i (h/4096)
def gW:List ((Nat→Addr)→(Nat→Tok)→Prop)→(Nat→Addr)→(Nat→Tok)→Prop
 | [],_,_=>True
 |p::L,A,K=>p A K∧gW L A K
theorem UE: ∀(n:Nat) (P:List Nat→Prop),(∀l,P l)→ru n P
 |0,_,h=>h []
 |n+1,_,h=>fun a=>UE n _ (fun l=>h (a::l))
theorem Uz (an:Nat→Code→jZ) (F:(Nat→Addr)→(Nat→Tok)→Prop) (hF: ∀A K,F A K) (n:Nat): ∀(L:List ((Nat→Addr)→(Nat→Tok)→Prop)) (A:Tr) (m:Nat) (K:Tr) (i h:Nat),(∀A K,gW L A K)→JG an F n L A m K i h:=by
 induction n with
 |zero=>intro L A m K i h hL;exact hF _ _
 |succ n ih=>
  intro L A m K i h hL
  unfold JG
  generalize wA (h%4096)=κ
  generalize h/4096=h'
  cases κ with
  |skip=>exact ih _ _ _ _ _ _ hL
  |own v=>exact ⟨rfl,ih _ _ _ _ _ _ hL⟩
  |tok=>exact fun t=>ih _ _ _ _ _ _ hL
  |adr=>exact fun a=>ih _ _ _ _ _ _ hL
  |nR=>
   cases L with
   |nil=>trivial
   |cons p L=>exact ⟨(hL _ _).1,ih _ _ _ _ _ _ fun A K=>(hL A K).2⟩
  |rh=>
   cases L with
   |nil=>trivial
   |cons p L=>exact ⟨(hL _ _).1,fun t=>ih _ _ _ _ _ _ fun A K=>(hL A K).2⟩
  |ask j=>
   cases L with
   |nil=>trivial
   |cons p L=>exact ⟨(hL _ _).1,UE _ _ fun as=>UE _ _ fun ts=>ih _ _ _ _ _ _ fun A K=>(hL A K).2⟩
structure kT (A:Around) (d:Nat):Prop where
 handled:A.handled=none
 depth:A.depth+5*d<recursionLimit
 units:A.units+10*d<cLine
theorem Eu {p:Prop} {_:Decidable p} {m:Nat} {t:p→Nat} {e: ¬p→Nat} (h: ∀x,t x≤m) (g: ∀x,e x≤m):dite p t e≤m:=by
 by_cases x:p
 ·rw [dif_pos x];exact h x
 ·rw [dif_neg x];exact g x
theorem wJ {b:Bool}:(if b=true then 1 else 0)≤3:=by cases b<;>exact Nat.le_of_ble_eq_true rfl
theorem wK (c:Code):c.frames≤3:=by
 cases c with
 |builtin s a=>
  unfold Code.frames Code.frames.match_1
  dsimp only [Code.frames._sparseCasesOn_1]
  repeat' (refine Eu (fun x=> ?_) fun x=> ?_)
  all_goals first|exact wJ|(subst x;exact Nat.le_of_ble_eq_true rfl)
 |_=>first|exact Nat.le_of_ble_eq_true rfl|exact wJ
theorem Ew {c:Code} (h:c.isCaller=false):c.weight≤5:=by
 unfold Code.weight
 have:=wK c
 rw [h]
 (repeat' split)<;>first|lia|simp_all<;>lia
theorem Ex (c:Code):c.cUnits≤10:=by
 have:=wK c
 unfold Code.cUnits
 split<;>lia
theorem kT.under {A:Around} {d:Nat} {c:Code} (h:kT A (d+1)) (hc:c.isCaller=false):kT (A.under c) d:=by
 have:=Ew hc
 have:=Ex c
 have h1:=h.depth
 have h2:=h.units
 refine ⟨h.handled,?_,?_⟩
 ·show A.depth+c.weight+5*d<_;lia
 ·show A.units+c.cUnits+10*d<_;lia
theorem kT.mono {A:Around} {d d':Nat} (h:kT A d) (hd:d'≤d):kT A d':=by
 have h1:=h.depth
 have h2:=h.units
 exact ⟨h.handled,by lia,by lia⟩
theorem Ey:entryFor table "claim.caller"=none:=by rw [table_eq_tree];kernel_rfl
theorem YH (tb:String→Option Builtin) (id:String) (a:Args):denote tb (.builtin id a)=(match entryFor tb id with|some b=>b a|none=>unsupported ((withoutEnding? id "#data").getD id)):=rfl
theorem Ez {c:Code} (h:c.isCaller=true): ∃w,denote table c=unsupported w:=by
 unfold Code.isCaller at h
 split at h
 ·rename_i a
  refine ⟨(withoutEnding? "claim.caller" "#data").getD "claim.caller",?_⟩
  rw [YH,Ey]
 ·cases h
structure yD (kt:KT) (h:Heap) (T:Tr) (m:Nat):Prop where
 own: ∀i a o,T.get i=some (a,o)→h.get? a=some o
 low: ∀i p,T.get i=some p→i<m
 inj: ∀i j p q,T.get i=some p→T.get j=some q→p.1=q.1→i=j
 base: ∀a o,kt.get a=some o→h.get? a=some o
 apart: ∀i p,T.get i=some p→kt.get p.1=none
structure vv (T₀:Tr) (s:Shared) (T:Tr) (s':Shared):Prop where
 keep: ∀b o,s.heap.get? b=some o→(∀i p,T₀.get i=some p→p.1≠b)→s'.heap.get? b=some o
 addr: ∀i p,T₀.get i=some p→ ∃o',T.get i=some (p.1,o')
 new: ∀i p,T.get i=some p→T₀.get i=none→s.heap.get? p.1=none
 gens:s'.gens=s.gens
 os:s'.os=s.os
 drawn:s'.drawn=s.drawn
theorem vv.refl (T:Tr) (s:Shared):vv T s T s:=⟨fun _ _ e _=>e,fun _ p e=>⟨p.2,e⟩,fun _ _ e e'=>(nomatch e.symm.trans e'),rfl,rfl,rfl⟩
theorem vv.trans {kt:KT} {T₀ T₁ T₂:Tr} {s₀ s₁ s₂:Shared} {m₀ m₁:Nat} (R₀:yD kt s₀.heap T₀ m₀) (R₁:yD kt s₁.heap T₁ m₁) (a:vv T₀ s₀ T₁ s₁) (b:vv T₁ s₁ T₂ s₂):vv T₀ s₀ T₂ s₂:=by
 refine ⟨fun x o e n=>b.keep x o (a.keep x o e n) fun i p q z=> ?_,fun i p e=> ?_,fun i p e n=> ?_,b.gens.trans a.gens,b.os.trans a.os,b.drawn.trans a.drawn⟩
 ·cases q0:T₀.get i with
  |some p0=>
   obtain ⟨o',q'⟩:=a.addr i p0 q0
   rw [q] at q'
   cases q'
   exact n i p0 q0 z
  |none=>
   have:=a.new i p q q0
   rw [z,e] at this
   cases this
 ·obtain ⟨o',q⟩:=a.addr i p e
  exact b.addr i (p.1,o') q
 ·cases q:T₁.get i with
  |some p1=>
   obtain ⟨o',z⟩:=b.addr i p1 q
   rw [e] at z
   cases z
   exact a.new i p1 q n
  |none=>
   have nn:=b.new i p e q
   cases z:s₀.heap.get? p.1 with
   |none=>rfl
   |some o=>
    exfalso
    by_cases hx: ∀i p',T₀.get i=some p'→p'.1≠p.1
    ·rw [a.keep _ _ z hx] at nn;cases nn
    ·apply hx
     intro j p' hj hp
     obtain ⟨o',hz⟩:=a.addr j p' hj
     have:=R₁.own j _ _ hz
     rw [hp,nn] at this
     cases this
def kB (vs:List (Option (Addr×Obj))) (an:jZ) (as:List Addr) (ts:List Tok) (s s':Shared):Prop:=
 (∀b o,s.heap.get? b=some o→(∀p,some p∈vs→p.1≠b)→s'.heap.get? b=some o)∧
 (an.upd as ts).length=vs.length∧
 (∀(i:Nat) (p:Addr×Obj) (f:Obj→Obj),vs[i]? =some (some p)→(an.upd as ts)[i]? =some f→s'.heap.get? p.1=some (f p.2))∧
 (an.new as ts).length=an.na∧
 (∀(i:Nat) (a:Addr) (o:Obj),as[i]? =some a→(an.new as ts)[i]? =some o→s'.heap.get? a=some o∧s.heap.get? a=none)∧
 as.Nodup∧s'.gens=s.gens∧s'.os=s.os∧s'.drawn=s.drawn
structure Vp (kt:KT) (h:Heap) (vs:List (Option (Addr×Obj))):Prop where
 base: ∀a o,kt.get a=some o→h.get? a=some o
 own: ∀p,some p∈vs→h.get? p.1=some p.2
 inj: ∀(i j:Nat) (p q:Addr×Obj),vs[i]? =some (some p)→vs[j]? =some (some q)→p.1=q.1→i=j
 apart: ∀p,some p∈vs→kt.get p.1=none
def rx (prog:Program) (w:World) (kt:KT) (an:jZ) (d:Nat) (c:Code) (vs:List (Option (Addr×Obj))):Prop:=
 ∀(A:Around) (R:Result→Shared→Prop) (s:Shared),kT A d→Vp kt s.heap vs→
  (∀s' as ts,as.length=an.na→ts.length=an.nt→kB vs an as ts s s'→R (an.res as ts) s')→codeAny (model prog w) A c R s
def j6 (prog:Program) (w:World) (kt:KT) (an:jZ) (d:Nat) (c:Code) (vs:List (Option (Addr×Obj))):Prop:= ∀d',d≤d'→rx prog w kt an d' c vs
theorem j6.of {pr:Program} {w:World} {kt:KT} {an:jZ} {d:Nat} {c:Code} {vs:List (Option (Addr×Obj))} (h:rx pr w kt an d c vs):j6 pr w kt an d c vs:=fun _ hd A R s S=>h A R s (S.mono hd)
theorem j6.use {pr:Program} {w:World} {kt:KT} {an:jZ} {d:Nat} {c:Code} {vs:List (Option (Addr×Obj))} (h:j6 pr w kt an d c vs):rx pr w kt an d c vs:=h _ (Nat.le_refl _)
def ud {α:Type} (kt:KT) (K:Kt α) (T:Tr) (s:Shared) (r:Except Value α) (s':Shared):Prop:=
 ∃T' m' h',K r T' m' h'∧yD kt s'.heap T' m'∧vv T s T' s'
theorem ud.link {α:Type} {kt:KT} {K:Kt α} {T₀ T₁:Tr} {s₀ s₁ s':Shared} {m₀ m₁:Nat} {r:Except Value α} (R₀:yD kt s₀.heap T₀ m₀) (R₁:yD kt s₁.heap T₁ m₁) (l:vv T₀ s₀ T₁ s₁) (p:ud kt K T₁ s₁ r s'):ud kt K T₀ s₀ r s':=by
 obtain ⟨T',m',h',hk,hr,hl⟩:=p
 exact ⟨T',m',h',hk,hr,l.trans R₀ R₁ hl⟩
theorem yD.add {kt:KT} {h:Heap} {T:Tr} {m:Nat} {a:Addr} {o:Obj} (R:yD kt h T m) (ho:h.get? a=some o) (hn: ∀i p,T.get i=some p→p.1≠a) (hk:kt.get a=none) (hg:((T.ins m a o).get m).isSome=true):yD kt h (T.ins m a o) (m+1):=by
 have g:=Tr.get_ins a o T m hg
 refine ⟨fun i b o' e=> ?_,fun i p e=> ?_,fun i j p q e e' z=> ?_,R.base,fun i p e=> ?_⟩
 ·rw [g] at e
  split at e
  ·cases e;exact ho
  ·exact R.own i b o' e
 ·rw [g] at e
  split at e
  ·lia
  ·have:=R.low i p e;exact dx this
 ·rw [g] at e e'
  split at e
  ·rename_i hi
   cases e
   split at e'
   ·rename_i hj;rw [hi,hj]
   ·exact absurd z.symm (hn j q e')
  ·split at e'
   ·cases e';exact absurd z (hn i p e)
   ·exact R.inj i j p q e e' z
 ·rw [g] at e
  split at e
  ·cases e;exact hk
  ·exact R.apart i p e
theorem yD.upd {kt:KT} {h:Heap} {T:Tr} {m v:Nat} {p:Addr×Obj} {f:Obj→Obj} (R:yD kt h T m) (hv:T.get v=some p) (hf:(f p.2).isFreed=false):yD kt (h.update p.1 f) (T.upd v f) m:=by
 have hs:Heap.SameBut p.1 h (h.update p.1 f):=Heap.SameBut.update ..
 have ho:=R.own v p.1 p.2 hv
 refine ⟨fun i b o' e=> ?_,fun i q e=> ?_,fun i j q q' e e' z=> ?_,fun a o e=> ?_,fun i q e=> ?_⟩
 ·rw [Tr.eH] at e
  split at e
  ·rw [hv] at e;cases e
   exact Heap.get?_update_self f ho hf
  ·rename_i hi
   have dM:b≠p.1:=fun z=>hi (R.inj i v _ p e hv z)
   exact (hs.2 b dM).trans (R.own i b o' e)
 ·rw [Tr.eH] at e
  split at e
  ·rename_i hi;subst hi;exact R.low _ _ hv
  ·exact R.low i q e
 ·have a1: ∀{i:Nat} {q:Addr×Obj},(T.upd v f).get i=some q→ ∃q0,T.get i=some q0∧q0.1=q.1:=fun {i q} e=>by
   rw [Tr.eH] at e
   split at e
   ·rename_i hi;subst hi;rw [hv] at e;cases e;exact ⟨p,hv,rfl⟩
   ·exact ⟨q,e,rfl⟩
  obtain ⟨q1,g1,z1⟩:=a1 e
  obtain ⟨q2,g2,z2⟩:=a1 e'
  exact R.inj i j q1 q2 g1 g2 (z1.trans (z.trans z2.symm))
 ·have dM:a≠p.1:=fun z=>by have:=R.apart v p hv;rw [←z,e] at this;cases this
  exact (hs.2 a dM).trans (R.base a o e)
 ·rw [Tr.eH] at e
  split at e
  ·rw [hv] at e;cases e;exact R.apart v p hv
  ·exact R.apart i q e
theorem wL {T:Tr} {s:Shared} {v:Nat} {p:Addr×Obj} {f:Obj→Obj} (hv:T.get v=some p):vv T s (T.upd v f) {s with heap:=s.heap.update p.1 f}:=by
 have hs:Heap.SameBut p.1 s.heap (s.heap.update p.1 f):=Heap.SameBut.update ..
 refine ⟨fun b o e n=>(hs.2 b (Ne.symm (n v p hv))).trans e,fun i q e=> ?_,fun i q e n=> ?_,rfl,rfl,rfl⟩
 ·rw [Tr.eH]
  split
  ·rename_i hi;subst hi;rw [hv] at e;cases e;rw [hv];exact ⟨_,rfl⟩
  ·exact ⟨q.2,e⟩
 ·rw [Tr.eH] at e
  split at e
  ·rename_i hi;subst hi;rw [hv] at n;cases n
  ·rw [n] at e;cases e
theorem yD.push {kt:KT} {h:Heap} {T:Tr} {m:Nat} (R:yD kt h T m) {o:Obj} (hf:o.isFreed=false) (hg:((T.ins m h.objs.size o).get m).isSome=true):yD kt (h.push o) (T.ins m h.objs.size o) (m+1):=by
 refine yD.add ⟨fun i a o' e=>Heap.get?_push_of_some _ (R.own i a o' e),R.low,R.inj,fun a o' e=>Heap.get?_push_of_some _ (R.base a o' e),R.apart⟩ (Heap.get?_push_size _ hf) (fun i p e z=> ?_) ?_ hg
 ·exact absurd (Heap.lt_size (R.own i p.1 p.2 e)) (by rw [z];exact Nat.lt_irrefl _)
 ·cases q:kt.get h.objs.size with
  |none=>rfl
  |some o'=>exact absurd (Heap.lt_size (R.base _ _ q)) (Nat.lt_irrefl _)
theorem wM {kt:KT} {T:Tr} {m:Nat} {s:Shared} {o:Obj} (R:yD kt s.heap T m) (hg:((T.ins m s.heap.objs.size o).get m).isSome=true):vv T s (T.ins m s.heap.objs.size o) {s with heap:=s.heap.push o}:=by
 have g:=Tr.get_ins s.heap.objs.size o T m hg
 refine ⟨fun b o' e _=>Heap.get?_push_of_some _ e,fun i p e=> ?_,fun i p e n=> ?_,rfl,rfl,rfl⟩
 ·have:=R.low i p e
  rw [g,if_neg (lN this)]
  exact ⟨p.2,e⟩
 ·rw [g] at e
  split at e
  ·cases e
   cases q:s.heap.get? s.heap.objs.size with
   |none=>rfl
   |some o'=>exact absurd (Heap.lt_size q) (Nat.lt_irrefl _)
  ·rw [n] at e;cases e
theorem Yd {x:Addr} {fd:FuncData} {a:Args} (hg:fd.scope.isGenerator=false) (hc:fd.scope.isCoroutine=false):
  callFunction x fd a=pre x fd a>>=fun c'=>enterFrame>>=fun _=>again c':=by
 obtain ⟨name,qualname,params,body,scope,globals,closure,defaults,kwdefaults,doc,pyModule,annotations,code,closureTuple,builtins⟩:=fd
 dsimp only at hg hc
 unfold callFunction pre
 dsimp only
 cases code<;>simp only [hg,hc,bind_assoc,pure_bind]<;>first|rfl|(
  refine congrArg _ (funext fun v=> ?_)
  cases v<;>simp only [bind_assoc,pure_bind]<;>rfl)
theorem vv.toks {T T':Tr} {s s':Shared} {n:Nat} (l:vv T {s with toks:=n} T' s'):vv T s T' s':=⟨l.keep,l.addr,l.new,l.gens,l.os,l.drawn⟩
theorem ud.toks {α:Type} {kt:KT} {K:Kt α} {T:Tr} {s s':Shared} {r:Except Value α} {n:Nat} (p:ud kt K T {s with toks:=n} r s'):ud kt K T s r s':=by
 obtain ⟨T',m',h',hk,hr,hl⟩:=p
 exact ⟨T',m',h',hk,hr,hl.toks⟩
def PR.post (p:PR) (R:Value→Shared→Prop) (s:Shared):Prop:=match p with
 | .val v=>R v s
 | .int i=> ∀t n,R (.int i t) {s with toks:=n}
 | .txt x=> ∀t n,R (.str x t) {s with toks:=n}
 | .str x=>x.length≤sizeLine∧ ∀t n,R (.str x t) {s with toks:=n}
 | .iG q x=>(q∧x.length≤sizeLine)∧ ∀t n,R (.str x t) {s with toks:=n}
 | .iH q i=>q∧ ∀t n,R (.int i t) {s with toks:=n}
def kO (c:Code) (p:PR):Prop:= ∀(prog:Program) (w:World) (A:Around) (R:Result→Shared→Prop) (s:Shared),p.post (fun v s'=>R (.ok (.ret v)) s') s→codeAny (model prog w) A c R s
noncomputable def lY:Obj:={cls:= .none,data:= .dict #[]}
theorem EA {kt:KT} {h:Heap} (hk:kt.get 2=some lY) (hb: ∀a o,kt.get a=some o→h.get? a=some o):h.NoLimit:=
 ⟨fun _=>none,⟨lY,#[],0,hb 2 _ hk,rfl,fun e he=>by simp at he,fun _=>rfl⟩,rfl⟩
theorem yN: ∀(ids:List Nat) (fs:List (Obj→Obj)) (T:Tr) (i:Nat),i∉ids→(vM T ids fs).get i=T.get i
 | [],_,_,_,_=>rfl
 |_::_,[],_,_,_=>rfl
 |j::ids,f::fs,T,i,h=>by
  show (vM (T.upd j f) ids fs).get i=_
  rw [yN ids fs _ i (fun q=>h (.tail _ q)),Tr.eH,if_neg (fun (e:i=j)=>h (by rw [e];exact .head _))]
theorem Yq: ∀(ids:List Nat) (fs:List (Obj→Obj)) (T:Tr) (k i:Nat) (f:Obj→Obj),ids.Nodup→ids[k]? =some i→fs[k]? =some f→(vM T ids fs).get i=(T.get i).map (fun p=>(p.1,f p.2))
 | [],_,_,_,_,_,_,h,_=>by cases h
 |_::_,[],_,_,_,_,_,_,h=>by cases h
 |j::ids,g::fs,T,0,i,f,hn,h1,h2=>by
  cases h1;cases h2
  show (vM (T.upd j g) ids fs).get j=_
  rw [yN ids fs _ j (List.nodup_cons.mp hn).1,Tr.eH,if_pos rfl]
 |j::ids,g::fs,T,k+1,i,f,hn,h1,h2=>by
  have wN:ids[k]? =some i:=by simpa using h1
  have fV:fs[k]? =some f:=by simpa using h2
  show (vM (T.upd j g) ids fs).get i=_
  rw [Yq ids fs _ k i f (List.nodup_cons.mp hn).2 wN fV,Tr.eH,if_neg]
  rintro rfl
  exact (List.nodup_cons.mp hn).1 (List.mem_of_getElem? wN)
theorem wO {kt:KT} {h:Heap}: ∀(as:List Addr) (os:List Obj) (T T':Tr) (m:Nat),Ui T m as os=some T'→os.length=as.length→yD kt h T m→as.Nodup→
  (∀(i:Nat) (a:Addr) (o:Obj),as[i]? =some a→os[i]? =some o→h.get? a=some o)→(∀a∈as,kt.get a=none∧ ∀i p,T.get i=some p→p.1≠a)→
  yD kt h T' (m+as.length)∧(∀i p,T.get i=some p→T'.get i=some p)∧(∀i p,T'.get i=some p→T.get i=none→p.1∈as)
 | [],_,T,T',m,e,_,R,_,_,_=>by
  cases e
  exact ⟨R,fun _ _ q=>q,fun _ _ q n=>(nomatch q.symm.trans n)⟩
 |_::_,[],_,_,_,_,l,_,_,_,_=>by cases l
 |a::as,o::os,T,T',m,e,l,R,nd,ho,hn=>by
  have e':(match (T.ins m a o).get m with|some _=>Ui (T.ins m a o) (m+1) as os|none=>none)=some T':=e
  cases q:(T.ins m a o).get m with
  |none=>rw [q] at e';cases e'
  |some z=>
   rw [q] at e'
   have hg:((T.ins m a o).get m).isSome=true:=by rw [q];rfl
   have g:=Tr.get_ins a o T m hg
   have R1:=R.add (ho 0 a o rfl rfl) (hn a (.head _)).2 (hn a (.head _)).1 hg
   have wQ:=List.nodup_cons.mp nd
   obtain ⟨r1,r2,r3⟩:=wO as os (T.ins m a o) T' (m+1) e' (by simpa using l) R1 wQ.2 (fun i b o' h1 h2=>ho (i+1) b o' (by simpa using h1) (by simpa using h2)) (fun b hb=>⟨(hn b (.tail _ hb)).1,fun i p e z=>by
    rw [g] at e
    split at e
    ·cases e;exact wQ.1 (by have z':a=b:=z;rw [z'];exact hb)
    ·exact (hn b (.tail _ hb)).2 i p e z⟩)
   refine ⟨by rw [List.length_cons,Nat.add_comm as.length 1,←Nat.add_assoc];exact r1,fun i p e=>r2 i p ?_,fun i p e n=> ?_⟩
   ·have:=R.low i p e
    rw [g,if_neg (lN this)];exact e
   ·cases q2:(T.ins m a o).get i with
    |none=>exact .tail _ (r3 i p e q2)
    |some p2=>
     have:=r2 i p2 q2
     rw [e] at this
     cases this
     rw [g] at q2
     split at q2
     ·cases q2;exact .head _
     ·rw [n] at q2;cases q2
theorem vI: ∀(n:Nat) (P:List Nat→Prop),yo n P→ ∀l:List Nat,l.length=n→P l
 |0,_,h,[],_=>h
 |0,_,_,_::_,e=>by cases e
 |_+1,_,_,[],e=>by cases e
 |n+1,P,h,a::l,e=>vI n (fun l=>P (a::l)) (h a) l (by simpa using e)
theorem nW {kt:KT} {h:Heap} {T:Tr} {m:Nat} (R:yD kt h T m) {ids:List Nat} (hn:ids.Nodup):Vp kt h (ids.map T.get):=by
 refine ⟨R.base,fun p hp=> ?_,fun i j p q e e' z=> ?_,fun p hp=> ?_⟩
 ·obtain ⟨i,_,e⟩:=List.mem_map.mp hp
  exact R.own i p.1 p.2 e
 ·rw [List.getElem?_map] at e e'
  cases q1:ids[i]? with
  |none=>rw [q1] at e;cases e
  |some x=>
   cases q2:ids[j]? with
   |none=>rw [q2] at e';cases e'
   |some y=>
    rw [q1] at e
    rw [q2] at e'
    have ex:T.get x=some p:=Option.some.inj e
    have ey:T.get y=some q:=Option.some.inj e'
    have xy:=R.inj x y p q ex ey z
    subst xy
    exact (List.getElem?_inj (List.getElem?_eq_some_iff.mp q1).1 hn).mp (q1.trans q2.symm)
 ·obtain ⟨i,_,e⟩:=List.mem_map.mp hp
  exact R.apart i p e
theorem ry {kt:KT} {an:jZ} {T T':Tr} {m:Nat} {s s':Shared} {as:List Addr} {ts:List Tok} (R:yD kt s.heap T m) (hn:an.ids.Nodup) (la:as.length=an.na)
  (p:kB (an.ids.map T.get) an as ts s s') (e:Ui (vM T an.ids (an.upd as ts)) m as (an.new as ts)=some T'):yD kt s'.heap T' (m+an.na)∧vv T s T' s':=by
 obtain ⟨p1,p2,p3,p4,p5,p6,p7,p8,p9⟩:=p
 rw [List.length_map] at p2
 -- Xe turned ones
 have key: ∀i q,(vM T an.ids (an.upd as ts)).get i=some q→ ∃o,T.get i=some (q.1,o)∧s'.heap.get? q.1=some q.2:=by
  intro i q eq
  by_cases hi:i∈an.ids
  ·obtain ⟨k,hk⟩:=List.mem_iff_getElem?.mp hi
   have lk:=(List.getElem?_eq_some_iff.mp hk).1
   obtain ⟨f,hf⟩: ∃f,(an.upd as ts)[k]? =some f:=⟨_,List.getElem?_eq_getElem (by lia)⟩
   rw [Yq _ _ T k i f hn hk hf] at eq
   cases q0:T.get i with
   |none=>rw [q0] at eq;cases eq
   |some wR=>
    rw [q0] at eq
    cases eq
    refine ⟨wR.2,rfl,p3 k wR f ?_ hf⟩
    rw [List.getElem?_map,hk,←q0];rfl
  ·rw [yN _ _ _ _ hi] at eq
   refine ⟨q.2,eq,p1 q.1 q.2 (R.own i q.1 q.2 eq) fun p' lZ z=> ?_⟩
   obtain ⟨j,hj,ej⟩:=List.mem_map.mp lZ
   exact hi (R.inj j i p' q ej eq z▸hj)
 have R1:yD kt s'.heap (vM T an.ids (an.upd as ts)) m:=by
  refine ⟨fun i a o eq=>(key i (a,o) eq).choose_spec.2,fun i q eq=> ?_,fun i j q q' eq EB z=> ?_,fun a o ea=> ?_,fun i q eq=> ?_⟩
  ·obtain ⟨o,e1,_⟩:=key i q eq;exact R.low i _ e1
  ·obtain ⟨o,e1,_⟩:=key i q eq
   obtain ⟨o',e2,_⟩:=key j q' EB
   exact R.inj i j _ _ e1 e2 z
  ·refine p1 a o (R.base a o ea) fun p' lZ z=> ?_
   obtain ⟨j,hj,ej⟩:=List.mem_map.mp lZ
   have:=R.apart j p' ej
   rw [z,ea] at this;cases this
  ·obtain ⟨o,e1,_⟩:=key i q eq;exact R.apart i (q.1,o) e1
 have fresh: ∀a∈as,s.heap.get? a=none:=fun a ha=>by
  obtain ⟨k,hk⟩:=List.mem_iff_getElem?.mp ha
  have lk:=(List.getElem?_eq_some_iff.mp hk).1
  obtain ⟨o,ho⟩: ∃o,(an.new as ts)[k]? =some o:=⟨_,List.getElem?_eq_getElem (by lia)⟩
  exact (p5 k a o hk ho).2
 obtain ⟨r1,r2,r3⟩:=wO as (an.new as ts) _ T' m e (p4.trans la.symm) R1 p6 (fun i a o h1 h2=>(p5 i a o h1 h2).1) (fun a ha=>by
  refine ⟨?_,fun i q eq z=> ?_⟩
  ·cases q:kt.get a with
   |none=>rfl
   |some o=>have:=fresh a ha;rw [R.base a o q] at this;cases this
  ·obtain ⟨o,e1,_⟩:=key i q eq
   have:=R.own i _ _ e1
   rw [z,fresh a ha] at this;cases this)
 refine ⟨by rw [←la];exact r1,fun b o eb n=>p1 b o eb fun p' lZ z=> ?_,fun i q eq=> ?_,fun i q eq n=> ?_,p7,p8,p9⟩
 ·obtain ⟨j,hj,ej⟩:=List.mem_map.mp lZ
  exact n j p' ej z
 ·by_cases hi:i∈an.ids
  ·obtain ⟨k,hk⟩:=List.mem_iff_getElem?.mp hi
   have lk:=(List.getElem?_eq_some_iff.mp hk).1
   obtain ⟨f,hf⟩: ∃f,(an.upd as ts)[k]? =some f:=⟨_,List.getElem?_eq_getElem (by lia)⟩
   have z:=Yq an.ids (an.upd as ts) T k i f hn hk hf
   rw [eq] at z
   exact ⟨f q.2,r2 i _ z⟩
  ·exact ⟨q.2,r2 i _ ((yN _ _ _ _ hi).trans eq)⟩
 ·cases z:(vM T an.ids (an.upd as ts)).get i with
  |some q1=>
   obtain ⟨o,e1,_⟩:=key i q1 z
   rw [n] at e1;cases e1
  |none=>exact fresh _ (r3 i q eq z)
def YD (prog:Program) (W:World) (kt:KT) (an:jZ) (d:Nat) (op:CmpOp) (v w:Value) (vs:List (Option (Addr×Obj))):Prop:=
 ∀(A:Around) (Q:Value→Shared→Prop) (E:Value→Shared→Prop) (s:Shared),kT A d→Vp kt s.heap vs→(∀b,an.res [] []= .ok (.ret (.bool b))→Q (.bool b) s)→wpAny (model prog W) A (compareOp op v w) Q E s
def jx (prog:Program) (W:World) (kt:KT) (an:jZ) (d:Nat) (ss:List Stmt) (env:Env) (vs:List (Option (Addr×Obj))):Prop:=
 ∀(A:Around) (R:Result→Shared→Prop) (s:Shared),kT A d→Vp kt s.heap vs→
  (∀s' as ts,as.length=an.na→ts.length=an.nt→kB vs an as ts s s'→R (an.res as ts) s')→wpAny (model prog W) A (execs ss env) (fun f s'=>R (.ok f) s') (fun e s'=>R (.error e) s') s
structure gX (V:y0) (w:World):Prop where
 P:V.P=w.params
 lim:V.kt.get 2=some lY
 ids: ∀j,(V.ak j jJ).ids.Nodup
 shape: ∀j c,(V.ak j c).ids=(V.ak j jJ).ids∧(V.ak j c).na=(V.ak j jJ).na∧(V.ak j c).nt=(V.ak j jJ).nt
 ask: ∀j d c vs,V.ask j d c vs→j6 V.prog w V.kt (V.ak j (y4 vs)) d c vs
 bR: ∀j d op a b vs,V.bR j d op a b vs→YD V.prog w V.kt (V.ak j jJ) d op a b vs
 bN: ∀j d ss env vs,V.bN j d ss env vs→jx V.prog w V.kt (V.ak j (y4 vs)) d ss env vs
def rz (V:y0) (w:World) (F:YZ):Prop:=
 ∀(α:Type) (t:Sem α) (K:Kt α) (d:Nat) (T:Tr) (m h:Nat) (A:Around) (s:Shared),F.tree α t K d T m h→kT A d→yD V.kt s.heap T m→
  wpAny (model V.prog w) A t (fun a s'=>ud V.kt K T s (.ok a) s') (fun e s'=>ud V.kt K T s (.error e) s') s
def rA (V:y0) (w:World) (F:YZ):Prop:=
 ∀(c:Code) (K:Kt Flow) (d:Nat) (T:Tr) (m h:Nat) (A:Around) (s:Shared),F.code c K d T m h→kT A d→yD V.kt s.heap T m→
  codeAny (model V.prog w) A c (fun r s'=>ud V.kt K T s r s') s
theorem wU (env:Env):execs [] env=pure .next:=rfl
theorem rB (s:Stmt) (l:List Stmt) (env:Env):execs (s::l) env=exec s env>>=fun f=>match f with| .next=>execs l env|f=>pure f:=by kernel_rfl
theorem EC (test:Expr) (body orelse:List Stmt) (pos:Pos) (env:Env):exec (.If test body orelse pos) env=standAt pos>>=fun _=>PySem.isTrue test env (eval test env)>>=fun b=>if b then execs body env else execs orelse env:=by kernel_rfl
theorem ED (env:Env):PySem.allTrue .Or [] env=pure false:=by kernel_rfl
theorem EE (x:Expr) (xs:List Expr) (env:Env):PySem.allTrue .Or (x::xs) env=PySem.isTrue x env (eval x env)>>=fun b=>(match BoolOp.Or,b with| .And,false=>pure false| .Or,true=>pure true|_,_=>PySem.allTrue .Or xs env):=by kernel_rfl
theorem EF (es:List Expr) (pos:Pos) (env:Env) (t:Sem Value):PySem.isTrue (.BoolOp .Or es pos) env t=PySem.allTrue .Or es env:=by kernel_rfl
theorem EG (l:Expr) (op:CmpOp) (r:Expr) (pos:Pos) (env:Env) (t:Sem Value):PySem.isTrue (.Compare l [op] [r] pos) env t=eval l env>>=fun v=>testChain pos v [op] [markedBehindIn op r (eval r env)]:=by kernel_rfl
theorem EH {op:CmpOp} (eI:lX op=true) (r:Expr):behindInMarks op r=false:=by
 have h:(op== .In||op== .NotIn)=false:=by cases op<;>first|rfl|cases eI
 unfold behindInMarks
 split
 ·rw [h,Bool.and_false,Bool.false_and]
 ·rfl
theorem EI {op:CmpOp} {r:Expr} {t:Sem Value} (h:behindInMarks op r=false):markedBehindIn op r t=t:=by
 unfold markedBehindIn
 rw [h]
theorem Ua (env:Env): ∀(ss rest:List Stmt),execs (ss++rest) env=execs ss env>>=fun f=>match f with
  | .next=>execs rest env
  |f=>pure f
 | [],rest=>by
  show execs rest env=execs [] env>>=_
  rw [wU,pure_bind]
 |s::ss,rest=>by
  show execs (s::(ss++rest)) env=_
  rw [rB,rB,bind_assoc]
  refine congrArg _ (funext fun f=> ?_)
  cases f with
  |next=>exact Ua env ss rest
  |brk=>exact (pure_bind _ _).symm
  |cont=>exact (pure_bind _ _).symm
  |ret v=>exact (pure_bind _ _).symm
theorem EJ (test:Expr) (body orelse:List Stmt) (pos:Pos) (rest:List Stmt) (env:Env):execs (.If test body orelse pos::rest) env=standAt pos>>=fun _=>PySem.isTrue test env (eval test env)>>=fun b=>(if b then execs body env else execs orelse env)>>=fun f=>match f with
  | .next=>execs rest env
  |f=>pure f:=by
 rw [rB,EC,bind_assoc]
 refine congrArg _ (funext fun _=> ?_)
 rw [bind_assoc]
theorem EK (f:Flow):(match f with| .ret v=>ret v|_=>ret .none:Sem Fin)=pure (.done (match f with| .ret v=> .ret v|_=> .ret .none)):=by
 cases f<;>rfl
section
variable {V:y0} {w:World} (G:gX V w) {F:YZ} (hT:rz V w F) (hC:rA V w F) (hp: ∀k c p,prim k c=some p→kO c p)
include G hT hC hp
theorem UD {α:Type} {k:Result→Sem α} {K:Kt α} {d':Nat} {x:Addr} {a:Args} {o:Obj} {T:Tr} {m h:Nat} {A:Around} {s:Shared} (ho:s.heap.get? x=some o)
  (H:fD F α k K (d'+1) d' x a o T m h) (S:kT A (d'+1)) (R:yD V.kt s.heap T m):
  codeAny (model V.prog w) A (.call (.ref x) a) (fun r s'=>ud V.kt (fun r=>F.tree α (k r) K (d'+1)) T s r s') s:=by
 unfold fD at H
 split at H
 ·rename_i fd hd
  split at H
  ·rename_i hg
   split at H
   ·rename_i EL
    refine codeAny_of_tree ?_
    show wpAny _ _ (callAny (.ref x) a) _ _ s
    simp only [callAny]
    refine wpAny_bind (wpAny_load ho ?_)
    simp only [hd]
    rw [Yd hg EL,Em]
    have S':=S.under (c:= .call (.ref x) a) rfl
    refine wpAny_bind (wpAny_mono (hT Code (nQ x fd a) _ d' T m h _ s H S' R) (fun c' s' q=> ?_) (fun e s' q=> ?_))
    ·obtain ⟨T',m',h',hk,hr,hl⟩:=q
     have NL:s'.heap.NoLimit:=EA G.lim hr.base
     have EP:(A.under (.call (.ref x) a)).depth<recursionLimit:=by have:=S'.depth;omega
     refine wpAny_bind (wpAny_enterFrame NL EP (wpAny_pure ?_))
     dsimp only at hk
     cases hq:JA c' with
     |true=>
      rw [hq] at hk
      exact ⟨by rw [JK];exact hq,codeAny_mono (hC c' _ (d'+1) T' m' h' A s' hk S hr) fun r mc z=>ud.link R hr hl z⟩
     |false=>rw [hq] at hk;exact hk.elim
    ·obtain ⟨T',m',h',hk,_⟩:=q
     exact hk.elim
   ·exact H.elim
  ·exact H.elim
 ·exact H.elim
theorem Vv {α:Type} {c:Code} {g:Bool} {l:List Value} {k:Result→Sem α} {K:Kt α} {d:Nat} {T:Tr} {m:Nat} {A:Around} {s:Shared} (S:kT A d) (R:yD V.kt s.heap T m)
  (H:codeAny (model V.prog w) A c (fun r s'=>ud V.kt (fun r=>F.tree α (k r) K d) T s r s') s):
  wpAny (model V.prog w) A (.call c none g l k) (fun a s'=>ud V.kt K T s (.ok a) s') (fun e s'=>ud V.kt K T s (.error e) s') s:=by
 refine x_call ?_ (by intro e;cases e)
 have e:A.mark none=A:=rfl
 rw [e]
 refine codeAny_mono H fun r s' q=> ?_
 obtain ⟨T',m',h',hk,hr,hl⟩:=q
 exact wpAny_mono (hT α (k r) K d T' m' h' A s' hk S hr) (fun a mc z=>ud.link R hr hl z) (fun e mc z=>ud.link R hr hl z)
theorem ER {α:Type} {c:Code} {p:PR} {op:Nat} (hc:prim op c=some p) {g:Bool} {l:List Value} {k:Result→Sem α} {K:Kt α} {d:Nat} {T:Tr} {m:Nat} {A:Around} {s:Shared} (S:kT A d) (R:yD V.kt s.heap T m)
  (H:p.post (fun v s'=> ∃n h,s'={s with toks:=n}∧F.tree α (k (.ok (.ret v))) K d T m h) s):
  wpAny (model V.prog w) A (.call c none g l k) (fun a s'=>ud V.kt K T s (.ok a) s') (fun e s'=>ud V.kt K T s (.error e) s') s:=by
 refine x_call ?_ (by intro e;cases e)
 have e:A.mark none=A:=rfl
 rw [e]
 refine hp op c p hc _ _ _ _ _ ?_
 have key: ∀v s',(∃n h,s'={s with toks:=n}∧F.tree α (k (.ok (.ret v))) K d T m h)→wpAny (model V.prog w) A (k (.ok (.ret v))) (fun a s'=>ud V.kt K T s (.ok a) s') (fun e s'=>ud V.kt K T s (.error e) s') s':=by
  rintro v s' ⟨n,h,rfl,z⟩
  exact wpAny_mono (hT α _ K d T m h A {s with toks:=n} z S R) (fun a mc y=>y.toks) (fun e mc y=>y.toks)
 have mono: ∀(p:PR) (Q Q':Value→Shared→Prop),(∀v s',Q v s'→Q' v s')→p.post Q s→p.post Q' s:=by
  intro p Q Q' i q
  cases p with
  |val v=>exact i _ _ q
  |int _=>exact fun t n=>i _ _ (q t n)
  |txt _=>exact fun t n=>i _ _ (q t n)
  |str _=>exact ⟨q.1,fun t n=>i _ _ (q.2 t n)⟩
  |iG _ _=>exact ⟨q.1,fun t n=>i _ _ (q.2 t n)⟩
  |iH _ _=>exact ⟨q.1,fun t n=>i _ _ (q.2 t n)⟩
 exact mono p _ _ key H
theorem EV {α:Type} {o:Obj} {k:Addr→Sem α} {K:Kt α} {d:Nat} {T:Tr} {m h:Nat} {A:Around} {s:Shared} (H:wH F α o k K d T m h) (S:kT A d) (R:yD V.kt s.heap T m):wpAny (model V.prog w) A (.alloc o k) (fun a s'=>ud V.kt K T s (.ok a) s') (fun e s'=>ud V.kt K T s (.error e) s') s:=by
 have H':=H s.heap.objs.size
 cases hf:o.isFreed with
 |true=>rw [hf] at H';exact H'.elim
 |false=>
  rw [hf] at H'
  dsimp only at H'
  cases hz:(T.ins m s.heap.objs.size o).get m with
  |none=>rw [hz] at H';exact H'.elim
  |some z=>
   rw [hz] at H'
   have hg:((T.ins m s.heap.objs.size o).get m).isSome=true:=by rw [hz];rfl
   have R':=R.push hf hg
   refine wpAny_bind (m:=alloc o) (f:=k) (wpAny_alloc ?_)
   exact wpAny_mono (hT α (k s.heap.objs.size) K d _ (m+1) (h/4096) A {s with heap:=s.heap.push o} H' S R') (fun a s' z=>ud.link R R' (wM R hg) z) (fun e s' z=>ud.link R R' (wM R hg) z)
theorem EW {α:Type} {a:Addr} {q:Option Value} {k:Obj→Sem α} {K:Kt α} {d:Nat} {T:Tr} {m h:Nat} {A:Around} {s:Shared}: ∀n,nT V F α a k K d T m h n→kT A d→yD V.kt s.heap T m→wpAny (model V.prog w) A (.load a q k) (fun a s'=>ud V.kt K T s (.ok a) s') (fun e s'=>ud V.kt K T s (.error e) s') s
 |0,H,S,R=>by
  unfold nT at H
  dsimp only at H
  cases ho:V.kt.get a with
  |none=>rw [ho] at H;exact H.elim
  |some o=>rw [ho] at H;exact x_load (R.base a o ho) (hT α (k o) K d T m _ A s H S R)
 |v+1,H,S,R=>by
  unfold nT at H
  dsimp only at H
  cases hv:T.get v with
  |none=>rw [hv] at H;exact H.elim
  |some p=>rw [hv] at H;obtain ⟨rfl,H⟩:=H;exact x_load (R.own _ p.1 p.2 hv) (hT α (k p.2) K d T m _ A s H S R)
theorem EX {α:Type} {a:Addr} {q:Option Value} {f:Obj→Obj} {k:Unit→Sem α} {K:Kt α} {d:Nat} {T:Tr} {m h:Nat} {A:Around} {s:Shared}: ∀n,ro F α a f k K d T m h n→kT A d→yD V.kt s.heap T m→wpAny (model V.prog w) A (.update a q f k) (fun a s'=>ud V.kt K T s (.ok a) s') (fun e s'=>ud V.kt K T s (.error e) s') s
 |0,H,S,R=>H.elim
 |v+1,H,S,R=>by
  unfold ro at H
  dsimp only at H
  cases hv:T.get v with
  |none=>rw [hv] at H;exact H.elim
  |some p=>
   rw [hv] at H
   dsimp only at H
   cases hf:(f p.2).isFreed with
   |true=>rw [hf] at H;exact H.elim
   |false=>
    rw [hf] at H
    obtain ⟨rfl,H⟩:=H
    have R':=R.upd hv hf
    refine wpAny_bind (m:=updatePart p.1 q f) (f:=k) (wpAny_updatePart (R.own _ p.1 p.2 hv) ?_)
    exact wpAny_mono (hT α (k ()) K d _ m _ A {s with heap:=s.heap.update p.1 f} H S R') (fun a s' z=>ud.link R R' (wL hv) z) (fun e s' z=>ud.link R R' (wL hv) z)
theorem wV {α:Type} {k:Result→Sem α} {K:Kt α} {d:Nat} {T:Tr} {m h:Nat} {s:Shared} (b:Bool): ∀p,rp F α k K d b p T m h→PR.post p (fun v s'=> ∃n h,s'={s with toks:=n}∧F.tree α (k (.ok (.ret v))) K d T m h) s
 |p,H=>by cases p with|val v=>(cases v with|bool x=>(obtain ⟨rfl,H⟩:=H;exact ⟨s.toks,_,rfl,H⟩)|_=>exact H.elim)|_=>exact H.elim
theorem EY {α:Type} {k:Result→Sem α} {K:Kt α} {d:Nat} {T:Tr} {m h:Nat} {s:Shared}: ∀n p,wI F α k K d n p T m h→PR.post p (fun v s'=> ∃n h,s'={s with toks:=n}∧F.tree α (k (.ok (.ret v))) K d T m h) s
 |0,p,H=>by cases p with|val v=>exact ⟨s.toks,_,rfl,H⟩|_=>exact H.elim
 |1,p,H=>wV G hT hC hp true p H
 |2,p,H=>wV G hT hC hp false p H
 |3,p,H=>by cases p with|int i=>exact fun t n=>⟨n,_,rfl,H t⟩|txt i=>exact fun t n=>⟨n,_,rfl,H t⟩|_=>exact H.elim
 |4,p,H=>by cases p with|str i=>exact ⟨H.1,fun t n=>⟨n,_,rfl,H.2 t⟩⟩|_=>exact H.elim
 |5,p,H=>by cases p with|int i=>(obtain ⟨e,H⟩:=H;subst e;exact fun t n=>⟨n,_,rfl,H t⟩)|_=>exact H.elim
 |6,p,H=>by cases p with|iG q x=>exact ⟨H.1,fun t n=>⟨n,_,rfl,H.2 t⟩⟩|_=>exact H.elim
 |_+7,p,H=>by cases p with|iH q x=>exact ⟨H.1,fun t n=>⟨n,_,rfl,H.2 t⟩⟩|_=>exact H.elim
theorem EZ {α:Type} {k:Result→Sem α} {K:Kt α} {d':Nat} {x:Addr} {a:Args} {T:Tr} {m h:Nat} {A:Around} {s:Shared}: ∀n,nU V F α k K (d'+1) d' x a T m h n→kT A (d'+1)→yD V.kt s.heap T m→
  codeAny (model V.prog w) A (.call (.ref x) a) (fun r s'=>ud V.kt (fun r=>F.tree α (k r) K (d'+1)) T s r s') s
 |0,H,S,R=>by
  unfold nU at H
  dsimp only at H
  cases ho:V.kt.get x with
  |none=>rw [ho] at H;exact H.elim
  |some o=>rw [ho] at H;exact UD G hT hC hp (R.base _ o ho) H S R
 |v+1,H,S,R=>by
  unfold nU at H
  dsimp only at H
  cases hv:T.get v with
  |none=>rw [hv] at H;exact H.elim
  |some p=>rw [hv] at H;obtain ⟨rfl,H⟩:=H;exact UD G hT hC hp (R.own _ p.1 p.2 hv) H S R
theorem E6 {α:Type} {k:Result→Sem α} {K:Kt α} {T:Tr} {m h:Nat} {A:Around} {s:Shared}: ∀c d,nV V F α c k K d T m h .fn→kT A d→yD V.kt s.heap T m→codeAny (model V.prog w) A c (fun r s'=>ud V.kt (fun r=>F.tree α (k r) K d) T s r s') s
 |c,0,H,S,R=>H.elim
 |c,d'+1,H,S,R=>by
  cases c with
  |call f a=>
   cases f with
   |ref x=>exact EZ G hT hC hp _ H S R
   |_=>exact H.elim
  |_=>exact H.elim
theorem E7 {α:Type} {c:Code} {g:Bool} {l:List Value} {k:Result→Sem α} {K:Kt α} {d:Nat} {T:Tr} {m h:Nat} {A:Around} {s:Shared} (κ:CK) (H:nV V F α c k K d T m h κ) (S:kT A d) (R:yD V.kt s.heap T m):wpAny (model V.prog w) A (.call c none g l k) (fun a s'=>ud V.kt K T s (.ok a) s') (fun e s'=>ud V.kt K T s (.error e) s') s:=by
 cases κ with
 |bad=>exact H.elim
 |inside=>exact Vv G hT hC hp S R (hC c _ d T m _ A s H S R)
 |prim op kind=>
  unfold nV at H
  dsimp only at H
  cases fE:prim op c with
  |none=>rw [fE] at H;exact H.elim
  |some p=>rw [fE] at H;exact ER G hT hC hp fE S R (EY G hT hC hp kind p H)
 |fn=>exact Vv G hT hC hp S R (E6 G hT hC hp c d H S R)
 |ask j=>
  obtain ⟨Ha,H⟩:=H
  obtain ⟨e1,e2,e3⟩:=G.shape j (y4 ((V.ak j jJ).ids.map T.get))
  have bb:(V.ak j (y4 ((V.ak j jJ).ids.map T.get))).ids.Nodup:=by rw [e1];exact G.ids j
  have key:=(G.ask j d c _ Ha).use A
  generalize hq:V.ak j (y4 ((V.ak j jJ).ids.map T.get))=an at*
  rw [←e1] at key
  refine Vv G hT hC hp S R (key _ s S (nW R bb) fun s' as ts la lt post=> ?_)
  have H1:=vI _ _ (vI _ _ H as (la.trans e2)) ts (lt.trans e3)
  rw [←e1,←e2] at H1
  split at H1
  ·rename_i T' iI
   obtain ⟨R',L'⟩:=ry R bb la post iI
   exact ⟨T',_,_,H1,R',L'⟩
  ·exact H1.elim
theorem E8:rz V w (rr V F):=by
 intro α t K d T m h A s H S R
 cases t with
 |pure a=>exact wpAny_pure ⟨T,m,h,H,R,vv.refl T s⟩
 |raise e=>exact wpAny_throw ⟨T,m,h,H,R,vv.refl T s⟩
 |rule tag k=>exact x_rule (hT α (k ()) K d T m h A s H S R)
 |«at» q k=>exact x_at (hT α (k ()) K d T m h A s H S R)
 |point l k=>exact x_point (hT α (k ()) K d T m h A s H S R)
 |ask k=>exact x_ask (by rw [←G.P];exact hT α (k ⟨V.prog,V.P⟩) K d T m h A s H S R)
 |fresh k=>exact x_fresh (wpAny_mono (hT α (k s.toks) K d T m (h/4096) A {s with toks:=s.toks+1} (H s.toks) S R) (fun a s' z=>z.toks) (fun e s' z=>z.toks))
 |handled own k=>
  cases own with
  |true=>exact H.elim
  |false=>exact x_handled (by rw [S.handled];exact hT α (k none) K d T m h A s H S R)
 |alloc o k=>exact EV G hT hC hp H S R
 |load a q k=>exact EW G hT hC hp _ H S R
 |update a q f k=>exact EX G hT hC hp _ H S R
 |call c hd g l k=>
  cases hd with
  |some x=>exact H.elim
  |none=>exact E7 G hT hC hp _ H S R
 |_=>exact H.elim
theorem E9 (hr: ∀(r:Result) K d T m h,F.tree Flow (Yl r) K d T m h→K r T m h) {c:Code} {K:Kt Flow} {d':Nat} {T:Tr} {m h:Nat} {A:Around} {s:Shared} (H:ri V F K (d'+1) d' c T m h) (S:kT A (d'+1)) (R:yD V.kt s.heap T m):
  codeAny (model V.prog w) A c (fun r s'=>ud V.kt K T s r s') s:=by
 unfold ri at H
 split at H
 ·rename_i f a
  split at H
  ·rename_i x
   split at H
   ·split at H
    ·split at H
     ·rename_i o ho
      refine codeAny_mono (UD G hT hC hp (R.base _ o ho) H S R) fun r s' q=> ?_
      obtain ⟨T',m',h',hk,z⟩:=q
      exact ⟨T',m',h',hr _ _ _ _ _ _ hk,z⟩
     ·exact H.elim
    ·split at H
     ·rename_i p hv
      obtain ⟨rfl,H⟩:=H
      refine codeAny_mono (UD G hT hC hp (R.own _ p.1 p.2 hv) H S R) fun r s' q=> ?_
      obtain ⟨T',m',h',hk,z⟩:=q
      exact ⟨T',m',h',hr _ _ _ _ _ _ hk,z⟩
     ·exact H.elim
   ·exact hC _ K (d'+1) T m h A s H S R
  ·exact hC _ K (d'+1) T m h A s H S R
 ·exact hC _ K (d'+1) T m h A s H S R
theorem E' (hr: ∀(r:Result) K d T m h,F.tree Flow (Yl r) K d T m h→K r T m h) {c:Code} {K:Kt Flow} {d':Nat} {T:Tr} {m h:Nat} {A:Around} {s:Shared} (H:rj V F K (d'+1) d' c T m h) (S:kT A (d'+1)) (R:yD V.kt s.heap T m):
  codeAny (model V.prog w) A c (fun r s'=>ud V.kt K T s r s') s:=by
 unfold rj at H
 split at H
 ·split at H
  ·rename_i j _
   obtain ⟨Ha,H⟩:=H
   obtain ⟨e1,e2,e3⟩:=G.shape j (y4 ((V.ak j jJ).ids.map T.get))
   have bb:(V.ak j (y4 ((V.ak j jJ).ids.map T.get))).ids.Nodup:=by rw [e1];exact G.ids j
   have key:=(G.ask j (d'+1) c _ Ha).use A
   generalize hq:V.ak j (y4 ((V.ak j jJ).ids.map T.get))=an at*
   rw [←e1] at key
   refine key _ s S (nW R bb) fun s' as ts la lt post=> ?_
   have H1:=vI _ _ (vI _ _ H as (la.trans e2)) ts (lt.trans e3)
   rw [←e1,←e2] at H1
   split at H1
   ·rename_i T' iI
    obtain ⟨R',L'⟩:=ry R bb la post iI
    exact ⟨T',_,_,H1,R',L'⟩
   ·exact H1.elim
  ·exact H.elim
 ·exact E9 G hT hC hp hr H S R
theorem Ug {env:Env} {K:Kt Flow} {go:Tr→Nat→Nat→Prop} {rest:List Stmt} {d:Nat} {A:Around} (Fb: ∀T m h s,go T m h→yD V.kt s.heap T m→wpAny (model V.prog w) A (execs rest env) (fun f s'=>ud V.kt K T s (.ok f) s') (fun _ _=>False) s)
  {r:Result} {T₀ T:Tr} {m₀ m h:Nat} {s₀ s:Shared} (R₀:yD V.kt s₀.heap T₀ m₀) (R:yD V.kt s.heap T m) (L:vv T₀ s₀ T s) (H:Vj K go r T m h):
  match r with
  | .ok f=>wpAny (model V.prog w) A (match f with| .next=>execs rest env|f=>pure f) (fun f s'=>ud V.kt K T₀ s₀ (.ok f) s') (fun _ _=>False) s
  | .error _=>False:=by
 cases r with
 |error e=>exact H
 |ok f=>
  cases f with
  |next=>exact wpAny_mono (Fb T m h s H R) (fun f s' q=>ud.link R₀ R L q) (fun _ _ q=>q)
  |brk=>exact wpAny_pure ⟨T,m,h,H,R,L⟩
  |cont=>exact wpAny_pure ⟨T,m,h,H,R,L⟩
  |ret v=>exact wpAny_pure ⟨T,m,h,H,R,L⟩
theorem Fc {env:Env} {l r:Expr} {op:CmpOp} {k:Bool→Tr→Nat→Nat→Prop} {d:Nat} {T:Tr} {m h:Nat} {A:Around} {s:Shared} {pos:Pos} (eI:lX op=true) (H:rk V F env d l op r k T m h) (S:kT A d) (R:yD V.kt s.heap T m):
  wpAny (model V.prog w) A (PySem.isTrue (.Compare l [op] [r] pos) env (eval (.Compare l [op] [r] pos) env)) (fun b s'=> ∃T' m' h',k b T' m' h'∧yD V.kt s'.heap T' m'∧vv T s T' s') (fun _ _=>False) s:=by
 have u:PySem.isTrue (.Compare l [op] [r] pos) env (eval (.Compare l [op] [r] pos) env)=eval l env>>=fun v=>holding [v] (eval r env)>>=fun rv=>standAt pos>>=fun _=>operate [v,rv] (compareOp op v rv)>>=fun c=>holding [c] (truthy c):=by
  rw [EG,EI (EH eI r)]
  rfl
 rw [u,Er]
 refine wpAny_bind (wpAny_mono (hT Value (lV l env) _ d T m h A s H S R) (fun v s1 q=> ?_) (fun e s1 q=> ?_))
 ·obtain ⟨T1,m1,h1,H1,R1,L1⟩:=q
  refine wpAny_bind (wpAny_holding (wpAny_mono (hT Value (lV r env) _ d T1 m1 h1 A s1 H1 S R1) (fun w' s2 q=> ?_) (fun e s2 q=> ?_)))
  ·obtain ⟨T2,m2,h2,H2,R2,L2⟩:=q
   refine wpAny_bind (wpAny_standAt (wpAny_bind (wpAny_operate' ?_)))
   dsimp only at H2
   split at H2
   ·rename_i j hj
    obtain ⟨Ha,H3⟩:=H2
    refine G.bR j d op v w' _ Ha A _ _ s2 S (nW R2 (G.ids j)) fun b hb=>wpAny_holding (wpAny_truthy_bool ?_)
    rw [hb] at H3
    exact ⟨T2,m2,_,H3,R2,vv.trans R R1 L1 L2⟩
   ·exact H2.elim
  ·obtain ⟨_,_,_,H2,_⟩:=q
   exact H2.elim
 ·obtain ⟨_,_,_,H1,_⟩:=q
  exact H1.elim
theorem wW {env:Env} {e:Expr} {k:Bool→Tr→Nat→Nat→Prop} {d:Nat} {T:Tr} {m h:Nat} {A:Around} {s:Shared} (H:nS V F env d e k T m h) (S:kT A d) (R:yD V.kt s.heap T m):
  wpAny (model V.prog w) A (PySem.isTrue e env (eval e env)) (fun b s'=> ∃T' m' h',k b T' m' h'∧yD V.kt s'.heap T' m'∧vv T s T' s') (fun _ _=>False) s:=by
 cases e with
 |Compare l ops rs pos=>
  match ops,rs,H with
  | [],_,H=>exact H.elim
  |_::_::_,_,H=>exact H.elim
  | [op],[],H=>exact H.elim
  | [op],_::_::_,H=>exact H.elim
  | [op],[r],H=>
   have H':(match lX op with|true=>rk V F env d l op r k|false=>fun _ _ _=>False) T m h:=H
   cases q:lX op with
   |true=>rw [q] at H';exact Fc G hT hC hp q H' S R
   |false=>rw [q] at H';exact H'.elim
 |_=>exact H.elim
theorem wX {env:Env} {k:Bool→Tr→Nat→Nat→Prop} {d:Nat} {A:Around} (S:kT A d): ∀(es:List Expr) {T:Tr} {m h:Nat} {s:Shared},rl V F env d k es T m h→yD V.kt s.heap T m→
  wpAny (model V.prog w) A (PySem.allTrue .Or es env) (fun b s'=> ∃T' m' h',k b T' m' h'∧yD V.kt s'.heap T' m'∧vv T s T' s') (fun _ _=>False) s
 | [],T,m,h,s,H,R=>by
  rw [ED]
  exact wpAny_pure ⟨T,m,h,H,R,vv.refl T s⟩
 |x::xs,T,m,h,s,H,R=>by
  have e:PySem.allTrue .Or (x::xs) env=PySem.isTrue x env (eval x env)>>=fun b=>match b with|true=>pure true|false=>PySem.allTrue .Or xs env:=by
   rw [EE]
   refine congrArg _ (funext fun b=> ?_)
   cases b<;>rfl
  rw [e]
  refine wpAny_bind (wpAny_mono (wW G hT hC hp H S R) (fun b s1 q=> ?_) (fun _ _ q=>q))
  obtain ⟨T1,m1,h1,H1,R1,L1⟩:=q
  cases b with
  |true=>exact wpAny_pure ⟨T1,m1,h1,H1,R1,L1⟩
  |false=>
   refine wpAny_mono (wX S xs H1 R1) (fun b s2 q=> ?_) (fun _ _ q=>q)
   obtain ⟨T2,m2,h2,H2,R2,L2⟩:=q
   exact ⟨T2,m2,h2,H2,R2,vv.trans R R1 L1 L2⟩
theorem Fd {env:Env} {e:Expr} {k:Bool→Tr→Nat→Nat→Prop} {d:Nat} {T:Tr} {m h:Nat} {A:Around} {s:Shared} (H:rm V F env d e k T m h) (S:kT A d) (R:yD V.kt s.heap T m):
  wpAny (model V.prog w) A (PySem.isTrue e env (eval e env)) (fun b s'=> ∃T' m' h',k b T' m' h'∧yD V.kt s'.heap T' m'∧vv T s T' s') (fun _ _=>False) s:=by
 have key:=fun H':nS V F env d e k T m h=>wW G hT hC hp H' S R
 cases e with
 |BoolOp op es pos=>
  cases op with
  |And=>exact H.elim
  |Or=>
   rw [EF]
   exact wX G hT hC hp S es H R
 |_=>exact key H
omit G hT hC hp in
theorem Fe {env:Env} {K:Kt Flow} {d n:Nat} {s:Stmt} {rest:List Stmt} {T:Tr} {m h:Nat}:y6 V F env d K (n+1) (s::rest) T m h=(match wB (h%4096) with
  | .run g=>F.tree Flow (uq ((s::rest).take g) env) (Vj K (y6 V F env d K n ((s::rest).drop g))) d T m (h/4096)
  | .test=>match s with
   | .If test body orelse _=>rm V F env d test (fun b=>match b with
    |true=>F.tree Flow (uq body env) (Vj K (y6 V F env d K n rest)) d
    |false=>F.tree Flow (uq orelse env) (Vj K (y6 V F env d K n rest)) d) T m (h/4096)
   |_=>False
  | .ask g=>match lQ (h/4096%4096) with
   | .ask j=>V.bN j d ((s::rest).take g) env ((V.ak j jJ).ids.map T.get)∧yo (V.ak j jJ).na (fun as=>yo (V.ak j jJ).nt (fun ts=>
    match Ui (vM T (V.ak j jJ).ids ((V.ak j (y4 ((V.ak j jJ).ids.map T.get))).upd as ts)) m as ((V.ak j (y4 ((V.ak j jJ).ids.map T.get))).new as ts) with
    |some T'=>Vj K (y6 V F env d K n ((s::rest).drop g)) ((V.ak j (y4 ((V.ak j jJ).ids.map T.get))).res as ts) T' (m+(V.ak j jJ).na) (h/4096/4096)
    |none=>False))
   |_=>False
  | .bad=>False):=rfl
theorem UT {env:Env} {K:Kt Flow} {d:Nat} {A:Around} (S:kT A d): ∀(n:Nat) (ss:List Stmt) (T:Tr) (m h:Nat) (s:Shared),y6 V F env d K n ss T m h→yD V.kt s.heap T m→
  wpAny (model V.prog w) A (execs ss env) (fun f s'=>ud V.kt K T s (.ok f) s') (fun _ _=>False) s
 |0,_,_,_,_,_,H,_=>H.elim
 |n+1,[],T,m,h,s,H,R=>by
  have e:execs [] env=pure .next:=wU env
  rw [e]
  exact wpAny_pure ⟨T,m,h,H,R,vv.refl T s⟩
 |n+1,st::rest,T,m,h,s,H,R=>by
  have ih:=UT (K:=K) (env:=env) S n
  rw [Fe] at H
  split at H
  ·rename_i g hg
   have e:=Ua env ((st::rest).take g) ((st::rest).drop g)
   rw [List.take_append_drop] at e
   rw [e,yg]
   refine wpAny_bind (wpAny_mono (hT Flow _ _ d T m _ A s H S R) (fun f s1 q=> ?_) (fun e s1 q=> ?_))
   ·obtain ⟨T1,m1,h1,H1,R1,L1⟩:=q
    rw [←yg]
    exact Ug G hT hC hp (K:=K) (env:=env) (go:=y6 V F env d K n _) (rest:=_) (d:=d) (A:=A) (fun T m h s H R=>ih _ T m h s H R) R R1 L1 (r:= .ok f) H1
   ·obtain ⟨T1,m1,h1,H1,R1,L1⟩:=q
    exact H1.elim
  ·split at H
   ·rename_i test body orelse pos
    rw [EJ]
    refine wpAny_bind (wpAny_standAt (wpAny_bind (wpAny_mono (Fd G hT hC hp H S R) (fun b s1 q=> ?_) (fun _ _ q=>q))))
    obtain ⟨T1,m1,h1,H1,R1,L1⟩:=q
    cases b with
    |true=>
     rw [if_pos rfl,yg]
     refine wpAny_bind (wpAny_mono (hT Flow _ _ d T1 m1 _ A s1 H1 S R1) (fun f s2 q=> ?_) (fun e s2 q=> ?_))
     ·obtain ⟨T2,m2,h2,H2,R2,L2⟩:=q
      rw [←yg]
      exact Ug G hT hC hp (K:=K) (env:=env) (go:=y6 V F env d K n _) (rest:=_) (d:=d) (A:=A) (fun T m h s H R=>ih _ T m h s H R) R R2 (vv.trans R R1 L1 L2) (r:= .ok f) H2
     ·obtain ⟨_,_,_,H2,_⟩:=q
      exact H2.elim
    |false=>
     rw [if_neg Bool.false_ne_true,yg]
     refine wpAny_bind (wpAny_mono (hT Flow _ _ d T1 m1 _ A s1 H1 S R1) (fun f s2 q=> ?_) (fun e s2 q=> ?_))
     ·obtain ⟨T2,m2,h2,H2,R2,L2⟩:=q
      rw [←yg]
      exact Ug G hT hC hp (K:=K) (env:=env) (go:=y6 V F env d K n _) (rest:=_) (d:=d) (A:=A) (fun T m h s H R=>ih _ T m h s H R) R R2 (vv.trans R R1 L1 L2) (r:= .ok f) H2
     ·obtain ⟨_,_,_,H2,_⟩:=q
      exact H2.elim
   ·exact H.elim
  ·rename_i g hg
   split at H
   ·rename_i j hj
    obtain ⟨Ha,H⟩:=H
    have e:=Ua env ((st::rest).take g) ((st::rest).drop g)
    rw [List.take_append_drop] at e
    rw [e]
    obtain ⟨e1,e2,e3⟩:=G.shape j (y4 ((V.ak j jJ).ids.map T.get))
    have bb:(V.ak j (y4 ((V.ak j jJ).ids.map T.get))).ids.Nodup:=by rw [e1];exact G.ids j
    have wY:=G.bN j d _ env _ Ha A
    generalize hq:V.ak j (y4 ((V.ak j jJ).ids.map T.get))=an at*
    rw [←e1] at wY
    have key:=wY (fun r s1=> ∃as ts T',Ui (vM T an.ids (an.upd as ts)) m as (an.new as ts)=some T'∧yD V.kt s1.heap T' (m+an.na)∧vv T s T' s1∧r=an.res as ts∧Vj K (y6 V F env d K n ((st::rest).drop g)) r T' (m+an.na) (h/4096/4096)) s S (nW R bb) (fun s' as ts la lt post=>by
     have H1:=vI _ _ (vI _ _ H as (la.trans e2)) ts (lt.trans e3)
     rw [←e1,←e2] at H1
     split at H1
     ·rename_i T' iI
      obtain ⟨R',L'⟩:=ry R bb la post iI
      exact ⟨as,ts,T',iI,R',L',rfl,H1⟩
     ·exact H1.elim)
    refine wpAny_bind (wpAny_mono key (fun f s1 q=> ?_) (fun e s1 q=> ?_))
    ·obtain ⟨as,ts,T',_,R',L',_,H1⟩:=q
     exact Ug G hT hC hp (K:=K) (env:=env) (go:=y6 V F env d K n _) (rest:=_) (d:=d) (A:=A) (fun T m h s H R=>ih _ T m h s H R) R R' L' (r:= .ok f) H1
    ·obtain ⟨as,ts,T',_,R',L',_,H1⟩:=q
     exact H1.elim
   ·exact H.elim
  ·exact H.elim
theorem Ff {c:Code} {K:Kt Flow} {d':Nat} {T:Tr} {m h:Nat} {A:Around} {s:Shared} (H:wG V F c K (d'+1) d' T m h) (S:kT A (d'+1)) (R:yD V.kt s.heap T m):
  codeAny (model V.prog w) A c (fun r s'=>ud V.kt K T s r s') s:=by
 cases c with
 |func body env=>
  have H':y6 V F env d' (wC K) 100 body T m h:=H
  refine codeAny_of_tree ?_
  have S':=S.under (c:= .func body env) rfl
  have e:denote table (.func body env)=point>>=fun _=>(execs body env).onRaise (leaving env)>>=fun f=>(match f with| .ret v=>ret v|_=>ret .none:Sem Fin):=rfl
  show wpAny _ _ (denote table (.func body env)) _ _ s
  rw [e]
  refine wpAny_bind (m:=point) (x_point (wpAny_pure (wpAny_bind (wpAny_onRaise (wpAny_mono (UT G hT hC hp S' 100 body T m h s H' R) (fun f s1 q=> ?_) (fun _ _ q=>q.elim))))))
  rw [EK]
  refine wpAny_pure ?_
  obtain ⟨T1,m1,h1,H1,R1,L1⟩:=q
  cases f<;>exact ⟨T1,m1,h1,H1,R1,L1⟩
 |forLoop target it body orelse env=>
  have H':F.tree (Option Value) (rn it) _ d' T m h:=H
  refine codeAny_of_tree ?_
  have S':=S.under (c:= .forLoop target it body orelse env) rfl
  have e:denote table (.forLoop target it body orelse env)=(standAt target.pos>>=fun _=>(pyNext it).onRaise (fun _=>standAt {target.pos with line:=0})>>=fun r=>match r with
   |none=>again (.block orelse env)
   |some v=>letOwnedTupleGo target it v>>=fun _=>assign target env v>>=fun _=>execs body env>>=fun f=>match f with
    | .next| .cont=>again (.forLoop target it body orelse env)
    | .brk=>pure (.done .next)
    | .ret v=>pure (.done (.ret v)):Sem Fin).onRaise (fun x=>do noteFrame x env;theTreesLotGoes x):=rfl
  show wpAny _ _ (denote table (.forLoop target it body orelse env)) _ _ s
  rw [e,ZFast.ze9404975358583537561,ZFast.ze1578499551869305889,ZFast.ze17772580674575903948]
  refine wpAny_onRaise (wpAny_bind (wpAny_standAt (wpAny_bind (wpAny_onRaise (wpAny_mono (hT (Option Value) (rn it) _ d' T m h _ s H' S' R) (fun r s1 q=> ?_) (fun e s1 q=> ?_))))))
  ·obtain ⟨T1,m1,h1,H1,R1,L1⟩:=q
   cases r with
   |none=>
    dsimp only at H1
    cases hq:JA (.block orelse env) with
    |false=>rw [hq] at H1;exact H1.elim
    |true=>
     rw [hq] at H1
     refine wpAny_pure ⟨by rw [JK];exact hq,codeAny_mono (hC _ K (d'+1) T1 m1 h1 A s1 H1 S R1) fun r s' q=>ud.link R R1 L1 q⟩
   |some v=>
    refine wpAny_bind (wpAny_mono (hT Unit (wD target it v) _ d' T1 m1 h1 _ s1 H1 S' R1) (fun _ s2 q=> ?_) (fun e s2 q=> ?_))
    ·obtain ⟨T2,m2,h2,H2,R2,L2⟩:=q
     refine wpAny_bind (wpAny_mono (hT Unit (wF target env v) _ d' T2 m2 h2 _ s2 H2 S' R2) (fun _ s3 q=> ?_) (fun e s3 q=> ?_))
     ·obtain ⟨T3,m3,h3,H3,R3,L3⟩:=q
      dsimp only at H3
      cases hq:JA (.forLoop target it body orelse env) with
      |false=>rw [hq] at H3;exact H3.elim
      |true=>
       rw [hq] at H3
       have Fg:=vv.trans R R2 (vv.trans R R1 L1 L2) L3
       refine wpAny_bind (wpAny_mono (UT G hT hC hp S' 100 body T3 m3 h3 s3 H3 R3) (fun f s4 q=> ?_) (fun _ _ q=>q.elim))
       obtain ⟨T4,m4,h4,H4,R4,L4⟩:=q
       have nX:=vv.trans R R3 Fg L4
       cases f with
       |next=>exact wpAny_pure ⟨by rw [JK];exact hq,codeAny_mono (hC _ K (d'+1) T4 m4 h4 A s4 H4 S R4) fun r s' q=>ud.link R R4 nX q⟩
       |cont=>exact wpAny_pure ⟨by rw [JK];exact hq,codeAny_mono (hC _ K (d'+1) T4 m4 h4 A s4 H4 S R4) fun r s' q=>ud.link R R4 nX q⟩
       |brk=>exact wpAny_pure ⟨T4,m4,h4,H4,R4,nX⟩
       |ret v=>exact wpAny_pure ⟨T4,m4,h4,H4,R4,nX⟩
     ·obtain ⟨_,_,_,H3,_⟩:=q
      exact H3.elim
    ·obtain ⟨_,_,_,H2,_⟩:=q
     exact H2.elim
  ·obtain ⟨_,_,_,H1,_⟩:=q
   exact H1.elim
 |_=>exact H.elim
theorem Fh (Fi: ∀(r:Result) K d T m h,F.tree Flow (Yl r) K d T m h→K r T m h) (hu: ∀w' K d T m h,¬F.tree Fin (unsupported w') K d T m h):rA V w (rr V F):=by
 intro c K d T m h A s H S R
 have H:rq V F c K d T m h:=H
 unfold rq at H
 cases d with
 |zero=>exact H.elim
 |succ d'=>
  dsimp only at H
  cases hq:Nat.beq (h%4096) 3905 with
  |true=>rw [hq] at H;exact Ff G hT hC hp H S R
  |false=>
  rw [hq] at H
  have Fj:c.isCaller=false:=by
   cases q:c.isCaller with
   |false=>rfl
   |true=>
    obtain ⟨w',e⟩:=Ez q
    rw [←nP,e] at H
    exact (hu _ _ _ _ _ _ H).elim
  refine codeAny_of_tree ?_
  show wpAny _ _ (denote table c) _ _ s
  rw [nP]
  refine wpAny_mono (hT Fin (D c) _ d' T m h _ s H (S.under Fj) R) (fun fin s' q=> ?_) (fun e s' q=>q)
  obtain ⟨T',m',h',hk,hr,hl⟩:=q
  cases fin with
  |done f=>exact ⟨T',m',h',hk,hr,hl⟩
  |again c'=>
   dsimp only at hk
   cases hq:JA c' with
   |true=>
    rw [hq] at hk
    exact ⟨by rw [JK];exact hq,codeAny_mono (E' G hT hC hp Fi hk S hr) fun r mc z=>ud.link R hr hl z⟩
   |false=>rw [hq] at hk;exact hk.elim
end
theorem Fl (V:y0): ∀(n:Nat) (w':String) (K:Kt Fin) (d:Nat) (T:Tr) (m h:Nat),¬(hx V n).tree Fin (unsupported w') K d T m h
 |0,_,_,_,_,_,_=>fun H=>H
 |_+1,_,_,_,_,_,_=>fun H=>H
theorem Fm (V:y0): ∀(n:Nat) (r:Result) (K:Kt Flow) (d:Nat) (T:Tr) (m h:Nat),(hx V n).tree Flow (Yl r) K d T m h→K r T m h
 |0,_,_,_,_,_,_=>fun H=>H.elim
 |_+1,r,_,_,_,_,_=>fun H=>by cases r<;>exact H
theorem nY {V:y0} {w:World} (G:gX V w) (hp: ∀k c p,prim k c=some p→kO c p): ∀n,rz V w (hx V n)∧rA V w (hx V n)
 |0=>⟨fun _ _ _ _ _ _ _ _ _ H=>H.elim,fun _ _ _ _ _ _ _ _ H=>H.elim⟩
 |n+1=>
  have ih:=nY G hp n
  ⟨E8 G ih.1 ih.2 hp,Fh G ih.1 ih.2 hp (Fm V n) (Fl V n)⟩
theorem kQ {T:String} {name:Str} {id:String} {B:Builtin} {self:Value} {rest:List Value} {m:Made} (slot:Slot T name id) (hT: ∀s:Shared,s.TypeIs self T)
  (entry:entryFor table id=some B) (args:argsOk id ⟨self::rest,[]⟩) (g:Gives (B ⟨self::rest,[]⟩) m) (prog:Program) (w:World) (A:Around) (R:Result→Shared→Prop) (s:Shared)
  (h:m.post (fun v s'=>R (.ok (.ret v)) s') s):codeAny (model prog w) A (.call (.builtin id) ⟨self::rest,[]⟩) R s:=
 codeAny_call_builtin slot.plain entry (slot.check _ _ _ _ _ _ _ _ (hT s) args (g prog w A R s h))
theorem rC {id name:String} {n:Nat} (hn:PySem.code name=n) (h:Nat.beq (S.codeS id) n=true):id=name:=
 PySem.code_inj _ _ (by rw [hn,S.code_S];exact Nat.eq_of_beq_eq_true h)
section
variable {a b:Int} {t u:Tok} {x y:Str} {p q:Bool}
theorem Fn:kO (.call (.builtin "int.__add__") ⟨[.int a t,.int b u],[]⟩) (.int (a+b)):=fun prog w A R s h=>
 kQ F.slot_int_add (fun s=>typeIs_int s a t) F.entry_int_add (F.args_int_add_2 _ _) (AutoIntG4.int___add___int_int_0 a t b u) prog w A R s (h _ _)
theorem Fo:kO (.call (.builtin "int.__sub__") ⟨[.int a t,.int b u],[]⟩) (.int (a-b)):=fun prog w A R s h=>
 kQ F.slot_int_sub (fun s=>typeIs_int s a t) F.entry_int_sub (F.args_int_sub_2 _ _) (AutoIntG9.int___sub___int_int_0 a t b u) prog w A R s (h _ _)
theorem Fp:kO (.call (.builtin "int.__mul__") ⟨[.int a t,.int b u],[]⟩) (.iH (IntMulOk a b) (a*b)):=fun prog w A R s h=>
 kQ F.slot_int_mul (fun s=>typeIs_int s a t) F.entry_int_mul (F.args_int_mul_2 _ _) (AutoIntG1.int___mul___int_int_0 a t b u h.1) prog w A R s (h.2 _ _)
theorem UQ {b:Int} (h:y5 b=true):0<b∧b≤1000000:=by
 unfold y5 at h
 split at h
 ·rename_i n
  split at h
  ·rename_i h1
   have h1:=Nat.le_of_ble_eq_true h1
   have h2:=Nat.le_of_ble_eq_true h
   constructor
   ·show (0:Int)<(n:Int);lia
   ·show (n:Int)≤1000000;lia
  ·cases h
 ·cases h
theorem Fq {b:Int} (hb:y5 b=true):kO (.call (.builtin "int.__mod__") ⟨[.int a t,.int b u],[]⟩) (.int (Int.fmod a b)):=fun prog w A R s h=>
 kQ F.slot_int_mod (fun s=>typeIs_int s a t) F.entry_int_mod (F.args_int_mod_2 _ _) (AutoIntG6.int___mod___int_int_1 a t b u (by have:=UQ hb;simp;lia)) prog w A R s (h _ _)
theorem Fs {b:Int} (hb:y5 b=true):kO (.call (.builtin "int.__floordiv__") ⟨[.int a t,.int b u],[]⟩) (.int (Int.fdiv a b)):=fun prog w A R s h=>
 kQ F.slot_int_floordiv (fun s=>typeIs_int s a t) F.entry_int_floordiv (F.args_int_floordiv_2 _ _) (AutoIntG4.int___floordiv___int_int_1 a t b u (by have:=UQ hb;simp;lia) (by rw [PyProof.noPylong_small (by have:=UQ hb;lia)];exact Bool.false_ne_true)) prog w A R s (h _ _)
theorem Ft:kO (.call (.builtin "int.__neg__") ⟨[.int a t],[]⟩) (.int (-a)):=fun prog w A R s h=>
 kQ F.slot_int_neg (fun s=>typeIs_int s a t) F.entry_int_neg (F.args_int_neg_1 _) (AutoIntG9.int___neg___int_0 a t) prog w A R s (h _ _)
theorem Fu:kO (.call (.builtin "int.__eq__") ⟨[.int a t,.int b u],[]⟩) (.val (.bool (a==b))):=fun prog w A R s h=>
 kQ F.slot_int_eq (fun s=>typeIs_int s a t) F.entry_int_eq (F.args_int_eq_2 _ _) (AutoIntG7.int___eq___int_int_0 a t b u) prog w A R s h
theorem Fv:kO (.call (.builtin "int.__ne__") ⟨[.int a t,.int b u],[]⟩) (.val (.bool (a !=b))):=fun prog w A R s h=>
 kQ F.slot_int_ne (fun s=>typeIs_int s a t) F.entry_int_ne (F.args_int_ne_2 _ _) (AutoIntG6.int___ne___int_int_0 a t b u) prog w A R s h
theorem Fw:kO (.call (.builtin "int.__lt__") ⟨[.int a t,.int b u],[]⟩) (.val (.bool (decide (a<b)))):=fun prog w A R s h=>
 kQ F.slot_int_lt (fun s=>typeIs_int s a t) F.entry_int_lt (F.args_int_lt_2 _ _) (AutoIntG1.int___lt___int_int_0 a t b u) prog w A R s h
theorem Fx:kO (.call (.builtin "int.__le__") ⟨[.int a t,.int b u],[]⟩) (.val (.bool (decide (a≤b)))):=fun prog w A R s h=>
 kQ F.slot_int_le (fun s=>typeIs_int s a t) F.entry_int_le (F.args_int_le_2 _ _) (AutoIntG1.int___le___int_int_0 a t b u) prog w A R s h
theorem Fy:kO (.call (.builtin "int.__gt__") ⟨[.int a t,.int b u],[]⟩) (.val (.bool (decide (a>b)))):=fun prog w A R s h=>
 kQ F.slot_int_gt (fun s=>typeIs_int s a t) F.entry_int_gt (F.args_int_gt_2 _ _) (AutoIntG4.int___gt___int_int_0 a t b u) prog w A R s h
theorem Fz:kO (.call (.builtin "int.__ge__") ⟨[.int a t,.int b u],[]⟩) (.val (.bool (decide (a≥b)))):=fun prog w A R s h=>
 kQ F.slot_int_ge (fun s=>typeIs_int s a t) F.entry_int_ge (F.args_int_ge_2 _ _) (AutoIntG9.int___ge___int_int_0 a t b u) prog w A R s h
theorem FA:kO (.call (.builtin "int.__eq__") ⟨[.bool p,.bool q],[]⟩) (.val (.bool (p==q))):=fun prog w A R s h=>
 kQ F.slot_bool_eq (fun s=>PySem.typeIs_bool s p) F.entry_int_eq (F.args_int_eq_2 _ _) (SeqAt.int___eq___bool_bool_0 p q) prog w A R s (by show R (.ok (.ret (.bool _))) s;have e:((if p=true then (1:Int) else 0)==(if q=true then (1:Int) else 0))=(p==q):=(by cases p<;>cases q<;>rfl);show R (.ok (.ret (.bool ((if p=true then (1:Int) else 0)==(if q=true then (1:Int) else 0))))) s;rw [e];exact h)
theorem FC:kO (.call (.builtin "str.__eq__") ⟨[.str x t,.str y u],[]⟩) (.val (.bool (x.cps.toList==y.cps.toList))):=fun prog w A R s h=>
 kQ F.slot_str_eq (fun s=>typeIs_str s x t) F.entry_str_eq (F.args_str_eq_2 _ _) (gives_str_eq x y t u) prog w A R s h
theorem FD:kO (.call (.builtin "str.__ne__") ⟨[.str x t,.str y u],[]⟩) (.val (.bool (x.cps.toList !=y.cps.toList))):=fun prog w A R s h=>
 kQ F.slot_str_ne (fun s=>typeIs_str s x t) F.entry_str_ne (F.args_str_ne_2 _ _) (gives_str_ne x y t u) prog w A R s h
theorem FE:kO (.call (.builtin "str.__le__") ⟨[.str x t,.str y u],[]⟩) (.val (.bool (!(decide (y.cps.toList<x.cps.toList))))):=fun prog w A R s h=>
 kQ F.slot_str_le (fun s=>typeIs_str s x t) F.entry_str_le (F.args_str_le_2 _ _) (gives_str_le x y t u) prog w A R s h
theorem FG:kO (.call (.builtin "str.__len__") ⟨[.str x t],[]⟩) (.int x.length):=fun prog w A R s h=>
 kQ F.slot_str_len (fun s=>typeIs_str s x t) F.entry_str_len (F.args_str_len_1 _) (gives_str_len x t) prog w A R s (h _ _)
theorem FH:kO (.call (.builtin "str.__contains__") ⟨[.str x t,.str y u],[]⟩) (.val (.bool (!(Builtin.Str.occurrences x y 0 x.length 1).isEmpty))):=fun prog w A R s h=>
 kQ F.slot_str_contains (fun s=>typeIs_str s x t) F.entry_str_contains (F.args_str_contains_2 _ _) (gives_str_contains x y t u) prog w A R s h
theorem FI:kO (.call (.builtin "str.count") ⟨[.str x t,.str y u],[]⟩) (.int (Builtin.Str.occurrences x y 0 x.length (x.length+1)).length):=fun prog w A R s h=>
 kQ F.slot_str_count (fun s=>typeIs_str s x t) F.entry_str_count (F.args_str_count_2 _ _) (gives_str_count x y t u) prog w A R s (h _ _)
theorem wZ {x:Str} (h:(x.length==0)=true):x=⟨#[]⟩:=by
 obtain ⟨c⟩:=x
 have:c.size=0:=by simpa [Str.length] using h
 rw [Array.eq_empty_of_size_eq_zero this]
theorem rD (hl:(x++y).length≤sizeLine) (prog:Program) (w:World) (A:Around) (R:Result→Shared→Prop) (s:Shared) (h: ∀t n,R (.ok (.ret (.str (x++y) t))) {s with toks:=n}):
  codeAny (model prog w) A (.call (.builtin "str.__add__") ⟨[.str x t,.str y u],[]⟩) R s:=by
 refine kQ F.slot_str_add (fun s=>typeIs_str s x t) F.entry_str_add (F.args_str_add_2 _ _) (gives_str_add x y t u) prog w A R s ?_
 have hs:s={s with toks:=s.toks}:=rfl
 split
 ·rename_i hx
  have:=wZ hx
  subst this
  have e:(⟨#[]⟩:Str)++y=y:=by
   obtain ⟨c⟩:=y
   show Str.mk (#[]++c)=_
   simp
  rw [e] at h
  exact h u s.toks
 ·split
  ·rename_i hy
   have:=wZ hy
   subst this
   have e:x++(⟨#[]⟩:Str)=x:=by
    obtain ⟨c⟩:=x
    show Str.mk (c++ #[])=_
    simp
   rw [e] at h
   exact h t s.toks
  ·exact ⟨hl,h _ _⟩
theorem YL {i:Int} {n:Nat} (h0:0≤i) (h1:i<n):seqIndex? i n=some i.toNat:=by
 unfold seqIndex?
 have e: ¬i<0:=by lia
 simp only [if_neg e]
 rw [if_pos]
 simp only [Bool.and_eq_true,decide_eq_true_eq]
 exact ⟨h0,h1⟩
theorem w0 {i:Int} {c:Nat} (h0:0≤i) (h1:i<x.length) (h2:i≤1000000) (hc:x.cps[i.toNat]? =some c) (prog:Program) (w:World) (A:Around) (R:Result→Shared→Prop) (s:Shared) (h: ∀t n,R (.ok (.ret (.str ⟨#[c]⟩ t))) {s with toks:=n}):
  codeAny (model prog w) A (.call (.builtin "str.__getitem__") ⟨[.str x t,.int i u],[]⟩) R s:=by
 refine kQ F.slot_str_getitem (fun s=>typeIs_str s x t) F.entry_str_getitem (F.args_str_getitem_2 _ _) (gives_str_getitem x i t u c ?_ ?_) prog w A R s ⟨by show 1≤sizeLine;decide,h _ _⟩
 ·rw [decide_eq_false (by lia),decide_eq_false (by lia)];rfl
 ·rw [YL h0 h1];exact hc
theorem cO {id name:String} {n:Nat} {as:Args} {r r':PR} (ok:kO (.call (.builtin name) as) r) (hn:PySem.code name=n) (h:Nat.beq (S.codeS id) n=true) (q:some r=some r'):kO (.call (.builtin id) as) r':=by
 cases q
 rw [rC hn h];exact ok
theorem nn {r:PR} {C:Prop} (h:none=some r):C:=by cases h
theorem w6 (b:Int) {f:PR} {r:PR} {C:Prop} (h:(match y5 b with|true=>some f|false=>none)=some r) (ok:y5 b=true→some f=some r→C):C:=by
 cases e:y5 b with
 |true=>rw [e] at h;exact ok e h
 |false=>rw [e] at h;cases h
theorem FJ {id:String}: ∀k {r:PR},wx a b k=some r→Nat.beq (S.codeS id) (lO k)=true→kO (.call (.builtin id) ⟨[.int a t,.int b u],[]⟩) r
 |0,_,h,e=>cO Fn (by decide+kernel) e h
 |1,_,h,e=>cO Fo (by decide+kernel) e h
 |2,_,h,e=>cO Fp (by decide+kernel) e h
 |3,_,h,e=>w6 b h fun q=>cO (Fq q) (by decide+kernel) e
 |4,_,h,e=>w6 b h fun q=>cO (Fs q) (by decide+kernel) e
 |5,_,h,_=>nn h
 |6,_,h,e=>cO Fu (by decide+kernel) e h
 |7,_,h,e=>cO Fv (by decide+kernel) e h
 |8,_,h,e=>cO Fw (by decide+kernel) e h
 |9,_,h,e=>cO Fx (by decide+kernel) e h
 |10,_,h,e=>cO Fy (by decide+kernel) e h
 |11,_,h,e=>cO Fz (by decide+kernel) e h
 |_+12,_,h,_=>nn h
theorem yE {k n:Nat} {x y:Option PR} {r:PR} {C:Prop} (h:sel k n x y=some r) (f:k=n→x=some r→C) (g:y=some r→C):C:=by
 unfold sel at h
 cases e:Nat.beq k n with
 |true=>rw [e] at h;exact f (Nat.eq_of_beq_eq_true e) h
 |false=>rw [e] at h;exact g h
theorem w7 {n:Nat} {r:PR} {z:Option PR} (h:(match Nat.ble n 1000000 with|true=>z|false=>none)=some r):n≤1000000∧z=some r:=by
 cases e:Nat.ble n 1000000 with
 |true=>rw [e] at h;exact ⟨Nat.le_of_ble_eq_true e,h⟩
 |false=>rw [e] at h;cases h
theorem FK {id:String} (k:Nat) {r:PR} (h:wy x y k=some r) (e:Nat.beq (S.codeS id) (lO k)=true):kO (.call (.builtin id) ⟨[.str x t,.str y u],[]⟩) r:=by
 refine yE h (fun q h=> ?_) (fun h=> ?_)
 ·cases q;exact cO FC (by decide+kernel) e h
 refine yE h (fun q h=> ?_) (fun h=> ?_)
 ·cases q;exact cO FD (by decide+kernel) e h
 refine yE h (fun q h=> ?_) (fun h=> ?_)
 ·cases q;exact cO FE (by decide+kernel) e h
 refine yE h (fun q h=> ?_) (fun h=> ?_)
 ·cases q;exact cO (r:= .str (x++y)) (fun prog w A R s h=>rD h.1 prog w A R s h.2) (by decide+kernel) e h
 refine yE h (fun q h=> ?_) (fun h=> ?_)
 ·cases q;exact cO FH (by decide+kernel) e h
 refine yE h (fun q h=> ?_) (fun h=> ?_)
 ·cases q;exact cO FI (by decide+kernel) e h
 refine yE h (fun q h=> ?_) (fun h=> ?_)
 ·cases q
  obtain ⟨hl,h⟩:=w7 h
  exact cO (r:= .txt (x++y)) (fun prog w A R s h=>rD (by rw [Str.length_append];exact jc hl (by decide)) prog w A R s h) (by decide+kernel) e h
 ·exact nn h
theorem FN {id:String} {i:Int} (k:Nat) {r:PR} (h:wz x i k=some r) (e:Nat.beq (S.codeS id) (lO k)=true):kO (.call (.builtin id) ⟨[.str x t,.int i u],[]⟩) r:=by
 refine yE h (fun q h=> ?_) (fun h=> ?_)
 ·cases q
  cases i with
  |negSucc n=>exact nn h
  |ofNat n=>
   obtain ⟨hl,h⟩:=w7 h
   cases hc:x.cps[n]? with
   |none=>rw [hc] at h;exact nn h
   |some c=>
    rw [hc] at h
    exact cO (r:= .txt ⟨#[c]⟩) (fun prog w A R s h=>w0 (Int.natCast_nonneg _) (Int.ofNat_lt.mpr (Array.getElem?_eq_some_iff.mp hc).1) (Int.ofNat_le.mpr hl) hc prog w A R s h) (by decide+kernel) e h
 refine yE h (fun q h=> ?_) (fun h=> ?_)
 ·cases q
  refine cO (r:= .iG (0≤i∧i<x.length∧x.length≤1000000) ⟨#[x.cps.getD i.toNat 0]⟩) (fun prog w A R s h=>w0 h.1.1.1 h.1.1.2.1 (Int.le_trans (Int.le_of_lt h.1.1.2.1) (Int.ofNat_le.mpr h.1.1.2.2)) ?_ prog w A R s h.2) (by decide+kernel) e h
  have rF:Int.toNat _<Array.size _:=(Int.toNat_lt h.1.1.1).mpr h.1.1.2.1
  rw [Array.getElem?_eq_getElem rF]
  simp [Array.getD,rF]
 ·exact nn h
theorem V6 (k:Nat) (c:Code) (r:PR) (h:prim k c=some r):kO c r:=by
 unfold prim at h
 cases c with
 |call f as=>
  cases f with
  |builtin id=>
   obtain ⟨pos,kw⟩:=as
   cases kw with
   |cons _ _=>exact nn h
   |nil=>
    dsimp only at h
    cases e:Nat.beq (S.codeS id) (lO k) with
    |false=>rw [e] at h;cases h
    |true=>
     rw [e] at h
     cases pos with
     |nil=>exact nn h
     |cons v l=>cases l with
      |nil=>cases v with
       |int a _=>exact yE h (fun q h=>by cases q;exact cO Ft (by decide+kernel) e h) nn
       |str a _=>exact yE h (fun q h=>by cases q;exact cO FG (by decide+kernel) e h) nn
       |_=>exact nn h
      |cons w l=>cases l with
       |cons _ _=>exact nn h
       |nil=>cases v with
        |int a _=>cases w with
         |int b _=>exact FJ k h e
         |_=>exact nn h
        |bool a=>cases w with
         |bool b=>exact yE h (fun q h=>by cases q;exact cO FA (by decide+kernel) e h) nn
         |_=>exact nn h
        |str a _=>cases w with
         |str b _=>exact FK k h e
         |int i _=>exact FN k h e
         |_=>exact nn h
        |_=>exact nn h
  |_=>exact nn h
 |_=>exact nn h
end
noncomputable abbrev pw:Program:=PySem.Challenge.pw_pk0035_01
noncomputable def top (i:Nat):Stmt:=(PySem.Challenge.pw_pk0035_01.main.body[i]?).getD default
def iJ (i:Nat):Stmt:=match top 3 with
 | .ClassDef _ _ _ body _ _ _ _ _ _ _=>(body[i]?).getD default
 |_=>default
noncomputable def ee (name qual:Str) (st:Stmt) (globals:Addr) (pm code:Value) (builtins:Addr):FuncData:=match st with
 | .FunctionDef _ args body _ _ _ scope _ _ _=>{name,qualname:=qual,params:=args,body:= .stmts body,scope,globals,closure:= [],defaults:= .none,kwdefaults:= .none,pyModule:=pm,code,builtins}
 |_=>default
noncomputable def o2 (_:Params):Obj:=⟨.none,none,(.dict #[] 0),#[]⟩
noncomputable def o3 (P:Params):Obj:=⟨(.type "dict"),none,(.dict #[⟨PyData.keyHash P ⟨#[95,95,110,97,109,101,95,95]⟩,(.str ⟨#[95,95,110,97,109,101,95,95]⟩ 165),(.str ⟨#[108,97,119,95,112,107,48,48,51,53,95,48,49]⟩ 262)⟩,⟨PyData.keyHash P ⟨#[95,95,100,111,99,95,95]⟩,(.str ⟨#[95,95,100,111,99,95,95]⟩ 166),.none⟩,⟨PyData.keyHash P ⟨#[95,95,112,97,99,107,97,103,101,95,95]⟩,(.str ⟨#[95,95,112,97,99,107,97,103,101,95,95]⟩ 167),.none⟩,⟨PyData.keyHash P ⟨#[95,95,108,111,97,100,101,114,95,95]⟩,(.str ⟨#[95,95,108,111,97,100,101,114,95,95]⟩ 168),(.builtin "__main__.__loader__#opaque")⟩,⟨PyData.keyHash P ⟨#[95,95,115,112,101,99,95,95]⟩,(.str ⟨#[95,95,115,112,101,99,95,95]⟩ 169),.none⟩,⟨PyData.keyHash P ⟨#[95,95,97,110,110,111,116,97,116,105,111,110,115,95,95]⟩,(.str ⟨#[95,95,97,110,110,111,116,97,116,105,111,110,115,95,95]⟩ 170),(.ref 6)⟩,⟨PyData.keyHash P ⟨#[95,95,98,117,105,108,116,105,110,115,95,95]⟩,(.str ⟨#[95,95,98,117,105,108,116,105,110,115,95,95]⟩ 171),(.ref 4)⟩,⟨PyData.keyHash P ⟨#[95,95,102,105,108,101,95,95]⟩,(.str ⟨#[95,95,102,105,108,101,95,95]⟩ 173),(.str ⟨#[47,99,108,97,105,109,47,99,117,116,46,112,121]⟩ 172)⟩,⟨PyData.keyHash P ⟨#[95,95,99,97,99,104,101,100,95,95]⟩,(.str ⟨#[95,95,99,97,99,104,101,100,95,95]⟩ 174),.none⟩,⟨PyData.keyHash P ⟨#[115,101,97,114,99,104,95,114,101,118,101,114,115,101]⟩,(.str ⟨#[115,101,97,114,99,104,95,114,101,118,101,114,115,101]⟩ 201),(.ref 21)⟩,⟨PyData.keyHash P ⟨#[95,110,101,116,114,99,108,101,120]⟩,(.str ⟨#[95,110,101,116,114,99,108,101,120]⟩ 261),(.ref 59)⟩,⟨PyData.keyHash P ⟨#[95,108,97,119,95,119,111,114,100,115]⟩,(.str ⟨#[95,108,97,119,95,119,111,114,100,115]⟩ 269),(.ref 70)⟩,⟨PyData.keyHash P ⟨#[95,108,97,119,95,112,105,101,99,101]⟩,(.str ⟨#[95,108,97,119,95,112,105,101,99,101]⟩ 281),(.ref 77)⟩,⟨PyData.keyHash P ⟨#[95,108,97,119,95,112,97,103,101]⟩,(.str ⟨#[95,108,97,119,95,112,97,103,101]⟩ 293),(.ref 84)⟩,⟨PyData.keyHash P ⟨#[95,108,97,119,95,112,114,111,103,114,97,109]⟩,(.str ⟨#[95,108,97,119,95,112,114,111,103,114,97,109]⟩ 309),(.ref 91)⟩,⟨PyData.keyHash P ⟨#[95,108,97,119,95,116,117,114,110]⟩,(.str ⟨#[95,108,97,119,95,116,117,114,110]⟩ 315),(.ref 96)⟩,⟨PyData.keyHash P ⟨#[95,108,97,119,95,104,111,108,100,115]⟩,(.str ⟨#[95,108,97,119,95,104,111,108,100,115]⟩ 321),(.ref 101)⟩,⟨PyData.keyHash P ⟨#[108,97,119]⟩,(.str ⟨#[108,97,119]⟩ 327),(.ref 106)⟩] 18),#[]⟩
noncomputable def o4 (_:Params):Obj:=⟨(.type "module"),(some 0),.plain,#[]⟩
noncomputable def FO (_:Params):Obj:=⟨(.type "code"),none,(.fields #[(.str ⟨#[115,101,97,114,99,104,95,114,101,118,101,114,115,101]⟩ 189),(.str ⟨#[115,101,97,114,99,104,95,114,101,118,101,114,115,101]⟩ 190),(.str ⟨#[47,99,108,97,105,109,47,99,117,116,46,112,121]⟩ 191),(.int 2 0),(.int 3 0),(.int 0 0),(.int 0 0),(.int 3 0),(.ref 15),(.bool true),(.int 181 0),(.ref 16),.none,(.ref 17),(.ref 18),(.ref 19),(.int 199 0),(.int 2 0),(.str ⟨#[47,99,108,97,105,109,47,99,117,116,46,112,121]⟩ 200)]),#[]⟩
def d0 (_:Params):Obj:=⟨(.type "function"),none,(.func (ee ⟨#[115,101,97,114,99,104,95,114,101,118,101,114,115,101]⟩ ⟨#[115,101,97,114,99,104,95,114,101,118,101,114,115,101]⟩ (top 1) 3 (.str ⟨#[99,112,121,51,49,51,46,105,100,108,101,108,105,98,46,115,101,97,114,99,104,101,110,103,105,110,101]⟩ 187) (.ref 20) 0)),#[]⟩
noncomputable def FP (_:Params):Obj:=⟨(.type "code"),none,(.fields #[(.str ⟨#[95,95,105,110,105,116,95,95]⟩ 216),(.str ⟨#[95,110,101,116,114,99,108,101,120,46,95,95,105,110,105,116,95,95]⟩ 217),(.str ⟨#[47,99,108,97,105,109,47,99,117,116,46,112,121]⟩ 218),(.int 20 0),(.int 2 0),(.int 0 0),(.int 0 0),(.int 3 0),(.ref 29),(.bool true),(.int 181 0),(.ref 30),.none,(.ref 31),(.ref 32),(.ref 33),(.int 221 0),(.int 20 0),(.str ⟨#[47,99,108,97,105,109,47,99,117,116,46,112,121]⟩ 222)]),#[]⟩
def FQ (_:Params):Obj:=⟨(.type "function"),none,(.func (ee ⟨#[95,95,105,110,105,116,95,95]⟩ ⟨#[95,110,101,116,114,99,108,101,120,46,95,95,105,110,105,116,95,95]⟩ (iJ 0) 3 (.str ⟨#[99,112,121,51,49,51,46,110,101,116,114,99]⟩ 202) (.ref 34) 0)),#[]⟩
noncomputable def FR (_:Params):Obj:=⟨(.type "code"),none,(.fields #[(.str ⟨#[95,114,101,97,100,95,99,104,97,114]⟩ 224),(.str ⟨#[95,110,101,116,114,99,108,101,120,46,95,114,101,97,100,95,99,104,97,114]⟩ 225),(.str ⟨#[47,99,108,97,105,109,47,99,117,116,46,112,121]⟩ 226),(.int 26 0),(.int 1 0),(.int 0 0),(.int 0 0),(.int 3 0),(.ref 36),(.bool true),(.int 181 0),(.ref 37),.none,(.ref 38),(.ref 39),(.ref 40),(.int 229 0),(.int 26 0),(.str ⟨#[47,99,108,97,105,109,47,99,117,116,46,112,121]⟩ 230)]),#[]⟩
def gY (_:Params):Obj:=⟨(.type "function"),none,(.func (ee ⟨#[95,114,101,97,100,95,99,104,97,114]⟩ ⟨#[95,110,101,116,114,99,108,101,120,46,95,114,101,97,100,95,99,104,97,114]⟩ (iJ 1) 3 (.str ⟨#[99,112,121,51,49,51,46,110,101,116,114,99]⟩ 202) (.ref 41) 0)),#[]⟩
noncomputable def FT (_:Params):Obj:=⟨(.type "code"),none,(.fields #[(.str ⟨#[103,101,116,95,116,111,107,101,110]⟩ 232),(.str ⟨#[95,110,101,116,114,99,108,101,120,46,103,101,116,95,116,111,107,101,110]⟩ 233),(.str ⟨#[47,99,108,97,105,109,47,99,117,116,46,112,121]⟩ 234),(.int 32 0),(.int 1 0),(.int 0 0),(.int 0 0),(.int 3 0),(.ref 43),(.bool true),(.int 181 0),(.ref 44),.none,(.ref 45),(.ref 46),(.ref 47),(.int 239 0),(.int 32 0),(.str ⟨#[47,99,108,97,105,109,47,99,117,116,46,112,121]⟩ 240)]),#[]⟩
def iK (_:Params):Obj:=⟨(.type "function"),none,(.func (ee ⟨#[103,101,116,95,116,111,107,101,110]⟩ ⟨#[95,110,101,116,114,99,108,101,120,46,103,101,116,95,116,111,107,101,110]⟩ (iJ 2) 3 (.str ⟨#[99,112,121,51,49,51,46,110,101,116,114,99]⟩ 202) (.ref 48) 0)),#[]⟩
noncomputable def FU (_:Params):Obj:=⟨(.type "code"),none,(.fields #[(.str ⟨#[112,117,115,104,95,116,111,107,101,110]⟩ 242),(.str ⟨#[95,110,101,116,114,99,108,101,120,46,112,117,115,104,95,116,111,107,101,110]⟩ 243),(.str ⟨#[47,99,108,97,105,109,47,99,117,116,46,112,121]⟩ 244),(.int 59 0),(.int 2 0),(.int 0 0),(.int 0 0),(.int 3 0),(.ref 50),(.bool true),(.int 181 0),(.ref 51),.none,(.ref 52),(.ref 53),(.ref 54),(.int 247 0),(.int 59 0),(.str ⟨#[47,99,108,97,105,109,47,99,117,116,46,112,121]⟩ 248)]),#[]⟩
def FV (_:Params):Obj:=⟨(.type "function"),none,(.func (ee ⟨#[112,117,115,104,95,116,111,107,101,110]⟩ ⟨#[95,110,101,116,114,99,108,101,120,46,112,117,115,104,95,116,111,107,101,110]⟩ (iJ 3) 3 (.str ⟨#[99,112,121,51,49,51,46,110,101,116,114,99]⟩ 202) (.ref 55) 0)),#[]⟩
noncomputable def FW (P:Params):Obj:=⟨(.type "dict"),none,(.dict #[⟨PyData.keyHash P ⟨#[95,95,109,111,100,117,108,101,95,95]⟩,(.str ⟨#[95,95,109,111,100,117,108,101,95,95]⟩ 211),(.str ⟨#[99,112,121,51,49,51,46,110,101,116,114,99]⟩ 202)⟩,⟨PyData.keyHash P ⟨#[95,95,102,105,114,115,116,108,105,110,101,110,111,95,95]⟩,(.str ⟨#[95,95,102,105,114,115,116,108,105,110,101,110,111,95,95]⟩ 215),(.int 18 214)⟩,⟨PyData.keyHash P ⟨#[95,95,105,110,105,116,95,95]⟩,(.str ⟨#[95,95,105,110,105,116,95,95]⟩ 223),(.ref 35)⟩,⟨PyData.keyHash P ⟨#[95,114,101,97,100,95,99,104,97,114]⟩,(.str ⟨#[95,114,101,97,100,95,99,104,97,114]⟩ 231),(.ref 42)⟩,⟨PyData.keyHash P ⟨#[103,101,116,95,116,111,107,101,110]⟩,(.str ⟨#[103,101,116,95,116,111,107,101,110]⟩ 241),(.ref 49)⟩,⟨PyData.keyHash P ⟨#[112,117,115,104,95,116,111,107,101,110]⟩,(.str ⟨#[112,117,115,104,95,116,111,107,101,110]⟩ 249),(.ref 56)⟩,⟨PyData.keyHash P ⟨#[95,95,115,116,97,116,105,99,95,97,116,116,114,105,98,117,116,101,115,95,95]⟩,(.str ⟨#[95,95,115,116,97,116,105,99,95,97,116,116,114,105,98,117,116,101,115,95,95]⟩ 254),(.ref 57)⟩,⟨PyData.keyHash P ⟨#[95,95,100,105,99,116,95,95]⟩,(.str ⟨#[95,95,100,105,99,116,95,95]⟩ 256),(.ref 60)⟩,⟨PyData.keyHash P ⟨#[95,95,119,101,97,107,114,101,102,95,95]⟩,(.str ⟨#[95,95,119,101,97,107,114,101,102,95,95]⟩ 258),(.ref 61)⟩,⟨PyData.keyHash P ⟨#[95,95,100,111,99,95,95]⟩,(.str ⟨#[95,95,100,111,99,95,95]⟩ 259),.none⟩] 4),#[]⟩
noncomputable def FX (_:Params):Obj:=⟨(.type "type"),none,(.cls {name:=⟨#[95,110,101,116,114,99,108,101,120]⟩,bases:= [(.type "object")],mro:= [(.ref 59),(.type "object")],ns:=58,qualname:=⟨#[95,110,101,116,114,99,108,101,120]⟩,hasDict:=true,slotNames:= [],subclasses:= [],abstract:=false,collection:=none,hasDel:=false}),#[none,none,some (.str ⟨#[95,110,101,116,114,99,108,101,120]⟩ 204),some (.str ⟨#[95,110,101,116,114,99,108,101,120]⟩ 212),some (.builtin "object.__new__"),some (.bool true)]⟩
noncomputable def FY (_:Params):Obj:=⟨(.type "code"),none,(.fields #[(.str ⟨#[95,108,97,119,95,119,111,114,100,115]⟩ 264),(.str ⟨#[95,108,97,119,95,119,111,114,100,115]⟩ 265),(.str ⟨#[47,99,108,97,105,109,47,99,117,116,46,112,121]⟩ 266),(.int 62 0),(.int 0 0),(.int 0 0),(.int 0 0),(.int 3 0),(.ref 64),(.bool true),(.int 181 0),(.ref 65),.none,(.ref 66),(.ref 67),(.ref 68),(.int 267 0),(.int 62 0),(.str ⟨#[47,99,108,97,105,109,47,99,117,116,46,112,121]⟩ 268)]),#[]⟩
def FZ (_:Params):Obj:=⟨(.type "function"),none,(.func (ee ⟨#[95,108,97,119,95,119,111,114,100,115]⟩ ⟨#[95,108,97,119,95,119,111,114,100,115]⟩ (top 5) 3 (.str ⟨#[108,97,119,95,112,107,48,48,51,53,95,48,49]⟩ 262) (.ref 69) 0)),#[]⟩
noncomputable def F0 (_:Params):Obj:=⟨(.type "code"),none,(.fields #[(.str ⟨#[95,108,97,119,95,112,105,101,99,101]⟩ 270),(.str ⟨#[95,108,97,119,95,112,105,101,99,101]⟩ 271),(.str ⟨#[47,99,108,97,105,109,47,99,117,116,46,112,121]⟩ 272),(.int 64 0),(.int 2 0),(.int 0 0),(.int 0 0),(.int 3 0),(.ref 71),(.bool true),(.int 181 0),(.ref 72),.none,(.ref 73),(.ref 74),(.ref 75),(.int 279 0),(.int 64 0),(.str ⟨#[47,99,108,97,105,109,47,99,117,116,46,112,121]⟩ 280)]),#[]⟩
def cR (_:Params):Obj:=⟨(.type "function"),none,(.func (ee ⟨#[95,108,97,119,95,112,105,101,99,101]⟩ ⟨#[95,108,97,119,95,112,105,101,99,101]⟩ (top 6) 3 (.str ⟨#[108,97,119,95,112,107,48,48,51,53,95,48,49]⟩ 262) (.ref 76) 0)),#[]⟩
noncomputable def F6 (_:Params):Obj:=⟨(.type "code"),none,(.fields #[(.str ⟨#[95,108,97,119,95,112,97,103,101]⟩ 282),(.str ⟨#[95,108,97,119,95,112,97,103,101]⟩ 283),(.str ⟨#[47,99,108,97,105,109,47,99,117,116,46,112,121]⟩ 284),(.int 79 0),(.int 3 0),(.int 0 0),(.int 0 0),(.int 3 0),(.ref 78),(.bool true),(.int 181 0),(.ref 79),.none,(.ref 80),(.ref 81),(.ref 82),(.int 291 0),(.int 79 0),(.str ⟨#[47,99,108,97,105,109,47,99,117,116,46,112,121]⟩ 292)]),#[]⟩
def iL (_:Params):Obj:=⟨(.type "function"),none,(.func (ee ⟨#[95,108,97,119,95,112,97,103,101]⟩ ⟨#[95,108,97,119,95,112,97,103,101]⟩ (top 7) 3 (.str ⟨#[108,97,119,95,112,107,48,48,51,53,95,48,49]⟩ 262) (.ref 83) 0)),#[]⟩
noncomputable def w8 (_:Params):Obj:=⟨(.type "code"),none,(.fields #[(.str ⟨#[95,108,97,119,95,112,114,111,103,114,97,109]⟩ 294),(.str ⟨#[95,108,97,119,95,112,114,111,103,114,97,109]⟩ 295),(.str ⟨#[47,99,108,97,105,109,47,99,117,116,46,112,121]⟩ 296),(.int 89 0),(.int 4 0),(.int 0 0),(.int 0 0),(.int 3 0),(.ref 85),(.bool true),(.int 181 0),(.ref 86),.none,(.ref 87),(.ref 88),(.ref 89),(.int 307 0),(.int 89 0),(.str ⟨#[47,99,108,97,105,109,47,99,117,116,46,112,121]⟩ 308)]),#[]⟩
def F7 (_:Params):Obj:=⟨(.type "function"),none,(.func (ee ⟨#[95,108,97,119,95,112,114,111,103,114,97,109]⟩ ⟨#[95,108,97,119,95,112,114,111,103,114,97,109]⟩ (top 8) 3 (.str ⟨#[108,97,119,95,112,107,48,48,51,53,95,48,49]⟩ 262) (.ref 90) 0)),#[]⟩
noncomputable def w9 (_:Params):Obj:=⟨(.type "code"),none,(.fields #[(.str ⟨#[95,108,97,119,95,116,117,114,110]⟩ 310),(.str ⟨#[95,108,97,119,95,116,117,114,110]⟩ 311),(.str ⟨#[47,99,108,97,105,109,47,99,117,116,46,112,121]⟩ 312),(.int 105 0),(.int 5 0),(.int 0 0),(.int 0 0),(.int 3 0),(.ref 92),(.bool true),(.int 181 0),(.ref 93),.none,.none,.none,(.ref 94),(.int 313 0),(.int 105 0),(.str ⟨#[47,99,108,97,105,109,47,99,117,116,46,112,121]⟩ 314)]),#[]⟩
def e8 (_:Params):Obj:=⟨(.type "function"),none,(.func (ee ⟨#[95,108,97,119,95,116,117,114,110]⟩ ⟨#[95,108,97,119,95,116,117,114,110]⟩ (top 9) 3 (.str ⟨#[108,97,119,95,112,107,48,48,51,53,95,48,49]⟩ 262) (.ref 95) 0)),#[]⟩
noncomputable def F8 (_:Params):Obj:=⟨(.type "code"),none,(.fields #[(.str ⟨#[95,108,97,119,95,104,111,108,100,115]⟩ 316),(.str ⟨#[95,108,97,119,95,104,111,108,100,115]⟩ 317),(.str ⟨#[47,99,108,97,105,109,47,99,117,116,46,112,121]⟩ 318),(.int 163 0),(.int 3 0),(.int 0 0),(.int 0 0),(.int 3 0),(.ref 97),(.bool true),(.int 181 0),(.ref 98),.none,.none,.none,(.ref 99),(.int 319 0),(.int 163 0),(.str ⟨#[47,99,108,97,105,109,47,99,117,116,46,112,121]⟩ 320)]),#[]⟩
def fF (_:Params):Obj:=⟨(.type "function"),none,(.func (ee ⟨#[95,108,97,119,95,104,111,108,100,115]⟩ ⟨#[95,108,97,119,95,104,111,108,100,115]⟩ (top 10) 3 (.str ⟨#[108,97,119,95,112,107,48,48,51,53,95,48,49]⟩ 262) (.ref 100) 0)),#[]⟩
noncomputable def F9 (_:Params):Obj:=⟨(.type "code"),none,(.fields #[(.str ⟨#[108,97,119]⟩ 322),(.str ⟨#[108,97,119]⟩ 323),(.str ⟨#[47,99,108,97,105,109,47,99,117,116,46,112,121]⟩ 324),(.int 172 0),(.int 1 0),(.int 0 0),(.int 0 0),(.int 3 0),(.ref 102),(.bool true),(.int 181 0),(.ref 103),.none,.none,.none,(.ref 104),(.int 325 0),(.int 172 0),(.str ⟨#[47,99,108,97,105,109,47,99,117,116,46,112,121]⟩ 326)]),#[]⟩
def nZ (_:Params):Obj:=⟨(.type "function"),none,(.func (ee ⟨#[108,97,119]⟩ ⟨#[108,97,119]⟩ (top 11) 3 (.str ⟨#[108,97,119,95,112,107,48,48,51,53,95,48,49]⟩ 262) (.ref 105) 0)),#[]⟩
def jB (P:Params):KT:=KT.of [(0,boot_o_0 P),(2,o2 P),(3,o3 P),(4,o4 P),(20,FO P),(21,d0 P),(34,FP P),(35,FQ P),(41,FR P),(42,gY P),(48,FT P),(49,iK P),(55,FU P),(56,FV P),(58,FW P),(59,FX P),(69,FY P),(70,FZ P),(76,F0 P),(77,cR P),(83,F6 P),(84,iL P),(90,w8 P),(91,F7 P),(95,w9 P),(96,e8 P),(100,F8 P),(101,fF P),(105,F9 P),(106,nZ P)]
theorem F' (P:Params):(jB P).get 2=some lY:=by kernel_rfl
def rG (P:Params) (b1 b2:Bool):Params:={P with followText:=fun s=>cond (Nat.beq (S.codeS s) 10139888712337904147300001983332972444938612) b1 (cond (Nat.beq (S.codeS s) 2510650655181157320538776789020469319833841985448949215332) b2 (P.followText s))}
theorem Ga (P:Params):rG P (P.followText "special-get-raises") (P.followText "comprehension-iter-twice")=P:=by
 unfold rG
 have e:(fun s=>cond (Nat.beq (S.codeS s) 10139888712337904147300001983332972444938612) (P.followText "special-get-raises") (cond (Nat.beq (S.codeS s) 2510650655181157320538776789020469319833841985448949215332) (P.followText "comprehension-iter-twice") (P.followText s)))=P.followText:=by
  funext s
  cases h:Nat.beq (S.codeS s) 10139888712337904147300001983332972444938612 with
  |true=>rw [rC (name:= "special-get-raises") (by decide+kernel) h];rfl
  |false=>
   cases h2:Nat.beq (S.codeS s) 2510650655181157320538776789020469319833841985448949215332 with
   |true=>rw [rC (name:= "comprehension-iter-twice") (by decide+kernel) h2];rfl
   |false=>rfl
 rw [e]
def ef (P:Params) (b1 b2:Bool) (ask:Nat→Nat→Code→List (Option (Addr×Obj))→Prop) (bR:Nat→Nat→CmpOp→Value→Value→List (Option (Addr×Obj))→Prop) (bN:Nat→Nat→List Stmt→Env→List (Option (Addr×Obj))→Prop) (ak:Nat→Code→jZ):y0:=⟨pw,rG P b1 b2,jB P,ask,bR,bN,ak⟩
def n0 (T:Tr) (m:Nat):Prop:= ∀i,(T.get i).isSome=true↔i<m
theorem Gb:n0 .nil 0:=fun i=>by
 have:Tr.nil.get i=none:=rfl
 rw [this];simp
theorem rH (a:Addr) (o:Obj): ∀(T:Tr) (m:Nat),n0 T m→((T.ins m a o).get m).isSome=true
 | .nil,m,h=>by
  have:m=0:=by
   by_cases q:m=0
   ·exact q
   ·have:=(h 0).mpr (Nat.pos_of_ne_zero q)
    cases this
  subst this;rfl
 | .node b p l r,m,h=>by
  have h0:0<m:=(h 0).mp rfl
  by_cases q:m%2=1
  ·rw [Tr.wq q,Tr.dh q]
   refine rH a o l (m/2) fun i=> ?_
   have:=h (2*i+1)
   rw [Tr.dh (Nat.mul_add_mod 2 i 1),show (2*i+1)/2=i from Nat.mul_add_div (by decide) i 1] at this
   rw [this];lia
  ·rw [Tr.wu (nO h0) q,Tr.di (nO h0) q]
   refine rH a o r (m/2-1) fun i=> ?_
   have:=h (2*i+2)
   rw [Tr.di (Nat.succ_ne_zero _) (by show ¬(2*(i+1))%2=1;rw [Nat.mul_mod_right];decide),show (2*i+2)/2-1=i by rw [Nat.mul_add_div (by decide)];rfl] at this
   rw [this];lia
theorem xa: ∀(L:List (Addr×Obj)) (T:Tr) (m:Nat),n0 T m→ ∀i,(T.put m L).get i=if i<m then T.get i else L[i-m]?
 | [],T,m,h,i=>by
  show T.get i=_
  split
  ·rfl
  ·rename_i hi
   cases q:T.get i with
   |none=>simp
   |some p=>exact absurd ((h i).mp (by rw [q];rfl)) hi
 |p::L,T,m,h,i=>by
  show ((T.ins m p.1 p.2).put (m+1) L).get i=_
  have g:=Tr.get_ins p.1 p.2 T m (rH _ _ T m h)
  have h':n0 (T.ins m p.1 p.2) (m+1):=fun i=>by
   rw [g]
   split
   ·rename_i e;subst e;simp
   ·rename_i e;rw [h i];exact ⟨gU,fun x=>Nat.lt_of_le_of_ne (Vi x) e⟩
  rw [xa L _ _ h',g]
  by_cases q:i<m
  ·rw [if_pos (gU q),if_neg (lN q),if_pos q]
  ·rw [if_neg q]
   by_cases e:i=m
   ·subst e;rw [if_pos (Nat.lt_succ_self _),if_pos rfl];simp
   ·rw [if_neg fun x=>q (Nat.lt_of_le_of_ne (Vi x) e)]
    obtain ⟨k,hk⟩: ∃k,i-m=k+1:=⟨Nat.pred (i-m),(Nat.succ_pred (Nat.sub_ne_zero_of_lt (Nat.lt_of_le_of_ne (gV q) (Ne.symm e)))).symm⟩
    rw [Nat.sub_succ,hk];simp
theorem n6 (L:List (Addr×Obj)) (i:Nat):(Tr.of L).get i=L[i]? :=by
 unfold Tr.of
 rw [xa L .nil 0 Gb]
 simp
theorem rI {kt:KT} {h:Heap} {L:List (Addr×Obj)} (S:Vp kt h (L.map some)):yD kt h (Tr.of L) L.length:=by
 have mem: ∀{i:Nat} {p:Addr×Obj},(Tr.of L).get i=some p→some p∈L.map some∧(L.map some)[i]? =some (some p):=fun {i p} e=>by
  rw [n6] at e
  exact ⟨List.mem_map_of_mem (List.mem_of_getElem? e),by rw [List.getElem?_map,e];rfl⟩
 refine ⟨fun i a o e=>S.own _ (mem e).1,fun i p e=> ?_,fun i j p q e e' z=>S.inj i j p q (mem e).2 (mem e').2 z,S.base,fun i p e=>S.apart p (mem e).1⟩
 rw [n6] at e
 exact (List.getElem?_eq_some_iff.mp e).1
def YT (vs:List (Addr×Obj)) (an:jZ) (as:List Addr) (ts:List Tok):List (Option (Addr×Obj)):=
 List.zipWith (fun p f=>some (p.1,f p.2)) vs (an.upd as ts)++List.zipWith (fun a o=>some (a,o)) as (an.new as ts)
structure e9 (vs:List (Addr×Obj)) (an:jZ) (bp:List Nat):Prop where
 upd: ∀as ts,(an.upd as ts).length=vs.length
 ids:an.ids.length=vs.length
 new: ∀as ts,(an.new as ts).length=bp.length
 na:an.na=bp.length
 nodup:bp.Nodup
 big: ∀i∈bp,vs.length≤i
theorem rJ {kt:KT} {vs:List (Addr×Obj)} {an:jZ} {bp:List Nat} {as:List Addr} {ts:List Tok} {s s':Shared} {T':Tr} {m':Nat} (hf:e9 vs an bp) (hl:as.length=bp.length)
  (R':yD kt s'.heap T' m') (L:vv (Tr.of vs) s T' s') (e:(List.range vs.length++bp).map T'.get=YT vs an as ts):kB (vs.map some) an as ts s s':=by
 have e1:(List.range vs.length).map T'.get=List.zipWith (fun p f=>some (p.1,f p.2)) vs (an.upd as ts):=by
  have:=congrArg (List.take vs.length) e
  rw [List.map_append,List.take_left' (by simp)] at this
  rw [this,YT,List.take_left' (by rw [List.length_zipWith,hf.upd,Nat.min_self])]
 have e2:bp.map T'.get=List.zipWith (fun a o=>some (a,o)) as (an.new as ts):=by
  have:=congrArg (List.drop vs.length) e
  rw [List.map_append,List.drop_left' (by simp)] at this
  rw [this,YT,List.drop_left' (by rw [List.length_zipWith,hf.upd,Nat.min_self])]
 have rK: ∀(i:Nat) (a:Addr) (o:Obj),as[i]? =some a→(an.new as ts)[i]? =some o→ ∃j,bp[i]? =some j∧T'.get j=some (a,o):=fun i a o ha ho=>by
  have:=congrArg (·[i]?) e2
  simp only [List.getElem?_map,List.getElem?_zipWith,ha,ho] at this
  cases q:bp[i]? with
  |none=>rw [q] at this;cases this
  |some j=>rw [q] at this;exact ⟨j,rfl,Option.some.inj this⟩
 refine ⟨fun b o eb n=>L.keep b o eb fun i p ep=>n p ?_,(hf.upd as ts).trans (List.length_map ..).symm,fun i p f h1 h2=> ?_,(hf.new as ts).trans hf.na.symm,fun i a o ha ho=> ?_,?_,L.gens,L.os,L.drawn⟩
 ·rw [n6] at ep
  exact List.mem_map_of_mem (List.mem_of_getElem? ep)
 ·have hp:vs[i]? =some p:=by
   rw [List.getElem?_map] at h1
   cases q:vs[i]? with
   |none=>rw [q] at h1;cases h1
   |some p'=>rw [q] at h1;exact congrArg some (Option.some.inj (Option.some.inj h1))
  have hi:=(List.getElem?_eq_some_iff.mp hp).1
  have:=congrArg (·[i]?) e1
  simp only [List.getElem?_map,List.getElem?_zipWith,hp,h2,List.getElem?_range hi,Option.map_some,Option.some.injEq] at this
  exact R'.own i _ _ this
 ·obtain ⟨j,hj,ej⟩:=rK i a o ha ho
  refine ⟨R'.own j a o ej,L.new j (a,o) ej ?_⟩
  rw [n6]
  exact List.getElem?_eq_none (hf.big j (List.mem_of_getElem? hj))
 ·have nl:(an.new as ts).length=as.length:=(hf.new as ts).trans hl.symm
  refine List.pairwise_iff_getElem.mpr fun i j hi hj xc h=> ?_
  obtain ⟨x,hx,ex⟩:=rK i _ _ (List.getElem?_eq_getElem hi) (List.getElem?_eq_getElem (by lia))
  obtain ⟨y,hy,ey⟩:=rK j _ _ (List.getElem?_eq_getElem hj) (List.getElem?_eq_getElem (by lia))
  have xy:=R'.inj x y _ _ ex ey h
  subst xy
  have:=(List.getElem?_inj (List.getElem?_eq_some_iff.mp hx).1 hf.nodup).mp (hx.trans hy.symm)
  lia
structure V2 (ak:Nat→Code→jZ):Prop where
 ids: ∀j,(ak j jJ).ids.Nodup
 shape: ∀j c,(ak j c).ids=(ak j jJ).ids∧(ak j c).na=(ak j jJ).na∧(ak j c).nt=(ak j jJ).nt
theorem Gd (p:Program) (Q:Params) (kt:KT) (ask:Nat→Nat→Code→List (Option (Addr×Obj))→Prop) (bR:Nat→Nat→CmpOp→Value→Value→List (Option (Addr×Obj))→Prop) (bN:Nat→Nat→List Stmt→Env→List (Option (Addr×Obj))→Prop) (ak:Nat→Code→jZ):(y0.mk p Q kt ask bR bN ak).prog=p:=rfl
theorem Ge (p:Program) (Q:Params) (kt:KT) (ask:Nat→Nat→Code→List (Option (Addr×Obj))→Prop) (bR:Nat→Nat→CmpOp→Value→Value→List (Option (Addr×Obj))→Prop) (bN:Nat→Nat→List Stmt→Env→List (Option (Addr×Obj))→Prop) (ak:Nat→Code→jZ):(y0.mk p Q kt ask bR bN ak).kt=kt:=rfl
noncomputable abbrev r1 (w:World):Bool:=w.params.followText "special-get-raises"
noncomputable abbrev r2 (w:World):Bool:=w.params.followText "comprehension-iter-twice"
abbrev Uu (w:World) (ak:Nat→Code→jZ):Nat→Nat→CmpOp→Value→Value→List (Option (Addr×Obj))→Prop:=fun j d op a b vs=>YD pw w (jB w.params) (ak j jJ) d op a b vs
abbrev Ut (w:World) (ak:Nat→Code→jZ):Nat→Nat→List Stmt→Env→List (Option (Addr×Obj))→Prop:=fun j d ss env vs=>jx pw w (jB w.params) (ak j (y4 vs)) d ss env vs
abbrev eJ (w:World) (ak:Nat→Code→jZ):Nat→Nat→Code→List (Option (Addr×Obj))→Prop:=fun j d c vs=>j6 pw w (jB w.params) (ak j (y4 vs)) d c vs
theorem Gf {p:Program} {w:World} {Q:Params} {kt:KT} {ak:Nat→Code→jZ} (h1:Q=w.params) (h2:kt.get 2=some lY) (d1:V2 ak):gX ⟨p,Q,kt,fun j d c vs=>j6 p w kt (ak j (y4 vs)) d c vs,fun j d op a b vs=>YD p w kt (ak j jJ) d op a b vs,fun j d ss env vs=>jx p w kt (ak j (y4 vs)) d ss env vs,ak⟩ w:=
 ⟨h1,h2,d1.ids,d1.shape,fun _ _ _ _ h=>h,fun _ _ _ _ _ _ h=>h,fun _ _ _ _ _ h=>h⟩
theorem rL (P:Params) (b1 b2:Bool) (ask:Nat→Nat→Code→List (Option (Addr×Obj))→Prop) (bR:Nat→Nat→CmpOp→Value→Value→List (Option (Addr×Obj))→Prop) (bN:Nat→Nat→List Stmt→Env→List (Option (Addr×Obj))→Prop) (ak:Nat→Code→jZ):(ef P b1 b2 ask bR bN ak).prog=pw:=by unfold ef;exact Gd _ _ _ _ _ _ _
theorem rM (P:Params) (b1 b2:Bool) (ask:Nat→Nat→Code→List (Option (Addr×Obj))→Prop) (bR:Nat→Nat→CmpOp→Value→Value→List (Option (Addr×Obj))→Prop) (bN:Nat→Nat→List Stmt→Env→List (Option (Addr×Obj))→Prop) (ak:Nat→Code→jZ):(ef P b1 b2 ask bR bN ak).kt=jB P:=by unfold ef;exact Ge _ _ _ _ _ _ _
theorem rN (w:World) (ak:Nat→Code→jZ) (d1:V2 ak):gX (ef w.params (r1 w) (r2 w) (eJ w ak) (Uu w ak) (Ut w ak) ak) w:=by
 unfold ef
 exact Gf (Ga w.params) (F' _) d1
abbrev gZ:=(Nat→Nat→Code→List (Option (Addr×Obj))→Prop)→(Nat→Nat→CmpOp→Value→Value→List (Option (Addr×Obj))→Prop)→(Nat→Nat→List Stmt→Env→List (Option (Addr×Obj))→Prop)→List ((Nat→Addr)→(Nat→Tok)→Prop)
def xd (P:Params) (b1 b2:Bool) (n d:Nat) (α:Type) (t:Sem α) (vs:List (Addr×Obj)) (ak:Nat→Code→jZ) (an:jZ) (res:List Addr→List Tok→Except Value α) (bp cm cn:List Nat) (dr:gZ) (N hints:Nat):Prop:=
 ∀(ask:Nat→Nat→Code→List (Option (Addr×Obj))→Prop) (bR:Nat→Nat→CmpOp→Value→Value→List (Option (Addr×Obj))→Prop) (bN:Nat→Nat→List Stmt→Env→List (Option (Addr×Obj))→Prop) (Res:Except Value α→List (Option (Addr×Obj))→Prop),
  (hx (ef P b1 b2 ask bR bN ak) n).tree α t (fun x T _ _=>Res x ((List.range vs.length++bp).map T.get)) d (Tr.of vs) vs.length hints
  =JG ak (fun A K=>Res (res (bp.map A) (cm.map K++cn.map A)) (YT vs an (bp.map A) (cm.map K++cn.map A))) N (dr ask bR bN) (Tr.of (vs.map fun p=>(p.1,default))) vs.length .nil 0 hints
def eK {α:Type} (vs:List (Addr×Obj)) (an:jZ) (res:List Addr→List Tok→Except Value α) (x:Except Value α) (l:List (Option (Addr×Obj))):Prop:=
 ∃as ts,x=res as ts∧as.length=an.na∧ts.length=an.nt∧l=YT vs an as ts
theorem Ym {α:Type} {vs:List (Addr×Obj)} {an:jZ} {res:List Addr→List Tok→Except Value α} {bp cm cn:List Nat} (hf:e9 vs an bp) (g7:an.nt=cm.length+cn.length) (A:Nat→Addr) (K:Nat→Tok):
  eK vs an res (res (bp.map A) (cm.map K++cn.map A)) (YT vs an (bp.map A) (cm.map K++cn.map A)):=
 ⟨_,_,rfl,by rw [List.length_map,hf.na],by rw [List.length_append,List.length_map,List.length_map,g7],rfl⟩
theorem Gg {V:y0} {w:World} {pr:Program} {kt:KT} (fE:V.prog=pr) (md:V.kt=kt) (G:gX V w) {n d:Nat} {α:Type} {t:Sem α} {vs:List (Addr×Obj)} {an:jZ} {res:List Addr→List Tok→Except Value α} {bp:List Nat} {hints:Nat}
  (H:(hx V n).tree α t (fun x T _ _=>eK vs an res x ((List.range vs.length++bp).map T.get)) d (Tr.of vs) vs.length hints) (hf:e9 vs an bp)
  {A:Around} {s:Shared} (S:kT A d) (Z:Vp kt s.heap (vs.map some)):
  wpAny (model pr w) A t (fun a s'=> ∃as ts,.ok a=res as ts∧as.length=an.na∧ts.length=an.nt∧kB (vs.map some) an as ts s s') (fun e s'=> ∃as ts,.error e=res as ts∧as.length=an.na∧ts.length=an.nt∧kB (vs.map some) an as ts s s') s:=by
 subst fE md
 have R:=rI Z
 have key:=(nY G V6 n).1 α t _ d (Tr.of vs) vs.length hints A s H S R
 have fin: ∀(x:Except Value α) (s':Shared),ud V.kt (fun x T _ _=>eK vs an res x ((List.range vs.length++bp).map T.get)) (Tr.of vs) s x s'→ ∃as ts,x=res as ts∧as.length=an.na∧ts.length=an.nt∧kB (vs.map some) an as ts s s':=by
  rintro x s' ⟨T',m',h',⟨as,ts,hx,la,lt,hv⟩,R',L'⟩
  exact ⟨as,ts,hx,la,lt,rJ hf (la.trans hf.na) R' L' hv⟩
 exact wpAny_mono key (fun a s' q=>fin _ _ q) (fun e s' q=>fin _ _ q)
theorem Gh {w:World} {n d:Nat} {α:Type} {t:Sem α} {vs:List (Addr×Obj)} {ak:Nat→Code→jZ} {an:jZ} {res:List Addr→List Tok→Except Value α} {bp cm cn:List Nat} {dr:gZ} {N hints:Nat}
  (run:xd w.params (r1 w) (r2 w) n d α t vs ak an res bp cm cn dr N hints) (d1:V2 ak) (hf:e9 vs an bp) (g7:an.nt=cm.length+cn.length) (dg: ∀A K,gW (dr (eJ w ak) (Uu w ak) (Ut w ak)) A K)
  {A:Around} {s:Shared} (S:kT A d) (Z:Vp (jB w.params) s.heap (vs.map some)):
  wpAny (model pw w) A t (fun a s'=> ∃as ts,.ok a=res as ts∧as.length=an.na∧ts.length=an.nt∧kB (vs.map some) an as ts s s') (fun e s'=> ∃as ts,.error e=res as ts∧as.length=an.na∧ts.length=an.nt∧kB (vs.map some) an as ts s s') s:=
 have C:=Uz ak (fun A K=>eK vs an res (res (bp.map A) (cm.map K++cn.map A)) (YT vs an (bp.map A) (cm.map K++cn.map A))) (Ym hf g7) N (dr (eJ w ak) (Uu w ak) (Ut w ak)) (Tr.of (vs.map fun p=>(p.1,default))) vs.length .nil 0 hints dg
 Gg (rL _ _ _ _ _ _ _) (rM _ _ _ _ _ _ _) (rN w ak d1) (Eq.mpr (run (eJ w ak) (Uu w ak) (Ut w ak) (eK vs an res)) C) hf S Z
def xf (P:Params) (b1 b2:Bool) (n d:Nat) (c:Code) (vs:List (Addr×Obj)) (ak:Nat→Code→jZ) (an:jZ) (bp cm cn:List Nat) (dr:gZ) (N hints:Nat):Prop:=
 ∀(ask:Nat→Nat→Code→List (Option (Addr×Obj))→Prop) (bR:Nat→Nat→CmpOp→Value→Value→List (Option (Addr×Obj))→Prop) (bN:Nat→Nat→List Stmt→Env→List (Option (Addr×Obj))→Prop) (Res:Result→List (Option (Addr×Obj))→Prop),
  (hx (ef P b1 b2 ask bR bN ak) n).code c (fun r T _ _=>Res r ((List.range vs.length++bp).map T.get)) d (Tr.of vs) vs.length hints
  =JG ak (fun A K=>Res (an.res (bp.map A) (cm.map K++cn.map A)) (YT vs an (bp.map A) (cm.map K++cn.map A))) N (dr ask bR bN) (Tr.of (vs.map fun p=>(p.1,default))) vs.length .nil 0 hints
theorem Gi {V:y0} {w:World} {pr:Program} {kt:KT} (fE:V.prog=pr) (md:V.kt=kt) (G:gX V w) {n d:Nat} {c:Code} {vs:List (Addr×Obj)} {an:jZ} {bp:List Nat} {hints:Nat}
  (H:(hx V n).code c (fun r T _ _=>eK vs an (α:=Flow) (fun as ts=>an.res as ts) r ((List.range vs.length++bp).map T.get)) d (Tr.of vs) vs.length hints) (hf:e9 vs an bp):j6 pr w kt an d c (vs.map some):=by
 subst fE md
 refine .of ?_
 intro A R s S Z hR
 have Rp:=rI Z
 have key:=(nY G V6 n).2 c _ d (Tr.of vs) vs.length hints A s H S Rp
 refine codeAny_mono key fun r s' q=> ?_
 obtain ⟨T',m',h',⟨as,ts,hx,la,lt,hv⟩,R',L'⟩:=q
 subst hx
 exact hR s' as ts la lt (rJ hf (la.trans hf.na) R' L' hv)
theorem xg {w:World} {n d:Nat} {c:Code} {vs:List (Addr×Obj)} {ak:Nat→Code→jZ} {an:jZ} {bp cm cn:List Nat} {dr:gZ} {N hints:Nat}
  (run:xf w.params (r1 w) (r2 w) n d c vs ak an bp cm cn dr N hints) (d1:V2 ak) (hf:e9 vs an bp) (g7:an.nt=cm.length+cn.length) (dg: ∀A K,gW (dr (eJ w ak) (Uu w ak) (Ut w ak)) A K):j6 pw w (jB w.params) an d c (vs.map some):=
 have C:=Uz ak (fun A K=>eK vs an (α:=Flow) (fun as ts=>an.res as ts) (an.res (bp.map A) (cm.map K++cn.map A)) (YT vs an (bp.map A) (cm.map K++cn.map A))) (Ym (res:=fun as ts=>an.res as ts) hf g7) N (dr (eJ w ak) (Uu w ak) (Ut w ak)) (Tr.of (vs.map fun p=>(p.1,default))) vs.length .nil 0 hints dg
 Gi (rL _ _ _ _ _ _ _) (rM _ _ _ _ _ _ _) (rN w ak d1) (Eq.mpr (run (eJ w ak) (Uu w ak) (Ut w ak) (eK vs an (α:=Flow) (fun as ts=>an.res as ts))) C) hf
def xh (P:Params) (b1 b2:Bool) (n d:Nat) (x:Addr) (a:Args) (o:Obj) (vs:List (Addr×Obj)) (ak:Nat→Code→jZ) (an:jZ) (bp cm cn:List Nat) (dr:gZ) (N hints:Nat):Prop:=
 ∀(ask:Nat→Nat→Code→List (Option (Addr×Obj))→Prop) (bR:Nat→Nat→CmpOp→Value→Value→List (Option (Addr×Obj))→Prop) (bN:Nat→Nat→List Stmt→Env→List (Option (Addr×Obj))→Prop) (Res:Result→List (Option (Addr×Obj))→Prop),
  fD (hx (ef P b1 b2 ask bR bN ak) n) Result .pure (fun x T _ _=>match x with| .ok r=>Res r ((List.range vs.length++bp).map T.get)| .error _=>False) (d+1) d x a o (Tr.of vs) vs.length hints
  =JG ak (fun A K=>Res (an.res (bp.map A) (cm.map K++cn.map A)) (YT vs an (bp.map A) (cm.map K++cn.map A))) N (dr ask bR bN) (Tr.of (vs.map fun p=>(p.1,default))) vs.length .nil 0 hints
theorem Gj {V:y0} {w:World} {pr:Program} {kt:KT} (fE:V.prog=pr) (md:V.kt=kt) (G:gX V w) {n d:Nat} {x:Addr} {a:Args} {o:Obj} {vs:List (Addr×Obj)} {an:jZ} {bp:List Nat} {hints:Nat}
  (H:fD (hx V n) Result .pure (fun x T _ _=>match x with| .ok r=>eK vs an (α:=Flow) (fun as ts=>an.res as ts) r ((List.range vs.length++bp).map T.get)| .error _=>False) (d+1) d x a o (Tr.of vs) vs.length hints) (hf:e9 vs an bp)
  (ho:kt.get x=some o∨(x,o)∈vs):j6 pr w kt an (d+1) (.call (.ref x) a) (vs.map some):=by
 subst fE md
 refine .of ?_
 intro A R s S Z hR
 have Rp:=rI Z
 have Gk:s.heap.get? x=some o:=by
  rcases ho with h|h
  ·exact Z.base _ _ h
  ·exact Z.own (x,o) (List.mem_map_of_mem h)
 have sd:=nY G V6
 have key:=UD G (sd n).1 (sd n).2 V6 Gk H S Rp
 refine codeAny_mono key fun r s' q=> ?_
 obtain ⟨T',m',h',hk,R',L'⟩:=q
 cases n with
 |zero=>exact hk.elim
 |succ n=>
  obtain ⟨as,ts,hx,la,lt,hv⟩:=hk
  subst hx
  exact hR s' as ts la lt (rJ hf (la.trans hf.na) R' L' hv)
theorem Gl {w:World} {n d:Nat} {x:Addr} {a:Args} {o:Obj} {vs:List (Addr×Obj)} {ak:Nat→Code→jZ} {an:jZ} {bp cm cn:List Nat} {dr:gZ} {N hints:Nat}
  (run:xh w.params (r1 w) (r2 w) n d x a o vs ak an bp cm cn dr N hints) (d1:V2 ak) (hf:e9 vs an bp) (g7:an.nt=cm.length+cn.length) (dg: ∀A K,gW (dr (eJ w ak) (Uu w ak) (Ut w ak)) A K)
  (ho:(jB w.params).get x=some o∨(x,o)∈vs):j6 pw w (jB w.params) an (d+1) (.call (.ref x) a) (vs.map some):=
 have C:=Uz ak (fun A K=>eK vs an (α:=Flow) (fun as ts=>an.res as ts) (an.res (bp.map A) (cm.map K++cn.map A)) (YT vs an (bp.map A) (cm.map K++cn.map A))) (Ym (res:=fun as ts=>an.res as ts) hf g7) N (dr (eJ w ak) (Uu w ak) (Ut w ak)) (Tr.of (vs.map fun p=>(p.1,default))) vs.length .nil 0 hints dg
 Gj (rL _ _ _ _ _ _ _) (rM _ _ _ _ _ _ _) (rN w ak d1) (Eq.mpr (run (eJ w ak) (Uu w ak) (Ut w ak) (eK vs an (α:=Flow) (fun as ts=>an.res as ts))) C) hf ho
noncomputable def me:Code→jZ:=fun _=>⟨[],0,0,fun _ _=> .ok .next,fun _ _=> [],fun _ _=> []⟩
noncomputable def Uh:List Nat→Bool
 | []=>true
 |a::l=>(l.all fun b=> !(Nat.beq a b))&&Uh l
theorem rO: ∀l:List Nat,Uh l=true→l.Nodup
 | [],_=> .nil
 |a::l,h=>by
  have h1:(l.all fun b=> !(Nat.beq a b))=true∧Uh l=true:=by simpa [Uh] using h
  refine List.nodup_cons.mpr ⟨fun m=> ?_,rO l h1.2⟩
  have:=List.all_eq_true.mp h1.1 a m
  simp at this
theorem j6.mono {pr:Program} {w:World} {kt:KT} {an:jZ} {d d':Nat} {c:Code} {vs:List (Option (Addr×Obj))} (h:j6 pr w kt an d c vs) (hd:d≤d'):j6 pr w kt an d' c vs:=
 fun d' q=>h d' (jc hd q)
theorem j6.at {pr:Program} {w:World} {kt:KT} {an aU:jZ} {d d':Nat} {c:Code} {vs:List (Option (Addr×Obj))} (h:j6 pr w kt an d c vs) (hd:d≤d') (hl:aU.ids.length=an.ids.length) (e:aU={an with ids:=aU.ids}):j6 pr w kt aU d' c vs:=by
 intro _ q A R s S Z hR
 refine h _ (jc hd q) A R s S Z fun s' as ts la lt p=> ?_
 have h1:aU.na=an.na:=by rw [e]
 have h2:aU.nt=an.nt:=by rw [e]
 have h3:aU.res=an.res:=by rw [e]
 have h4:aU.upd=an.upd:=by rw [e]
 have h5:aU.new=an.new:=by rw [e]
 have:=hR s' as ts (la.trans h1.symm) (lt.trans h2.symm) (by
  unfold kB at p⊢
  rw [h4,h5,h1]
  exact p)
 rw [h3] at this
 exact this
abbrev Qa:=Nat→Nat→Code→List (Addr×Obj)→Prop
abbrev Qt:=Nat→Nat→CmpOp→Value→Value→List (Addr×Obj)→Prop
abbrev Qs:=Nat→Nat→List Stmt→Env→List (Addr×Obj)→Prop
structure RD where
 vs:List (Addr×Obj)
 ak:List (List Nat×(Code→jZ))
 an:jZ
 nw:List Nat
 tk:List Nat
 xi:List Nat
 no:Nat
 ob:Qa→Qt→Qs→(Nat→Addr)→(Nat→Tok)→List Prop
noncomputable def wi (ids:List Nat) (a:jZ):List Nat×(Code→jZ):=(ids,fun _=>a)
def VM (l:List (List Nat×(Code→jZ))) (j:Nat) (c:Code):jZ:={(l.getD j ([],me)).2 c with ids:=(l.getD j ([],me)).1,na:=((l.getD j ([],me)).2 jJ).na,nt:=((l.getD j ([],me)).2 jJ).nt}
theorem n7 {l:List (List Nat×(Code→jZ))} (h:(l.map fun p=>p.1).all Uh=true):V2 (VM l) where
 ids:=fun j=>by
  show (l.getD j ([],me)).1.Nodup
  rw [List.getD_eq_getElem?_getD]
  cases q:l[j]? with
  |none=>exact .nil
  |some a=>exact rO _ (List.all_eq_true.mp h _ (List.mem_map_of_mem (f:=fun p=>p.1) (List.mem_of_getElem? q)))
 shape:=fun _ _=>⟨rfl,rfl,rfl⟩
def mh (n:Nat) (ob:Qa→Qt→Qs→(Nat→Addr)→(Nat→Tok)→List Prop):gZ:=fun ask bR bN=>(List.range n).map fun i A K=>(ob (fun j d c vs=>ask j d c (vs.map some)) (fun j d op a b vs=>bR j d op a b (vs.map some)) (fun j d ss env vs=>bN j d ss env (vs.map some)) A K).getD i True
abbrev Sg (α:Type):=(Nat→Nat→Code→List (Option (Addr×Obj))→Prop)→(Nat→Nat→CmpOp→Value→Value→List (Option (Addr×Obj))→Prop)→(Nat→Nat→List Stmt→Env→List (Option (Addr×Obj))→Prop)→(Except Value α→List (Option (Addr×Obj))→Prop)→Prop
def RR {α:Type} (D:RD) (res:List Addr→List Tok→Except Value α) (H:Nat×Nat):Sg α:=fun ask bR bN Res=>JG (VM D.ak) (fun A K=>Res (res (D.nw.map A) (D.tk.map K++D.xi.map A)) (YT D.vs D.an (D.nw.map A) (D.tk.map K++D.xi.map A))) H.2 (mh D.no D.ob ask bR bN) (Tr.of (D.vs.map fun p=>(p.1,default))) D.vs.length .nil 0 H.1
def LF (P:Params) (b1 b2:Bool) (d:Nat) (x:Addr) (a:List Value) (o:Obj) (D:RD) (H:Nat×Nat):Sg Flow:=fun ask bR bN Res=>fD (hx (ef P b1 b2 ask bR bN (VM D.ak)) 1000000) Result .pure (fun x T _ _=>match x with| .ok r=>Res r ((List.range D.vs.length++D.nw).map T.get)| .error _=>False) (d+1) d x ⟨a,[]⟩ o (Tr.of D.vs) D.vs.length H.1
def LC (P:Params) (b1 b2:Bool) (d:Nat) (c:Code) (D:RD) (H:Nat×Nat):Sg Flow:=fun ask bR bN Res=>(hx (ef P b1 b2 ask bR bN (VM D.ak)) 1000000).code c (fun r T _ _=>Res r ((List.range D.vs.length++D.nw).map T.get)) d (Tr.of D.vs) D.vs.length H.1
def LT (P:Params) (b1 b2:Bool) (d:Nat) (α:Type) (t:Sem α) (D:RD) (H:Nat×Nat):Sg α:=fun ask bR bN Res=>(hx (ef P b1 b2 ask bR bN (VM D.ak)) 1000000).tree α t (fun x T _ _=>Res x ((List.range D.vs.length++D.nw).map T.get)) d (Tr.of D.vs) D.vs.length H.1
abbrev RF (P:Params) (b1 b2:Bool) (d:Nat) (x:Addr) (a:List Value) (o:Obj) (D:RD) (H:Nat×Nat):Prop:=LF P b1 b2 d x a o D H=RR D D.an.res H
abbrev RC (P:Params) (b1 b2:Bool) (d:Nat) (c:Code) (D:RD) (H:Nat×Nat):Prop:=LC P b1 b2 d c D H=RR D D.an.res H
abbrev RT (P:Params) (b1 b2:Bool) (d:Nat) (α:Type) (t:Sem α) (res:List Addr→List Tok→Except Value α) (D:RD) (H:Nat×Nat):Prop:=LT P b1 b2 d α t D H=RR D res H
theorem RF.run {P:Params} {b1 b2:Bool} {d:Nat} {x:Addr} {a:List Value} {o:Obj} {D:RD} {H:Nat×Nat} (h:RF P b1 b2 d x a o D H):xh P b1 b2 1000000 d x ⟨a,[]⟩ o D.vs (VM D.ak) D.an D.nw D.tk D.xi (mh D.no D.ob) H.2 H.1:=fun ask bR bN Res=>congrFun (congrFun (congrFun (congrFun h ask) bR) bN) Res
theorem RC.run {P:Params} {b1 b2:Bool} {d:Nat} {c:Code} {D:RD} {H:Nat×Nat} (h:RC P b1 b2 d c D H):xf P b1 b2 1000000 d c D.vs (VM D.ak) D.an D.nw D.tk D.xi (mh D.no D.ob) H.2 H.1:=fun ask bR bN Res=>congrFun (congrFun (congrFun (congrFun h ask) bR) bN) Res
theorem RT.run {P:Params} {b1 b2:Bool} {d:Nat} {α:Type} {t:Sem α} {res:List Addr→List Tok→Except Value α} {D:RD} {H:Nat×Nat} (h:RT P b1 b2 d α t res D H):xd P b1 b2 1000000 d α t D.vs (VM D.ak) D.an res D.nw D.tk D.xi (mh D.no D.ob) H.2 H.1:=fun ask bR bN Res=>congrFun (congrFun (congrFun (congrFun h ask) bR) bN) Res
def GF (P:Params) (d:Nat) (x:Addr) (a:List Value) (o:Obj) (D:RD) (H:Bool→Nat×Nat):Prop:= ∀b1 b2,RF P b1 b2 d x a o D (H b2)
def GC (P:Params) (d:Nat) (c:Code) (D:RD) (H:Bool→Nat×Nat):Prop:= ∀b1 b2,RC P b1 b2 d c D (H b2)
def GT (P:Params) (d:Nat) (α:Type) (t:Sem α) (res:List Addr→List Tok→Except Value α) (D:RD) (H:Bool→Nat×Nat):Prop:= ∀b1 b2,RT P b1 b2 d α t res D (H b2)
noncomputable abbrev hk (x:Nat×Nat) (_:Bool):Nat×Nat:=x
theorem kF {P:Params} {d:Nat} {x:Addr} {a:List Value} {o:Obj} {D:RD} {H:Nat×Nat} (h: ∀b2,RF P false b2 d x a o D H:=by intro b2;kernel_rfl) (h': ∀b2,RF P true b2 d x a o D H:=by intro b2;kernel_rfl):GF P d x a o D (hk H):=fun b1 b2=>by cases b1;exact h b2;exact h' b2
theorem Ur {P:Params} {d:Nat} {x:Addr} {a:List Value} {o:Obj} {D:RD} {H:Bool→Nat×Nat} (h1:RF P false false d x a o D (H false):=by kernel_rfl) (h2:RF P false true d x a o D (H true):=by kernel_rfl) (h3:RF P true false d x a o D (H false):=by kernel_rfl) (h4:RF P true true d x a o D (H true):=by kernel_rfl):GF P d x a o D H:=fun b1 b2=>by cases b1<;>cases b2;exact h1;exact h2;exact h3;exact h4
theorem ua {P:Params} {d:Nat} {c:Code} {D:RD} {H:Nat×Nat} (h: ∀b2,RC P false b2 d c D H:=by intro b2;kernel_rfl) (h': ∀b2,RC P true b2 d c D H:=by intro b2;kernel_rfl):GC P d c D (hk H):=fun b1 b2=>by cases b1;exact h b2;exact h' b2
theorem mi {P:Params} {d:Nat} {c:Code} {D:RD} {H:Bool→Nat×Nat} (h1:RC P false false d c D (H false):=by kernel_rfl) (h2:RC P false true d c D (H true):=by kernel_rfl) (h3:RC P true false d c D (H false):=by kernel_rfl) (h4:RC P true true d c D (H true):=by kernel_rfl):GC P d c D H:=fun b1 b2=>by cases b1<;>cases b2;exact h1;exact h2;exact h3;exact h4
theorem Gm {P:Params} {d:Nat} {α:Type} {t:Sem α} {res:List Addr→List Tok→Except Value α} {D:RD} {H:Nat×Nat} (h: ∀b1 b2,RT P b1 b2 d α t res D H:=by intro b1 b2;kernel_rfl):GT P d α t res D (hk H):=h
theorem vq {P:Params} {d:Nat} {α:Type} {t:Sem α} {res:List Addr→List Tok→Except Value α} {D:RD} {H:Nat×Nat} (h: ∀b2,RT P false b2 d α t res D H:=by intro b2;kernel_rfl) (h': ∀b2,RT P true b2 d α t res D H:=by intro b2;kernel_rfl):GT P d α t res D (hk H):=fun b1 b2=>by cases b1;exact h b2;exact h' b2
def iM:List Prop→Prop→Prop
 | [],X=>X
 |p::l,X=>p→iM l X
def YQ (l:List Prop):Prop:= ∀X,iM l X→X
theorem iM.of: ∀(l:List Prop) {X:Prop},X→iM l X
 | [],_,h=>h
 |_::l,_,h=>fun _=>iM.of l h
theorem YQ.get: ∀{l:List Prop} (i:Nat),YQ l→l.getD i True
 | [],i,_=>trivial
 |p::l,0,h=>h p fun hp=>iM.of l hp
 |p::l,i+1,h=>YQ.get (l:=l) i fun X k=>h X fun _=>k
theorem xj {f:Nat→(Nat→Addr)→(Nat→Tok)→Prop} {A:Nat→Addr} {K:Nat→Tok}: ∀l:List Nat,(∀i,f i A K)→gW (l.map f) A K
 | [],_=>trivial
 |i::l,h=>⟨h i,xj l h⟩
abbrev qa (w:World) (D:RD):Qa:=fun j d c vs=>j6 pw w (jB w.params) (VM D.ak j (y4 (vs.map some))) d c (vs.map some)
abbrev qt (w:World) (D:RD):Qt:=fun j d op a b vs=>YD pw w (jB w.params) (VM D.ak j jJ) d op a b (vs.map some)
abbrev qs (w:World) (D:RD):Qs:=fun j d ss env vs=>jx pw w (jB w.params) (VM D.ak j (y4 (vs.map some))) d ss env (vs.map some)
theorem n8 {w:World} {D:RD} (h: ∀A K,YQ (D.ob (qa w D) (qt w D) (qs w D) A K)) (A:Nat→Addr) (K:Nat→Tok):gW (mh D.no D.ob (eJ w (VM D.ak)) (Uu w (VM D.ak)) (Ut w (VM D.ak))) A K:=
 xj _ fun i=>YQ.get i (h A K)
theorem Gn {vs:List (Addr×Obj)} {an:jZ} {bp:List Nat} (h1: ∀as ts,(an.upd as ts).length=vs.length) (h2:an.ids.length=vs.length) (h3: ∀as ts,(an.new as ts).length=bp.length) (h4:an.na=bp.length) (h5:Uh bp=true) (h6:(bp.all fun j=>Nat.ble vs.length j)=true):e9 vs an bp:=
 ⟨h1,h2,h3,h4,rO _ h5,fun j hj=>Nat.le_of_ble_eq_true (List.all_eq_true.mp h6 j hj)⟩
def RD.lhs (D:RD) (as:List Addr) (ts:List Tok):List Nat×Bool:=([(D.an.upd as ts).length,D.an.ids.length,(D.an.new as ts).length,D.an.na,D.an.nt],(D.ak.map fun p=>p.1).all Uh&&(Uh D.nw&&D.nw.all fun j=>Nat.ble D.vs.length j))
def RD.rhs (D:RD):List Nat×Bool:=([D.vs.length,D.vs.length,D.nw.length,D.nw.length,D.tk.length+D.xi.length],true)
abbrev RD.eg (D:RD):Prop:= ∀as ts,D.lhs as ts=D.rhs
theorem RD.eg.nodup {D:RD} (h:D.eg):(D.ak.map fun p=>p.1).all Uh=true:=(Bool.and_eq_true_iff.mp (congrArg (·.2) (h [] []))).1
theorem RD.eg.nt {D:RD} (h:D.eg):D.an.nt=D.tk.length+D.xi.length:=congrArg (fun x=>x.1.getD 4 0) (h [] [])
theorem RD.eg.fits {D:RD} (h:D.eg):e9 D.vs D.an D.nw:=
 have b:=Bool.and_eq_true_iff.mp (Bool.and_eq_true_iff.mp (congrArg (·.2) (h [] []))).2
 Gn (fun as ts=>congrArg (fun x=>x.1.getD 0 0) (h as ts)) (congrArg (fun x=>x.1.getD 1 0) (h [] [])) (fun as ts=>congrArg (fun x=>x.1.getD 2 0) (h as ts)) (congrArg (fun x=>x.1.getD 3 0) (h [] [])) b.1 b.2
theorem uM {w:World} {d:Nat} {x:Addr} {a:List Value} {o:Obj} {D:RD} {H:Bool→Nat×Nat} (run:GF w.params d x a o D H) (ho:(jB w.params).get x=some o∨(x,o)∈D.vs) (dg: ∀A K,YQ (D.ob (qa w D) (qt w D) (qs w D) A K))
  (hf:D.eg:=by exact fun _ _=>rfl):j6 pw w (jB w.params) D.an (d+1) (.call (.ref x) ⟨a,[]⟩) (D.vs.map some):=
 Gl (run (r1 w) (r2 w)).run (n7 hf.nodup) hf.fits hf.nt (n8 dg) ho
theorem jY {w:World} {d:Nat} {c:Code} {D:RD} {H:Bool→Nat×Nat} (run:GC w.params d c D H) (dg: ∀A K,YQ (D.ob (qa w D) (qt w D) (qs w D) A K))
  (hf:D.eg:=by exact fun _ _=>rfl):j6 pw w (jB w.params) D.an d c (D.vs.map some):=
 xg (run (r1 w) (r2 w)).run (n7 hf.nodup) hf.fits hf.nt (n8 dg)
theorem UA {w:World} {d:Nat} {c:Code} {D:RD} {H:Nat×Nat} (run:RC w.params (r1 w) (r2 w) d c D H) (dg: ∀A K,YQ (D.ob (qa w D) (qt w D) (qs w D) A K))
  (hf:D.eg:=by exact fun _ _=>rfl):j6 pw w (jB w.params) D.an d c (D.vs.map some):=
 xg run.run (n7 hf.nodup) hf.fits hf.nt (n8 dg)
theorem xk {w:World} {d:Nat} {α:Type} {t:Sem α} {res:List Addr→List Tok→Except Value α} {D:RD} {H:Bool→Nat×Nat} (run:GT w.params d α t res D H) (dg: ∀A K,YQ (D.ob (qa w D) (qt w D) (qs w D) A K)) {A:Around} {s:Shared} (S:kT A d) (Z:Vp (jB w.params) s.heap (D.vs.map some))
  (hf:D.eg:=by exact fun _ _=>rfl):
  wpAny (model pw w) A t (fun a s'=> ∃as ts,.ok a=res as ts∧as.length=D.an.na∧ts.length=D.an.nt∧kB (D.vs.map some) D.an as ts s s') (fun e s'=> ∃as ts,.error e=res as ts∧as.length=D.an.na∧ts.length=D.an.nt∧kB (D.vs.map some) D.an as ts s s') s:=
 Gh (run (r1 w) (r2 w)).run (n7 hf.nodup) hf.fits hf.nt (n8 dg) S Z
theorem mj:YQ []:=fun _ h=>h
theorem tT {pr:Program} {w:World} {kt:KT} {an aU:jZ} {d d':Nat} {c:Code} {vs:List (Option (Addr×Obj))} (h:j6 pr w kt an d c vs) (hd:d≤d':=by decide) (hl:aU.ids.length=an.ids.length:=by exact rfl) (e:aU={an with ids:=aU.ids}:=by exact rfl):j6 pr w kt aU d' c vs:=h.at hd hl e
theorem tU {pr:Program} {w:World} {kt:KT} {an aU:jZ} {d:Nat} {c:Code} {vs:List (Option (Addr×Obj))} (h:j6 pr w kt an d c vs) (hl:aU.ids.length=an.ids.length:=by exact rfl) (e:aU={an with ids:=aU.ids}:=by exact rfl):j6 pr w kt aU d c vs:=h.at (Nat.le_refl _) hl e
theorem dl {a b c:Nat} (h:b≤c) (Gp:a≤b:=by decide):a≤c:=jc Gp h
def uf (P:Params) (x:Str):Int:=ZFast.zw12210062019545310541 (P.strHash x.cps)
noncomputable abbrev rf (a:Addr):Value:= .ref a
noncomputable abbrev vi (i:Int) (t:Tok):Value:= .int i t
noncomputable abbrev vn (n:Nat) (t:Tok):Value:= .int (n:Int) t
noncomputable abbrev vt (x:Str) (t:Tok):Value:= .str x t
abbrev cr (f:Addr) (l:List Value):Code:= .call (.ref f) ⟨l,[]⟩
noncomputable abbrev cb (f:String) (l:List Value):Code:= .call (.builtin f) ⟨l,[]⟩
noncomputable abbrev sl (l:List Nat):Str:=⟨l.toArray⟩
noncomputable abbrev fo (T:String) (l:List Value):Obj:=⟨.type T,none,.fields l.toArray,#[]⟩
noncomputable abbrev sq (T:String) (l:List Value) (n:Nat):Obj:=⟨.type T,none,.seq l.toArray n,#[]⟩
noncomputable abbrev j0 (xs:List Value) (n:Nat):Obj:=⟨.type "list",none,.seq xs.toArray n,#[]⟩
noncomputable abbrev dO (T:String) (l:List DictEntry) (n:Nat):Obj:=⟨.type T,none,.dict l.toArray n,#[]⟩
abbrev de (P:Params) (x:List Nat) (t:Tok) (v:Value):DictEntry:=⟨uf P ⟨x.toArray⟩,.str ⟨x.toArray⟩ t,v⟩
noncomputable abbrev cl (v:Value):Obj:=⟨.type "cell",none,.cell (some v),#[]⟩
noncomputable abbrev fN (l:List Value):Obj:=⟨.none,none,.fields l.toArray,#[]⟩
noncomputable def mA (m na nt:Nat) (res:(Nat→Addr)→(Nat→Tok)→Result) (upd:(Nat→Addr)→(Nat→Tok)→List (Obj→Obj)) (new:(Nat→Addr)→(Nat→Tok)→List Obj):jZ:={ids:=List.range m,na:=na,nt:=nt,res:=fun as ts=>res (fun i=>as.getD i 0) (fun i=>ts.getD i 0),upd:=fun as ts=>upd (fun i=>as.getD i 0) (fun i=>ts.getD i 0),new:=fun as ts=>new (fun i=>as.getD i 0) (fun i=>ts.getD i 0)}
noncomputable abbrev fI (i:Int) (ts:List Tok):Value:= .int i (ts.getD 0 0)
noncomputable abbrev fS (x:Str) (ts:List Tok):Value:= .str x (ts.getD 0 0)
noncomputable def rg (a n:Nat):List Nat:=List.range' a n
noncomputable def tg (ts:List Tok) (l:List Nat):List Tok:=l.map fun i=>ts.getD i 0
noncomputable def kr (K:Nat→Tok) (a n:Nat):List Tok:=(List.range' a n).map K
noncomputable def hb (x y:Nat×Nat) (b:Bool):Nat×Nat:=cond b x y
noncomputable def jw:List Nat→Nat
 | []=>1
 |x::l=>jw l*2^x.log2+(x-2^x.log2)
noncomputable def rP:Nat→Nat→Nat
 |0,n=>bif n.blt 144 then n else bif n.blt 208 then n+2856 else [3103,3111,3123,3127,3129,3135,3143,3148,3149,3150,3158,3165,3166,3173,3174,3181,3182,3188,3189,3190,3196,3197,3198,3204,3212,3224,3231,3239,3244,3245,3246,3266,3271,3900,3901,3902,3903,3905,3906,3912,3950,3965].getD (n-208) 0
 |d+1,x=>bif x.beq 0 then 0 else rP d (x%256^2^d)+rP d (x/256^2^d)*4096^2^d
def Gq (x k:Nat):Nat×Nat:=(rP 12 (x-2^k),k/8)
def kg (l:List Nat):Nat×Nat:=Gq (jw l) (jw l).log2
local macro_rules | `(tactic| walk_at "ob") => `(tactic| (intro X k; apply k))
theorem UJ (P:Params):(jB P).get 21=some (d0 P):=by kernel_rfl
theorem n9 (P:Params):(jB P).get 42=some (gY P):=by kernel_rfl
theorem n' (P:Params):(jB P).get 49=some (iK P):=by kernel_rfl
theorem vW (P:Params):(jB P).get 77=some (cR P):=by kernel_rfl
theorem oa (P:Params):(jB P).get 84=some (iL P):=by kernel_rfl
theorem YJ (P:Params):(jB P).get 96=some (e8 P):=by kernel_rfl
theorem Vx (P:Params):(jB P).get 101=some (fF P):=by kernel_rfl
theorem xl (P:Params):(jB P).get 106=some (nZ P):=by kernel_rfl
theorem uu {T:String} {name:Str} {id:String} {B:Builtin} {self:Value} {rest:List Value} {S:PySem.Spec} (slot:Slot T name id) {s:Shared} (hT:s.TypeIs self T)
  (entry:entryFor table id=some B) (args:argsOk id ⟨self::rest,[]⟩) (g:Meets (B ⟨self::rest,[]⟩) S) (prog:Program) (w:World) (A:Around) (R:Result→Shared→Prop)
  (h:S A R s):codeAny (model prog w) A (.call (.builtin id) ⟨self::rest,[]⟩) R s:=
 codeAny_call_builtin slot.plain entry (slot.check _ _ _ _ _ _ _ _ hT args (g prog w A R s h))
noncomputable def j7 (k nt:Nat) (res:List Tok→Value):jZ:={ids:=List.range k,na:=0,nt:=nt,res:=fun _ ts=> .ok (.ret (res ts)),upd:=fun _ _=>List.replicate k id,new:=fun _ _=> []}
theorem uz {kt:KT} {vs:List (Option (Addr×Obj))} {k nt:Nat} {res:List Tok→Value} {ts:List Tok} {s:Shared} {n:Nat} (hk:vs.length=k) (Z:Vp kt s.heap vs):
  kB vs (j7 k nt res) [] ts s {s with toks:=n}:=by
 subst hk
 refine ⟨fun b o e _=>e,by simp [j7],fun i p f h1 h2=> ?_,rfl,fun i a o h1 _=>by simp at h1,.nil,rfl,rfl,rfl⟩
 have:f=id:=by
  simp only [j7,List.getElem?_replicate] at h2
  split at h2
  ·exact (Option.some.inj h2).symm
  ·cases h2
 subst this
 exact Z.own p (List.mem_of_getElem? h1)
theorem kG {s:Shared} {a:Addr} {o:Obj} {T:String} (h:s.heap.get? a=some o) (hc:o.cls= .type T):s.TypeIs (.ref a) T:=⟨o,h,hc⟩
theorem Yh {prog:Program} {w:World} {A:Around} {s:Shared} {id:String} {b:Builtin} {args:List Value} {R:Result→Shared→Prop} (hk:builtinKind id=none) (hp:plainId id=true)
  (hb:entryFor table id=some b) (ha:argsOk id ⟨args,[]⟩)
  (hc:wpAny (model prog w) A.in1 (b ⟨args,[]⟩) (fun fin s'=> ∃v,fin= .done (.ret v)∧R (.ok (.ret v)) s') (fun e s'=>R (.error e) s') s):codeAny (model prog w) A (.call (.builtin id) ⟨args,[]⟩) R s:=by
 refine codeAny_call_builtin hp hb ?_
 have ml:=wpAny_mono hc (Q':=fun fin s'=>match fin with
   | .done f=>R (.ok f) s'
   | .again c'=>c'.quiet=true∧codeAny (model prog w) A c' R s')
  (fun fin s' h'=>by obtain ⟨v,rfl,hv⟩:=h';exact hv) fun _ _ h'=>h'
 simp only [checkBuiltinCall,hk]
 cases rQ:Manifest.signature? id with
 |none=>exact wpAny_pure ml
 |some sig=>
  simp only [argsOk,rQ] at ha
  have h2:Bind.checkArgs id sig ⟨args,[]⟩=pure ():=ha
  show wpAny _ A.in1 (Bind.checkArgs id sig ⟨args,[]⟩) _ _ s
  rw [h2];exact wpAny_pure ml
theorem k6 {w:World} {kt:KT} {d:Nat} {x:Str} {t:Tok} (hx:x.length≤1000000):
  j6 pw w kt (j7 0 1 fun ts=> .int ((x.length:Nat):Int) (ts.getD 0 0)) d (.call (.builtin "len") ⟨[.str x t],[]⟩) []:=by
 refine .of ?_;intro A R s S Z hR
 refine Yh kind_len plain_len entry_len (args_len1 _) ?_
 unfold Builtin.«len»
 refine wpAny_bind (m:=oneArg "len" _) (wpAny_pure ?_)
 refine wpAny_bind (m:=callSpecial? (.str x t) (Str.ofString "__len__")) (wpAny_callSpecial?_slot (name:=Str.ofString "__len__") (typeIs_str s x t) F.slot_str_len (call_gives F.slot_str_len (typeIs_str s x t) F.entry_str_len (F.args_str_len_1 _) (gives_str_len x t) ?_))
 show wpAny _ _ _ _ _ {s with toks:=s.toks+1}
 refine wpAny_bind (wpAny_holding (wpAny_pure ?_))
 refine wpAny_bind (wpAny_letGo ?_)
 show wpAny _ _ (if ((x.length:Nat):Int)<0 then _ else _) _ _ _
 rw [if_neg (by lia)]
 show wpAny _ _ (if ((x.length:Nat):Int)≥2^63 then _ else _) _ _ _
 rw [if_neg (by lia)]
 exact wpAny_bind (wpAny_mkInt (wpAny_pure ⟨_,rfl,hR _ [] [s.toks+1] rfl rfl (uz (n:=s.toks+1+1) rfl Z)⟩))
noncomputable abbrev jA (xs:Array Value) (n:Nat):Obj:=⟨.type "list",none,.seq xs n,#[]⟩
theorem Gr {w:World} {kt:KT} {d:Nat} {l:Addr} {xs:Array Value} {n:Nat} {x:Value} {b:Bool} (e:Value→Bool) (he: ∀y,y∈xs→MeetsSeq.EqGives y x (e y)) (hb:xs.any e=b):
  j6 pw w kt (j7 1 0 fun _=> .bool b) d (.call (.builtin "list.__contains__") ⟨[.ref l,x],[]⟩) [some (l,jA xs n)]:=by
 refine .of ?_;intro A R s S Z hR
 have hl:=Z.own _ (.head _)
 refine uu F.slot_list_contains (kG hl rfl) F.entry_list_contains (F.args_list_contains_2 _ _) (MeetsSeq.list_contains l xs n x e he) _ _ _ _ ⟨hl,?_⟩
 rw [hb]
 exact hR s [] [] rfl rfl (uz (n:=s.toks) rfl Z)
theorem xm {w:World} {kt:KT} {d:Nat} {l:Addr} {xs:Array Value} {n:Nat} {x:Value} (e:Value→Bool) (he: ∀y,y∈xs→MeetsSeq.EqGives y x (e y)) (j:Nat) (hj:j<xs.size) (Gs:(j:Int)<2^63-1)
  (hit:e xs[j]=true) (Gu: ∀m (hm:m<xs.size),m<j→e xs[m]=false):
  j6 pw w kt (j7 1 1 fun ts=> .int j (ts.getD 0 0)) d (.call (.builtin "list.index") ⟨[.ref l,x],[]⟩) [some (l,jA xs n)]:=by
 refine .of ?_;intro A R s S Z hR
 have hl:=Z.own _ (.head _)
 refine uu F.slot_list_index (kG hl rfl) F.entry_list_index (F.args_list_index_2 _ _) (MeetsSeq.list_index l xs n x e he j hj Gs hit Gu) _ _ _ _ ⟨hl,?_⟩
 exact hR _ [] [s.toks] rfl rfl (uz rfl Z)
theorem Gv {l:Addr} {xs:Array Value} {n:Nat} {k:Int} {t:Tok} {x:Value} (h0:0≤k) (oc:k<2^63) (hx:xs[k.toNat]? =some x):
  Meets (Builtin.«list.__getitem__» ⟨[.ref l,.int k t],[]⟩) (fun _ R s=>s.heap.get? l=some (jA xs n)∧R (.ok (.ret x)) s):=by
 intro prog w A R s ⟨hl,h⟩
 show wpAny _ _ (Builtin.List.listSubscript? (.int k t)>>=_) _ _ s
 refine wpAny_bind (wpAny_listSubscript_int (fitsIndex_of h0 oc) ?_)
 clear oc
 obtain ⟨j,rfl⟩:=Int.eq_ofNat_of_zero_le h0
 have rR:xs[j]? =some x:=hx
 show wpAny _ _ ((seqItemAt l j>>=fun r=>pure (r.map (j,·)))>>=_) _ _ s
 refine wpAny_bind (wpAny_bind (wpAny_seqItemAt hl rfl (wpAny_pure ?_)))
 rw [rR]
 first
  |exact wpAny_bind (wpAny_pure (wpAny_pure h))
  |exact wpAny_pure h
theorem uk {w:World} {kt:KT} {d:Nat} {l:Addr} {xs:Array Value} {n:Nat} {k:Int} {t:Tok} {nt:Nat} {res:List Tok→Value} {ts:List Tok} (ht:ts.length=nt) (h0:0≤k) (oc:k<2^63) (hx:xs[k.toNat]? =some (res ts)):
  j6 pw w kt (j7 1 nt res) d (.call (.builtin "list.__getitem__") ⟨[.ref l,.int k t],[]⟩) [some (l,jA xs n)]:=by
 refine .of ?_;intro A R s S Z hR
 have hl:=Z.own _ (.head _)
 refine uu F.slot_list_getitem (kG hl rfl) F.entry_list_getitem (F.args_list_getitem_2 _ _) (Gv (n:=n) h0 oc hx) _ _ _ _ ⟨hl,?_⟩
 exact hR s [] ts rfl ht (uz (n:=s.toks) rfl Z)
theorem xn (p q:Nat):sliceRange (p:Int) (q:Int) 1=List.range' p (q-p):=by
 unfold sliceRange
 have e:(if (1:Int)>0 then (if (p:Int)<q then ((q:Int)-p+1-1)/1 else 0) else (if (p:Int)>q then ((p:Int)-q-1-1)/(-1) else 0)).toNat=q-p:=by
  rw [if_pos (by lia)]
  split
  ·rw [Int.ediv_one];lia
  ·lia
 simp only [e]
 rw [List.range'_eq_map_range]
 apply List.map_congr_left
 intro k _
 lia
theorem rS (xs:List Nat): ∀(m p:Nat),(List.range' p m).filterMap (fun i=>xs.toArray[i]?)=(xs.drop p).take m
 |0,p=>by simp
 |m+1,p=>by
  rw [List.range'_succ,List.filterMap_cons]
  cases h:xs.toArray[p]? with
  |none=>
   have hp:xs.length≤p:=by simpa using h
   simp only
   rw [rS xs m (p+1),List.drop_eq_nil_of_le hp,List.drop_eq_nil_of_le (dx hp)]
   simp
  |some c=>
   have hp:xs[p]? =some c:=by simpa using h
   obtain ⟨hl,hc⟩:=List.getElem?_eq_some_iff.mp hp
   simp only
   rw [rS xs m (p+1),List.drop_eq_getElem_cons hl,List.take_succ_cons,hc]
noncomputable def cut (x:Str) (p q:Nat):Str:=⟨((x.cps.toList.drop p).take (q-p)).toArray⟩
theorem xo {w:World} {kt:KT} {d:Nat} {x:Str} {t:Tok} {a:Addr} {lo hi:Option (Int×Tok)} (p q:Nat) (hx:x.length≤1000000) (hq:q≤x.length) (hp:Builtin.Str.strSliceIndices (lo.map (·.1)) (hi.map (·.1)) 1 x.length=sliceRange p q 1):
  j6 pw w kt (j7 1 1 fun ts=> .str (cut x p q) (ts.getD 0 0)) d (.call (.builtin "str.__getitem__") ⟨[.str x t,.ref a],[]⟩) [some (a,⟨.type "slice",none,.fields #[partValue lo,partValue hi,.none],#[]⟩)]:=by
 refine .of ?_;intro A R s S Z hR
 have ha:=Z.own _ (.head _)
 refine uu F.slot_str_getitem (typeIs_str s x t) F.entry_str_getitem (F.args_str_getitem_2 _ _) (meets_str_getitem_slice x t a lo hi none rfl) _ _ _ _ ⟨⟨_,ha,rfl,rfl⟩,?_⟩
 have Gw:slicePicked x lo hi none=List.range' p (q-p):=by
  rw [←xn,←hp];rfl
 obtain ⟨⟨cs⟩⟩:=x
 have hc:(List.range' p (q-p)).filterMap (fun i=>cs.toArray[i]?)=(cs.drop p).take (q-p):=rS cs _ _
 unfold sliceMade
 rw [Gw]
 split
 ·rename_i hw
  have rT:(List.range' p (q-p)).length=cs.length:=by simpa [Str.length] using hw
  have e:cut ⟨⟨cs⟩⟩ p q=⟨⟨cs⟩⟩:=by
   unfold cut
   have hl:q-p=cs.length:=by simpa using rT
   by_cases h0:p=0
   ·subst h0
    simp only [List.drop_zero,hl,List.take_length]
   ·have Xf:q≤cs.length:=by simpa [Str.length] using hq
    have:cs= []:=List.eq_nil_of_length_eq_zero (by lia)
    subst this
    simp
  have:=hR s [] [t] rfl rfl (uz (n:=s.toks) rfl Z)
  rw [show (j7 1 1 fun ts=>Value.str (cut ⟨⟨cs⟩⟩ p q) (ts.getD 0 0)).res [] [t]= .ok (.ret (.str ⟨⟨cs⟩⟩ t)) from by show Except.ok (Flow.ret (Value.str (cut ⟨⟨cs⟩⟩ p q) t))=_;rw [e]] at this
  exact this
 ·refine ⟨?_,?_⟩
  ·show ((List.range' p (q-p)).filterMap (fun i=>cs.toArray[i]?)).toArray.size≤_
   rw [hc]
   have rR:cs.length≤1000000:=by simpa [Str.length] using hx
   rw [List.size_toArray]
   exact jc (List.length_take_le' _ _) (jc (by rw [List.length_drop];exact Nat.sub_le _ _) (jc rR (Nat.le_of_ble_eq_true rfl)))
  ·have:=hR _ [] [s.toks] rfl rfl (uz (n:=s.toks+1) rfl Z)
   show R (.ok (.ret (.str ⟨((List.range' p (q-p)).filterMap (fun i=>cs.toArray[i]?)).toArray⟩ _))) _
   rw [hc]
   exact this
noncomputable def Up (w:Int):List Nat:=match (Int.fmod (Int.fdiv w 4) 4).toNat with
 |0=> []
 |1=> [9]
 |2=> [10]
 |_=> [13,32]
def jg (w:Int):Str:=⟨(Up w).toArray⟩
noncomputable def Vu:Stmt→List Stmt
 | .FunctionDef _ _ body _ _ _ _ _ _ _=>body
 |_=> []
def Gx:Stmt:=(Vu (top 9)).getD 2 default
def xq:Stmt:=(Vu (top 8)).getD 0 default
noncomputable def xr (st:Stmt) (name qual:Str) (globals:Addr) (closure:List (Str×Addr)) (defaults pm code ct:Value) (builtins:Addr):FuncData:=match st with
 | .FunctionDef _ args body _ _ _ scope _ _ _=>{name,qualname:=qual,params:=args,body:= .stmts body,scope,globals,closure,defaults,kwdefaults:= .none,pyModule:=pm,code,closureTuple:=ct,builtins}
 |_=>default
noncomputable def xu:Str:=⟨#[95,108,97,119,95,116,117,114,110,46,60,108,111,99,97,108,115,62,46,114,101,97,100]⟩
def Gy (bT bU aT:Addr) (ct:Value):Obj:=⟨.type "function",none,.func (xr Gx ⟨#[114,101,97,100]⟩ xu 3 [(⟨#[116,101,120,116]⟩,bT),(⟨#[97,116]⟩,bU)] .none (.str ⟨#[108,97,119,95,112,107,48,48,51,53,95,48,49]⟩ 262) (.ref aT) ct 0),#[]⟩
noncomputable def Gz (v0:Value) (q:Str) (qt:Tok) (rest:List Value):Obj:=⟨.type "code",none,.fields (v0:: .str q qt::rest).toArray,#[]⟩
def km (T:Str) (p:Nat):Str:=cut T p (min (p+1) T.length)
noncomputable def jh (T:Str) (p:Nat):Nat:=min (p+1) T.length
def y7 (T:Str) (p:Nat):Int:=if (km T p).cps.toList== [10] then 1 else 0
noncomputable def mm:List DictEntry→Nat→Value→List DictEntry
 | [],_,_=> []
 |e::l,0,v=>⟨e.hash,e.key,v⟩::l
 |e::l,i+1,v=>e::mm l i v
def jO (i:Nat) (v:Value):Obj→Obj
 |⟨c,d,.dict es n,s⟩=>⟨c,d,.dict ⟨mm es.toList i v⟩ n,s⟩
 |o=>o
noncomputable def vS (p:Nat) (t:Tok) (e:Nat):Obj:=⟨.type "list",none,.seq #[.int (p:Int) t] e,#[]⟩
structure jF where
 aL:Addr
 aD:Addr
 aS:Addr
 aE:Addr
 bw:Addr
 aF:Addr
 aT:Addr
 bT:Addr
 bU:Addr
 bW:Addr
 k1:Tok
 k2:Tok
 k3:Tok
 k4:Tok
 tw:Tok
 j1:Tok
 j2:Tok
 j3:Tok
 j4:Tok
 j5:Tok
 tT:Tok
 qt:Tok
 s1:Value
 s2:Value
 s3:Value
 ct:Value
 v0:Value
 cr:List Value
 ay:Nat
 T:Str
namespace jF
variable (L:jF) (P:Params)
noncomputable def lex:Obj:=⟨.ref 59,some L.aD,.plain,#[]⟩
def bc (l:Int) (lt:Tok):Obj:=⟨.type "dict",none,.dict #[⟨uf P ⟨#[108,105,110,101,110,111]⟩,.str ⟨#[108,105,110,101,110,111]⟩ L.k1,.int l lt⟩,⟨uf P ⟨#[105,110,115,116,114,101,97,109]⟩,.str ⟨#[105,110,115,116,114,101,97,109]⟩ L.k2,.ref L.aS⟩,⟨uf P ⟨#[119,104,105,116,101,115,112,97,99,101]⟩,.str ⟨#[119,104,105,116,101,115,112,97,99,101]⟩ L.k3,.str ⟨#[10,9,13,32]⟩ L.tw⟩,⟨uf P ⟨#[112,117,115,104,98,97,99,107]⟩,.str ⟨#[112,117,115,104,98,97,99,107]⟩ L.k4,.ref L.bw⟩] 4,#[]⟩
noncomputable def src:Obj:=⟨.ref 59,some L.aE,.plain,#[]⟩
def b9:Obj:=⟨.type "dict",none,.dict #[⟨uf P ⟨#[108,105,110,101,110,111]⟩,.str ⟨#[108,105,110,101,110,111]⟩ L.j1,L.s1⟩,⟨uf P ⟨#[105,110,115,116,114,101,97,109]⟩,.str ⟨#[105,110,115,116,114,101,97,109]⟩ L.j2,.none⟩,⟨uf P ⟨#[119,104,105,116,101,115,112,97,99,101]⟩,.str ⟨#[119,104,105,116,101,115,112,97,99,101]⟩ L.j3,L.s2⟩,⟨uf P ⟨#[112,117,115,104,98,97,99,107]⟩,.str ⟨#[112,117,115,104,98,97,99,107]⟩ L.j4,L.s3⟩,⟨uf P ⟨#[114,101,97,100]⟩,.str ⟨#[114,101,97,100]⟩ L.j5,.ref L.aF⟩] 5,#[]⟩
def fn:Obj:=Gy L.bT L.bU L.aT L.ct
def code:Obj:=Gz L.v0 xu L.qt L.cr
def cT:Obj:=⟨.type "cell",none,.cell (some (.str L.T L.tT)),#[]⟩
def cA:Obj:=⟨.type "cell",none,.cell (some (.ref L.bW)),#[]⟩
def aV (p:Nat) (tp:Tok):List (Addr×Obj):= [(L.aF,L.fn),(L.aT,L.code),(L.bT,L.cT),(L.bU,L.cA),(L.bW,vS p tp L.ay)]
def vs (l:Int) (lt:Tok) (p:Nat) (tp:Tok):List (Addr×Obj):= [(L.aL,L.lex),(L.aD,L.bc P l lt),(L.aS,L.src),(L.aE,L.b9 P),(L.aF,L.fn),(L.aT,L.code),(L.bT,L.cT),(L.bU,L.cA),(L.bW,vS p tp L.ay)]
end jF
def rU (T:Str) (p e:Nat):jZ:={ids:=List.range 5,na:=0,nt:=2,res:=fun _ ts=> .ok (.ret (.str (km T p) (ts.getD 0 0))),upd:=fun _ ts=> [id,id,id,id,fun _=>vS (jh T p) (ts.getD 1 0) e],new:=fun _ _=> []}
def U0 (T:Str) (p:Nat) (l:Int) (e:Nat):jZ:={ids:=List.range 9,na:=0,nt:=3,res:=fun _ ts=> .ok (.ret (.str (km T p) (ts.getD 0 0))),upd:=fun _ ts=> [id,jO 0 (.int (l+y7 T p) (ts.getD 2 0)),id,id,id,id,id,id,fun _=>vS (jh T p) (ts.getD 1 0) e],new:=fun _ _=> []}
noncomputable def rV:Stmt→List Stmt
 | .For _ _ body _ _=>body
 |_=> []
noncomputable def xv:Stmt→List Stmt
 | .If _ b _ _=>b
 |_=> []
noncomputable def xx:Stmt→List Stmt
 | .If _ _ b _=>b
 |_=> []
noncomputable def rW:Stmt→Scope
 | .FunctionDef _ _ _ _ _ _ scope _ _ _=>scope
 |_=>default
noncomputable def jd (s:Stmt) (it:Value) (env:Env):Code:=match s with
 | .For target _ body orelse _=> .forLoop target it body orelse env
 |_=> .call .none ⟨[],[]⟩
def uF:Stmt:=(Vu (iJ 2)).getD 3 default
def UG:Stmt:=(xv ((rV uF).getD 1 default)).getD 0 default
def UH:Stmt:=(xx ((rV uF).getD 1 default)).getD 2 default
noncomputable def GA:Str:=⟨#[95,110,101,116,114,99,108,101,120,46,103,101,116,95,116,111,107,101,110,46,60,108,111,99,97,108,115,62,46]⟩
def kA (fr:Addr):Env:={scope:=rW (iJ 2),locals:=fr,globals:=3,cells:= [],qual:=GA,func:=some 49,code:= .ref 48,frame:=some fr,builtins:=0}
noncomputable def xA (e:DictEntry):Obj→Obj
 |⟨c,d,.dict es n,s⟩=>⟨c,d,.dict ⟨es.toList++ [e]⟩ (n+1),s⟩
 |o=>o
structure kl where
 fr:Addr
 aM:Addr
 aI:Addr
 f1:Tok
 f2:Tok
 f3:Tok
 te:Tok
namespace kl
variable (G:kl) (L:jF) (P:Params)
def xB (tk:Str) (tt:Tok):Obj:=⟨.type "frame",none,.dict #[⟨uf P ⟨#[115,101,108,102]⟩,.str ⟨#[115,101,108,102]⟩ G.f1,.ref L.aL⟩,⟨uf P ⟨#[116,111,107,101,110]⟩,.str ⟨#[116,111,107,101,110]⟩ G.f2,.str tk tt⟩,⟨uf P ⟨#[102,105,116,101,114]⟩,.str ⟨#[102,105,116,101,114]⟩ G.f3,.ref G.aI⟩] 3,#[]⟩
def cG (f4:Tok) (tk:Str) (tt:Tok) (ch:Str) (tc:Tok):Obj:=⟨.type "frame",none,.dict #[⟨uf P ⟨#[115,101,108,102]⟩,.str ⟨#[115,101,108,102]⟩ G.f1,.ref L.aL⟩,⟨uf P ⟨#[116,111,107,101,110]⟩,.str ⟨#[116,111,107,101,110]⟩ G.f2,.str tk tt⟩,⟨uf P ⟨#[102,105,116,101,114]⟩,.str ⟨#[102,105,116,101,114]⟩ G.f3,.ref G.aI⟩,⟨uf P ⟨#[99,104]⟩,.str ⟨#[99,104]⟩ f4,.str ch tc⟩] 4,#[]⟩
noncomputable def bX:Obj:=⟨.type "method",none,.fields #[.ref 42,.ref L.aL],#[]⟩
noncomputable def cI:Obj:=⟨.type "callable_iterator",none,.fields #[.ref G.aM,.str ⟨#[]⟩ G.te,.bool false],#[]⟩
end kl
noncomputable def YI:Obj:=⟨.type "callable_iterator",none,.fields #[.none,.none,.bool true],#[]⟩
def xC (T:Str) (p:Nat) (l:Int) (e:Nat):jZ:={ids:=List.range 10,na:=0,nt:=3,res:=fun _ ts=> .ok (.ret (.str (km T p) (ts.getD 0 0))),upd:=fun _ ts=> [id,jO 0 (.int (l+y7 T p) (ts.getD 2 0)),id,id,id,id,id,id,fun _=>vS (jh T p) (ts.getD 1 0) e,id],new:=fun _ _=> []}
def Vr (tk:Str) (p:Nat) (l:Int) (ch:Str) (e:Nat):jZ:={ids:=List.range 12,na:=0,nt:=4,res:=fun _ ts=> .ok (.ret (.str tk (ts.getD 0 0))),upd:=fun _ ts=> [id,jO 0 (.int l (ts.getD 2 0)),id,id,id,id,id,id,fun _=>vS p (ts.getD 1 0) e,fun o=>jO 3 (.str ch (ts.getD 3 0)) (jO 1 (.str tk (ts.getD 0 0)) o),id,id],new:=fun _ _=> []}
def Vq (tk:Str) (p:Nat) (l:Int) (ch:Str) (e:Nat):jZ:={ids:=List.range 12,na:=0,nt:=4,res:=fun _ ts=> .ok .next,upd:=fun _ ts=> [id,jO 0 (.int l (ts.getD 2 0)),id,id,id,id,id,id,fun _=>vS p (ts.getD 1 0) e,fun o=>jO 3 (.str ch (ts.getD 3 0)) (jO 1 (.str tk (ts.getD 0 0)) o),id,fun _=>YI],new:=fun _ _=> []}
def xD (P:Params) (kt:Tok) (ch:Str) (t:Tok):DictEntry:=⟨uf P ⟨#[99,104]⟩,.str ⟨#[99,104]⟩ kt,.str ch t⟩
def xE (P:Params) (tk:Str) (p:Nat) (l:Int) (ch:Str) (e:Nat):jZ:={ids:=List.range 12,na:=0,nt:=5,res:=fun _ ts=> .ok (.ret (.str tk (ts.getD 0 0))),upd:=fun _ ts=> [id,jO 0 (.int l (ts.getD 2 0)),id,id,id,id,id,id,fun _=>vS p (ts.getD 1 0) e,fun o=>xA (xD P (ts.getD 4 0) ch (ts.getD 3 0)) (jO 1 (.str tk (ts.getD 0 0)) o),id,id],new:=fun _ _=> []}
def xF (P:Params) (tk:Str) (p:Nat) (l:Int) (ch:Str) (e:Nat):jZ:={ids:=List.range 12,na:=0,nt:=5,res:=fun _ ts=> .ok .next,upd:=fun _ ts=> [id,jO 0 (.int l (ts.getD 2 0)),id,id,id,id,id,id,fun _=>vS p (ts.getD 1 0) e,fun o=>xA (xD P (ts.getD 4 0) ch (ts.getD 3 0)) (jO 1 (.str tk (ts.getD 0 0)) o),id,fun _=>YI],new:=fun _ _=> []}
def xG (p:Nat) (l:Int) (e:Nat):jZ:={ids:=List.range 12,na:=0,nt:=2,res:=fun _ ts=> .ok .next,upd:=fun _ ts=> [id,jO 0 (.int l (ts.getD 1 0)),id,id,id,id,id,id,fun _=>vS p (ts.getD 0 0) e,id,id,fun _=>YI],new:=fun _ _=> []}
def Yc (tk:Str) (p:Nat) (l:Int) (e:Nat):jZ:={ids:=List.range 10,na:=0,nt:=3,res:=fun _ ts=> .ok (.ret (.str tk (ts.getD 0 0))),upd:=fun _ ts=> [id,jO 0 (.int l (ts.getD 2 0)),id,id,id,id,id,id,fun _=>vS p (ts.getD 1 0) e,id],new:=fun _ _=> []}
def vP:=jw [4294967296]
def vB:=jw [6727663616]
def vu:=jw [4530769556]
def UX:=jw [0x11c0000001c0000001c0c,vP,16784668]
def YY:=jw [2012527788289]
def mn:=jw [0x10b08080808050b0b940909]
def mq:=jw [0x10109090991090a0a0a0a91]
def xH:=jw [0x10508089108080803060303949401010101010101019101]
def eM:=jw [1159876972180]
def fH:=jw [0x11e0000001e0000001e,vP,73502]
def yI:=jw [1730898100481]
def mr:=jw [0x10f910f0f0f93200600002020941d1d1d1d1d1d1d1d911d]
def iN:=jw [0x120202020090909949423232323232323239123,UX]
def iO:=jw [0x12121212191151591151515940e21212121092020202091]
def Ju:=jw [0x11d0000001d0000001d0d,vP,16784925]
def J9:=jw [0x14d4d944b4b014b4b4b914b4c4c4c4c91]
def Jv:=jw [1103823491476]
def g8:=jw [444834057851392]
def iP:=jw [0x1000e150e000e0e94]
def Y3:=jw [0x1939393939300009200]
def mw:=jw [0x194930000000300939394]
def uN:=jw [xH,0x1020202029103e50407e2]
def uO:=jw [xH,483]
def mx:=jw [0x1180e0e940e161616169193]
def my:=jw [0x19394949191d094949401019101]
def rX:=jw [0x11d001c1c0000001c910000001c94]
def YN:=jw [257,vB,0x10200010100000001]
def g9:=jw [0x1949403030303030303039103,YY]
def iQ:=jw [0x10822222222050505949425252525252525259125,fH,256]
def iR:=jw [0x12323232391111191111111940a23232323052222222291]
def mz:=jw [91272664685233297]
def UY:=jw [0x13838383891393939949437373737373737379137]
def iS:=jw [0x1212121210a0a0a949424242424242424249124,Ju]
def iT:=jw [0x12222222291161691161616940f222222220a2121212191]
def UZ:=jw [0x139393939913a3a3a949438383838383838389138]
def iU:=jw [0x10000000f0000000f]
def xI:=jw [0x1d0d203940202910202020303010191010101030300030303949406060606060606069106]
def iV:=jw [0x10300000404040403030394]
def V0:=jw [21382804,UX]
def Y4:=jw [356539282310545,mz]
def iW:=jw [0x10c0c0b0c0c0c910c,vu,75731118448563092]
def Jw:=jw [0x111110b11111191111212121291d394d59413131394]
def mB:=jw [0x11717171a051a1a94]
def mC:=jw [0x118180d18181891181919191991]
def iX:=jw [0x194e494eb0101e194,YY]
def g':=jw [0x1070707d1940405030303940101070101019101]
def mD:=jw [17698452,eM,0x10e0b0b0b0b0e16161616]
def Ja:=jw [17698452,vu,0x1141414930ed1940e13]
def Jb:=jw [0x114141493d1940e0e13]
def mE:=jw [0x1000d140d000d0d94]
def mF:=jw [1116758869137,xI,256]
def hA:=jw [J9,264,fH,256]
def rY:=jw [0x1030505939494949494930000920000f4f503039404040303949393939300,yI,6737335049]
def xJ:=jw [mn,410,mq,mn,411,mq,mn,412,mq,mn,413]
def xK:=jw [mq,0x193021212121212029102020293d1940304930a10101010100a910a0a0a93d1940303f80606930a0e0e0e0e0e0a910a0a0a9303030b0b0b0303940d93930909]
def xM:=jw [0x19302151515151502910202029303040000]
def xN:=jw [500,vP,0x193931993181818189118181818911818939491910394]
def Y5:=jw [16974740,vP,0x1919393931d931c1c1c1c911c1c1c1c911c1c939494919103]
def xO:=jw [mr,0x19393239322912222930f2121212121]
def xP:=jw [0x11e1e1e1e919494242491249125,mr,0x19393289327912727930f2626262626]
def JX:=jw [0x193931d1d1d1d911d1e1e1e1e91]
def Jx:=jw [518982423741332]
def hB:=jw [0x1000404041d1d911d1d1dd6940400040494941f1f1f1f1f1f1f1f911f]
def hH:=jw [0x10004040400040494]
def hK:=jw [0x11d1d1d1d91041d1d1d1d04]
def xQ:=jw [0x10004d10494041d1d911d1d1dd194040400f204049494]
def hN:=jw [0x11d1d911d1d1dd194040404f8040494]
def YO:=jw [0x1010194940101940101949300,vP,0x1910393020202029102020202910202939494919194ea9101,g9]
def YP:=jw [0x1010194f0eb010101010194f094]
def iY:=jw [0x194919a060606d394d594019394949494059393030303039103,YY]
def mG:=jw [0x13939393839393991]
def mH:=jw [73364,vB,0x11f001e1e0000001e]
def iZ:=jw [0x14f93934b4b014b4b4b914b4c4c4c4c91]
def od:=jw [73108,vB,0x11e001d1d0000001d]
def V1:=jw [0x10a9393010101019101]
def oe:=jw [280,vB,0x11919199400180000001800180018]
def rZ:=jw [0x194e494eb010101d794,YY]
def og:=jw [298603306287119,vB,0x19b1110000f0f0000000f]
def i3:=jw [17698452,eM,vu,0x10e0b0b0b0b0e16161616]
def Vl:=jw [17698452,vu,0x1141414930ed0940e13]
def Vm:=jw [0x114141493d0940e0e13]
def oh:=jw [0x10d0b0b0b0b0d151515150d0d0d940d0d0d0d940d0d94]
def oi:=jw [0x1170d0d940d151515159193]
def Vn:=jw [0x1131313930dd0940d120d0d0d940d0d94]
def Vo:=jw [0x113131393d0940d0d12]
def oj:=jw [0x13333333233333391]
def xR:=jw [1228865937041,mr,0x193932d932c912c2c930f2b2b2b2b2b]
def r9:=jw [4530803859,vP,0x19c1891189b171717179117179394949191d0949a13,iP,413,eM,0x11994000000190000001900000019,vB,0x19e1b1a00191900000019]
def om:=jw [0x1a00e0b0b0b0b0e9f,mx,417,iP,418]
def Y6:=jw [vu,0x1169116161693d6940e0e0e9494]
def Y7:=jw [303551453793811]
def sa:=jw [0x12193931f1f1e1f1f1f911f1f1f1e1f1f1f911f1f1f1e1f1f1f911f1f931e911e1e1e]
def hO:=jw [0x1434343424343439143]
def oo:=jw [0x14343424241414040,mw,1099511643967]
def sb:=jw [92205316749344660,vB,0x13f4848489400470000004700470047]
def xS:=jw [0x19409090909949b000000090994930000000400930e0e93940909940f0f149393121210121212911212121012121291121212101212129112129310911010109a0009090a00f7f50909940b0b0909940909940a0a9393939393939300,oe,0x118000000180000001809,vP,26482968,g8,0x118941b1b1b941b1b,vB,0x11c0000001c0000001c0c0c0c9c000009001a1a1a1a911b1a1a1a1a1900181800000018,vP,26483996,g8,315693510958879,rX,0x109099493090994931e1e1e1e911f1e1e1e1e,vP,102666,my,0x1912393222222229122222222912222,iN,413,iO,iN,414,iO,iN,415,iO,iN,416,iO,iN,417]
def xT:=jw [iO,0x1940f94259393232323239123]
def xU:=jw [75445232179153300,rX,0x109099301270127912701270a939493]
def xV:=jw [4455598351,Y3,0x12f2f2e2e2d2d2c2c,mw,76587]
def xW:=jw [338186449136427,vB,0x10f00000f2b3434349400330000003300330033]
def mI:=jw [17622932,rX,17422857]
def mJ:=jw [xJ,mq,mn,414,xK,1786807058591,xM,107169,xN,1804341025699]
def se:=jw [xO,421,xP,1817478572710]
def oq:=jw [0x12b2b2b2b2b2b2b2b912bf5,xQ]
def sf:=jw [0x10101010194ec94eb010101d794f2]
def mK:=jw [0x1e9efd394d5940194e901019b0707939494]
def sg:=jw [0x119939317171617171791171717161717179117171716171717911717931691161616]
def ot:=jw [0x1010101019401dd0101db0101]
def ou:=jw [0x10294000000020000000200000002,vB,0x1010101949a0401010300020200000002]
def VH:=jw [0x1940a0a0a0a949a0c,YN]
def mM:=jw [0x1a50e0b0b0b0b0ea4,mx,422,iP,423]
def VI:=jw [rY,282613294665993]
def mN:=jw [4311865236,YP,iY]
def mO:=jw [0x1e994e901e994019b0707939494]
def xX:=jw [0x12394000000230000002300000023,vB,0x12b939329292829292991292929282929299129292928292929912929932891282828a3252400232300000023]
def YA:=jw [0x14d4d944b4b014b4b4b914b9193934b]
def YB:=jw [0x14d4d944b4b014b4b4b914b4b4b914b4b9193934b]
def ov:=jw [xJ,xK,1782512091294,xM,106912,xN,1800046058402]
def si:=jw [xO,420,xP,1813183605413]
def sj:=jw [1228865937041,mr,0x19393329331913131930f3030303030]
def sk:=jw [se,xR,1826152722344]
def sm:=jw [0x12a2a2a2a2a2a2a2a912af5,xQ]
def so:=jw [sf,72340808223359233]
def sr:=jw [vB,0x10400030300000003]
def su:=jw [0x1f3f50d0d0c0c93939393930802,vP,0x19b93931493129112120e0e0e1313139a93931193101010109110101010911010939494919194940a0a910a9106]
def xY:=jw [0x10e0e940e0e949300,vu,0x194000000010000000100000001,YN,26870542,vu,iU,vu,iU]
def sv:=jw [0x117939315151415151591151515141515159115151514151515911515931491141414]
def xZ:=jw [r9,0x123939321212021212191212121202121219121212120212121912121932091202020,mD]
def sx:=jw [0x1aa0e0b0b0b0b0ea9,mx,427,iP,428]
def ow:=jw [497,iX,497,rZ,0x1010194f0eb01010101d794f1]
def ox:=jw [YO,498,iX,4325872882,rZ]
def x':=jw [g9,498,iX,0x1d49401d79401d794f2]
def oy:=jw [66196,vB,0x10101019400020000000200020002]
def y':=jw [0x1940000000100000001000000010d0d0d940d0d940d0d949300,YN,269]
def za:=jw [4513961107,vP,0x19c1791179b161616169116169394949191d0949a12,mE,0x118940000001800000018000000180d0d0d0d949d,vB,0x19e1b1a00181800000018,sa,oh,0x1a00d0b0b0b0b0d9f,oi,417,mE,418]
def oz:=jw [0x1159115151593d6940d0d0d94940d0d0d94]
def zb:=jw [xZ,om,eM,0x12594000000250000002500000025,vB,0x12f93932d2d2c2d2d2d912d2d2d2c2d2d2d912d2d2d2c2d2d2d912d2d932c912c2c2ca3272600252500000025,mD]
def sy:=jw [0x12d940000002d0000002d0000002d,vB,0x13333933291323232a82f2e002d2d0000002d,oj,oj,0x135939333333233333391]
def oA:=jw [0x15757575657575791570e0e940e]
def sA:=jw [1768839112858,g',1777429047452,g',1786018982046,g',1794608916640]
def oB:=jw [0x10993930101070101019101]
def oC:=jw [0x10303949394030394940303940303940303949300,vP,0x191069305050505910505050591050593949491919494010191019103,xI,26974720,iV,412,mF,106141,iV,415,mF,106912,iV,418,mF,107683,iV,421]
def oD:=jw [0x194d394030893930606060691060404040491]
def zc:=jw [0x11a9405050505949b000000050594930000000404049394949393939494939394949494940400930a0a93940505940b0b1093930e0e0c0e0e0e910e0e0e0c0e0e0e910e0e0e0c0e0e0e910e0e930c910c0c0c9a0005050600f7f5050594070705059405059406069393939393939300,vB,0x11a0000001a0000001a051b1b1b94001a0000001a001a001a,vP,26483482,g8,0x11a941d1d1d941d1d,vB,0x10808089c000005001c1c1c1c911d1c1c1c1c1b001a1a0000001a,fH,404,g8,317901157703969,mH,0x1050594930505949320202020912120202020,vP,102662,my,0x1912593242424249124242424912424,iQ,413,iR,iQ,414,iR,iQ,415,iR,iQ,416,iR,iQ,417]
def zf:=jw [iR,0x1940b94279393252525259125]
def zg:=jw [74314917045667220,mH,0x1050593012901299129012906939493]
def zh:=jw [4388488459,Y3,0x12d2d9493000000030303939494939393949494949494940300939394313130302f2f2e2e]
def zi:=jw [344783552589101,vB,0x10b00000b2d3a3a3a9400390000003900390039]
def zj:=jw [sb,0x100d1940d0d910d0d0d94050b050005050594]
def sC:=jw [xS,xT,118946,xU,1099527791507,xV,1737918251008,xW,0x10b0a090994a71111110b09a600a5,Jv,17500840,Jv,1138385332905]
def zk:=jw [4449646648,Y3,0x13d3d3c3c3b3b3a3a,mw,1099511642425]
def oE:=jw [90516441018218900,vB,0x100d19411119111111194090f090009090994394242429400410000004100410041]
def oF:=jw [68340,yI,6737335108]
def oG:=jw [vP,102666,my,0x19193933793363636369136363636913636]
def zl:=jw [0x10b0a010191010101940a090994d1940b3939390909943b9393373737379137,Jv]
def zm:=jw [0x119940a0a0a0a949b0000000a0a94930000000400930f0f93940a0a941010159393131311131313911313131113131391131313111313139113139311911111119a000a0a0b00f7f50a0a940c0c0a0a940a0a940b0b9393939393939300,vB,0x11900000019000000190a1a1a1a9400190000001900190019,vP,26483225,g8,0x119941c1c1c941c1c,vB,0x11d0000001d0000001d0d0d0d9c00000a001b1b1b1b911c1b1b1b1b1a00191900000019,vP,26484253,g8,316797334331424,od,0x10a0a94930a0a94931f1f1f1f91201f1f1f1f,vP,102667,my,0x1912493232323239123232323912323,iS,413,iT,iS,414,iT,iS,415,iT,iS,416,iT,iS,417]
def zo:=jw [iT,0x1941094269393242424249124]
def zp:=jw [75727810962524820,od,0x10a0a9301280128912801280b939493]
def zq:=jw [4472375824,Y3,0x130302f2f2e2e2d2d,mw,76844]
def zr:=jw [339285977607212,vB,0x1100000102c3535359400340000003400340034]
def zt:=jw [17436174,vP,102667,my,0x19193933893373737379137373737913737]
def zu:=jw [0x10c0b010191010101940b0a0a94d1940c3a3a3a0a0a943c9393383838389138,Jv]
def zv:=jw [4466884415,Y3,0x14444434342424141,mw,1099511644224]
def zx:=jw [92486796037865620,vB,0x10a0a0a94404949499400480000004800480048]
def sD:=jw [xS,iO,iN,418,xT,118947,xU,1099527791763,xV,1737935028224,xW,0x10b0a090994a81111110b09a700a6,Jv,17500841,Jv,1138385333162]
def oH:=jw [si,xR,1821857755047]
def oI:=jw [rY,0x10109090991090909910909,mJ,Y5,1224561728797]
def oJ:=jw [sk,sj,1834826871978]
def oK:=jw [0x19193930c930b910b0b04040494919d09090993949c010801919b060606939a040000939494949404040494939300]
def oL:=jw [iW,iW,iW,iW]
def sE:=jw [0x191939311930b910b0b040e0e0e0404941093930c0c0b0c0c0c910c]
def zy:=jw [0x118930d910d0d040505939494949494930000920000131313040494159393]
def sF:=jw [mB,414,mC,mB,415,mC,mB,416,mC,mB,417]
def zz:=jw [mC,0x1911f931e1e1e1e911e1e1e1e911e1e93949191d09494940d0d910d91040000940000040494931a1a1a1c9393]
def zA:=jw [vP,0x19191d6949494940d0d910d9104]
def sG:=jw [x',so,iY,498,mK]
def sH:=jw [su,0x10293070b0b949d000000f49c930ff80f0f161616]
def sI:=jw [xY,og,sg,296930752990868]
def sJ:=jw [ot,66009,ou,iU,257,iU,og,sg,16843156]
def sL:=jw [0x10100000001000000010ae5940a,vP,0x10a0a0a0a949b000201]
def sM:=jw [r9,sa,i3,om,eM,xX,i3]
def zB:=jw [za,1155565161876,xX,oh,0x1a50d0b0b0b0b0da4,oi,422,mE,423]
def zC:=jw [zb,mM,eM,0x13194000000310000003100000031,vB,0x13939933891383838a8333200313100000031,mG,mG,0x13b939339393839393991,mD,sx]
def zD:=jw [0x1af0e0b0b0b0b0eae,mx,432,iP,433]
def sN:=jw [0x14b4b4b4a4b4b4b914b0e0e940e]
def sO:=jw [rY,0x10109090991090909910909,ov,Y5,1224561728797]
def zE:=jw [497,iX,497,rZ,497,mN,497,mO]
def zF:=jw [YO,6792778995,YY,0x19401d79401d794f3,YY,499]
def zG:=jw [YO,6792778996,YY,0x19401d79401d794f4,YY,500]
def zH:=jw [0x1940a0a0a949300,YN,0x10394000000030000000300000003,sr,6788089236]
def zI:=jw [y',0x10e940000000e0000000e0000000e0d0d0d940000000e0000000e0d0d0d949a03,vB,0x19b1110000e0e0000000e]
def zJ:=jw [xY,og,sv,296930752990868]
def zK:=jw [ot,0x101010194d09401d8,ou,iU,257,iU,og,sv,16843156]
def zL:=jw [y',0x1f3f510100f0f93939393930a04039203,vP,0x19193931493131313139113131313911313939494919194940c0c910c9108]
def zM:=jw [0x19193931993159115151111111618939314141414]
def zN:=jw [0x10d0d0d949a9312f812121b1d939319191519191991]
def zO:=jw [0x1940b0b0b949300,YN,0x101940b00000b0b949494940a0a910a910a0a,vB,257,vP,283674016808960,vB,0x19a0d0d910d0d0b0b0b94930c91949300]
def zP:=jw [0x1030000000300000003020101949a06,vP,16843779,g8,0x10394080808940808,sr,451933722969349]
def zQ:=jw [0x12893932626222626269126262622262626912626262226262691262693229122222225252524252525912591259324912424]
def zR:=jw [0x132939330302c303030913030302c303030913030302c303030913030932c912c2c2c2f2f2f2e2f2f2f912f912f932e912e2e]
def zS:=jw [0x13b9393393922393939913939392239393991393939223939399139399322912222222f2f2f2e2f2f2f912f]
def zT:=jw [0x13991399338913838,mG,0x13c93933a3a363a3a3a913a3a3a363a3a3a913a3a3a363a3a3a913a3a933691363636]
def zU:=jw [313,mG,0x145939343432c434343914343432c434343914343432c434343914343932c912c2c2c]
def zV:=jw [313,mG,0x14e93934c4c224c4c4c914c4c4c224c4c4c914c4c4c224c4c4c914c4c932291222222]
def zW:=jw [zB,1155565161876,sy,oh,0x1aa0d0b0b0b0b0da9,oi,427,mE,428]
def zX:=jw [zC,eM,0x13d940000003d0000003d0000003d,vB,0x147939345454445454591454545444545459145454544454545914545934491444444ad3f3e003d3d0000003d,mD,zD]
def zY:=jw [0x13794000000370000003700000037,vB,0x13f93933d3d3c3d3d3d913d3d3d3c3d3d3d913d3d3d3c3d3d3d913d3d933c913c3c3cad393800373700000037]
def zZ:=jw [0x191439342914242,hO,0x146939344444044444491444444404444449144444440444444914444934091404040]
def z0:=jw [0x14f93934d4d364d4d4d914d4d4d364d4d4d914d4d4d364d4d4d914d4d933691363636]
def z6:=jw [0x158939356562c565656915656562c565656915656562c565656915656932c912c2c2c]
def z7:=jw [0x16193935f5f225f5f5f915f5f5f225f5f5f915f5f5f225f5f5f915f5f932291222222]
def z8:=jw [0x1070707d19404050303039401010701010191010101910101,sA]
def z9:=jw [zc,zf,118946,zg,1099527791507,zh,1737918251008,zi,0x10706050594a70d0d0d0705a600a5,Jv,17237672,Jv,0x106050b00050909aaa9,yI,0x1053e3e3eab93933c,Y3,oo,428,zj,1129386539437,yI]
def Aa:=jw [431,hA,432,hA,433,hA,434,iZ,74394388251608468,fH,1137756648192,mH,17160709]
def Ab:=jw [sC,4463333120,yI,7173542710,zk,428]
def Ac:=jw [431,Y4,V0,432,Y4,V0,433,Y4,V0,434,Y4,0x1464646090994489393,UX,435,mI]
def Ad:=jw [UY,UY,UY,UY,UY,zl,0x10a090f000d0dacab,yI,0x1093e3e3ead93933c,Y3,oo,430,sb,0x10af4aff909090994,yI]
def Ae:=jw [432,J9,UX,433,J9,UX,434,J9,UX,435,iZ,366469376969108,UX,436,mI]
def Af:=jw [zm,zo,118946,zp,1099527791507,zq,1737918251008,zr,0x10c0b0a0a94a71212120c0aa600a5,Jv,17566632,Jv,109225,zt]
def Ag:=jw [UZ,UZ,UZ,UZ,UZ,zu,0x10b0a10000e0eacab,yI,7207097149,zv,430,zx,4495552505,yI]
def Ah:=jw [432,J9,Ju,433,J9,Ju,434,J9,Ju,435,iZ,366469377034900,Ju,4528247988,od,17488394]
def Ai:=jw [zc,iR,iQ,418,zf,118947,zg,1099527791763,zh,1737935028224,zi,0x10706050594a80d0d0d0705a700a6,Jv,17237673,Jv,0x106050b00050909abaa,yI,0x1053e3e3eac93933c,Y3,oo,429,zj,1129386604974,yI]
def Aj:=jw [432,hA,433,hA,434,hA,435,hA,436,iZ,74394388251608468,fH,111872]
def Ak:=jw [sD,4463333120,yI,7190319926,zk,429]
def Al:=jw [432,Y4,V0,433,Y4,V0,434,Y4,V0,435,Y4,V0,436,Y4,0x1464646090994489393,UX,437]
def Am:=jw [UY,UY,UY,UY,UY,UY,zl,0x10a090f000d0dadac,yI,0x1093e3e3eae93933c,Y3,oo,431,sb,0x10af4b0f909090994,yI]
def An:=jw [433,J9,UX,434,J9,UX,435,J9,UX,436,J9,UX,437,iZ,366469376969108,UX,438,mI]
def Ao:=jw [zm,iT,iS,418,zo,118947,zp,1099527791763,zq,1737935028224,zr,0x10c0b0a0a94a81212120c0aa700a6,Jv,17566633,Jv,109482,zt]
def Ap:=jw [UZ,UZ,UZ,UZ,UZ,UZ,zu,0x10b0a10000e0eadac,yI,7223874365,zv,431,zx,4495552761,yI]
def Aq:=jw [433,J9,Ju,434,J9,Ju,435,J9,Ju,436,J9,Ju,437,iZ,366469377034900,Ju,4528247990,od,17488394]
def Ar:=jw [0x19c05050503049b050505d19403040303949a01]
def As:=jw [1228865937041,mr,0x1ad393939ac9393379336913636930f3535353535,JX,110139]
def Au:=jw [zy,0x118180d1818189118919393]
def Av:=jw [zz,hB,418,hH,419,hK,hB,420,hH,421,hK,hB,422,hH,423,hK,0x12893931f1f1f1f911f,zA,0x1912a9329292929912929292991292993,sm,424,hN,425,sm,426,hN,427,sm,428,hN,0x13093932a2a2a2a912af5ad]
def Aw:=jw [sE,0x111110b11111191111111911111,Jw,Jw,Jw,Jw]
def Ax:=jw [zy,0x118180d18181891181818911818919393,sF]
def Ay:=jw [mC,mB,418,zz,hB,419,hH,420,hK,hB,421,hH,422,hK,hB,423,hH,424,hK,hB,425,hH,426,hK,0x12993931f1f1f1f911f,zA,0x1912b932a2a2a2a912a2a2a2a912a2a93,oq,427,hN,428,oq,429,hN,430,oq,431,hN,432,oq,433,hN,0x13293932b2b2b2b912bf5b2]
def GB:=kg [YO,ow,g9,zE]
def GD:=kg [ox,sf,YP,sG]
def Y1:=kg [zF,4311865236,YP,g9,6792778995,YY,0x1f3d49401d79401d794f3,mN,499,mK]
def Y2:=kg [zG,4311865236,YP,g9,6792778996,YY,0x1f4d49401d79401d794f4,mN,500,mO]
def GH:=kg [YO,zE]
def GI:=kg [ox,0x1010101019401d794f2,YP,iY,498,mK]
def GJ:=kg [zF,mN,499,mK]
def GK:=kg [zG,mN,500,mO]
def Az:=kg [YO,ow,g9,ow,iY,497,mO]
def GL:=kg [ox,so,x',sf,YP,iY,498,mK]
def GN:=kg [ox,so,sG]
def GO:=kg [YO,497,iX,1735197693169,YY,1103837500657,YP,g9,ow,iY,497,mO]
def GP:=kg [YO,498,iX,0x19401d79401d794f2,YY,0x1010101019401d794f2,YP,sG]
abbrev kZ (x0:Qa) (x3:Nat→Addr) (x5:Int) (x6:Nat→Tok) (x7 x9:Nat):=x0 0 9 (cb "list.__getitem__" [(rf (x3 5)),(vi (Int.fmod (Int.fdiv x5 4) 4) (x6 x7))]) [((x3 5),(j0 [(vt (sl []) (x6 x9)),(vt (sl [9]) (x6 (x9+1))),(vt (sl [10]) (x6 (x9+2))),(vt (sl [13,32]) (x6 (x9+3)))] 0))]
noncomputable abbrev jr (x0:Int):=Int.fmod (Int.fdiv x0 16) 4
abbrev yp (x2:Int):= [wi [5] (j7 1 1 (fS (jg x2))),wi [6] (j7 1 0 (fun _=> .bool false))]
abbrev yq (x2:Int):= [wi [5] (j7 1 1 (fS (jg x2))),wi [6] (j7 1 0 (fun _=> .bool true))]
abbrev uX (x0:Nat→Addr) (x2:Nat→Tok) (x3:Nat):=((x0 6),(j0 [(vi 0 (x2 x3)),(vi 3 (x2 (x3+1)))] 0))
abbrev oM (x0:Qa) (x3:Nat→Addr) (x5:Nat→Tok):=x0 1 9 (cb "list.__contains__" [(rf (x3 6)),(vi 2 (x5 58))]) [(uX x3 x5 59)]
abbrev oN (x0:Qa) (x3:Nat→Addr) (x5:Nat→Tok):=x0 1 9 (cb "list.__contains__" [(rf (x3 6)),(vi 3 (x5 58))]) [(uX x3 x5 59)]
section
variable (P:Params) (aG:Tok) (w:Int) (xt:Tok)
def GQ:RD:=⟨[],(yq w),mA 0 0 1 (fun a t=> .ok (.ret (vt ((((jg w)++(sl [34]))++(sl [10,92,34]))++(sl [34])) (t 0)))) (fun a t=>(List.replicate 0 id)) (fun a t=> []),[],[69],[],12,fun q qT qS A K=> [(Int.fmod w 4)=0,(Int.fmod w 4)=0,(Int.fmod w 4)=0,(Int.fmod w 4)=0,(Int.fmod w 4)=0,(Int.fmod w 4)=0,kZ q A w K 58 51,(Int.fmod w 4)=0,q 1 9 (cb "list.__contains__" [rf (A 6),vi 0 (K 62)]) [uX A K 63],((jg w)++(sl [34])).length≤sizeLine,(((jg w)++(sl [34]))++(sl [10,92,34])).length≤sizeLine,((((jg w)++(sl [34]))++(sl [10,92,34]))++(sl [34])).length≤sizeLine]⟩
theorem GR:GF P 9 77 [vt (sl [10,34]) xt,vi w aG] (cR P) (GQ w) (hk GB):=kF
def GU:RD:=⟨[],(yp w),mA 0 0 1 (fun a t=> .ok (.ret (vt (((jg w)++(sl [92,10,34]))++(⟨#[(sl [32,10,9,13]).cps.getD ((jr w):Int).toNat 0]⟩:Str)) (t 0)))) (fun a t=>(List.replicate 0 id)) (fun a t=> []),[],[77],[],12,fun q qT qS A K=> [(Int.fmod w 4)=1,(Int.fmod w 4)=1,(Int.fmod w 4)=1,(Int.fmod w 4)=1,(Int.fmod w 4)=1,(Int.fmod w 4)=1,kZ q A w K 63 56,(Int.fmod w 4)=1,q 1 9 (cb "list.__contains__" [rf (A 6),vi 1 (K 67)]) [uX A K 68],((jg w)++(sl [92,10,34])).length≤sizeLine,(0≤(jr w)∧(jr w)<(sl [32,10,9,13]).length∧(sl [32,10,9,13]).length≤1000000)∧(⟨#[(sl [32,10,9,13]).cps.getD ((jr w):Int).toNat 0]⟩:Str).length≤sizeLine,(((jg w)++(sl [92,10,34]))++(⟨#[(sl [32,10,9,13]).cps.getD ((jr w):Int).toNat 0]⟩:Str)).length≤sizeLine]⟩
theorem GV:GF P 9 77 [vt (sl [10,34]) xt,vi w aG] (cR P) (GU w) (hk GD):=kF
def GW:RD:=⟨[],(yp w),mA 0 0 1 (fun a t=> .ok (.ret (vt (((jg w)++(sl [92,10,92,34]))++(⟨#[(sl [32,10,9,13]).cps.getD ((jr w):Int).toNat 0]⟩:Str)) (t 0)))) (fun a t=>(List.replicate 0 id)) (fun a t=> []),[],[68],[],12,fun q qT qS A K=> [(Int.fmod w 4)=2,(Int.fmod w 4)=2,(Int.fmod w 4)=2,(Int.fmod w 4)=2,(Int.fmod w 4)=2,(Int.fmod w 4)=2,kZ q A w K 54 47,(Int.fmod w 4)=2,oM q A K,((jg w)++(sl [92,10,92,34])).length≤sizeLine,(0≤(jr w)∧(jr w)<(sl [32,10,9,13]).length∧(sl [32,10,9,13]).length≤1000000)∧(⟨#[(sl [32,10,9,13]).cps.getD ((jr w):Int).toNat 0]⟩:Str).length≤sizeLine,(((jg w)++(sl [92,10,92,34]))++(⟨#[(sl [32,10,9,13]).cps.getD ((jr w):Int).toNat 0]⟩:Str)).length≤sizeLine]⟩
theorem GX:GF P 9 77 [vt (sl [10,34]) xt,vi w aG] (cR P) (GW w) (hk Y1):=kF
def GY:RD:=⟨[],(yq w),mA 0 0 1 (fun a t=> .ok (.ret (vt ((((jg w)++(sl [34]))++(sl [92,10,92,34]))++(sl [34])) (t 0)))) (fun a t=>(List.replicate 0 id)) (fun a t=> []),[],[65],[],12,fun q qT qS A K=> [(Int.fmod w 4)=3,(Int.fmod w 4)=3,(Int.fmod w 4)=3,(Int.fmod w 4)=3,(Int.fmod w 4)=3,(Int.fmod w 4)=3,kZ q A w K 54 47,(Int.fmod w 4)=3,oN q A K,((jg w)++(sl [34])).length≤sizeLine,(((jg w)++(sl [34]))++(sl [92,10,92,34])).length≤sizeLine,((((jg w)++(sl [34]))++(sl [92,10,92,34]))++(sl [34])).length≤sizeLine]⟩
theorem GZ:GF P 9 77 [vt (sl [10,34]) xt,vi w aG] (cR P) (GY w) (hk Y2):=kF
def G0:RD:=⟨[],(yq w),mA 0 0 1 (fun a t=> .ok (.ret (vt ((((jg w)++(sl [34]))++(sl [92,34]))++(sl [34])) (t 0)))) (fun a t=>(List.replicate 0 id)) (fun a t=> []),[],[49],[],9,fun q qT qS A K=> [(Int.fmod w 4)=0,(Int.fmod w 4)=0,(Int.fmod w 4)=0,kZ q A w K 38 31,(Int.fmod w 4)=0,q 1 9 (cb "list.__contains__" [rf (A 6),vi 0 (K 42)]) [uX A K 43],((jg w)++(sl [34])).length≤sizeLine,(((jg w)++(sl [34]))++(sl [92,34])).length≤sizeLine,((((jg w)++(sl [34]))++(sl [92,34]))++(sl [34])).length≤sizeLine]⟩
theorem G6:GF P 9 77 [vt (sl [34]) xt,vi w aG] (cR P) (G0 w) (hk GH):=kF
def G7:RD:=⟨[],(yp w),mA 0 0 1 (fun a t=> .ok (.ret (vt (((jg w)++(sl [92,34]))++(⟨#[(sl [32,10,9,13]).cps.getD ((jr w):Int).toNat 0]⟩:Str)) (t 0)))) (fun a t=>(List.replicate 0 id)) (fun a t=> []),[],[54],[],9,fun q qT qS A K=> [(Int.fmod w 4)=1,(Int.fmod w 4)=1,(Int.fmod w 4)=1,kZ q A w K 40 33,(Int.fmod w 4)=1,q 1 9 (cb "list.__contains__" [rf (A 6),vi 1 (K 44)]) [uX A K 45],((jg w)++(sl [92,34])).length≤sizeLine,(0≤(jr w)∧(jr w)<(sl [32,10,9,13]).length∧(sl [32,10,9,13]).length≤1000000)∧(⟨#[(sl [32,10,9,13]).cps.getD ((jr w):Int).toNat 0]⟩:Str).length≤sizeLine,(((jg w)++(sl [92,34]))++(⟨#[(sl [32,10,9,13]).cps.getD ((jr w):Int).toNat 0]⟩:Str)).length≤sizeLine]⟩
theorem G8:GF P 9 77 [vt (sl [34]) xt,vi w aG] (cR P) (G7 w) (hk GI):=kF
def G9:RD:=⟨[],(yp w),mA 0 0 1 (fun a t=> .ok (.ret (vt (((jg w)++(sl [92,34]))++(⟨#[(sl [32,10,9,13]).cps.getD ((jr w):Int).toNat 0]⟩:Str)) (t 0)))) (fun a t=>(List.replicate 0 id)) (fun a t=> []),[],[49],[],9,fun q qT qS A K=> [(Int.fmod w 4)=2,(Int.fmod w 4)=2,(Int.fmod w 4)=2,kZ q A w K 35 28,(Int.fmod w 4)=2,q 1 9 (cb "list.__contains__" [rf (A 6),vi 2 (K 39)]) [uX A K 40],((jg w)++(sl [92,34])).length≤sizeLine,(0≤(jr w)∧(jr w)<(sl [32,10,9,13]).length∧(sl [32,10,9,13]).length≤1000000)∧(⟨#[(sl [32,10,9,13]).cps.getD ((jr w):Int).toNat 0]⟩:Str).length≤sizeLine,(((jg w)++(sl [92,34]))++(⟨#[(sl [32,10,9,13]).cps.getD ((jr w):Int).toNat 0]⟩:Str)).length≤sizeLine]⟩
theorem G':GF P 9 77 [vt (sl [34]) xt,vi w aG] (cR P) (G9 w) (hk GJ):=kF
def Hb:RD:=⟨[],(yq w),mA 0 0 1 (fun a t=> .ok (.ret (vt ((((jg w)++(sl [34]))++(sl [92,34]))++(sl [34])) (t 0)))) (fun a t=>(List.replicate 0 id)) (fun a t=> []),[],[46],[],9,fun q qT qS A K=> [(Int.fmod w 4)=3,(Int.fmod w 4)=3,(Int.fmod w 4)=3,kZ q A w K 35 28,(Int.fmod w 4)=3,q 1 9 (cb "list.__contains__" [rf (A 6),vi 3 (K 39)]) [uX A K 40],((jg w)++(sl [34])).length≤sizeLine,(((jg w)++(sl [34]))++(sl [92,34])).length≤sizeLine,((((jg w)++(sl [34]))++(sl [92,34]))++(sl [34])).length≤sizeLine]⟩
theorem Hc:GF P 9 77 [vt (sl [34]) xt,vi w aG] (cR P) (Hb w) (hk GK):=kF
def Hd:RD:=⟨[],(yq w),mA 0 0 1 (fun a t=> .ok (.ret (vt ((((jg w)++(sl [34]))++(sl [35,32]))++(sl [34])) (t 0)))) (fun a t=>(List.replicate 0 id)) (fun a t=> []),[],[66],[],12,fun q qT qS A K=> [(Int.fmod w 4)=0,(Int.fmod w 4)=0,(Int.fmod w 4)=0,(Int.fmod w 4)=0,(Int.fmod w 4)=0,(Int.fmod w 4)=0,kZ q A w K 55 48,(Int.fmod w 4)=0,q 1 9 (cb "list.__contains__" [rf (A 6),vi 0 (K 59)]) [uX A K 60],((jg w)++(sl [34])).length≤sizeLine,(((jg w)++(sl [34]))++(sl [35,32])).length≤sizeLine,((((jg w)++(sl [34]))++(sl [35,32]))++(sl [34])).length≤sizeLine]⟩
theorem He:GF P 9 77 [vt (sl [35,32]) xt,vi w aG] (cR P) (Hd w) (hk Az):=kF
def Hf:RD:=⟨[],(yp w),mA 0 0 1 (fun a t=> .ok (.ret (vt (((jg w)++(sl [35,92,32]))++(⟨#[(sl [32,10,9,13]).cps.getD ((jr w):Int).toNat 0]⟩:Str)) (t 0)))) (fun a t=>(List.replicate 0 id)) (fun a t=> []),[],[77],[],12,fun q qT qS A K=> [(Int.fmod w 4)=1,(Int.fmod w 4)=1,(Int.fmod w 4)=1,(Int.fmod w 4)=1,(Int.fmod w 4)=1,(Int.fmod w 4)=1,kZ q A w K 63 56,(Int.fmod w 4)=1,q 1 9 (cb "list.__contains__" [rf (A 6),vi 1 (K 67)]) [uX A K 68],((jg w)++(sl [35,92,32])).length≤sizeLine,(0≤(jr w)∧(jr w)<(sl [32,10,9,13]).length∧(sl [32,10,9,13]).length≤1000000)∧(⟨#[(sl [32,10,9,13]).cps.getD ((jr w):Int).toNat 0]⟩:Str).length≤sizeLine,(((jg w)++(sl [35,92,32]))++(⟨#[(sl [32,10,9,13]).cps.getD ((jr w):Int).toNat 0]⟩:Str)).length≤sizeLine]⟩
theorem Hg:GF P 9 77 [vt (sl [35,32]) xt,vi w aG] (cR P) (Hf w) (hk GL):=kF
def Hh:RD:=⟨[],(yp w),mA 0 0 1 (fun a t=> .ok (.ret (vt (((jg w)++(sl [92,35,92,32]))++(⟨#[(sl [32,10,9,13]).cps.getD ((jr w):Int).toNat 0]⟩:Str)) (t 0)))) (fun a t=>(List.replicate 0 id)) (fun a t=> []),[],[68],[],12,fun q qT qS A K=> [(Int.fmod w 4)=2,(Int.fmod w 4)=2,(Int.fmod w 4)=2,(Int.fmod w 4)=2,(Int.fmod w 4)=2,(Int.fmod w 4)=2,kZ q A w K 54 47,(Int.fmod w 4)=2,oM q A K,((jg w)++(sl [92,35,92,32])).length≤sizeLine,(0≤(jr w)∧(jr w)<(sl [32,10,9,13]).length∧(sl [32,10,9,13]).length≤1000000)∧(⟨#[(sl [32,10,9,13]).cps.getD ((jr w):Int).toNat 0]⟩:Str).length≤sizeLine,(((jg w)++(sl [92,35,92,32]))++(⟨#[(sl [32,10,9,13]).cps.getD ((jr w):Int).toNat 0]⟩:Str)).length≤sizeLine]⟩
theorem Hi:GF P 9 77 [vt (sl [35,32]) xt,vi w aG] (cR P) (Hh w) (hk Y1):=kF
def Hj:RD:=⟨[],(yq w),mA 0 0 1 (fun a t=> .ok (.ret (vt ((((jg w)++(sl [34]))++(sl [92,35,92,32]))++(sl [34])) (t 0)))) (fun a t=>(List.replicate 0 id)) (fun a t=> []),[],[65],[],12,fun q qT qS A K=> [(Int.fmod w 4)=3,(Int.fmod w 4)=3,(Int.fmod w 4)=3,(Int.fmod w 4)=3,(Int.fmod w 4)=3,(Int.fmod w 4)=3,kZ q A w K 54 47,(Int.fmod w 4)=3,oN q A K,((jg w)++(sl [34])).length≤sizeLine,(((jg w)++(sl [34]))++(sl [92,35,92,32])).length≤sizeLine,((((jg w)++(sl [34]))++(sl [92,35,92,32]))++(sl [34])).length≤sizeLine]⟩
theorem Hk:GF P 9 77 [vt (sl [35,32]) xt,vi w aG] (cR P) (Hj w) (hk Y2):=kF
def Hl:RD:=⟨[],(yq w),mA 0 0 1 (fun a t=> .ok (.ret (vt ((((jg w)++(sl [34]))++(sl [39,11]))++(sl [34])) (t 0)))) (fun a t=>(List.replicate 0 id)) (fun a t=> []),[],[66],[],12,fun q qT qS A K=> [(Int.fmod w 4)=0,(Int.fmod w 4)=0,(Int.fmod w 4)=0,(Int.fmod w 4)=0,(Int.fmod w 4)=0,(Int.fmod w 4)=0,kZ q A w K 55 48,(Int.fmod w 4)=0,q 1 9 (cb "list.__contains__" [rf (A 6),vi 0 (K 59)]) [uX A K 60],((jg w)++(sl [34])).length≤sizeLine,(((jg w)++(sl [34]))++(sl [39,11])).length≤sizeLine,((((jg w)++(sl [34]))++(sl [39,11]))++(sl [34])).length≤sizeLine]⟩
theorem Hm:GF P 9 77 [vt (sl [39,11]) xt,vi w aG] (cR P) (Hl w) (hk Az):=kF
def Hn:RD:=⟨[],(yp w),mA 0 0 1 (fun a t=> .ok (.ret (vt (((jg w)++(sl [39,11]))++(⟨#[(sl [32,10,9,13]).cps.getD ((jr w):Int).toNat 0]⟩:Str)) (t 0)))) (fun a t=>(List.replicate 0 id)) (fun a t=> []),[],[74],[],12,fun q qT qS A K=> [(Int.fmod w 4)=1,(Int.fmod w 4)=1,(Int.fmod w 4)=1,(Int.fmod w 4)=1,(Int.fmod w 4)=1,(Int.fmod w 4)=1,kZ q A w K 60 53,(Int.fmod w 4)=1,q 1 9 (cb "list.__contains__" [rf (A 6),vi 1 (K 64)]) [uX A K 65],((jg w)++(sl [39,11])).length≤sizeLine,(0≤(jr w)∧(jr w)<(sl [32,10,9,13]).length∧(sl [32,10,9,13]).length≤1000000)∧(⟨#[(sl [32,10,9,13]).cps.getD ((jr w):Int).toNat 0]⟩:Str).length≤sizeLine,(((jg w)++(sl [39,11]))++(⟨#[(sl [32,10,9,13]).cps.getD ((jr w):Int).toNat 0]⟩:Str)).length≤sizeLine]⟩
theorem Ho:GF P 9 77 [vt (sl [39,11]) xt,vi w aG] (cR P) (Hn w) (hk GN):=kF
def Hp:RD:=⟨[],(yp w),mA 0 0 1 (fun a t=> .ok (.ret (vt (((jg w)++(sl [92,39,92,11]))++(⟨#[(sl [32,10,9,13]).cps.getD ((jr w):Int).toNat 0]⟩:Str)) (t 0)))) (fun a t=>(List.replicate 0 id)) (fun a t=> []),[],[68],[],12,fun q qT qS A K=> [(Int.fmod w 4)=2,(Int.fmod w 4)=2,(Int.fmod w 4)=2,(Int.fmod w 4)=2,(Int.fmod w 4)=2,(Int.fmod w 4)=2,kZ q A w K 54 47,(Int.fmod w 4)=2,oM q A K,((jg w)++(sl [92,39,92,11])).length≤sizeLine,(0≤(jr w)∧(jr w)<(sl [32,10,9,13]).length∧(sl [32,10,9,13]).length≤1000000)∧(⟨#[(sl [32,10,9,13]).cps.getD ((jr w):Int).toNat 0]⟩:Str).length≤sizeLine,(((jg w)++(sl [92,39,92,11]))++(⟨#[(sl [32,10,9,13]).cps.getD ((jr w):Int).toNat 0]⟩:Str)).length≤sizeLine]⟩
theorem Hq:GF P 9 77 [vt (sl [39,11]) xt,vi w aG] (cR P) (Hp w) (hk Y1):=kF
def Hr:RD:=⟨[],(yq w),mA 0 0 1 (fun a t=> .ok (.ret (vt ((((jg w)++(sl [34]))++(sl [92,39,92,11]))++(sl [34])) (t 0)))) (fun a t=>(List.replicate 0 id)) (fun a t=> []),[],[65],[],12,fun q qT qS A K=> [(Int.fmod w 4)=3,(Int.fmod w 4)=3,(Int.fmod w 4)=3,(Int.fmod w 4)=3,(Int.fmod w 4)=3,(Int.fmod w 4)=3,kZ q A w K 54 47,(Int.fmod w 4)=3,oN q A K,((jg w)++(sl [34])).length≤sizeLine,(((jg w)++(sl [34]))++(sl [92,39,92,11])).length≤sizeLine,((((jg w)++(sl [34]))++(sl [92,39,92,11]))++(sl [34])).length≤sizeLine]⟩
theorem Hs:GF P 9 77 [vt (sl [39,11]) xt,vi w aG] (cR P) (Hr w) (hk Y2):=kF
def Ht:RD:=⟨[],(yq w),mA 0 0 1 (fun a t=> .ok (.ret (vt ((((jg w)++(sl [34]))++(sl [92,92,110]))++(sl [34])) (t 0)))) (fun a t=>(List.replicate 0 id)) (fun a t=> []),[],[67],[],12,fun q qT qS A K=> [(Int.fmod w 4)=0,(Int.fmod w 4)=0,(Int.fmod w 4)=0,(Int.fmod w 4)=0,(Int.fmod w 4)=0,(Int.fmod w 4)=0,kZ q A w K 56 49,(Int.fmod w 4)=0,q 1 9 (cb "list.__contains__" [rf (A 6),vi 0 (K 60)]) [uX A K 61],((jg w)++(sl [34])).length≤sizeLine,(((jg w)++(sl [34]))++(sl [92,92,110])).length≤sizeLine,((((jg w)++(sl [34]))++(sl [92,92,110]))++(sl [34])).length≤sizeLine]⟩
theorem Hu:GF P 9 77 [vt (sl [92,110]) xt,vi w aG] (cR P) (Ht w) (hk GO):=kF
def Hv:RD:=⟨[],(yp w),mA 0 0 1 (fun a t=> .ok (.ret (vt (((jg w)++(sl [92,92,110]))++(⟨#[(sl [32,10,9,13]).cps.getD ((jr w):Int).toNat 0]⟩:Str)) (t 0)))) (fun a t=>(List.replicate 0 id)) (fun a t=> []),[],[73],[],12,fun q qT qS A K=> [(Int.fmod w 4)=1,(Int.fmod w 4)=1,(Int.fmod w 4)=1,(Int.fmod w 4)=1,(Int.fmod w 4)=1,(Int.fmod w 4)=1,kZ q A w K 59 52,(Int.fmod w 4)=1,q 1 9 (cb "list.__contains__" [rf (A 6),vi 1 (K 63)]) [uX A K 64],((jg w)++(sl [92,92,110])).length≤sizeLine,(0≤(jr w)∧(jr w)<(sl [32,10,9,13]).length∧(sl [32,10,9,13]).length≤1000000)∧(⟨#[(sl [32,10,9,13]).cps.getD ((jr w):Int).toNat 0]⟩:Str).length≤sizeLine,(((jg w)++(sl [92,92,110]))++(⟨#[(sl [32,10,9,13]).cps.getD ((jr w):Int).toNat 0]⟩:Str)).length≤sizeLine]⟩
theorem Hw:GF P 9 77 [vt (sl [92,110]) xt,vi w aG] (cR P) (Hv w) (hk GP):=kF
def Hx:RD:=⟨[],(yp w),mA 0 0 1 (fun a t=> .ok (.ret (vt (((jg w)++(sl [92,92,92,110]))++(⟨#[(sl [32,10,9,13]).cps.getD ((jr w):Int).toNat 0]⟩:Str)) (t 0)))) (fun a t=>(List.replicate 0 id)) (fun a t=> []),[],[68],[],12,fun q qT qS A K=> [(Int.fmod w 4)=2,(Int.fmod w 4)=2,(Int.fmod w 4)=2,(Int.fmod w 4)=2,(Int.fmod w 4)=2,(Int.fmod w 4)=2,kZ q A w K 54 47,(Int.fmod w 4)=2,oM q A K,((jg w)++(sl [92,92,92,110])).length≤sizeLine,(0≤(jr w)∧(jr w)<(sl [32,10,9,13]).length∧(sl [32,10,9,13]).length≤1000000)∧(⟨#[(sl [32,10,9,13]).cps.getD ((jr w):Int).toNat 0]⟩:Str).length≤sizeLine,(((jg w)++(sl [92,92,92,110]))++(⟨#[(sl [32,10,9,13]).cps.getD ((jr w):Int).toNat 0]⟩:Str)).length≤sizeLine]⟩
theorem Hy:GF P 9 77 [vt (sl [92,110]) xt,vi w aG] (cR P) (Hx w) (hk Y1):=kF
def Hz:RD:=⟨[],(yq w),mA 0 0 1 (fun a t=> .ok (.ret (vt ((((jg w)++(sl [34]))++(sl [92,92,92,110]))++(sl [34])) (t 0)))) (fun a t=>(List.replicate 0 id)) (fun a t=> []),[],[65],[],12,fun q qT qS A K=> [(Int.fmod w 4)=3,(Int.fmod w 4)=3,(Int.fmod w 4)=3,(Int.fmod w 4)=3,(Int.fmod w 4)=3,(Int.fmod w 4)=3,kZ q A w K 54 47,(Int.fmod w 4)=3,oN q A K,((jg w)++(sl [34])).length≤sizeLine,(((jg w)++(sl [34]))++(sl [92,92,92,110])).length≤sizeLine,((((jg w)++(sl [34]))++(sl [92,92,92,110]))++(sl [34])).length≤sizeLine]⟩
theorem HA:GF P 9 77 [vt (sl [92,110]) xt,vi w aG] (cR P) (Hz w) (hk Y2):=kF
end
noncomputable def hP:Nat→List Nat
 |0=> [10,34]
 |1=> [34]
 |2=> [35,32]
 |3=> [39,11]
 |_=> [92,110]
def jb (r:Nat):Str:=⟨(hP r).toArray⟩
noncomputable def VO (r m:Nat):List Nat:=match r,m with
 |0,0=> [10,92,34]
 |0,1=> [92,10,34]
 |0,2=> [92,10,92,34]
 |0,_=> [92,10,92,34]
 |1,0=> [92,34]
 |1,1=> [92,34]
 |1,2=> [92,34]
 |1,_=> [92,34]
 |2,0=> [35,32]
 |2,1=> [35,92,32]
 |2,2=> [92,35,92,32]
 |2,_=> [92,35,92,32]
 |3,0=> [39,11]
 |3,1=> [39,11]
 |3,2=> [92,39,92,11]
 |3,_=> [92,39,92,11]
 |_,0=> [92,92,110]
 |_,1=> [92,92,110]
 |_,2=> [92,92,92,110]
 |_,_=> [92,92,92,110]
noncomputable def i5 (w:Int):Nat:= #[32,10,9,13].getD (Int.fmod (Int.fdiv w 16) 4).toNat 0
def jN (r:Nat) (w:Int):List Nat:=match (Int.fmod w 4).toNat with
 |0=>Up w++ [34]++VO r 0++ [34]
 |1=>Up w++VO r 1++ [i5 w]
 |2=>Up w++VO r 2++ [i5 w]
 |_=>Up w++ [34]++VO r 3++ [34]
def jq (r:Nat) (w:Int):Str:=⟨(jN r w).toArray⟩
theorem kn (a b:List Nat):(⟨a.toArray⟩:Str)++(⟨b.toArray⟩:Str)=⟨(a++b).toArray⟩:=by
 show Str.mk (a.toArray++b.toArray)=_
 simp
theorem AA (a:List Nat):(⟨a.toArray⟩:Str).length=a.length:=rfl
theorem Je (x:Int):0≤Int.fmod x 4∧Int.fmod x 4<4:=⟨Int.fmod_nonneg_of_pos x (by decide),Int.fmod_lt_of_pos x (by decide)⟩
theorem kp {W:World} {kt:KT} {d:Nat} (w:Int) (a:Addr) (t t0 t1 t2 t3:Tok):j6 pw W kt (j7 1 1 (fun ts=> .str (jg w) (ts.getD 0 0))) d (.call (.builtin "list.__getitem__") ⟨[.ref a,.int (Int.fmod (Int.fdiv w 4) 4) t],[]⟩)
  [some (a,⟨.type "list",none,.seq #[.str (⟨#[]⟩:Str) t0,.str (⟨#[9]⟩:Str) t1,.str (⟨#[10]⟩:Str) t2,.str (⟨#[13,32]⟩:Str) t3] 0,#[]⟩)]:=by
 have h:=Je (Int.fdiv w 4)
 have key: ∃t',(#[.str (⟨#[]⟩:Str) t0,.str (⟨#[9]⟩:Str) t1,.str (⟨#[10]⟩:Str) t2,.str (⟨#[13,32]⟩:Str) t3]:Array Value)[(Int.fmod (Int.fdiv w 4) 4).toNat]? =some (.str (jg w) t'):=by
  unfold jg Up
  generalize Int.fmod (Int.fdiv w 4) 4=k at h
  have:k=0∨k=1∨k=2∨k=3:=by lia
  rcases this with rfl|rfl|rfl|rfl
  ·exact ⟨t0,rfl⟩
  ·exact ⟨t1,rfl⟩
  ·exact ⟨t2,rfl⟩
  ·exact ⟨t3,rfl⟩
 obtain ⟨t',e⟩:=key
 exact (uk (ts:= [t']) (n:=0) rfl h.1 (by lia) (by rw [e];rfl))
noncomputable def mP (k:Int):Value→Bool
 | .int a _=>a==k
 |_=>false
theorem jV {W:World} {kt:KT} {d:Nat} {a:Addr} {k:Int} {t t0 t1:Tok} {b:Bool} (hb:((0==k)||(3==k))=b):j6 pw W kt (j7 1 0 (fun _=> .bool b)) d (.call (.builtin "list.__contains__") ⟨[.ref a,.int k t],[]⟩)
  [some (a,⟨.type "list",none,.seq #[.int 0 t0,.int 3 t1] 0,#[]⟩)]:=by
 refine (Gr (n:=0) (mP k) ?_ ?_)
 ·intro y hy
  have:y= .int 0 t0∨y= .int 3 t1:=by simpa using hy
  rcases this with rfl|rfl
  ·exact MeetsSeq.EqGives.int _ _ _ _
  ·exact MeetsSeq.EqGives.int _ _ _ _
 ·rw [←hb]
  simp [mP]
theorem kb (w:Int):(jg w).length≤2:=by
 unfold jg Up
 split<;>decide
def AB (w:Int):Str:=((((jg w)++(⟨#[34]⟩:Str))++(⟨#[10,92,34]⟩:Str))++(⟨#[34]⟩:Str))
def AD (w:Int):Str:=(((jg w)++(⟨#[92,10,34]⟩:Str))++(⟨#[(⟨#[32,10,9,13]⟩:Str).cps.getD ((Int.fmod (Int.fdiv w 16) 4):Int).toNat 0]⟩:Str))
def AF (w:Int):Str:=(((jg w)++(⟨#[92,10,92,34]⟩:Str))++(⟨#[(⟨#[32,10,9,13]⟩:Str).cps.getD ((Int.fmod (Int.fdiv w 16) 4):Int).toNat 0]⟩:Str))
def AG (w:Int):Str:=((((jg w)++(⟨#[34]⟩:Str))++(⟨#[92,10,92,34]⟩:Str))++(⟨#[34]⟩:Str))
def AH (w:Int):Str:=((((jg w)++(⟨#[34]⟩:Str))++(⟨#[92,34]⟩:Str))++(⟨#[34]⟩:Str))
def AI (w:Int):Str:=(((jg w)++(⟨#[92,34]⟩:Str))++(⟨#[(⟨#[32,10,9,13]⟩:Str).cps.getD ((Int.fmod (Int.fdiv w 16) 4):Int).toNat 0]⟩:Str))
def AJ (w:Int):Str:=(((jg w)++(⟨#[92,34]⟩:Str))++(⟨#[(⟨#[32,10,9,13]⟩:Str).cps.getD ((Int.fmod (Int.fdiv w 16) 4):Int).toNat 0]⟩:Str))
def AK (w:Int):Str:=((((jg w)++(⟨#[34]⟩:Str))++(⟨#[92,34]⟩:Str))++(⟨#[34]⟩:Str))
def AO (w:Int):Str:=((((jg w)++(⟨#[34]⟩:Str))++(⟨#[35,32]⟩:Str))++(⟨#[34]⟩:Str))
def AP (w:Int):Str:=(((jg w)++(⟨#[35,92,32]⟩:Str))++(⟨#[(⟨#[32,10,9,13]⟩:Str).cps.getD ((Int.fmod (Int.fdiv w 16) 4):Int).toNat 0]⟩:Str))
def AQ (w:Int):Str:=(((jg w)++(⟨#[92,35,92,32]⟩:Str))++(⟨#[(⟨#[32,10,9,13]⟩:Str).cps.getD ((Int.fmod (Int.fdiv w 16) 4):Int).toNat 0]⟩:Str))
def AR (w:Int):Str:=((((jg w)++(⟨#[34]⟩:Str))++(⟨#[92,35,92,32]⟩:Str))++(⟨#[34]⟩:Str))
def AU (w:Int):Str:=((((jg w)++(⟨#[34]⟩:Str))++(⟨#[39,11]⟩:Str))++(⟨#[34]⟩:Str))
def AV (w:Int):Str:=(((jg w)++(⟨#[39,11]⟩:Str))++(⟨#[(⟨#[32,10,9,13]⟩:Str).cps.getD ((Int.fmod (Int.fdiv w 16) 4):Int).toNat 0]⟩:Str))
def AW (w:Int):Str:=(((jg w)++(⟨#[92,39,92,11]⟩:Str))++(⟨#[(⟨#[32,10,9,13]⟩:Str).cps.getD ((Int.fmod (Int.fdiv w 16) 4):Int).toNat 0]⟩:Str))
def AX (w:Int):Str:=((((jg w)++(⟨#[34]⟩:Str))++(⟨#[92,39,92,11]⟩:Str))++(⟨#[34]⟩:Str))
def AY (w:Int):Str:=((((jg w)++(⟨#[34]⟩:Str))++(⟨#[92,92,110]⟩:Str))++(⟨#[34]⟩:Str))
def AZ (w:Int):Str:=(((jg w)++(⟨#[92,92,110]⟩:Str))++(⟨#[(⟨#[32,10,9,13]⟩:Str).cps.getD ((Int.fmod (Int.fdiv w 16) 4):Int).toNat 0]⟩:Str))
def A0 (w:Int):Str:=(((jg w)++(⟨#[92,92,92,110]⟩:Str))++(⟨#[(⟨#[32,10,9,13]⟩:Str).cps.getD ((Int.fmod (Int.fdiv w 16) 4):Int).toNat 0]⟩:Str))
def A1 (w:Int):Str:=((((jg w)++(⟨#[34]⟩:Str))++(⟨#[92,92,92,110]⟩:Str))++(⟨#[34]⟩:Str))
theorem HB (W:World) (aG:Tok) (w:Int) (xt:Tok) (hm:Int.fmod w 4=0):j6 pw W (jB W.params) (j7 0 1 fun ts=> .str (jq 0 w) (ts.getD 0 0)) 10 (.call (.ref 77) ⟨[.str (jb 0) xt,.int w aG],[]⟩) []:=by
 have h:=uM (w:=W) (GR W.params aG w xt) (.inl (vW _)) (by
  intro A K
  have hl:=kb w
  have bk:=Je (Int.fdiv w 16)
  have es:sizeLine=16777216:=rfl
  walk_at "ob"
  all_goals first
   |exact hm
   |exact kp w _ _ _ _ _ _
   |exact jV (b:=true) (by decide)
   |exact jV (b:=false) (by decide)
   |(simp only [Str.length_append];rw [es];simp only [Str.length,List.size_toArray,List.length_cons,List.length_nil] at hl⊢;lia)
   |exact ⟨⟨bk.1,by show _<((4:Nat):Int);exact bk.2,by decide⟩,by show 1≤sizeLine;decide⟩)
 have e:jq 0 w=(AB w):=by
  unfold jq jN AB jg
  rw [hm]
  simp only [kn]
  rfl
 rw [e]
 exact h
theorem HC (W:World) (aG:Tok) (w:Int) (xt:Tok) (hm:Int.fmod w 4=1):j6 pw W (jB W.params) (j7 0 1 fun ts=> .str (jq 0 w) (ts.getD 0 0)) 10 (.call (.ref 77) ⟨[.str (jb 0) xt,.int w aG],[]⟩) []:=by
 have h:=uM (w:=W) (GV W.params aG w xt) (.inl (vW _)) (by
  intro A K
  have hl:=kb w
  have bk:=Je (Int.fdiv w 16)
  have es:sizeLine=16777216:=rfl
  walk_at "ob"
  all_goals first
   |exact hm
   |exact kp w _ _ _ _ _ _
   |exact jV (b:=true) (by decide)
   |exact jV (b:=false) (by decide)
   |(simp only [Str.length_append];rw [es];simp only [Str.length,List.size_toArray,List.length_cons,List.length_nil] at hl⊢;lia)
   |exact ⟨⟨bk.1,by show _<((4:Nat):Int);exact bk.2,by decide⟩,by show 1≤sizeLine;decide⟩)
 have e:jq 0 w=(AD w):=by
  unfold jq jN AD jg
  rw [hm]
  simp only [kn]
  rfl
 rw [e]
 exact h
theorem HD (W:World) (aG:Tok) (w:Int) (xt:Tok) (hm:Int.fmod w 4=2):j6 pw W (jB W.params) (j7 0 1 fun ts=> .str (jq 0 w) (ts.getD 0 0)) 10 (.call (.ref 77) ⟨[.str (jb 0) xt,.int w aG],[]⟩) []:=by
 have h:=uM (w:=W) (GX W.params aG w xt) (.inl (vW _)) (by
  intro A K
  have hl:=kb w
  have bk:=Je (Int.fdiv w 16)
  have es:sizeLine=16777216:=rfl
  walk_at "ob"
  all_goals first
   |exact hm
   |exact kp w _ _ _ _ _ _
   |exact jV (b:=true) (by decide)
   |exact jV (b:=false) (by decide)
   |(simp only [Str.length_append];rw [es];simp only [Str.length,List.size_toArray,List.length_cons,List.length_nil] at hl⊢;lia)
   |exact ⟨⟨bk.1,by show _<((4:Nat):Int);exact bk.2,by decide⟩,by show 1≤sizeLine;decide⟩)
 have e:jq 0 w=(AF w):=by
  unfold jq jN AF jg
  rw [hm]
  simp only [kn]
  rfl
 rw [e]
 exact h
theorem HE (W:World) (aG:Tok) (w:Int) (xt:Tok) (hm:Int.fmod w 4=3):j6 pw W (jB W.params) (j7 0 1 fun ts=> .str (jq 0 w) (ts.getD 0 0)) 10 (.call (.ref 77) ⟨[.str (jb 0) xt,.int w aG],[]⟩) []:=by
 have h:=uM (w:=W) (GZ W.params aG w xt) (.inl (vW _)) (by
  intro A K
  have hl:=kb w
  have bk:=Je (Int.fdiv w 16)
  have es:sizeLine=16777216:=rfl
  walk_at "ob"
  all_goals first
   |exact hm
   |exact kp w _ _ _ _ _ _
   |exact jV (b:=true) (by decide)
   |exact jV (b:=false) (by decide)
   |(simp only [Str.length_append];rw [es];simp only [Str.length,List.size_toArray,List.length_cons,List.length_nil] at hl⊢;lia)
   |exact ⟨⟨bk.1,by show _<((4:Nat):Int);exact bk.2,by decide⟩,by show 1≤sizeLine;decide⟩)
 have e:jq 0 w=(AG w):=by
  unfold jq jN AG jg
  rw [hm]
  simp only [kn]
  rfl
 rw [e]
 exact h
theorem HF (W:World) (aG:Tok) (w:Int) (xt:Tok) (hm:Int.fmod w 4=0):j6 pw W (jB W.params) (j7 0 1 fun ts=> .str (jq 1 w) (ts.getD 0 0)) 10 (.call (.ref 77) ⟨[.str (jb 1) xt,.int w aG],[]⟩) []:=by
 have h:=uM (w:=W) (G6 W.params aG w xt) (.inl (vW _)) (by
  intro A K
  have hl:=kb w
  have bk:=Je (Int.fdiv w 16)
  have es:sizeLine=16777216:=rfl
  walk_at "ob"
  all_goals first
   |exact hm
   |exact kp w _ _ _ _ _ _
   |exact jV (b:=true) (by decide)
   |exact jV (b:=false) (by decide)
   |(simp only [Str.length_append];rw [es];simp only [Str.length,List.size_toArray,List.length_cons,List.length_nil] at hl⊢;lia)
   |exact ⟨⟨bk.1,by show _<((4:Nat):Int);exact bk.2,by decide⟩,by show 1≤sizeLine;decide⟩)
 have e:jq 1 w=(AH w):=by
  unfold jq jN AH jg
  rw [hm]
  simp only [kn]
  rfl
 rw [e]
 exact h
theorem HH (W:World) (aG:Tok) (w:Int) (xt:Tok) (hm:Int.fmod w 4=1):j6 pw W (jB W.params) (j7 0 1 fun ts=> .str (jq 1 w) (ts.getD 0 0)) 10 (.call (.ref 77) ⟨[.str (jb 1) xt,.int w aG],[]⟩) []:=by
 have h:=uM (w:=W) (G8 W.params aG w xt) (.inl (vW _)) (by
  intro A K
  have hl:=kb w
  have bk:=Je (Int.fdiv w 16)
  have es:sizeLine=16777216:=rfl
  walk_at "ob"
  all_goals first
   |exact hm
   |exact kp w _ _ _ _ _ _
   |exact jV (b:=true) (by decide)
   |exact jV (b:=false) (by decide)
   |(simp only [Str.length_append];rw [es];simp only [Str.length,List.size_toArray,List.length_cons,List.length_nil] at hl⊢;lia)
   |exact ⟨⟨bk.1,by show _<((4:Nat):Int);exact bk.2,by decide⟩,by show 1≤sizeLine;decide⟩)
 have e:jq 1 w=(AI w):=by
  unfold jq jN AI jg
  rw [hm]
  simp only [kn]
  rfl
 rw [e]
 exact h
theorem HI (W:World) (aG:Tok) (w:Int) (xt:Tok) (hm:Int.fmod w 4=2):j6 pw W (jB W.params) (j7 0 1 fun ts=> .str (jq 1 w) (ts.getD 0 0)) 10 (.call (.ref 77) ⟨[.str (jb 1) xt,.int w aG],[]⟩) []:=by
 have h:=uM (w:=W) (G' W.params aG w xt) (.inl (vW _)) (by
  intro A K
  have hl:=kb w
  have bk:=Je (Int.fdiv w 16)
  have es:sizeLine=16777216:=rfl
  walk_at "ob"
  all_goals first
   |exact hm
   |exact kp w _ _ _ _ _ _
   |exact jV (b:=true) (by decide)
   |exact jV (b:=false) (by decide)
   |(simp only [Str.length_append];rw [es];simp only [Str.length,List.size_toArray,List.length_cons,List.length_nil] at hl⊢;lia)
   |exact ⟨⟨bk.1,by show _<((4:Nat):Int);exact bk.2,by decide⟩,by show 1≤sizeLine;decide⟩)
 have e:jq 1 w=(AJ w):=by
  unfold jq jN AJ jg
  rw [hm]
  simp only [kn]
  rfl
 rw [e]
 exact h
theorem HJ (W:World) (aG:Tok) (w:Int) (xt:Tok) (hm:Int.fmod w 4=3):j6 pw W (jB W.params) (j7 0 1 fun ts=> .str (jq 1 w) (ts.getD 0 0)) 10 (.call (.ref 77) ⟨[.str (jb 1) xt,.int w aG],[]⟩) []:=by
 have h:=uM (w:=W) (Hc W.params aG w xt) (.inl (vW _)) (by
  intro A K
  have hl:=kb w
  have bk:=Je (Int.fdiv w 16)
  have es:sizeLine=16777216:=rfl
  walk_at "ob"
  all_goals first
   |exact hm
   |exact kp w _ _ _ _ _ _
   |exact jV (b:=true) (by decide)
   |exact jV (b:=false) (by decide)
   |(simp only [Str.length_append];rw [es];simp only [Str.length,List.size_toArray,List.length_cons,List.length_nil] at hl⊢;lia)
   |exact ⟨⟨bk.1,by show _<((4:Nat):Int);exact bk.2,by decide⟩,by show 1≤sizeLine;decide⟩)
 have e:jq 1 w=(AK w):=by
  unfold jq jN AK jg
  rw [hm]
  simp only [kn]
  rfl
 rw [e]
 exact h
theorem HK (W:World) (aG:Tok) (w:Int) (xt:Tok) (hm:Int.fmod w 4=0):j6 pw W (jB W.params) (j7 0 1 fun ts=> .str (jq 2 w) (ts.getD 0 0)) 10 (.call (.ref 77) ⟨[.str (jb 2) xt,.int w aG],[]⟩) []:=by
 have h:=uM (w:=W) (He W.params aG w xt) (.inl (vW _)) (by
  intro A K
  have hl:=kb w
  have bk:=Je (Int.fdiv w 16)
  have es:sizeLine=16777216:=rfl
  walk_at "ob"
  all_goals first
   |exact hm
   |exact kp w _ _ _ _ _ _
   |exact jV (b:=true) (by decide)
   |exact jV (b:=false) (by decide)
   |(simp only [Str.length_append];rw [es];simp only [Str.length,List.size_toArray,List.length_cons,List.length_nil] at hl⊢;lia)
   |exact ⟨⟨bk.1,by show _<((4:Nat):Int);exact bk.2,by decide⟩,by show 1≤sizeLine;decide⟩)
 have e:jq 2 w=(AO w):=by
  unfold jq jN AO jg
  rw [hm]
  simp only [kn]
  rfl
 rw [e]
 exact h
theorem HL (W:World) (aG:Tok) (w:Int) (xt:Tok) (hm:Int.fmod w 4=1):j6 pw W (jB W.params) (j7 0 1 fun ts=> .str (jq 2 w) (ts.getD 0 0)) 10 (.call (.ref 77) ⟨[.str (jb 2) xt,.int w aG],[]⟩) []:=by
 have h:=uM (w:=W) (Hg W.params aG w xt) (.inl (vW _)) (by
  intro A K
  have hl:=kb w
  have bk:=Je (Int.fdiv w 16)
  have es:sizeLine=16777216:=rfl
  walk_at "ob"
  all_goals first
   |exact hm
   |exact kp w _ _ _ _ _ _
   |exact jV (b:=true) (by decide)
   |exact jV (b:=false) (by decide)
   |(simp only [Str.length_append];rw [es];simp only [Str.length,List.size_toArray,List.length_cons,List.length_nil] at hl⊢;lia)
   |exact ⟨⟨bk.1,by show _<((4:Nat):Int);exact bk.2,by decide⟩,by show 1≤sizeLine;decide⟩)
 have e:jq 2 w=(AP w):=by
  unfold jq jN AP jg
  rw [hm]
  simp only [kn]
  rfl
 rw [e]
 exact h
theorem HM (W:World) (aG:Tok) (w:Int) (xt:Tok) (hm:Int.fmod w 4=2):j6 pw W (jB W.params) (j7 0 1 fun ts=> .str (jq 2 w) (ts.getD 0 0)) 10 (.call (.ref 77) ⟨[.str (jb 2) xt,.int w aG],[]⟩) []:=by
 have h:=uM (w:=W) (Hi W.params aG w xt) (.inl (vW _)) (by
  intro A K
  have hl:=kb w
  have bk:=Je (Int.fdiv w 16)
  have es:sizeLine=16777216:=rfl
  walk_at "ob"
  all_goals first
   |exact hm
   |exact kp w _ _ _ _ _ _
   |exact jV (b:=true) (by decide)
   |exact jV (b:=false) (by decide)
   |(simp only [Str.length_append];rw [es];simp only [Str.length,List.size_toArray,List.length_cons,List.length_nil] at hl⊢;lia)
   |exact ⟨⟨bk.1,by show _<((4:Nat):Int);exact bk.2,by decide⟩,by show 1≤sizeLine;decide⟩)
 have e:jq 2 w=(AQ w):=by
  unfold jq jN AQ jg
  rw [hm]
  simp only [kn]
  rfl
 rw [e]
 exact h
theorem HN (W:World) (aG:Tok) (w:Int) (xt:Tok) (hm:Int.fmod w 4=3):j6 pw W (jB W.params) (j7 0 1 fun ts=> .str (jq 2 w) (ts.getD 0 0)) 10 (.call (.ref 77) ⟨[.str (jb 2) xt,.int w aG],[]⟩) []:=by
 have h:=uM (w:=W) (Hk W.params aG w xt) (.inl (vW _)) (by
  intro A K
  have hl:=kb w
  have bk:=Je (Int.fdiv w 16)
  have es:sizeLine=16777216:=rfl
  walk_at "ob"
  all_goals first
   |exact hm
   |exact kp w _ _ _ _ _ _
   |exact jV (b:=true) (by decide)
   |exact jV (b:=false) (by decide)
   |(simp only [Str.length_append];rw [es];simp only [Str.length,List.size_toArray,List.length_cons,List.length_nil] at hl⊢;lia)
   |exact ⟨⟨bk.1,by show _<((4:Nat):Int);exact bk.2,by decide⟩,by show 1≤sizeLine;decide⟩)
 have e:jq 2 w=(AR w):=by
  unfold jq jN AR jg
  rw [hm]
  simp only [kn]
  rfl
 rw [e]
 exact h
theorem HO (W:World) (aG:Tok) (w:Int) (xt:Tok) (hm:Int.fmod w 4=0):j6 pw W (jB W.params) (j7 0 1 fun ts=> .str (jq 3 w) (ts.getD 0 0)) 10 (.call (.ref 77) ⟨[.str (jb 3) xt,.int w aG],[]⟩) []:=by
 have h:=uM (w:=W) (Hm W.params aG w xt) (.inl (vW _)) (by
  intro A K
  have hl:=kb w
  have bk:=Je (Int.fdiv w 16)
  have es:sizeLine=16777216:=rfl
  walk_at "ob"
  all_goals first
   |exact hm
   |exact kp w _ _ _ _ _ _
   |exact jV (b:=true) (by decide)
   |exact jV (b:=false) (by decide)
   |(simp only [Str.length_append];rw [es];simp only [Str.length,List.size_toArray,List.length_cons,List.length_nil] at hl⊢;lia)
   |exact ⟨⟨bk.1,by show _<((4:Nat):Int);exact bk.2,by decide⟩,by show 1≤sizeLine;decide⟩)
 have e:jq 3 w=(AU w):=by
  unfold jq jN AU jg
  rw [hm]
  simp only [kn]
  rfl
 rw [e]
 exact h
theorem HP (W:World) (aG:Tok) (w:Int) (xt:Tok) (hm:Int.fmod w 4=1):j6 pw W (jB W.params) (j7 0 1 fun ts=> .str (jq 3 w) (ts.getD 0 0)) 10 (.call (.ref 77) ⟨[.str (jb 3) xt,.int w aG],[]⟩) []:=by
 have h:=uM (w:=W) (Ho W.params aG w xt) (.inl (vW _)) (by
  intro A K
  have hl:=kb w
  have bk:=Je (Int.fdiv w 16)
  have es:sizeLine=16777216:=rfl
  walk_at "ob"
  all_goals first
   |exact hm
   |exact kp w _ _ _ _ _ _
   |exact jV (b:=true) (by decide)
   |exact jV (b:=false) (by decide)
   |(simp only [Str.length_append];rw [es];simp only [Str.length,List.size_toArray,List.length_cons,List.length_nil] at hl⊢;lia)
   |exact ⟨⟨bk.1,by show _<((4:Nat):Int);exact bk.2,by decide⟩,by show 1≤sizeLine;decide⟩)
 have e:jq 3 w=(AV w):=by
  unfold jq jN AV jg
  rw [hm]
  simp only [kn]
  rfl
 rw [e]
 exact h
theorem HQ (W:World) (aG:Tok) (w:Int) (xt:Tok) (hm:Int.fmod w 4=2):j6 pw W (jB W.params) (j7 0 1 fun ts=> .str (jq 3 w) (ts.getD 0 0)) 10 (.call (.ref 77) ⟨[.str (jb 3) xt,.int w aG],[]⟩) []:=by
 have h:=uM (w:=W) (Hq W.params aG w xt) (.inl (vW _)) (by
  intro A K
  have hl:=kb w
  have bk:=Je (Int.fdiv w 16)
  have es:sizeLine=16777216:=rfl
  walk_at "ob"
  all_goals first
   |exact hm
   |exact kp w _ _ _ _ _ _
   |exact jV (b:=true) (by decide)
   |exact jV (b:=false) (by decide)
   |(simp only [Str.length_append];rw [es];simp only [Str.length,List.size_toArray,List.length_cons,List.length_nil] at hl⊢;lia)
   |exact ⟨⟨bk.1,by show _<((4:Nat):Int);exact bk.2,by decide⟩,by show 1≤sizeLine;decide⟩)
 have e:jq 3 w=(AW w):=by
  unfold jq jN AW jg
  rw [hm]
  simp only [kn]
  rfl
 rw [e]
 exact h
theorem HR (W:World) (aG:Tok) (w:Int) (xt:Tok) (hm:Int.fmod w 4=3):j6 pw W (jB W.params) (j7 0 1 fun ts=> .str (jq 3 w) (ts.getD 0 0)) 10 (.call (.ref 77) ⟨[.str (jb 3) xt,.int w aG],[]⟩) []:=by
 have h:=uM (w:=W) (Hs W.params aG w xt) (.inl (vW _)) (by
  intro A K
  have hl:=kb w
  have bk:=Je (Int.fdiv w 16)
  have es:sizeLine=16777216:=rfl
  walk_at "ob"
  all_goals first
   |exact hm
   |exact kp w _ _ _ _ _ _
   |exact jV (b:=true) (by decide)
   |exact jV (b:=false) (by decide)
   |(simp only [Str.length_append];rw [es];simp only [Str.length,List.size_toArray,List.length_cons,List.length_nil] at hl⊢;lia)
   |exact ⟨⟨bk.1,by show _<((4:Nat):Int);exact bk.2,by decide⟩,by show 1≤sizeLine;decide⟩)
 have e:jq 3 w=(AX w):=by
  unfold jq jN AX jg
  rw [hm]
  simp only [kn]
  rfl
 rw [e]
 exact h
theorem HS (W:World) (aG:Tok) (w:Int) (xt:Tok) (hm:Int.fmod w 4=0):j6 pw W (jB W.params) (j7 0 1 fun ts=> .str (jq 4 w) (ts.getD 0 0)) 10 (.call (.ref 77) ⟨[.str (jb 4) xt,.int w aG],[]⟩) []:=by
 have h:=uM (w:=W) (Hu W.params aG w xt) (.inl (vW _)) (by
  intro A K
  have hl:=kb w
  have bk:=Je (Int.fdiv w 16)
  have es:sizeLine=16777216:=rfl
  walk_at "ob"
  all_goals first
   |exact hm
   |exact kp w _ _ _ _ _ _
   |exact jV (b:=true) (by decide)
   |exact jV (b:=false) (by decide)
   |(simp only [Str.length_append];rw [es];simp only [Str.length,List.size_toArray,List.length_cons,List.length_nil] at hl⊢;lia)
   |exact ⟨⟨bk.1,by show _<((4:Nat):Int);exact bk.2,by decide⟩,by show 1≤sizeLine;decide⟩)
 have e:jq 4 w=(AY w):=by
  unfold jq jN AY jg
  rw [hm]
  simp only [kn]
  rfl
 rw [e]
 exact h
theorem HU (W:World) (aG:Tok) (w:Int) (xt:Tok) (hm:Int.fmod w 4=1):j6 pw W (jB W.params) (j7 0 1 fun ts=> .str (jq 4 w) (ts.getD 0 0)) 10 (.call (.ref 77) ⟨[.str (jb 4) xt,.int w aG],[]⟩) []:=by
 have h:=uM (w:=W) (Hw W.params aG w xt) (.inl (vW _)) (by
  intro A K
  have hl:=kb w
  have bk:=Je (Int.fdiv w 16)
  have es:sizeLine=16777216:=rfl
  walk_at "ob"
  all_goals first
   |exact hm
   |exact kp w _ _ _ _ _ _
   |exact jV (b:=true) (by decide)
   |exact jV (b:=false) (by decide)
   |(simp only [Str.length_append];rw [es];simp only [Str.length,List.size_toArray,List.length_cons,List.length_nil] at hl⊢;lia)
   |exact ⟨⟨bk.1,by show _<((4:Nat):Int);exact bk.2,by decide⟩,by show 1≤sizeLine;decide⟩)
 have e:jq 4 w=(AZ w):=by
  unfold jq jN AZ jg
  rw [hm]
  simp only [kn]
  rfl
 rw [e]
 exact h
theorem HV (W:World) (aG:Tok) (w:Int) (xt:Tok) (hm:Int.fmod w 4=2):j6 pw W (jB W.params) (j7 0 1 fun ts=> .str (jq 4 w) (ts.getD 0 0)) 10 (.call (.ref 77) ⟨[.str (jb 4) xt,.int w aG],[]⟩) []:=by
 have h:=uM (w:=W) (Hy W.params aG w xt) (.inl (vW _)) (by
  intro A K
  have hl:=kb w
  have bk:=Je (Int.fdiv w 16)
  have es:sizeLine=16777216:=rfl
  walk_at "ob"
  all_goals first
   |exact hm
   |exact kp w _ _ _ _ _ _
   |exact jV (b:=true) (by decide)
   |exact jV (b:=false) (by decide)
   |(simp only [Str.length_append];rw [es];simp only [Str.length,List.size_toArray,List.length_cons,List.length_nil] at hl⊢;lia)
   |exact ⟨⟨bk.1,by show _<((4:Nat):Int);exact bk.2,by decide⟩,by show 1≤sizeLine;decide⟩)
 have e:jq 4 w=(A0 w):=by
  unfold jq jN A0 jg
  rw [hm]
  simp only [kn]
  rfl
 rw [e]
 exact h
theorem HW (W:World) (aG:Tok) (w:Int) (xt:Tok) (hm:Int.fmod w 4=3):j6 pw W (jB W.params) (j7 0 1 fun ts=> .str (jq 4 w) (ts.getD 0 0)) 10 (.call (.ref 77) ⟨[.str (jb 4) xt,.int w aG],[]⟩) []:=by
 have h:=uM (w:=W) (HA W.params aG w xt) (.inl (vW _)) (by
  intro A K
  have hl:=kb w
  have bk:=Je (Int.fdiv w 16)
  have es:sizeLine=16777216:=rfl
  walk_at "ob"
  all_goals first
   |exact hm
   |exact kp w _ _ _ _ _ _
   |exact jV (b:=true) (by decide)
   |exact jV (b:=false) (by decide)
   |(simp only [Str.length_append];rw [es];simp only [Str.length,List.size_toArray,List.length_cons,List.length_nil] at hl⊢;lia)
   |exact ⟨⟨bk.1,by show _<((4:Nat):Int);exact bk.2,by decide⟩,by show 1≤sizeLine;decide⟩)
 have e:jq 4 w=(A1 w):=by
  unfold jq jN A1 jg
  rw [hm]
  simp only [kn]
  rfl
 rw [e]
 exact h
theorem kN (W:World) (r:Nat) (hr:r<5) (aG:Tok) (w:Int) (xt:Tok):j6 pw W (jB W.params) (j7 0 1 fun ts=> .str (jq r w) (ts.getD 0 0)) 10 (.call (.ref 77) ⟨[.str (jb r) xt,.int w aG],[]⟩) []:=by
 have h:=Je w
 have hm:Int.fmod w 4=0∨Int.fmod w 4=1∨Int.fmod w 4=2∨Int.fmod w 4=3:=by lia
 have HX:r=0∨r=1∨r=2∨r=3∨r=4:=by lia
 rcases HX with rfl|rfl|rfl|rfl|rfl<;>rcases hm with hm|hm|hm|hm
 ·exact HB W aG w xt hm
 ·exact HC W aG w xt hm
 ·exact HD W aG w xt hm
 ·exact HE W aG w xt hm
 ·exact HF W aG w xt hm
 ·exact HH W aG w xt hm
 ·exact HI W aG w xt hm
 ·exact HJ W aG w xt hm
 ·exact HK W aG w xt hm
 ·exact HL W aG w xt hm
 ·exact HM W aG w xt hm
 ·exact HN W aG w xt hm
 ·exact HO W aG w xt hm
 ·exact HP W aG w xt hm
 ·exact HQ W aG w xt hm
 ·exact HR W aG w xt hm
 ·exact HS W aG w xt hm
 ·exact HU W aG w xt hm
 ·exact HV W aG w xt hm
 ·exact HW W aG w xt hm
def HY:=kg [0x106050505059105059404d09b06000005059105050594040606949a93d00605059105050594040505910505059404030606949302]
section
variable (P:Params) (L:jF) (p:Nat) (tp t1:Tok)
def HZ:RD:=⟨[(L.aF,L.fn),(L.aT,L.code),(L.bT,L.cT),(L.bU,L.cA),(L.bW,(j0 [vn p tp] L.ay))],[wi [6] (j7 1 1 (fS (cut L.T p (min (p+1) L.T.length)))),wi [] (j7 0 1 (fI (((cut L.T p (min (p+1) L.T.length)).length:Nat):Int)))],mA 5 0 2 (fun a t=> .ok (.ret (vt (cut L.T p (min (p+1) L.T.length)) (t 0)))) (fun a t=> [id,id,id,id,fun _=>(j0 [(vi (((p:Nat):Int)+(((cut L.T p (min (p+1) L.T.length)).length:Nat):Int)) (t 1))] L.ay)]) (fun a t=> []),[],[4,8],[],2,fun q qT qS A K=> [q 0 11 (cb "str.__getitem__" [vt L.T L.tT,rf (A 6)]) [((A 6),(fo "slice" [vn p tp,vi (((p:Nat):Int)+1) (K 3),.none]))],q 1 11 (cb "len" [vt (cut L.T p (min (p+1) L.T.length)) (K 4)]) []]⟩
theorem H0:GF P 11 L.aF [vi 1 t1] L.fn (HZ L p tp) (hk HY):=kF
end
def H5:=kg [zH,293460419152394]
def H6:=kg [zH,0x1940ae5940a0a0a,YN,4321497236,vB,0x10a0202029400010000000100010001]
section
variable (P:Params) (L:jF) (ai:Tok) (l:Int) (p:Nat) (tp:Tok)
def H7:RD:=⟨[(L.aL,L.lex),(L.aD,(L.bc P l ai)),(L.aS,L.src),(L.aE,(L.b9 P)),(L.aF,L.fn),(L.aT,L.code),(L.bT,L.cT),(L.bU,L.cA),(L.bW,(j0 [vn p tp] L.ay))],[wi (rg 4 5) (rU L.T p L.ay)],mA 9 0 2 (fun a t=> .ok (.ret (vt (km L.T p) (t 0)))) (fun a t=> [id,id,id,id,id,id,id,id,fun _=>(j0 [(vn (jh L.T p) (t 1))] L.ay)]) (fun a t=> []),[],[4,5],[],2,fun q qT qS A K=> [q 0 15 (cr L.aF [vi 1 (K 3)]) [(L.aF,L.fn),(L.aT,L.code),(L.bT,L.cT),(L.bU,L.cA),(L.bW,(j0 [vn p tp] L.ay))],((km L.T p).cps.toList==(sl [10]).cps.toList)=false]⟩
theorem H8:GF P 15 42 [rf L.aL] (gY P) (H7 P L ai l p tp) (hk H5):=kF
def H9:RD:=⟨[(L.aL,L.lex),(L.aD,(L.bc P l ai)),(L.aS,L.src),(L.aE,(L.b9 P)),(L.aF,L.fn),(L.aT,L.code),(L.bT,L.cT),(L.bU,L.cA),(L.bW,(j0 [vn p tp] L.ay))],[wi (rg 4 5) (rU L.T p L.ay)],mA 9 0 3 (fun a t=> .ok (.ret (vt (km L.T p) (t 0)))) (fun a t=> [id,fun _=>(L.bc P (l+1) (t 1)),id,id,id,id,id,id,fun _=>(j0 [(vn (jh L.T p) (t 2))] L.ay)]) (fun a t=> []),[],[4,10,5],[],2,fun q qT qS A K=> [q 0 15 (cr L.aF [vi 1 (K 3)]) [(L.aF,L.fn),(L.aT,L.code),(L.bT,L.cT),(L.bU,L.cA),(L.bW,(j0 [vn p tp] L.ay))],((km L.T p).cps.toList==(sl [10]).cps.toList)=true]⟩
theorem Ia:GF P 15 42 [rf L.aL] (gY P) (H9 P L ai l p tp) (hk H6):=kF
end
noncomputable def yx (vs:List (Option (Addr×Obj))) (fs:List (Obj→Obj)):List (Option Obj):=List.zipWith (fun p f=>p.map fun q=>f q.2) vs fs
theorem j6.conv {pr:Program} {w:World} {kt:KT} {an aU:jZ} {d d':Nat} {c:Code} {vs:List (Option (Addr×Obj))} (h:j6 pr w kt an d c vs) (hd:d≤d') (eh:aU.na=an.na)
  (f: ∀as ts,as.length=an.na→ts.length=an.nt→ ∃cf,cf.length=aU.nt∧aU.res as cf=an.res as ts∧(aU.upd as cf).length=(an.upd as ts).length∧yx vs (aU.upd as cf)=yx vs (an.upd as ts)∧aU.new as cf=an.new as ts):j6 pr w kt aU d' c vs:=by
 refine .of ?_;intro A R s S Z hR
 refine h.use A R s (S.mono hd) Z fun s' as ts la lt p=> ?_
 obtain ⟨cf,l',e1,e2,e3,e4⟩:=f as ts la lt
 rw [←e1]
 refine hR s' as cf (la.trans eh.symm) l' ?_
 obtain ⟨p1,p2,p3,p4,p5,p6,p7,p8,p9⟩:=p
 refine ⟨p1,e2.trans p2,fun i q g h1 h2=> ?_,by rw [e4,eh];exact p4,by rw [e4];exact p5,p6,p7,p8,p9⟩
 have hi:i<(aU.upd as cf).length:=(List.getElem?_eq_some_iff.mp h2).1
 obtain ⟨g0,hg⟩: ∃g0,(an.upd as ts)[i]? =some g0:=⟨_,List.getElem?_eq_getElem (by lia)⟩
 have:=congrArg (·[i]?) e3
 simp only [yx,List.getElem?_zipWith,h1,h2,hg,Option.map_some,Option.some.injEq] at this
 rw [this]
 exact p3 i q g0 h1 hg
def jZ.key (an:jZ) (vs:List (Option (Addr×Obj))) (as:List Addr) (ts:List Tok):Nat×Result×Nat×List (Option Obj)×List Obj:=(an.na,an.res as ts,(an.upd as ts).length,yx vs (an.upd as ts),an.new as ts)
theorem oO {an aU:jZ} {vs:List (Option (Addr×Obj))} {as:List Addr} {ts cf:List Tok} (e:aU.key vs as cf=an.key vs as ts):aU.res as cf=an.res as ts∧(aU.upd as cf).length=(an.upd as ts).length∧yx vs (aU.upd as cf)=yx vs (an.upd as ts)∧aU.new as cf=an.new as ts:=
 ⟨congrArg (·.2.1) e,congrArg (·.2.2.1) e,congrArg (·.2.2.2.1) e,congrArg (·.2.2.2.2) e⟩
theorem j6.cv {pr:Program} {w:World} {kt:KT} {an aU:jZ} {d:Nat} {c:Code} {vs:List (Option (Addr×Obj))} (h:j6 pr w kt an d c vs) (g:List Tok→List Tok) (e: ∀as ts,((g ts).length,aU.key vs as (g ts))=(aU.nt,an.key vs as ts)):j6 pr w kt aU d c vs:=
 h.conv (Nat.le_refl _) (congrArg (·.2.1) (e [] [])) fun as ts _ _=>⟨g ts,congrArg (·.1) (e as ts),oO (congrArg (·.2) (e as ts))⟩
theorem j6.cS {pr:Program} {w:World} {kt:KT} {an aU:jZ} {d:Nat} {c:Code} {vs:List (Option (Addr×Obj))} (h:j6 pr w kt an d c vs) (e: ∀as ts,(aU.nt,aU.key vs as ts)=(an.nt,an.key vs as ts)):j6 pr w kt aU d c vs:=
 h.conv (Nat.le_refl _) (congrArg (·.2.1) (e [] [])) fun as ts _ lt=>⟨ts,lt.trans (congrArg (·.1) (e as ts)).symm,oO (congrArg (·.2) (e as ts))⟩
theorem A2 (x:Str) (p q:Nat):(cut x p q).length=min (q-p) (x.length-p):=by
 unfold cut
 rw [AA]
 simp [Str.length]
theorem Ib {T:Str} {p:Nat} (h:p≤T.length):(km T p).length=jh T p-p:=by
 unfold km jh
 rw [A2]
 exact Nat.min_eq_left (Nat.sub_le_sub_right (Nat.min_le_right _ _) p)
theorem Ic (p n:Nat) (h:p≤n):Builtin.Str.strSliceIndices (some (p:Int)) (some ((p:Int)+1)) 1 n=sliceRange (p:Int) ((min (p+1) n:Nat):Int) 1:=by
 unfold Builtin.Str.strSliceIndices
 simp only [show (1:Int)>0 from by decide,if_true]
 have h1: ¬(p:Int)<0:=by lia
 have h2: ¬((p:Int)+1)<0:=by lia
 simp only [h1,h2,if_false]
 congr 1<;>lia
theorem A3 (W:World) (L:jF) (p:Nat) (tp t1:Tok) (hT:L.T.length≤1000000) (hp:p≤L.T.length):j6 pw W (jB W.params) (rU L.T p L.ay) 12 (.call (.ref L.aF) ⟨[.int 1 t1],[]⟩) ((L.aV p tp).map some):=by
 have h:=uM (w:=W) (H0 W.params L p tp t1) (.inr (.head _)) (by
  intro A K
  walk_at "ob"
  ·exact xo (lo:=some ((p:Int),tp)) (hi:=some ((p:Int)+1,K 3)) p (min (p+1) L.T.length) hT (Nat.min_le_right _ _) (Ic p _ hp)
  ·refine (k6 ?_)
   rw [A2];lia)
 refine h.conv (Nat.le_refl _) rfl fun as ts la lt=>⟨ts,lt,rfl,rfl,?_,rfl⟩
 have e:((p:Int)+((km L.T p).length:Int))=((jh L.T p:Nat):Int):=by
  rw [Ib hp]
  unfold jh
  lia
 show [_,_,_,_,some (vS (jh L.T p) _ _)]= [_,_,_,_,some _]
 unfold vS
 rw [←e]
 rfl
theorem U6 (W:World) (L:jF) (l:Int) (lt:Tok) (p:Nat) (tp:Tok) (hT:L.T.length≤1000000) (hp:p≤L.T.length):j6 pw W (jB W.params) (U0 L.T p l L.ay) 16 (.call (.ref 42) ⟨[.ref L.aL],[]⟩) ((L.vs W.params l lt p tp).map some):=by
 by_cases hn:((km L.T p).cps.toList== [10])=true
 ·have h:=uM (w:=W) (Ia W.params L lt l p tp) (.inl (n9 _)) (by
   intro A K
   walk_at "ob"
   ·exact fun _ hz=>A3 W L p tp _ hT hp _ (dl hz)
   ·exact hn)
  refine h.conv (Nat.le_refl _) rfl fun as ts la lt=>⟨tg ts [0,2,1],rfl,rfl,rfl,?_,rfl⟩
  have e:y7 L.T p=1:=by unfold y7;rw [if_pos hn]
  show [_,some (jO 0 (.int (l+y7 L.T p) _) _),_,_,_,_,_,_,_]=_
  rw [e]
  rfl
 ·have h:=uM (w:=W) (H8 W.params L lt l p tp) (.inl (n9 _)) (by
   intro A K
   walk_at "ob"
   ·exact fun _ hz=>A3 W L p tp _ hT hp _ (dl hz)
   ·exact Bool.eq_false_iff.mpr hn)
  refine h.conv (Nat.le_refl _) rfl fun as ts la lt'=>⟨[ts.getD 0 0,ts.getD 1 0,lt],rfl,rfl,rfl,?_,rfl⟩
  have e:y7 L.T p=0:=by unfold y7;rw [if_neg hn]
  show [_,some (jO 0 (.int (l+y7 L.T p) _) _),_,_,_,_,_,_,_]=_
  rw [e,Int.add_zero]
  rfl
noncomputable def Un (vs:List (Addr×Obj)) (fs:List (Obj→Obj)):List (Addr×Obj):=List.zipWith (fun p f=>(p.1,f p.2)) vs fs
theorem yP {vs:List (Addr×Obj)} {fs:List (Obj→Obj)} {i:Nat} {q:Addr×Obj} (h:(Un vs fs)[i]? =some q): ∃p f,vs[i]? =some p∧fs[i]? =some f∧q=(p.1,f p.2):=by
 unfold Un at h
 rw [List.getElem?_zipWith] at h
 cases h1:vs[i]? with
 |none=>rw [h1] at h;cases h
 |some p=>
  cases h2:fs[i]? with
  |none=>rw [h1,h2] at h;cases h
  |some f=>rw [h1,h2] at h;exact ⟨p,f,rfl,rfl,(Option.some.inj h).symm⟩
theorem yM {α:Type} {vs:List α} {i:Nat} {p:α} (h:(vs.map some)[i]? =some (some p)):vs[i]? =some p:=by
 rw [List.getElem?_map] at h
 cases q:vs[i]? with
 |none=>rw [q] at h;cases h
 |some x=>rw [q] at h;exact Option.some.inj h
theorem Uf {α:Type} {vs:List α} {p:α} (h:some p∈vs.map some):p∈vs:=by
 obtain ⟨x,hx,e⟩:=List.mem_map.mp h
 cases e;exact hx
theorem A4 {vs:List (Addr×Obj)} {an:jZ} {as:List Addr} {ts:List Tok} {s s':Shared} (hl:an.ids.length=vs.length) (p:kB (vs.map some) an as ts s s') {b:Addr} {o:Obj} (h:s.heap.get? b=some o): ∃o',s'.heap.get? b=some o':=by
 by_cases q: ∀p,some p∈vs.map some→p.1≠b
 ·exact ⟨o,p.1 b o h q⟩
 ·simp only [Classical.not_forall,Classical.not_not] at q
  obtain ⟨x,hx,e⟩:=q
  obtain ⟨i,hi⟩:=List.mem_iff_getElem?.mp hx
  have li:=(List.getElem?_eq_some_iff.mp hi).1
  rw [List.length_map] at li
  obtain ⟨f,hf⟩: ∃f,(an.upd as ts)[i]? =some f:=⟨_,List.getElem?_eq_getElem (by rw [p.2.1,List.length_map];exact li)⟩
  exact ⟨_,e▸p.2.2.1 i x f hi hf⟩
theorem A5 {kt:KT} {vs:List (Addr×Obj)} {an:jZ} {as:List Addr} {ts:List Tok} {s s':Shared} (Z:Vp kt s.heap (vs.map some)) (p:kB (vs.map some) an as ts s s'):Vp kt s'.heap ((Un vs (an.upd as ts)).map some):=by
 refine ⟨fun a o e=>p.1 a o (Z.base a o e) fun q hq z=> ?_,fun q hq=> ?_,fun i j q q' hi hj e=> ?_,fun q hq=> ?_⟩
 ·have:=Z.apart q hq
  rw [z,e] at this;cases this
 ·obtain ⟨i,hi⟩:=List.mem_iff_getElem?.mp (Uf hq)
  obtain ⟨x,f,h1,h2,rfl⟩:=yP hi
  exact p.2.2.1 i x f (by rw [List.getElem?_map,h1];rfl) h2
 ·obtain ⟨x,f,h1,h2,rfl⟩:=yP (yM hi)
  obtain ⟨y,g,h3,h4,rfl⟩:=yP (yM hj)
  exact Z.inj i j x y (by rw [List.getElem?_map,h1];rfl) (by rw [List.getElem?_map,h3];rfl) e
 ·obtain ⟨i,hi⟩:=List.mem_iff_getElem?.mp (Uf hq)
  obtain ⟨x,f,h1,h2,rfl⟩:=yP hi
  exact Z.apart x (List.mem_of_getElem? (i:=i) (by rw [List.getElem?_map,h1];rfl))
theorem Ie {vs:List (Addr×Obj)} {dj bZ an:jZ} {bx bE ts:List Tok} {eO:List Addr} {s s1 s2:Shared} (p1:kB (vs.map some) dj [] bx s s1) (l1:dj.ids.length=vs.length)
  (p2:kB ((Un vs (dj.upd [] bx)).map some) bZ eO bE s1 s2) (l2:bZ.ids.length=vs.length) (d1:an.ids.length=vs.length) (hl:(an.upd eO ts).length=vs.length)
  (ho:yx (vs.map some) (an.upd eO ts)=yx ((Un vs (dj.upd [] bx)).map some) (bZ.upd eO bE)) (hn:an.new eO ts=bZ.new eO bE) (eh:an.na=bZ.na):kB (vs.map some) an eO ts s s2:=by
 have lf:(Un vs (dj.upd [] bx)).length=vs.length:=by
  unfold Un
  rw [List.length_zipWith,p1.2.1,List.length_map,Nat.min_self]
 refine ⟨fun b o e n=>p2.1 b o (p1.1 b o e n) fun q hq=> ?_,hl.trans (List.length_map ..).symm,fun i p f h1 h2=> ?_,by rw [hn,eh];exact p2.2.2.2.1,fun i a o h1 h2=> ?_,p2.2.2.2.2.2.1,p2.2.2.2.2.2.2.1.trans p1.2.2.2.2.2.2.1,p2.2.2.2.2.2.2.2.1.trans p1.2.2.2.2.2.2.2.1,p2.2.2.2.2.2.2.2.2.trans p1.2.2.2.2.2.2.2.2⟩
 ·obtain ⟨i,hi⟩:=List.mem_iff_getElem?.mp (Uf hq)
  obtain ⟨x,f,h1,h2,rfl⟩:=yP hi
  exact n x (List.mem_map_of_mem (List.mem_of_getElem? h1))
 ·have hp:=yM h1
  have hi:i<vs.length:=(List.getElem?_eq_some_iff.mp hp).1
  obtain ⟨q,hq⟩: ∃q,(Un vs (dj.upd [] bx))[i]? =some q:=⟨_,List.getElem?_eq_getElem (by lia)⟩
  obtain ⟨x,f1,h3,h4,rfl⟩:=yP hq
  rw [hp] at h3
  cases h3
  obtain ⟨g,hg⟩: ∃g,(bZ.upd eO bE)[i]? =some g:=⟨_,List.getElem?_eq_getElem (by rw [p2.2.1,List.length_map,lf];exact hi)⟩
  have e1:((Un vs (dj.upd [] bx)).map some)[i]? =some (some (p.1,f1 p.2)):=by rw [List.getElem?_map,hq];rfl
  have key:=p2.2.2.1 i (p.1,f1 p.2) g e1 hg
  have:=congrArg (·[i]?) ho
  simp only [yx,List.getElem?_zipWith,h1,h2,e1,hg,Option.map_some,Option.some.injEq] at this
  rw [this]
  exact key
 ·rw [hn] at h2
  obtain ⟨h3,h4⟩:=p2.2.2.2.2.1 i a o h1 h2
  refine ⟨h3,?_⟩
  cases q:s.heap.get? a with
  |none=>rfl
  |some o'=>
   obtain ⟨Ig,e⟩:=A4 l1 p1 q
   rw [e] at h4;cases h4
def Y9 (W:World) (d:Nat) (c:Code) (vs:List (Addr×Obj)) (an:jZ) (res:List Addr→List Tok→Except Value Fin):Prop:=
 ∀(A:Around) (s:Shared),kT A d→Vp (jB W.params) s.heap (vs.map some)→
  wpAny (model pw W) A (D c) (fun a s'=> ∃as ts,.ok a=res as ts∧as.length=an.na∧ts.length=an.nt∧kB (vs.map some) an as ts s s') (fun e s'=> ∃as ts,.error e=res as ts∧as.length=an.na∧ts.length=an.nt∧kB (vs.map some) an as ts s s') s
theorem vy {w:World} {d:Nat} {c:Code} {X:RD} {H:Bool→Nat×Nat} {res:List Addr→List Tok→Except Value Fin} (run:GT w.params d Fin (D c) res X H) (dg: ∀A K,YQ (X.ob (qa w X) (qt w X) (qs w X) A K))
  (hf:X.eg:=by exact fun _ _=>rfl):Y9 w d c X.vs X.an res:=
 fun A s S Z=>xk run dg S Z hf
theorem Yf {W:World} {A:Around} {c:Code} {R:Result→Shared→Prop} {s:Shared} (h:wpAny (model pw W) (A.under c) (D c) (fun fin s'=>match fin with| .done f=>R (.ok f) s'| .again c'=>c'.quiet=true∧codeAny (model pw W) A c' R s') (fun e s'=>R (.error e) s') s):codeAny (model pw W) A c R s:=by
 refine codeAny_of_tree ?_
 show wpAny _ _ (denote table c) _ _ s
 rw [nP]
 exact h
theorem kk {W:World} {d:Nat} {c c':Code} {vs:List (Addr×Obj)} {dj bZ an:jZ} {res:List Addr→List Tok→Except Value Fin} (hc:c.isCaller=false) (hq:JA c'=true) (turn:Y9 W d c vs dj res) (fW: ∀as ts,res as ts= .ok (.again c')) (h0:dj.na=0) (l1:dj.ids.length=vs.length)
  (next: ∀ts,ts.length=dj.nt→j6 pw W (jB W.params) bZ (d+1) c' ((Un vs (dj.upd [] ts)).map some)) (l2:bZ.ids.length=vs.length) (d1:an.ids.length=vs.length) (eh:an.na=bZ.na)
  (f: ∀bx as bE,bx.length=dj.nt→as.length=bZ.na→bE.length=bZ.nt→ ∃ts,ts.length=an.nt∧an.res as ts=bZ.res as bE∧(an.upd as ts).length=vs.length∧yx (vs.map some) (an.upd as ts)=yx ((Un vs (dj.upd [] bx)).map some) (bZ.upd as bE)∧an.new as ts=bZ.new as bE):
  j6 pw W (jB W.params) an (d+1) c (vs.map some):=by
 refine .of ?_;intro A R s S Z hR
 refine Yf (wpAny_mono (turn _ s (S.under hc) Z) (fun fin s1 q=> ?_) (fun e s1 q=> ?_))
 ·obtain ⟨as,ts,e,la,lt,p1⟩:=q
  rw [fW] at e
  cases e
  have:as= []:=List.eq_nil_of_length_eq_zero (la.trans h0)
  subst this
  refine ⟨by rw [JK];exact hq,(next ts lt).use A R s1 S (A5 Z p1) fun s2 eO bE A6 Ih p2=> ?_⟩
  obtain ⟨cf,h1,h2,h3,h4,h5⟩:=f ts eO bE lt A6 Ih
  rw [←h2]
  exact hR s2 eO cf (A6.trans eh.symm) h1 (Ie p1 l1 p2 l2 d1 h3 h4 h5 eh)
 ·obtain ⟨as,ts,e,_⟩:=q
  rw [fW] at e
  cases e
theorem vX {W:World} {d:Nat} {c:Code} {vs:List (Addr×Obj)} {dj:jZ} {res:List Addr→List Tok→Except Value Fin} {fl:List Addr→List Tok→Flow} (hc:c.isCaller=false) (turn:Y9 W d c vs dj res) (fW: ∀as ts,res as ts= .ok (.done (fl as ts))):
  j6 pw W (jB W.params) {dj with res:=fun as ts=> .ok (fl as ts)} (d+1) c (vs.map some):=by
 refine .of ?_;intro A R s S Z hR
 refine Yf (wpAny_mono (turn _ s (S.under hc) Z) (fun fin s1 q=> ?_) (fun e s1 q=> ?_))
 ·obtain ⟨as,ts,e,la,lt,p1⟩:=q
  rw [fW] at e
  cases e
  exact hR s1 as ts la lt p1
 ·obtain ⟨as,ts,e,_⟩:=q
  rw [fW] at e
  cases e
theorem j6.frame {W:World} {kt:KT} {an aU:jZ} {d:Nat} {c:Code} {vs ws:List (Addr×Obj)} (h:j6 pw W kt an d c (vs.map some)) (l:an.ids.length=vs.length) (l':aU.ids.length=vs.length+ws.length) (h3:aU.na=an.na) (h4:aU.nt=an.nt) (h5:aU.res=an.res) (h6: ∀as ts,aU.upd as ts=an.upd as ts++List.replicate ws.length id) (h7:aU.new=an.new):
  j6 pw W kt aU d c ((vs++ws).map some):=by
 refine .of ?_;intro A R s S Z hR
 have Z0:Vp kt s.heap (vs.map some):=by
  rw [List.map_append] at Z
  refine ⟨Z.base,fun p hp=>Z.own p (List.mem_append_left _ hp),fun i j p q hi hj e=>Z.inj i j p q ?_ ?_ e,fun p hp=>Z.apart p (List.mem_append_left _ hp)⟩
  ·rw [List.getElem?_append_left (List.getElem?_eq_some_iff.mp hi).1];exact hi
  ·rw [List.getElem?_append_left (List.getElem?_eq_some_iff.mp hj).1];exact hj
 refine h.use A R s S Z0 fun s' as ts la lt p=> ?_
 obtain ⟨p1,p2,p3,p4,p5,p6,p7,p8,p9⟩:=p
 rw [←h5]
 refine hR s' as ts (la.trans h3.symm) (lt.trans h4.symm) ⟨fun b o e n=>p1 b o e fun p hp=>n p (by rw [List.map_append];exact List.mem_append_left _ hp),by rw [h6,List.length_append,p2,List.length_replicate,List.length_map,List.length_map,List.length_append],fun i p f e1 e2=> ?_,by rw [h7,h3];exact p4,by rw [h7];exact p5,p6,p7,p8,p9⟩
 have A7:=yM e1
 rw [h6] at e2
 by_cases hi:i<vs.length
 ·rw [List.getElem?_append_left hi] at A7
  rw [List.getElem?_append_left (by rw [p2,List.length_map];exact hi)] at e2
  exact p3 i p f (by rw [List.getElem?_map,A7];rfl) e2
 ·rw [List.getElem?_append_right (by rw [p2,List.length_map];exact gV hi),List.getElem?_replicate] at e2
  split at e2
  ·cases e2
   refine p1 _ _ (Z.own p (List.mem_of_getElem? e1)) fun q hq e=> ?_
   obtain ⟨j,hj⟩:=List.mem_iff_getElem?.mp hq
   have lj:=(List.getElem?_eq_some_iff.mp hj).1
   have:=Z.inj j i q p (by rw [List.map_append,List.getElem?_append_left lj];exact hj) e1 e
   rw [List.length_map] at lj
   lia
  ·cases e2
theorem VV {kt:KT} {a:Addr} {o o':Obj} {rest:List (Option (Addr×Obj))} {an:jZ} {ts:List Tok} {s:Shared} {h':Heap} {n:Nat} (Z:Vp kt s.heap (some (a,o)::rest)) (hs:Heap.SameBut a s.heap h') (ha:h'.get? a=some o') (hu:an.upd [] ts=(fun _=>o')::List.replicate rest.length id) (bb:an.ids.length=rest.length+1) (hn:an.new [] ts= []) (eh:an.na=0):
  kB (some (a,o)::rest) an [] ts s {s with heap:=h',toks:=n}:=by
 refine ⟨fun b x e n=>(hs.2 b (Ne.symm (n (a,o) (.head _)))).trans e,by rw [hu];simp,fun i p f h1 h2=> ?_,by rw [hn,eh];rfl,fun i b o h1=>by simp at h1,.nil,rfl,rfl,rfl⟩
 rw [hu] at h2
 cases i with
 |zero=>
  cases h1;cases h2
  exact ha
 |succ i=>
  have fV:(List.replicate rest.length (id:Obj→Obj))[i]? =some f:=by simpa using h2
  rw [List.getElem?_replicate] at fV
  split at fV
  ·cases fV
   have dM:p.1≠a:=fun e=>by
    have:=Z.inj (i+1) 0 p (a,o) h1 rfl e
    cases this
   exact (hs.2 _ dM).trans (Z.own p (List.mem_of_getElem? h1))
  ·cases fV
noncomputable def jz (k m:Nat):Obj:=⟨.type "range_iterator",none,.fields #[.int (k:Int) 0,.int (m:Int) 0,.int 1 0],#[]⟩
noncomputable def kc (l:Addr) (i:Nat):Obj:=⟨.type "list_iterator",none,.fields #[.ref l,.int (i:Int) 0],#[]⟩
def jj (k m:Nat):jZ:={ids:=List.range 1,na:=0,nt:=1,res:=fun _ ts=> .ok (.ret (.int (k:Int) (ts.getD 0 0))),upd:=fun _ _=> [fun _=>jz (k+1) m],new:=fun _ _=> []}
def yr (l:Addr) (i:Nat) (v:Value):jZ:={ids:=List.range 2,na:=0,nt:=0,res:=fun _ _=> .ok (.ret v),upd:=fun _ _=> [fun _=>kc l (i+1),id],new:=fun _ _=> []}
noncomputable def kd (v:Value):Obj→Obj
 |⟨k,d,.seq xs n,s⟩=>⟨k,d,.seq (xs.push v) (n+1),s⟩
 |o=>o
def vm (v:Value):jZ:={ids:=List.range 1,na:=0,nt:=0,res:=fun _ _=> .ok (.ret .none),upd:=fun _ _=> [kd v],new:=fun _ _=> []}
theorem je {w:World} {kt:KT} {d:Nat} {it:Addr} (k m:Nat):j6 pw w kt (jj k m) d (.call (.builtin "range_iterator.__next__") ⟨[.ref it],[]⟩) [some (it,jz k (m+1))]:=by
 refine .of ?_;intro A R s S Z hR
 have hl:=Z.own _ (.head _)
 refine uu F.slot_range_iterator_next (kG hl rfl) F.entry_range_iterator_next (F.args_range_iterator_next_1 _) (AutoRange.range_iterator___next___range_iterator_1 it k ((m+1:Nat):Int) 1 (by lia)) _ _ _ _ ⟨hl,?_⟩
 have g1:=Heap.get?_update_self (Obj.mapFields fun x=>x.setIfInBounds 0 (rawInt ((k:Int)+1))) hl rfl
 have g2:=Heap.get?_update_self (Obj.mapFields fun x=>x.setIfInBounds 1 (rawInt (((m+1:Nat):Int)-1))) g1 rfl
 have x1:Heap.SameBut it s.heap (s.heap.update it (Obj.mapFields fun x=>x.setIfInBounds 0 (rawInt ((k:Int)+1)))):=Heap.SameBut.update ..
 have x2:Heap.SameBut it (s.heap.update it (Obj.mapFields fun x=>x.setIfInBounds 0 (rawInt ((k:Int)+1)))) ((s.heap.update it (Obj.mapFields fun x=>x.setIfInBounds 0 (rawInt ((k:Int)+1)))).update it (Obj.mapFields fun x=>x.setIfInBounds 1 (rawInt (((m+1:Nat):Int)-1)))):=Heap.SameBut.update ..
 refine hR _ [] [s.toks] rfl rfl (VV (o':=jz (k+1) m) Z ⟨x2.1.trans x1.1,fun b hb=>(x2.2 b hb).trans (x1.2 b hb)⟩ ?_ rfl rfl rfl rfl)
 have e:(((m+1:Nat):Int)-1)=(m:Int):=by lia
 have e':((k:Int)+1)=((k+1:Nat):Int):=rfl
 rw [g2]
 show some (⟨_,_,.fields #[.int ((k:Int)+1) 0,.int (((m+1:Nat):Int)-1) 0,.int 1 0],_⟩:Obj)=_
 rw [e,e']
 rfl
theorem Ii {it l:Addr} {i:Nat} {xs:Array Value} {n:Nat} {v:Value} (hx:xs[i]? =some v):
  Meets (Builtin.«list_iterator.__next__» ⟨[.ref it],[]⟩) (fun _ R s=>s.heap.get? it=some (kc l i)∧s.heap.get? l=some (jA xs n)∧R (.ok (.ret v)) {s with heap:=s.heap.update it (Obj.mapFields (·.setIfInBounds 1 (rawInt ((i:Int)+1))))}):=by
 intro prog w A R s ⟨hit,hl,h⟩
 show wpAny _ _ (field (.ref it) 0>>=_) _ _ s
 refine wpAny_bind (wpAny_field hit rfl (x:= .ref l) rfl ?_)
 show wpAny _ _ (if (Value.ref l==Value.none)=true then _ else _) _ _ s
 rw [if_neg (show ¬((Value.ref l==Value.none)=true) from Bool.false_ne_true)]
 show wpAny _ _ (field (.ref it) 1>>=_) _ _ s
 refine wpAny_bind (wpAny_field hit rfl (x:= .int i 0) rfl ?_)
 show wpAny _ _ (seqItems? (.ref l)>>=_) _ _ s
 refine wpAny_bind (wpAny_seqItems hl rfl ?_)
 simp only [Int.toNat_natCast,hx]
 exact wpAny_bind (wpAny_setField hit rfl (show 1<2 by decide) (wpAny_pure h))
theorem vR {w:World} {kt:KT} {d:Nat} {it l:Addr} {i:Nat} {xs:Array Value} {n:Nat} {v:Value} (hx:xs[i]? =some v):j6 pw w kt (yr l i v) d (.call (.builtin "list_iterator.__next__") ⟨[.ref it],[]⟩) [some (it,kc l i),some (l,jA xs n)]:=by
 refine .of ?_;intro A R s S Z hR
 have h1:=Z.own _ (.head _)
 have h2:=Z.own _ (.tail _ (.head _))
 refine uu slot_listiter_next (kG h1 rfl) entry_listiter_next (args_listiter_next _) (Ii hx) _ _ _ _ ⟨h1,h2,?_⟩
 have g1:=Heap.get?_update_self (Obj.mapFields (·.setIfInBounds 1 (rawInt ((i:Int)+1)))) h1 rfl
 refine hR _ [] [] rfl rfl (VV (n:=s.toks) (o':=kc l (i+1)) Z (Heap.SameBut.update ..) ?_ rfl rfl rfl rfl)
 have e':((i:Int)+1)=((i+1:Nat):Int):=rfl
 rw [g1]
 show some (⟨_,_,.fields #[.ref l,.int ((i:Int)+1) 0],_⟩:Obj)=_
 rw [e']
 rfl
theorem uH {w:World} {kt:KT} {d:Nat} {l:Addr} {xs:Array Value} {n:Nat} {v:Value} (hs:xs.size≤1000):j6 pw w kt (vm v) d (.call (.builtin "list.append") ⟨[.ref l,v],[]⟩) [some (l,jA xs n)]:=by
 refine .of ?_;intro A R s S Z hR
 have hl:=Z.own _ (.head _)
 refine uu slot_list_append (kG hl rfl) entry_list_append (args_list_append _ _) (AutoListH.list_append_list_val_0 l xs n v (by have e:sizeLine=16777216:=rfl;lia)) _ _ _ _ ⟨hl,?_⟩
 have g1:=Heap.get?_update_self (Obj.mapSeq fun x=>x.push v) hl rfl
 refine hR _ [] [] rfl rfl ?_
 have key:Heap.get? (s.heap.update l (Obj.mapSeq fun x=>x.push v)) l=some (kd v (jA xs n)):=by
  rw [g1]
  show some (⟨_,_,.seq (xs.push v) (if (xs.push v).size==xs.size then n else n+1),_⟩:Obj)=some ⟨_,_,.seq (xs.push v) (n+1),_⟩
  rw [if_neg]
  simp
 have p:=VV (n:=s.toks) (an:={vm v with upd:=fun _ _=> [fun _=>kd v (jA xs n)]}) (ts:= []) (o':=kd v (jA xs n)) Z (Heap.SameBut.update ..) key rfl rfl rfl rfl
 obtain ⟨p1,p2,p3,p4,p5,p6,p7,p8,p9⟩:=p
 refine ⟨p1,rfl,fun i q f h1 h2=> ?_,p4,p5,p6,p7,p8,p9⟩
 have hi:i<1:=(List.getElem?_eq_some_iff.mp h1).1
 obtain rfl:i=0:=by lia
 cases h1;cases h2
 exact key
noncomputable def A8 (t:Addr):Obj:=⟨.type "StopIteration",none,.fields #[.ref t,.none,.none,.none,.bool false,.none],#[]⟩
noncomputable def ki (i:Nat):Obj:=⟨.type "list_iterator",none,.fields #[.none,.int (i:Int) 0],#[]⟩
def Jh (i:Nat):jZ:={ids:=List.range 2,na:=1,nt:=1,res:=fun as _=> .error (.ref (as.getD 0 0)),upd:=fun _ _=> [fun _=>ki i,id],new:=fun _ ts=> [A8 (ts.getD 0 0)]}
theorem Uy {w:World} {kt:KT} {d:Nat} {it l:Addr} {i:Nat} {xs:Array Value} {n:Nat} (hx:xs[i]? =none):j6 pw w kt (Jh i) d (.call (.builtin "list_iterator.__next__") ⟨[.ref it],[]⟩) [some (it,kc l i),some (l,jA xs n)]:=by
 refine .of ?_;intro A R s S Z hR
 have h1:=Z.own _ (.head _)
 have h2:=Z.own _ (.tail _ (.head _))
 refine codeAny_call_builtin slot_listiter_next.plain entry_listiter_next (slot_listiter_next.check _ _ _ _ _ _ _ _ (kG h1 rfl) (args_listiter_next _) ?_)
 show wpAny _ _ (field (.ref it) 0>>=_) _ _ s
 refine wpAny_bind (wpAny_field h1 rfl (x:= .ref l) rfl ?_)
 show wpAny _ _ (if (Value.ref l==Value.none)=true then _ else _) _ _ s
 rw [if_neg (show ¬((Value.ref l==Value.none)=true) from Bool.false_ne_true)]
 show wpAny _ _ (field (.ref it) 1>>=_) _ _ s
 refine wpAny_bind (wpAny_field h1 rfl (x:= .int i 0) rfl ?_)
 show wpAny _ _ (seqItems? (.ref l)>>=_) _ _ s
 refine wpAny_bind (wpAny_seqItems h2 rfl ?_)
 simp only [Int.toNat_natCast,hx]
 refine wpAny_bind (wpAny_rule (wpAny_bind (wpAny_setField h1 rfl (show 0<2 by decide) ?_)))
 have g3:=Heap.get?_update_self (Obj.mapFields (·.setIfInBounds 0 .none)) h1 rfl
 have x1:Heap.SameBut it s.heap (s.heap.update it (Obj.mapFields (·.setIfInBounds 0 .none))):=Heap.SameBut.update ..
 generalize s.heap.update it (Obj.mapFields (·.setIfInBounds 0 .none))=h3 at g3 x1⊢
 show wpAny _ _ (newExc (.type "StopIteration") []>>=_) _ _ _
 refine wpAny_bind ?_
 simp only [newExc,newTuple]
 refine wpAny_bind (wpAny_newObj_type ?_ (by size_fits))
 refine wpAny_bind (m:=firstArgMember _ _) (wpAny_of_eq (a:=Value.none) (by first|rfl|(simp only [firstArgMember];rfl)) ?_)
 refine wpAny_newObj_type ?_ (by size_fits)
 simp only [raiseNew]
 refine wpAny_bind (wpAny_handled ?_)
 rw [show A.in1.handled=none from S.handled]
 refine wpAny_bind (wpAny_pure (wpAny_throw ?_))
 have Ij:(h3.push {cls:= .type "tuple",data:= .seq #[]}).objs.size=h3.objs.size+1:=by
  cases h3
  simp [Heap.push]
 refine hR {s with heap:=(h3.push {cls:= .type "tuple",data:= .seq #[]}).push (A8 h3.objs.size)} [(h3.push {cls:= .type "tuple",data:= .seq #[]}).objs.size] [h3.objs.size] rfl rfl ⟨fun b o e n=>Heap.get?_push_of_some _ (Heap.get?_push_of_some _ ((x1.2 b (Ne.symm (n _ (.head _)))).trans e)),rfl,fun j p f e1 e2=> ?_,rfl,fun j a o e1 e2=> ?_,by simp,rfl,rfl,rfl⟩
 ·have hj:j<2:=(List.getElem?_eq_some_iff.mp e1).1
  have:j=0∨j=1:=by lia
  rcases this with rfl|rfl
  ·cases e1;cases e2
   exact Heap.get?_push_of_some _ (Heap.get?_push_of_some _ g3)
  ·cases e1;cases e2
   have dM:l≠it:=fun e=>by
    have:=Z.inj 1 0 _ _ rfl rfl e
    cases this
   exact Heap.get?_push_of_some _ (Heap.get?_push_of_some _ ((x1.2 l dM).trans h2))
 ·have hj:j<1:=(List.getElem?_eq_some_iff.mp e1).1
  obtain rfl:j=0:=by lia
  cases e1;cases e2
  refine ⟨Heap.get?_push_size _ rfl,?_⟩
  cases q:s.heap.get? (h3.push {cls:= .type "tuple",data:= .seq #[]}).objs.size with
  |none=>rfl
  |some o=>
   have:=Heap.lt_size q
   rw [Ij,x1.1] at this
   exact absurd this (Nat.not_lt.mpr (Nat.le_succ _))
noncomputable def hS:Stmt→Expr
 | .Assign _ v _=>v
 |_=>default
def oP:List Stmt:=Vu xq
def Y8:Expr:=hS (oP.getD 0 default)
def VQ:Expr:=hS (oP.getD 1 default)
noncomputable def mQ:Expr→Scope
 | .ListComp _ _ sc _=>sc
 |_=>default
noncomputable def oQ (l:List (List Nat)) (sc:Scope):Scope:={sc with names:=sc.names.map fun x=>match l.any (fun y=>y==x.1.cps.toList) with
 |true=>(x.1,.cell)
 |false=>x}
noncomputable def A9:Str:=⟨#[95,108,97,119,95,112,114,111,103,114,97,109,46,60,108,111,99,97,108,115,62,46,115,101,97,114,99,104,46,60,108,111,99,97,108,115,62,46]⟩
noncomputable def mR (sc:Scope) (d:Addr) (cells:List (Str×Addr)) (q:Str) (co:Value) (fr:Option Addr):Env:={scope:=sc,locals:=d,globals:=3,cells:=cells,qual:=q,func:=none,code:=co,frame:=fr,builtins:=0}
def dK (P:Params) (kt:Tok) (v:Value):Obj:=⟨.type "dict",none,.dict #[⟨uf P ⟨#[107]⟩,.str ⟨#[107]⟩ kt,v⟩] 1,#[]⟩
noncomputable def dE:Obj:=⟨.type "dict",none,.dict #[] 0,#[]⟩
noncomputable def j8 (v:Value):Obj:=⟨.type "cell",none,.cell (some v),#[]⟩
def yf (d cT cP cE cH:Addr) (co:Value) (fr:Option Addr):Env:=mR (oQ [[99,104,97,114,115],[112,108,97,99,101]] (mQ Y8)) d [(⟨#[116,101,120,116]⟩,cT),(⟨#[112,108,97,99,101]⟩,cP),(⟨#[101,110,100,115]⟩,cE),(⟨#[99,104,97,114,115]⟩,cH)] A9 co fr
def y8 (d cC:Addr) (co:Value) (fr:Option Addr):Env:=mR (mQ VQ) d [(⟨#[99,111,117,110,116,115]⟩,cC)] A9 co fr
noncomputable def JJ:List (Nat×Tok)→List Value
 | []=> []
 |(k,t)::l=> .int (k:Int) t::JJ l
noncomputable def yV:List (Nat×Tok)→Value→Value
 | [],v=>v
 |(k,t)::l,_=>yV l (.int (k:Int) t)
noncomputable def c2 (C:Nat→Bool):List (Nat×Tok)→List Value→Nat→List Value×Nat
 | [],xs,e=>(xs,e)
 |(k,t)::l,xs,e=>match C k with
  |true=>c2 C l (xs++ [.int (k:Int) t]) (e+1)
  |false=>c2 C l xs e
noncomputable def jo:Nat→Nat→List Tok→List (Nat×Tok)
 |_,0,_=> []
 |p,m+1,ts=>(p,ts.getD 0 0)::jo (p+1) m ts.tail
def mS (M:Nat) (XS:List Value) (e:Nat) (v:Value):jZ:={ids:=List.range 6,na:=0,nt:=0,res:=fun _ _=> .ok .next,upd:=fun _ _=> [fun _=>ki M,fun _=>j0 XS e,jO 0 v,id,id,id],new:=fun _ _=> []}
def oR (P:Params) (M:Nat) (XS:List Value) (e:Nat) (v:Value):jZ:={ids:=List.range 6,na:=0,nt:=1,res:=fun _ _=> .ok .next,upd:=fun _ ts=> [fun _=>ki M,fun _=>j0 XS e,fun _=>dK P (ts.getD 0 0) v,id,id,id],new:=fun _ _=> []}
def Ya:jZ:={ids:=List.range 6,na:=0,nt:=0,res:=fun _ _=> .ok .next,upd:=fun _ _=> [fun _=>ki 0,id,id,id,id,id],new:=fun _ _=> []}
def y9 (P:Params) (n p:Nat):jZ:={ids:=List.range 8,na:=0,nt:=7,res:=fun _ _=> .ok .next,upd:=fun _ ts=> [fun _=>jz n 0,fun _=>j0 (JJ (jo p (n-p) (ts.drop 2))) (n-p),fun _=>dK P (ts.getD 0 0) (.int ((n:Int)-1) (ts.getD 1 0)),id,id,id,id,id],new:=fun _ _=> []}
noncomputable def fX (e:Expr) (name qual:Str) (globals:Addr) (closure:List (Str×Addr)) (defaults pm code ct:Value) (builtins:Addr):FuncData:=match e with
 | .Lambda args body scope _=>{name,qualname:=qual,params:=args,body:= .expr body,scope,globals,closure,defaults,kwdefaults:= .none,pyModule:=pm,code,closureTuple:=ct,builtins}
 |_=>default
def oS:Expr:=hS ((xv (oP.getD 4 default)).getD 0 default)
def oT:Expr:=hS ((xx (oP.getD 4 default)).getD 0 default)
def JZ (C:Nat→Bool) (n p:Nat) (ts:List Tok):List Value:=(c2 C (jo p (n-p) ts) [] 0).1
def UU (C:Nat→Bool) (n p:Nat):Nat:=(c2 C (jo p (n-p) []) [] 0).2
def dX (n p:Nat) (ts:List Tok):List Value:=JJ (jo p (n-p) ts)
def yS (P:Params) (C:Nat→Bool) (n p:Nat):jZ:={ids:=List.range 6,na:=0,nt:=6,res:=fun _ _=> .ok .next,upd:=fun _ ts=> [fun _=>ki (n-p),fun _=>j0 (JZ C n p (ts.drop 1)) (UU C n p),fun _=>dK P (ts.getD 0 0) (yV (jo p (n-p) (ts.drop 1)) .none),id,id,id],new:=fun _ _=> []}
structure jX where
 aP:Addr
 d2:Addr
 aF:Addr
 aN:Addr
 bD:Addr
 cT:Addr
 cE:Addr
 cC:Addr
 cB:Addr
 b':Addr
 lE:Addr
 lC:Addr
 r8:Addr
 d3:Addr
 af:Addr
 aA:Addr
 ct:Addr
 q0:Tok
 q1:Tok
 q2:Tok
 d4:Nat
 d5:Tok
 tx:Tok
 t0:Tok
 T:Str
 eE:Nat
 eC:Nat
 k1:Tok
 k2:Tok
 k3:Tok
 k4:Tok
 k5:Tok
 v1:Value
 v3:Value
 v4:Value
noncomputable def A':Str:=⟨#[95,108,97,119,95,112,114,111,103,114,97,109,46,60,108,111,99,97,108,115,62,46,115,101,97,114,99,104]⟩
namespace jX
variable (L:jX) (P:Params)
def fn:Obj:=⟨.type "function",none,.func (xr xq ⟨#[115,101,97,114,99,104]⟩ A' 3 [(⟨#[116,101,120,116]⟩,L.cT),(⟨#[101,110,100,115]⟩,L.cE),(⟨#[99,111,117,110,116,115]⟩,L.cC),(⟨#[98,97,114,115]⟩,L.cB)] (.ref L.b') (.str ⟨#[108,97,119,95,112,107,48,48,51,53,95,48,49]⟩ 262) (.ref L.aN) (.ref L.ct) 0),#[]⟩
def bq:Obj:=⟨.type "code",none,.fields #[.str ⟨#[115,101,97,114,99,104]⟩ L.q0,.str A' L.q1,.str ⟨#[47,99,108,97,105,109,47,99,117,116,46,112,121]⟩ L.q2,.int 91 0,.int 2 0,.int 0 0,.int 0 0,.int 19 0,.ref L.r8,.bool true,.int 181 0,.ref L.bD,.none,.none,.none,.ref L.d3,.int (L.d4:Int) 0,.int 91 0,.str ⟨#[47,99,108,97,105,109,47,99,117,116,46,112,121]⟩ L.d5],#[]⟩
noncomputable def cg:Obj:=⟨.type "tuple",none,.seq #[.int 0 L.t0] 0,#[]⟩
end jX
noncomputable def sP:Str:=⟨#[95,108,97,119,95,112,114,111,103,114,97,109,46,60,108,111,99,97,108,115,62,46,115,101,97,114,99,104,46,60,108,111,99,97,108,115,62,46,60,108,97,109,98,100,97,62]⟩
structure uD where
 aH:Addr
 sQ:Addr
 d6:Addr
 cW:Addr
 cB:Addr
 lW:Addr
 lB:Addr
 co:Addr
 k1:Tok
 i1:Tok
 k2:Tok
 k3:Tok
 w3:Tok
 k4:Tok
 k5:Tok
 pb:Addr
 ct:Addr
namespace uD
variable (H:uD) (P:Params) (cE:Addr)
noncomputable def hit:Obj:=⟨.ref 59,some H.sQ,.plain,#[]⟩
def i6:Obj:=⟨.type "dict",none,.dict #[⟨uf P ⟨#[108,105,110,101,110,111]⟩,.str ⟨#[108,105,110,101,110,111]⟩ H.k1,.int 1 H.i1⟩,⟨uf P ⟨#[105,110,115,116,114,101,97,109]⟩,.str ⟨#[105,110,115,116,114,101,97,109]⟩ H.k2,.none⟩,⟨uf P ⟨#[119,104,105,116,101,115,112,97,99,101]⟩,.str ⟨#[119,104,105,116,101,115,112,97,99,101]⟩ H.k3,.str ⟨#[10,9,13,32]⟩ H.w3⟩,⟨uf P ⟨#[112,117,115,104,98,97,99,107]⟩,.str ⟨#[112,117,115,104,98,97,99,107]⟩ H.k4,.ref H.pb⟩,⟨uf P ⟨#[115,112,97,110]⟩,.str ⟨#[115,112,97,110]⟩ H.k5,.ref H.d6⟩] 5,#[]⟩
def mU:Obj:=⟨.type "function",none,.func (fX oT ⟨#[60,108,97,109,98,100,97,62]⟩ sP 3 [(⟨#[119,97,110,116,101,100]⟩,H.cW),(⟨#[101,110,100,115]⟩,cE),(⟨#[98,101,103,105,110,115]⟩,H.cB)] .none (.str ⟨#[108,97,119,95,112,107,48,48,51,53,95,48,49]⟩ 262) (.ref H.co) (.ref H.ct) 0),#[]⟩
def hU:Obj:=⟨.type "function",none,.func (fX oS ⟨#[60,108,97,109,98,100,97,62]⟩ sP 3 [(⟨#[119,97,110,116,101,100]⟩,H.cW),(⟨#[101,110,100,115]⟩,cE)] .none (.str ⟨#[108,97,119,95,112,107,48,48,51,53,95,48,49]⟩ 262) (.ref H.co) (.ref H.ct) 0),#[]⟩
def Ba (WT:List Value) (eW:Nat) (BG:List Value) (eB:Nat):List (Addr×Obj):= [(H.aH,H.hit),(H.sQ,H.i6 P),(H.d6,H.mU cE),(H.cW,j8 (.ref H.lW)),(H.cB,j8 (.ref H.lB)),(H.lW,j0 WT eW),(H.lB,j0 BG eB)]
def Bb (WT:List Value) (eW:Nat):List (Addr×Obj):= [(H.aH,H.hit),(H.sQ,H.i6 P),(H.d6,H.hU cE),(H.cW,j8 (.ref H.lW)),(H.lW,j0 WT eW)]
noncomputable def Bc (co:Addr) (as:List Addr) (ts:List Tok):uD:=⟨as.getD 0 0,as.getD 1 0,as.getD 2 0,as.getD 3 0,as.getD 4 0,as.getD 5 0,as.getD 6 0,co,ts.getD 0 0,ts.getD 1 0,ts.getD 2 0,ts.getD 3 0,ts.getD 4 0,ts.getD 5 0,ts.getD 6 0,ts.getD 7 0,ts.getD 8 0⟩
noncomputable def ofT (co:Addr) (as:List Addr) (ts:List Tok):uD:=⟨as.getD 0 0,as.getD 1 0,as.getD 2 0,as.getD 3 0,0,as.getD 4 0,0,co,ts.getD 0 0,ts.getD 1 0,ts.getD 2 0,ts.getD 3 0,ts.getD 4 0,ts.getD 5 0,ts.getD 6 0,ts.getD 7 0,ts.getD 8 0⟩
end uD
def jD (ln:Int) (co:List Tok):Obj:=⟨.type "code",none,.fields #[.str ⟨#[60,108,97,109,98,100,97,62]⟩ (co.getD 0 0),.str sP (co.getD 1 0),.str ⟨#[47,99,108,97,105,109,47,99,117,116,46,112,121]⟩ (co.getD 2 0),.int ln 0,.int 0 0,.int 0 0,.int 0 0,.int 19 0,.ref (co.getD 3 0),.bool true,.int 181 0,.ref (co.getD 4 0),.none,.ref (co.getD 5 0),.ref (co.getD 6 0),.ref (co.getD 7 0),.int ((co.getD 8 0:Nat):Int) 0,.int ln 0,.str ⟨#[47,99,108,97,105,109,47,99,117,116,46,112,121]⟩ (co.getD 9 0)],#[]⟩
namespace jX
variable (L:jX)
def bK (PL:List Value) (B:Bool) (Es Cs:List Value):List (Addr×Obj):= [(L.aF,L.fn),(L.aN,L.bq),(L.bD,⟨.none,none,.fields PL.toArray,#[]⟩),(L.cT,j8 (.str L.T L.tx)),(L.cE,j8 (.ref L.lE)),(L.cC,j8 (.ref L.lC)),(L.cB,j8 (.bool B)),(L.b',L.cg),(L.lE,j0 Es L.eE),(L.lC,j0 Cs L.eC)]
end jX
noncomputable def sR:List (Obj→Obj):= [id,id,id,id,id,id,id,id,id,id]
noncomputable def oU (l:List (Addr×Obj)):List Obj:=l.map (·.2)
noncomputable def eQ:List Value:= []
noncomputable def jL (a:Addr):List Value:= [.int 100 0,.int 23 0,.ref a]
noncomputable def ku (a b:Addr):List Value:= [.int 100 0,.int 23 0,.ref a,.int 98 0,.int 23 0,.ref b]
def hV:jZ:={ids:=List.range 10,na:=0,nt:=0,res:=fun _ _=> .ok (.ret .none),upd:=fun _ _=>sR,new:=fun _ _=> []}
def yb (P:Params) (L:jX) (C:Nat→Bool) (n p:Nat):jZ:={ids:=List.range 10,na:=7,nt:=19,res:=fun as _=> .ok (.ret (.ref (as.getD 0 0))),upd:=fun _ _=>sR,new:=fun as ts=>oU ((uD.Bc L.af as ts).Ba P L.cE (JZ C n p ((ts.drop 9).take 5)) (UU C n p) (dX n p ((ts.drop 14).take 5)) (n-p))}
def yv (P:Params) (L:jX) (C:Nat→Bool) (n p:Nat):jZ:={ids:=List.range 10,na:=5,nt:=14,res:=fun as _=> .ok (.ret (.ref (as.getD 0 0))),upd:=fun _ _=>sR,new:=fun as ts=>oU ((uD.ofT L.aA as ts).Bb P L.cE (JZ C n p ((ts.drop 9).take 5)) (UU C n p))}
noncomputable def Bd (as:List Addr):List Addr:= [as.getD 0 0,as.getD 2 0,as.getD 3 0,as.getD 4 0,as.getD 5 0,as.getD 6 0,as.getD 7 0]
noncomputable def Be (o:Obj):List Obj→List Obj
 | []=> []
 |a::l=>a::o::l
def oV (P:Params) (L:jX) (C:Nat→Bool) (n p:Nat):jZ:={ids:=List.range 10,na:=8,nt:=29,res:=fun as _=> .ok (.ret (.ref (as.getD 0 0))),upd:=fun as _=> [id,id,fun _=>⟨.none,none,.fields (jL (as.getD 1 0)).toArray,#[]⟩,id,id,id,id,id,id,id],new:=fun as ts=>Be (jD 100 (ts.drop 19)) (oU ((uD.Bc (as.getD 1 0) (Bd as) ts).Ba P L.cE (JZ C n p ((ts.drop 9).take 5)) (UU C n p) (dX n p ((ts.drop 14).take 5)) (n-p)))}
def Yb (P:Params) (L:jX) (C:Nat→Bool) (n p:Nat):jZ:={ids:=List.range 10,na:=6,nt:=24,res:=fun as _=> .ok (.ret (.ref (as.getD 0 0))),upd:=fun as _=> [id,id,fun _=>⟨.none,none,.fields (ku L.af (as.getD 1 0)).toArray,#[]⟩,id,id,id,id,id,id,id],new:=fun as ts=>Be (jD 98 (ts.drop 14)) (oU ((uD.ofT (as.getD 1 0) (Bd as) ts).Bb P L.cE (JZ C n p ((ts.drop 9).take 5)) (UU C n p)))}
namespace jX
variable (L:jX) (P:Params)
noncomputable def prog:Obj:=⟨.ref 59,some L.d2,.plain,#[]⟩
def ei:Obj:=⟨.type "dict",none,.dict #[⟨uf P ⟨#[108,105,110,101,110,111]⟩,.str ⟨#[108,105,110,101,110,111]⟩ L.k1,L.v1⟩,⟨uf P ⟨#[105,110,115,116,114,101,97,109]⟩,.str ⟨#[105,110,115,116,114,101,97,109]⟩ L.k2,.none⟩,⟨uf P ⟨#[119,104,105,116,101,115,112,97,99,101]⟩,.str ⟨#[119,104,105,116,101,115,112,97,99,101]⟩ L.k3,L.v3⟩,⟨uf P ⟨#[112,117,115,104,98,97,99,107]⟩,.str ⟨#[112,117,115,104,98,97,99,107]⟩ L.k4,L.v4⟩,⟨uf P ⟨#[115,101,97,114,99,104]⟩,.str ⟨#[115,101,97,114,99,104]⟩ L.k5,.ref L.aF⟩] 5,#[]⟩
def aV (PL:List Value) (B:Bool) (Es Cs:List Value):List (Addr×Obj):= [(L.aP,L.prog),(L.d2,L.ei P)]++L.bK PL B Es Cs
end jX
def Ik:=kg [uN,uN,uN,uN,V1]
def Il:=kg [uO,uN,uN,uN,V1]
def Im:=kg [uO,uO,uN,uN,V1]
def Io:=kg [uO,uO,uO,uN,V1]
def Ip:=kg [uO,uO,uO,uO,V1]
def Bf:=kg [0x19af60101910101]
def Bg:=kg [105206]
def Iq:=kg [uN,uN,uN,uN,uN,V1]
def Ir:=kg [uO,uN,uN,uN,uN,V1]
def Iu:=kg [uO,uO,uN,uN,uN,V1]
def Iv:=kg [uO,uO,uO,uN,uN,V1]
def Iw:=kg [uO,uO,uO,uO,uN,V1]
def Iy:=kg [uO,uO,uO,uO,uO,V1]
abbrev fb (x0 x1 x2 x3:Addr) (x4:Str) (x5:Tok) (x6:Addr) (x7:Int) (x8:Tok) (x9 aJ aB:Addr) (bO:Tok) (bF:Int) (bP:Tok) (aK:Int) (bS:Tok) (bV:Int) (bB:Tok) (bI:Int) (d7:Tok) (du:Int) (d8:Tok) (dN:Int) (eU:Tok) (eV:Nat):= [(x0,(fo "range_iterator" [(vi 0 0),(vi 5 0),(vi 1 0)])),(x1,(j0 [] 0)),(x2,dE),(x3,(j8 (vt x4 x5))),(x6,(j8 (vi x7 x8))),(x9,(j8 (rf aJ))),(aB,(j8 (vt x4 bO))),(aJ,(j0 [(vi bF bP),(vi aK bS),(vi bV bB),(vi bI d7),(vi du d8),(vi dN eU)] eV))]
abbrev fJ (x0 x1 x2 x3:Addr) (x4:Str) (x5:Tok) (x6:Addr) (x7:Int) (x8:Tok) (x9 aJ aB:Addr) (bO:Tok) (bF:Int) (bP:Tok) (aK:Int) (bS:Tok) (bV:Int) (bB:Tok) (bI:Int) (d7:Tok) (du:Int) (d8:Tok) (dN:Nat):= [(x0,(fo "range_iterator" [(vi 0 0),(vi 4 0),(vi 1 0)])),(x1,(j0 [] 0)),(x2,dE),(x3,(j8 (vt x4 x5))),(x6,(j8 (vi x7 x8))),(x9,(j8 (rf aJ))),(aB,(j8 (vt x4 bO))),(aJ,(j0 [(vi bF bP),(vi aK bS),(vi bV bB),(vi bI d7),(vi du d8)] dN))]
noncomputable abbrev yF (x0:Str):=x0.cps.toList==x0.cps.toList
abbrev i7:=fo "range_iterator" [(vi 5 0),(vi 0 0),(vi 1 0)]
abbrev mV:=fo "range_iterator" [(vi 4 0),(vi 0 0),(vi 1 0)]
abbrev i9 (x0:Params) (x1:Nat→Tok) (x2 x3:Nat):=dO "dict" [(de x0 [107] (x1 x2) (vi 4 (x1 x3)))] 1
section
variable (P:Params) (aI lW d cT cP cE cH lE:Addr) (co:Value) (fr:Option Addr) (TX:Str) (eE:Nat) (tx ty bl:Tok) (pl:Int) (ao:Tok) (E0:Int) (aq:Tok) (E1:Int) (au:Tok) (E2:Int) (av:Tok) (E3:Int) (aw:Tok) (E4:Int) (p:Nat) (aQ:Tok) (E5:Int)
def Iz:RD:=⟨(fJ aI lW d cT TX tx cP pl bl cE lE cH ty E0 ao E1 aq E2 au E3 av E4 aw eE),[],mA 8 0 5 (fun a t=> .ok .next) (fun a t=> [fun _=>(mV),fun _=>(j0 [(vi 0 (t 0)),(vi 1 (t 1)),(vi 2 (t 2)),(vi 3 (t 3))] 4),fun _=>(dO "dict" [(de P [107] (t 4) (vi 3 (t 3)))] 1),id,id,id,id,id]) (fun a t=> []),[],[0,2,4,6,1],[],8,fun q qT qS A K=> [(decide (E0≥pl))=true,(yF TX)=true,(decide (E1≥pl))=true,(yF TX)=true,(decide (E2≥pl))=true,(yF TX)=true,(decide (E3≥pl))=true,(yF TX)=true]⟩
theorem IA:GC P 12 (.compLoop Y8 0 (rf aI) (rf lW) (yf d cT cP cE cH co fr)) (Iz P aI lW d cT cP cE cH lE TX eE tx ty bl pl ao E0 aq E1 au E2 av E3 aw E4) (hk Ik):=ua
def IB:RD:=⟨(fJ aI lW d cT TX tx cP pl bl cE lE cH ty E0 ao E1 aq E2 au E3 av E4 aw eE),[],mA 8 0 4 (fun a t=> .ok .next) (fun a t=> [fun _=>(mV),fun _=>(j0 [(vi 1 (t 0)),(vi 2 (t 1)),(vi 3 (t 2))] 3),fun _=>(dO "dict" [(de P [107] (t 3) (vi 3 (t 2)))] 1),id,id,id,id,id]) (fun a t=> []),[],[2,4,6,1],[],7,fun q qT qS A K=> [(decide (E0≥pl))=false,(decide (E1≥pl))=true,(yF TX)=true,(decide (E2≥pl))=true,(yF TX)=true,(decide (E3≥pl))=true,(yF TX)=true]⟩
theorem IC:GC P 12 (.compLoop Y8 0 (rf aI) (rf lW) (yf d cT cP cE cH co fr)) (IB P aI lW d cT cP cE cH lE TX eE tx ty bl pl ao E0 aq E1 au E2 av E3 aw E4) (hk Il):=ua
def IE:RD:=⟨(fJ aI lW d cT TX tx cP pl bl cE lE cH ty E0 ao E1 aq E2 au E3 av E4 aw eE),[],mA 8 0 3 (fun a t=> .ok .next) (fun a t=> [fun _=>(mV),fun _=>(j0 [(vi 2 (t 0)),(vi 3 (t 1))] 2),fun _=>(dO "dict" [(de P [107] (t 2) (vi 3 (t 1)))] 1),id,id,id,id,id]) (fun a t=> []),[],[4,6,1],[],6,fun q qT qS A K=> [(decide (E0≥pl))=false,(decide (E1≥pl))=false,(decide (E2≥pl))=true,(yF TX)=true,(decide (E3≥pl))=true,(yF TX)=true]⟩
theorem IG:GC P 12 (.compLoop Y8 0 (rf aI) (rf lW) (yf d cT cP cE cH co fr)) (IE P aI lW d cT cP cE cH lE TX eE tx ty bl pl ao E0 aq E1 au E2 av E3 aw E4) (hk Im):=ua
def IH:RD:=⟨(fJ aI lW d cT TX tx cP pl bl cE lE cH ty E0 ao E1 aq E2 au E3 av E4 aw eE),[],mA 8 0 2 (fun a t=> .ok .next) (fun a t=> [fun _=>(mV),fun _=>(j0 [(vi 3 (t 0))] 1),fun _=>(dO "dict" [(de P [107] (t 1) (vi 3 (t 0)))] 1),id,id,id,id,id]) (fun a t=> []),[],[6,1],[],5,fun q qT qS A K=> [(decide (E0≥pl))=false,(decide (E1≥pl))=false,(decide (E2≥pl))=false,(decide (E3≥pl))=true,(yF TX)=true]⟩
theorem II:GC P 12 (.compLoop Y8 0 (rf aI) (rf lW) (yf d cT cP cE cH co fr)) (IH P aI lW d cT cP cE cH lE TX eE tx ty bl pl ao E0 aq E1 au E2 av E3 aw E4) (hk Io):=ua
def IJ:RD:=⟨(fJ aI lW d cT TX tx cP pl bl cE lE cH ty E0 ao E1 aq E2 au E3 av E4 aw eE),[],mA 8 0 2 (fun a t=> .ok .next) (fun a t=> [fun _=>(mV),id,fun _=>(dO "dict" [(de P [107] (t 0) (vi 3 (t 1)))] 1),id,id,id,id,id]) (fun a t=> []),[],[1,6],[],4,fun q qT qS A K=> [(decide (E0≥pl))=false,(decide (E1≥pl))=false,(decide (E2≥pl))=false,(decide (E3≥pl))=false]⟩
theorem IK:GC P 12 (.compLoop Y8 0 (rf aI) (rf lW) (yf d cT cP cE cH co fr)) (IJ P aI lW d cT cP cE cH lE TX eE tx ty bl pl ao E0 aq E1 au E2 av E3 aw E4) (hk Ip):=ua
def IL:RD:=⟨(fJ aI lW d cT TX tx cP pl bl cE lE cH ty E0 ao E1 aq E2 au E3 av E4 aw eE),[wi (rg 0 8) (y9 P 4 p)],mA 8 0 7 (fun a t=> .ok .next) (fun a t=> [fun _=>(jz 4 0),fun _=>(j0 (JJ (jo p (4-p) (kr t 0 5))) (4-p)),fun _=>(dK P (t 5) (vi (((4:Nat):Int)-1) (t 6))),id,id,id,id,id]) (fun a t=> []),[],(rg 2 5++ [0,1]),[],1,fun q qT qS A K=> [q 0 13 (.compLoop Y8 0 (rf aI) (rf lW) (yf d cT cP cE cH co fr)) (fJ aI lW d cT TX tx cP pl bl cE lE cH ty E0 ao E1 aq E2 au E3 av E4 aw eE)]⟩
theorem IM (b1:Bool):RC P b1 false 13 (.compStart Y8 0 (rf aI) (rf lW) (yf d cT cP cE cH co fr)) (IL P aI lW d cT cP cE cH lE co fr TX eE tx ty bl pl ao E0 aq E1 au E2 av E3 aw E4 p) Bf:=by cases b1<;>kernel_rfl
def IP:RD:=⟨(fJ aI lW d cT TX tx cP pl bl cE lE cH ty E0 ao E1 aq E2 au E3 av E4 aw eE),[wi (rg 0 8) (y9 P 4 p)],mA 8 0 7 (fun a t=> .ok .next) (fun a t=> [fun _=>(jz 4 0),fun _=>(j0 (JJ (jo p (4-p) (kr t 0 5))) (4-p)),fun _=>(dK P (t 5) (vi (((4:Nat):Int)-1) (t 6))),id,id,id,id,id]) (fun a t=> []),[],(rg 2 5++ [0,1]),[],1,fun q qT qS A K=> [q 0 13 (.compLoop Y8 0 (rf aI) (rf lW) (yf d cT cP cE cH co fr)) (fJ aI lW d cT TX tx cP pl bl cE lE cH ty E0 ao E1 aq E2 au E3 av E4 aw eE)]⟩
theorem IQ (b1:Bool):RC P b1 true 13 (.compStart Y8 0 (rf aI) (rf lW) (yf d cT cP cE cH co fr)) (IP P aI lW d cT cP cE cH lE co fr TX eE tx ty bl pl ao E0 aq E1 au E2 av E3 aw E4 p) Bg:=by cases b1<;>kernel_rfl
def IT:RD:=⟨(fb aI lW d cT TX tx cP pl bl cE lE cH ty E0 ao E1 aq E2 au E3 av E4 aw E5 aQ eE),[],mA 8 0 6 (fun a t=> .ok .next) (fun a t=> [fun _=>(i7),fun _=>(j0 [(vi 0 (t 0)),(vi 1 (t 1)),(vi 2 (t 2)),(vi 3 (t 3)),(vi 4 (t 4))] 5),fun _=>(i9 P t 5 4),id,id,id,id,id]) (fun a t=> []),[],[0,2,4,6,8,1],[],10,fun q qT qS A K=> [(decide (E0≥pl))=true,(yF TX)=true,(decide (E1≥pl))=true,(yF TX)=true,(decide (E2≥pl))=true,(yF TX)=true,(decide (E3≥pl))=true,(yF TX)=true,(decide (E4≥pl))=true,(yF TX)=true]⟩
theorem IU:GC P 12 (.compLoop Y8 0 (rf aI) (rf lW) (yf d cT cP cE cH co fr)) (IT P aI lW d cT cP cE cH lE TX eE tx ty bl pl ao E0 aq E1 au E2 av E3 aw E4 aQ E5) (hk Iq):=ua
def IV:RD:=⟨(fb aI lW d cT TX tx cP pl bl cE lE cH ty E0 ao E1 aq E2 au E3 av E4 aw E5 aQ eE),[],mA 8 0 5 (fun a t=> .ok .next) (fun a t=> [fun _=>(i7),fun _=>(j0 [(vi 1 (t 0)),(vi 2 (t 1)),(vi 3 (t 2)),(vi 4 (t 3))] 4),fun _=>(i9 P t 4 3),id,id,id,id,id]) (fun a t=> []),[],[2,4,6,8,1],[],9,fun q qT qS A K=> [(decide (E0≥pl))=false,(decide (E1≥pl))=true,(yF TX)=true,(decide (E2≥pl))=true,(yF TX)=true,(decide (E3≥pl))=true,(yF TX)=true,(decide (E4≥pl))=true,(yF TX)=true]⟩
theorem IW:GC P 12 (.compLoop Y8 0 (rf aI) (rf lW) (yf d cT cP cE cH co fr)) (IV P aI lW d cT cP cE cH lE TX eE tx ty bl pl ao E0 aq E1 au E2 av E3 aw E4 aQ E5) (hk Ir):=ua
def IX:RD:=⟨(fb aI lW d cT TX tx cP pl bl cE lE cH ty E0 ao E1 aq E2 au E3 av E4 aw E5 aQ eE),[],mA 8 0 4 (fun a t=> .ok .next) (fun a t=> [fun _=>(i7),fun _=>(j0 [(vi 2 (t 0)),(vi 3 (t 1)),(vi 4 (t 2))] 3),fun _=>(i9 P t 3 2),id,id,id,id,id]) (fun a t=> []),[],[4,6,8,1],[],8,fun q qT qS A K=> [(decide (E0≥pl))=false,(decide (E1≥pl))=false,(decide (E2≥pl))=true,(yF TX)=true,(decide (E3≥pl))=true,(yF TX)=true,(decide (E4≥pl))=true,(yF TX)=true]⟩
theorem IY:GC P 12 (.compLoop Y8 0 (rf aI) (rf lW) (yf d cT cP cE cH co fr)) (IX P aI lW d cT cP cE cH lE TX eE tx ty bl pl ao E0 aq E1 au E2 av E3 aw E4 aQ E5) (hk Iu):=ua
def IZ:RD:=⟨(fb aI lW d cT TX tx cP pl bl cE lE cH ty E0 ao E1 aq E2 au E3 av E4 aw E5 aQ eE),[],mA 8 0 3 (fun a t=> .ok .next) (fun a t=> [fun _=>(i7),fun _=>(j0 [(vi 3 (t 0)),(vi 4 (t 1))] 2),fun _=>(i9 P t 2 1),id,id,id,id,id]) (fun a t=> []),[],[6,8,1],[],7,fun q qT qS A K=> [(decide (E0≥pl))=false,(decide (E1≥pl))=false,(decide (E2≥pl))=false,(decide (E3≥pl))=true,(yF TX)=true,(decide (E4≥pl))=true,(yF TX)=true]⟩
theorem I6:GC P 12 (.compLoop Y8 0 (rf aI) (rf lW) (yf d cT cP cE cH co fr)) (IZ P aI lW d cT cP cE cH lE TX eE tx ty bl pl ao E0 aq E1 au E2 av E3 aw E4 aQ E5) (hk Iv):=ua
def I7:RD:=⟨(fb aI lW d cT TX tx cP pl bl cE lE cH ty E0 ao E1 aq E2 au E3 av E4 aw E5 aQ eE),[],mA 8 0 2 (fun a t=> .ok .next) (fun a t=> [fun _=>(i7),fun _=>(j0 [(vi 4 (t 0))] 1),fun _=>(i9 P t 1 0),id,id,id,id,id]) (fun a t=> []),[],[8,1],[],6,fun q qT qS A K=> [(decide (E0≥pl))=false,(decide (E1≥pl))=false,(decide (E2≥pl))=false,(decide (E3≥pl))=false,(decide (E4≥pl))=true,(yF TX)=true]⟩
theorem I8:GC P 12 (.compLoop Y8 0 (rf aI) (rf lW) (yf d cT cP cE cH co fr)) (I7 P aI lW d cT cP cE cH lE TX eE tx ty bl pl ao E0 aq E1 au E2 av E3 aw E4 aQ E5) (hk Iw):=ua
def I9:RD:=⟨(fb aI lW d cT TX tx cP pl bl cE lE cH ty E0 ao E1 aq E2 au E3 av E4 aw E5 aQ eE),[],mA 8 0 2 (fun a t=> .ok .next) (fun a t=> [fun _=>(i7),id,fun _=>(i9 P t 0 1),id,id,id,id,id]) (fun a t=> []),[],[1,8],[],5,fun q qT qS A K=> [(decide (E0≥pl))=false,(decide (E1≥pl))=false,(decide (E2≥pl))=false,(decide (E3≥pl))=false,(decide (E4≥pl))=false]⟩
theorem I':GC P 12 (.compLoop Y8 0 (rf aI) (rf lW) (yf d cT cP cE cH co fr)) (I9 P aI lW d cT cP cE cH lE TX eE tx ty bl pl ao E0 aq E1 au E2 av E3 aw E4 aQ E5) (hk Iy):=ua
def J':RD:=⟨(fb aI lW d cT TX tx cP pl bl cE lE cH ty E0 ao E1 aq E2 au E3 av E4 aw E5 aQ eE),[wi (rg 0 8) (y9 P 5 p)],mA 8 0 7 (fun a t=> .ok .next) (fun a t=> [fun _=>(jz 5 0),fun _=>(j0 (JJ (jo p (5-p) (kr t 0 5))) (5-p)),fun _=>(dK P (t 5) (vi (((5:Nat):Int)-1) (t 6))),id,id,id,id,id]) (fun a t=> []),[],(rg 2 5++ [0,1]),[],1,fun q qT qS A K=> [q 0 13 (.compLoop Y8 0 (rf aI) (rf lW) (yf d cT cP cE cH co fr)) (fb aI lW d cT TX tx cP pl bl cE lE cH ty E0 ao E1 aq E2 au E3 av E4 aw E5 aQ eE)]⟩
theorem Ka (b1:Bool):RC P b1 false 13 (.compStart Y8 0 (rf aI) (rf lW) (yf d cT cP cE cH co fr)) (J' P aI lW d cT cP cE cH lE co fr TX eE tx ty bl pl ao E0 aq E1 au E2 av E3 aw E4 p aQ E5) Bf:=by cases b1<;>kernel_rfl
def Kb:RD:=⟨(fb aI lW d cT TX tx cP pl bl cE lE cH ty E0 ao E1 aq E2 au E3 av E4 aw E5 aQ eE),[wi (rg 0 8) (y9 P 5 p)],mA 8 0 7 (fun a t=> .ok .next) (fun a t=> [fun _=>(jz 5 0),fun _=>(j0 (JJ (jo p (5-p) (kr t 0 5))) (5-p)),fun _=>(dK P (t 5) (vi (((5:Nat):Int)-1) (t 6))),id,id,id,id,id]) (fun a t=> []),[],(rg 2 5++ [0,1]),[],1,fun q qT qS A K=> [q 0 13 (.compLoop Y8 0 (rf aI) (rf lW) (yf d cT cP cE cH co fr)) (fb aI lW d cT TX tx cP pl bl cE lE cH ty E0 ao E1 aq E2 au E3 av E4 aw E5 aQ eE)]⟩
theorem Kc (b1:Bool):RC P b1 true 13 (.compStart Y8 0 (rf aI) (rf lW) (yf d cT cP cE cH co fr)) (Kb P aI lW d cT cP cE cH lE co fr TX eE tx ty bl pl ao E0 aq E1 au E2 av E3 aw E4 p aQ E5) Bg:=by cases b1<;>kernel_rfl
end
def Bh:=kg [0x19df69c039b05050503040303949a01]
def Bi:=kg [0x19cf69b05050503040303949a01]
def Bj:=kg [17275393]
def Bk:=kg [0x19af60101910101]
def Bl:=kg [105206]
abbrev fY (x0 x1 x3:Addr) (x4:List Value) (x5:Nat) (x6 x7 x8:Addr) (x9:Array Value) (aJ:Nat) (aB:Array Value) (bO:Nat):= [(x0,(kc x1 0)),(x3,(j0 x4 x5)),(x6,dE),(x7,(j8 (rf x8))),(x8,(jA x9 aJ)),(x1,(jA aB bO))]
abbrev i' (x0:Qa) (x3 x4:Addr) (x5:Nat) (x6:Array Value) (x7:Nat):=x0 0 7 (cb "list_iterator.__next__" [(rf x3)]) [(x3,(kc x4 x5)),(x4,(jA x6 x7))]
section
variable (P:Params) (aI lW d cC lC lB:Addr) (i:Nat) (XS:List Value) (e:Nat) (CS:Array Value) (eC:Nat) (BG:Array Value) (eB:Nat) (co:Value) (fr:Option Addr) (k:Nat) (kt:Tok) (v:Value) (dt:Tok) (M:Nat) (dk:List Value) (e2:Nat) (v2:Value)
def Kd:RD:=⟨[(aI,(kc lB i)),(lW,(j0 XS e)),(d,(dO "dict" [de P [107] dt v] 1)),(cC,(j8 (rf lC))),(lC,(jA CS eC)),(lB,(jA BG eB))],[wi [0,5] (yr lB i (vn k kt)),wi [4] (j7 1 0 (fun _=> .bool true)),wi [1] (vm (vn k kt)),wi (rg 0 6) (mS M dk e2 v2)],mA 6 0 0 (fun a t=> .ok .next) (fun a t=> [fun _=>(ki M),fun _=>(j0 dk e2),fun _=>(jO 0 v2 (dO "dict" [(de P [107] dt (vn k kt))] 1)),id,id,id]) (fun a t=> []),[],[],[],4,fun q qT qS A K=> [i' q aI lB i BG eB,q 1 7 (cb "list.__getitem__" [rf lC,vn k kt]) [(lC,(jA CS eC))],q 2 7 (cb "list.append" [rf lW,vn k kt]) [(lW,(j0 XS e))],q 3 8 (.compLoop VQ 0 (rf aI) (rf lW) (y8 d cC co fr)) [(aI,(kc lB (i+1))),(lW,(kd (vn k kt) (j0 XS e))),(d,(dO "dict" [de P [107] dt (vn k kt)] 1)),(cC,(j8 (rf lC))),(lC,(jA CS eC)),(lB,(jA BG eB))]]⟩
theorem Ke:GC P 8 (.compLoop VQ 0 (rf aI) (rf lW) (y8 d cC co fr)) (Kd P aI lW d cC lC lB i XS e CS eC BG eB co fr k kt v dt M dk e2 v2) (hk Bh):=ua
def Kf:RD:=⟨[(aI,(kc lB i)),(lW,(j0 XS e)),(d,(dO "dict" [de P [107] dt v] 1)),(cC,(j8 (rf lC))),(lC,(jA CS eC)),(lB,(jA BG eB))],[wi [0,5] (yr lB i (vn k kt)),wi [4] (j7 1 0 (fun _=> .bool false)),wi (rg 0 6) (mS M dk e2 v2)],mA 6 0 0 (fun a t=> .ok .next) (fun a t=> [fun _=>(ki M),fun _=>(j0 dk e2),fun _=>(jO 0 v2 (dO "dict" [(de P [107] dt (vn k kt))] 1)),id,id,id]) (fun a t=> []),[],[],[],3,fun q qT qS A K=> [i' q aI lB i BG eB,q 1 7 (cb "list.__getitem__" [rf lC,vn k kt]) [(lC,(jA CS eC))],q 2 8 (.compLoop VQ 0 (rf aI) (rf lW) (y8 d cC co fr)) [(aI,(kc lB (i+1))),(lW,(j0 XS e)),(d,(dO "dict" [de P [107] dt (vn k kt)] 1)),(cC,(j8 (rf lC))),(lC,(jA CS eC)),(lB,(jA BG eB))]]⟩
theorem Kg:GC P 8 (.compLoop VQ 0 (rf aI) (rf lW) (y8 d cC co fr)) (Kf P aI lW d cC lC lB i XS e CS eC BG eB co fr k kt v dt M dk e2 v2) (hk Bi):=ua
def Kh:RD:=⟨[(aI,(kc lB i)),(lW,(j0 XS e)),(d,(dO "dict" [de P [107] dt v] 1)),(cC,(j8 (rf lC))),(lC,(jA CS eC)),(lB,(jA BG eB))],[wi [0,5] (Jh i)],mA 6 0 0 (fun a t=> .ok .next) (fun a t=> [fun _=>(ki i),id,id,id,id,id]) (fun a t=> []),[],[],[],1,fun q qT qS A K=> [i' q aI lB i BG eB]⟩
theorem Ki:GC P 8 (.compLoop VQ 0 (rf aI) (rf lW) (y8 d cC co fr)) (Kh P aI lW d cC lC lB i XS e CS eC BG eB v dt) (hk Bj):=ua
def Kj:RD:=⟨[(aI,(kc lB i)),(lW,(j0 XS e)),(d,dE),(cC,(j8 (rf lC))),(lC,(jA CS eC)),(lB,(jA BG eB))],[wi [0,5] (yr lB i (vn k kt)),wi [4] (j7 1 0 (fun _=> .bool true)),wi [1] (vm (vn k kt)),wi (rg 0 6) (mS M dk e2 v2)],mA 6 0 1 (fun a t=> .ok .next) (fun a t=> [fun _=>(ki M),fun _=>(j0 dk e2),fun _=>(jO 0 v2 (dO "dict" [(de P [107] (t 0) (vn k kt))] 1)),id,id,id]) (fun a t=> []),[],[0],[],4,fun q qT qS A K=> [i' q aI lB i BG eB,q 1 7 (cb "list.__getitem__" [rf lC,vn k kt]) [(lC,(jA CS eC))],q 2 7 (cb "list.append" [rf lW,vn k kt]) [(lW,(j0 XS e))],q 3 8 (.compLoop VQ 0 (rf aI) (rf lW) (y8 d cC co fr)) [(aI,(kc lB (i+1))),(lW,(kd (vn k kt) (j0 XS e))),(d,(dO "dict" [de P [107] (K 0) (vn k kt)] 1)),(cC,(j8 (rf lC))),(lC,(jA CS eC)),(lB,(jA BG eB))]]⟩
theorem Kk:GC P 8 (.compLoop VQ 0 (rf aI) (rf lW) (y8 d cC co fr)) (Kj P aI lW d cC lC lB i XS e CS eC BG eB co fr k kt M dk e2 v2) (hk Bh):=ua
def Kl:RD:=⟨[(aI,(kc lB i)),(lW,(j0 XS e)),(d,dE),(cC,(j8 (rf lC))),(lC,(jA CS eC)),(lB,(jA BG eB))],[wi [0,5] (yr lB i (vn k kt)),wi [4] (j7 1 0 (fun _=> .bool false)),wi (rg 0 6) (mS M dk e2 v2)],mA 6 0 1 (fun a t=> .ok .next) (fun a t=> [fun _=>(ki M),fun _=>(j0 dk e2),fun _=>(jO 0 v2 (dO "dict" [(de P [107] (t 0) (vn k kt))] 1)),id,id,id]) (fun a t=> []),[],[0],[],3,fun q qT qS A K=> [i' q aI lB i BG eB,q 1 7 (cb "list.__getitem__" [rf lC,vn k kt]) [(lC,(jA CS eC))],q 2 8 (.compLoop VQ 0 (rf aI) (rf lW) (y8 d cC co fr)) [(aI,(kc lB (i+1))),(lW,(j0 XS e)),(d,(dO "dict" [de P [107] (K 0) (vn k kt)] 1)),(cC,(j8 (rf lC))),(lC,(jA CS eC)),(lB,(jA BG eB))]]⟩
theorem Km:GC P 8 (.compLoop VQ 0 (rf aI) (rf lW) (y8 d cC co fr)) (Kl P aI lW d cC lC lB i XS e CS eC BG eB co fr k kt M dk e2 v2) (hk Bi):=ua
def Kn:RD:=⟨[(aI,(kc lB i)),(lW,(j0 XS e)),(d,dE),(cC,(j8 (rf lC))),(lC,(jA CS eC)),(lB,(jA BG eB))],[wi [0,5] (Jh i)],mA 6 0 0 (fun a t=> .ok .next) (fun a t=> [fun _=>(ki i),id,id,id,id,id]) (fun a t=> []),[],[],[],1,fun q qT qS A K=> [i' q aI lB i BG eB]⟩
theorem Ko:GC P 8 (.compLoop VQ 0 (rf aI) (rf lW) (y8 d cC co fr)) (Kn aI lW d cC lC lB i XS e CS eC BG eB) (hk Bj):=ua
def Kp:RD:=⟨(fY aI lB lW XS e d cC lC CS eC BG eB),[wi (rg 0 6) (oR P M dk e2 v2)],mA 6 0 1 (fun a t=> .ok .next) (fun a t=> [fun _=>(ki M),fun _=>(j0 dk e2),fun _=>(dK P (t 0) v2),id,id,id]) (fun a t=> []),[],[0],[],1,fun q qT qS A K=> [q 0 9 (.compLoop VQ 0 (rf aI) (rf lW) (y8 d cC co fr)) (fY aI lB lW XS e d cC lC CS eC BG eB)]⟩
theorem Kq (b1:Bool):RC P b1 false 9 (.compStart VQ 0 (rf aI) (rf lW) (y8 d cC co fr)) (Kp P aI lW d cC lC lB XS e CS eC BG eB co fr M dk e2 v2) Bk:=by cases b1<;>kernel_rfl
def Kr:RD:=⟨(fY aI lB lW XS e d cC lC CS eC BG eB),[wi (rg 0 6) Ya],mA 6 0 0 (fun a t=> .ok .next) (fun a t=> [fun _=>(ki 0),id,id,id,id,id]) (fun a t=> []),[],[],[],1,fun q qT qS A K=> [q 0 9 (.compLoop VQ 0 (rf aI) (rf lW) (y8 d cC co fr)) (fY aI lB lW XS e d cC lC CS eC BG eB)]⟩
theorem Ks (b1:Bool):RC P b1 false 9 (.compStart VQ 0 (rf aI) (rf lW) (y8 d cC co fr)) (Kr aI lW d cC lC lB XS e CS eC BG eB co fr) Bk:=by cases b1<;>kernel_rfl
def Ku:RD:=⟨(fY aI lB lW XS e d cC lC CS eC BG eB),[wi (rg 0 6) (oR P M dk e2 v2)],mA 6 0 1 (fun a t=> .ok .next) (fun a t=> [fun _=>(ki M),fun _=>(j0 dk e2),fun _=>(dK P (t 0) v2),id,id,id]) (fun a t=> []),[],[0],[],1,fun q qT qS A K=> [q 0 9 (.compLoop VQ 0 (rf aI) (rf lW) (y8 d cC co fr)) (fY aI lB lW XS e d cC lC CS eC BG eB)]⟩
theorem Kv (b1:Bool):RC P b1 true 9 (.compStart VQ 0 (rf aI) (rf lW) (y8 d cC co fr)) (Ku P aI lW d cC lC lB XS e CS eC BG eB co fr M dk e2 v2) Bl:=by cases b1<;>kernel_rfl
def Kw:RD:=⟨(fY aI lB lW XS e d cC lC CS eC BG eB),[wi (rg 0 6) Ya],mA 6 0 0 (fun a t=> .ok .next) (fun a t=> [fun _=>(ki 0),id,id,id,id,id]) (fun a t=> []),[],[],[],1,fun q qT qS A K=> [q 0 9 (.compLoop VQ 0 (rf aI) (rf lW) (y8 d cC co fr)) (fY aI lB lW XS e d cC lC CS eC BG eB)]⟩
theorem Kx (b1:Bool):RC P b1 true 9 (.compStart VQ 0 (rf aI) (rf lW) (y8 d cC co fr)) (Kw aI lW d cC lC lB XS e CS eC BG eB co fr) Bl:=by cases b1<;>kernel_rfl
end
theorem jy (v:Value) (XS:List Value) (e:Nat):kd v (j0 XS e)=j0 (XS++ [v]) (e+1):=by
 show (⟨_,_,.seq (XS.toArray.push v) (e+1),_⟩:Obj)=⟨_,_,.seq (XS++ [v]).toArray (e+1),_⟩
 rw [List.push_toArray]
theorem Bm: ∀(l:List (Nat×Tok)) (i:Nat),(JJ l)[i]? =(l[i]?).map fun x=> .int (x.1:Int) x.2
 | [],i=>by simp [JJ]
 |(k,t)::l,0=>by simp [JJ]
 |(k,t)::l,i+1=>by simpa [JJ] using Bm l i
theorem Bn: ∀l:List (Nat×Tok),(JJ l).length=l.length
 | []=>rfl
 |_::l=>by simp [JJ,Bn l]
theorem up {α:Type} {l:List α} {i:Nat} {a:α} {u:List α} (h:l.drop i=a::u):l[i]? =some a∧l.drop (i+1)=u∧i<l.length:=by
 have hi:i<l.length:=by
  rcases Nat.lt_or_ge i l.length with q|q
  ·exact q
  ·rw [List.drop_eq_nil_of_le q] at h;cases h
 rw [List.drop_eq_getElem_cons hi] at h
 injection h with h1 h2
 exact ⟨by rw [List.getElem?_eq_getElem hi,h1],h2,hi⟩
theorem U9 {α:Type} {l:List α} {i:Nat} (h:l.drop i= []) (hi:i≤l.length):i=l.length:=by
 have:=congrArg List.length h
 simp at this
 lia
section
variable (W:World) (aI lW d cC lC lB:Addr) (CS:Array Value) (eC eB:Nat) (co:Value) (fr:Option Addr) (C:Nat→Bool) (items:List (Nat×Tok)) (hC: ∀k t,(k,t)∈items→CS[k]? =some (.bool (C k))∧k<1000) (hM:items.length≤100)
include hC hM
def mW (P:Params) (i:Nat) (XS:List Value) (e:Nat) (dO:Obj):List (Addr×Obj):= [(aI,kc lB i),(lW,j0 XS e),(d,dO),(cC,j8 (.ref lC)),(lC,jA CS eC),(lB,jA (JJ items).toArray eB)]
omit hC hM in
theorem oW {i k:Nat} {t:Tok} {u:List (Nat×Tok)} (h:items.drop i=(k,t)::u):((JJ items).toArray)[i]? =some (.int (k:Int) t):=by
 obtain ⟨h1,_,_⟩:=up h
 simp [Bm,h1]
theorem oX: ∀(l:List (Nat×Tok)) (i:Nat) (XS:List Value) (e:Nat) (v:Value) (dt:Tok),items.drop i=l→i≤items.length→XS.length≤i→
  j6 pw W (jB W.params) (mS items.length (c2 C l XS e).1 (c2 C l XS e).2 (yV l v)) 8 (.compLoop VQ 0 (.ref aI) (.ref lW) (y8 d cC co fr)) ((mW aI lW d cC lC lB CS eC eB items W.params i XS e (dK W.params dt v)).map some)
 | [],i,XS,e,v,dt,hu,hi,hx=>by
  have fZ:=U9 hu hi
  have h:=jY (w:=W) (Ki W.params aI lW d cC lC lB i XS e CS eC (JJ items).toArray eB co fr v dt) (by
   intro A K
   walk_at "ob"
   exact Uy (by simp [Bn,fZ]))
  refine h.conv (Nat.le_refl _) rfl fun as ts la lt'=>⟨[],rfl,rfl,rfl,?_,rfl⟩
  rw [←fZ]
  rfl
 |(k,t)::u,i,XS,e,v,dt,hu,hi,hx=>by
  obtain ⟨h1,h2,h3⟩:=up hu
  have hk:=hC k t (List.mem_of_getElem? h1)
  have mX:((k:Int)).toNat=k:=Int.toNat_natCast k
  cases hb:C k with
  |true=>
   have ih:=oX u (i+1) (XS++ [.int (k:Int) t]) (e+1) (.int (k:Int) t) dt h2 h3 (by simp;exact hx)
   have e0:c2 C ((k,t)::u) XS e=c2 C u (XS++ [.int (k:Int) t]) (e+1):=by simp [c2,hb]
   rw [e0]
   have h:=jY (w:=W) (Ke W.params aI lW d cC lC lB i XS e CS eC (JJ items).toArray eB co fr k t v dt items.length (c2 C u (XS++ [.int (k:Int) t]) (e+1)).1 (c2 C u (XS++ [.int (k:Int) t]) (e+1)).2 (yV u (.int (k:Int) t))) (by
    intro A K
    walk_at "ob"
    ·exact vR (oW items hu)
    ·exact uk (res:=fun _=> .bool true) (ts:= []) (nt:=0) rfl (by lia) (by lia) (by rw [mX,hk.1,hb])
    ·exact uH (by simp;lia)
    ·rw [jy]
     exact tU ih)
   exact h.cv (fun ts=> []) fun _ _=>rfl
  |false=>
   have ih:=oX u (i+1) XS e (.int (k:Int) t) dt h2 h3 (dx hx)
   have e0:c2 C ((k,t)::u) XS e=c2 C u XS e:=by simp [c2,hb]
   rw [e0]
   have h:=jY (w:=W) (Kg W.params aI lW d cC lC lB i XS e CS eC (JJ items).toArray eB co fr k t v dt items.length (c2 C u XS e).1 (c2 C u XS e).2 (yV u (.int (k:Int) t))) (by
    intro A K
    walk_at "ob"
    ·exact vR (oW items hu)
    ·exact uk (res:=fun _=> .bool false) (ts:= []) (nt:=0) rfl (by lia) (by lia) (by rw [mX,hk.1,hb])
    ·exact tU ih)
   exact h.cv (fun ts=> []) fun _ _=>rfl
theorem Ky (XS:List Value) (e:Nat) (hx:XS.length=0) (k:Nat) (t:Tok) (u:List (Nat×Tok)) (hu:items=(k,t)::u):
  j6 pw W (jB W.params) (oR W.params items.length (c2 C items XS e).1 (c2 C items XS e).2 (yV items .none)) 8 (.compLoop VQ 0 (.ref aI) (.ref lW) (y8 d cC co fr)) ((mW aI lW d cC lC lB CS eC eB items W.params 0 XS e dE).map some):=by
 have j':items.drop 0=(k,t)::u:=hu
 obtain ⟨h1,h2,h3⟩:=up j'
 have hk:=hC k t (List.mem_of_getElem? h1)
 have mX:((k:Int)).toNat=k:=Int.toNat_natCast k
 cases hb:C k with
 |true=>
  have ih:=fun dt=>oX W aI lW d cC lC lB CS eC eB co fr C items hC hM u 1 (XS++ [.int (k:Int) t]) (e+1) (.int (k:Int) t) dt h2 h3 (by rw [List.length_append,hx];exact Nat.le_refl _)
  have e0:c2 C items XS e=c2 C u (XS++ [.int (k:Int) t]) (e+1):=by rw [hu];simp [c2,hb]
  have e1:yV items .none=yV u (.int (k:Int) t):=by rw [hu];rfl
  rw [e0,e1]
  have h:=jY (w:=W) (Kk W.params aI lW d cC lC lB 0 XS e CS eC (JJ items).toArray eB co fr k t items.length (c2 C u (XS++ [.int (k:Int) t]) (e+1)).1 (c2 C u (XS++ [.int (k:Int) t]) (e+1)).2 (yV u (.int (k:Int) t))) (by
   intro A K
   walk_at "ob"
   ·exact vR (oW items j')
   ·exact uk (res:=fun _=> .bool true) (ts:= []) (nt:=0) rfl (by lia) (by lia) (by rw [mX,hk.1,hb])
   ·exact uH (by simp;lia)
   ·rw [jy]
    exact ih _)
  exact h.cS fun _ _=>rfl
 |false=>
  have ih:=fun dt=>oX W aI lW d cC lC lB CS eC eB co fr C items hC hM u 1 XS e (.int (k:Int) t) dt h2 h3 (by lia)
  have e0:c2 C items XS e=c2 C u XS e:=by rw [hu];simp [c2,hb]
  have e1:yV items .none=yV u (.int (k:Int) t):=by rw [hu];rfl
  rw [e0,e1]
  have h:=jY (w:=W) (Km W.params aI lW d cC lC lB 0 XS e CS eC (JJ items).toArray eB co fr k t items.length (c2 C u XS e).1 (c2 C u XS e).2 (yV u (.int (k:Int) t))) (by
   intro A K
   walk_at "ob"
   ·exact vR (oW items j')
   ·exact uk (res:=fun _=> .bool false) (ts:= []) (nt:=0) rfl (by lia) (by lia) (by rw [mX,hk.1,hb])
   ·exact ih _)
  exact h.cS fun _ _=>rfl
theorem Kz (XS:List Value) (e:Nat) (hx:XS.length=0) (dM:items≠ []):
  j6 pw W (jB W.params) (oR W.params items.length (c2 C items XS e).1 (c2 C items XS e).2 (yV items .none)) 9 (.compStart VQ 0 (.ref aI) (.ref lW) (y8 d cC co fr)) ((mW aI lW d cC lC lB CS eC eB items W.params 0 XS e dE).map some):=by
 obtain ⟨⟨k,t⟩,u,hi⟩:=List.exists_cons_of_ne_nil dM
 have first:=Ky W aI lW d cC lC lB CS eC eB co fr C items hC hM XS e hx k t u hi
 cases hr:r2 W with
 |false=>
  have h:=UA (w:=W) (by have:=Kq W.params aI lW d cC lC lB XS e CS eC (JJ items).toArray eB co fr items.length (c2 C items XS e).1 (c2 C items XS e).2 (yV items .none) (r1 W);rw [←hr] at this;exact this) (by
   intro A K
   walk_at "ob"
   exact tT first)
  exact h.cS fun _ _=>rfl
 |true=>
  have h:=UA (w:=W) (by have:=Kv W.params aI lW d cC lC lB XS e CS eC (JJ items).toArray eB co fr items.length (c2 C items XS e).1 (c2 C items XS e).2 (yV items .none) (r1 W);rw [←hr] at this;exact this) (by
   intro A K
   walk_at "ob"
   exact tT first)
  exact h.cS fun _ _=>rfl
end
theorem Bo (W:World) (aI lW d cC lC lB:Addr) (CS:Array Value) (eC eB:Nat) (co:Value) (fr:Option Addr) (XS:List Value) (e:Nat):
  j6 pw W (jB W.params) Ya 9 (.compStart VQ 0 (.ref aI) (.ref lW) (y8 d cC co fr)) ((mW aI lW d cC lC lB CS eC eB [] W.params 0 XS e dE).map some):=by
 have first:j6 pw W (jB W.params) Ya 8 (.compLoop VQ 0 (.ref aI) (.ref lW) (y8 d cC co fr)) ((mW aI lW d cC lC lB CS eC eB [] W.params 0 XS e dE).map some):=by
  have h:=jY (w:=W) (Ko W.params aI lW d cC lC lB 0 XS e CS eC #[] eB co fr) (by
   intro A K
   walk_at "ob"
   exact Uy rfl)
  exact h.cv (fun ts=> []) fun _ _=>rfl
 cases hr:r2 W with
 |false=>
  have h:=UA (w:=W) (by have:=Ks W.params aI lW d cC lC lB XS e CS eC #[] eB co fr (r1 W);rw [←hr] at this;exact this) (by
   intro A K
   walk_at "ob"
   exact tT first)
  exact h.cS fun _ _=>rfl
 |true=>
  have h:=UA (w:=W) (by have:=Kx W.params aI lW d cC lC lB XS e CS eC #[] eB co fr (r1 W);rw [←hr] at this;exact this) (by
   intro A K
   walk_at "ob"
   exact tT first)
  exact h.cS fun _ _=>rfl
theorem KA (W:World) (aI lW d cT cP cE cH lE:Addr) (co:Value) (fr:Option Addr) (TX:Str) (eE:Nat) (tx ty a9:Tok) (pl:Int) (ao aq au av aw:Tok) (E0 E1 E2 E3 E4:Int) (p:Nat) (hp:p≤4) (h0:decide (E0≥pl)=decide (p≤0)) (h1:decide (E1≥pl)=decide (p≤1)) (h2:decide (E2≥pl)=decide (p≤2)) (h3:decide (E3≥pl)=decide (p≤3)):j6 pw W (jB W.params) (y9 W.params 4 p) 12 (.compLoop Y8 0 (.ref aI) (.ref lW) (yf d cT cP cE cH co fr)) ([(aI,⟨.type "range_iterator",none,.fields #[.int 0 0,.int 4 0,.int 1 0],#[]⟩),(lW,j0 [] 0),(d,dE),(cT,j8 (.str TX tx)),(cP,j8 (.int pl a9)),(cE,j8 (.ref lE)),(cH,j8 (.str TX ty)),(lE,⟨.type "list",none,.seq #[.int E0 ao,.int E1 aq,.int E2 au,.int E3 av,.int E4 aw] eE,#[]⟩)].map some):=by
 have hT:(TX.cps.toList==TX.cps.toList)=true:=beq_self_eq_true _
 have hh:p=0∨p=1∨p=2∨p=3∨p=4:=by lia
 rcases hh with rfl|rfl|rfl|rfl|rfl
 ·have h:=jY (w:=W) (IA W.params aI lW d cT cP cE cH lE co fr TX eE tx ty a9 pl ao E0 aq E1 au E2 av E3 aw E4) (by
   intro A K
   walk_at "ob"
   all_goals first|exact hT|assumption)
  exact h.cv (fun ts=> [ts.getD 4 0,ts.getD 3 0,ts.getD 0 0,ts.getD 1 0,ts.getD 2 0,ts.getD 3 0,0]) fun _ _=>rfl
 ·have h:=jY (w:=W) (IC W.params aI lW d cT cP cE cH lE co fr TX eE tx ty a9 pl ao E0 aq E1 au E2 av E3 aw E4) (by
   intro A K
   walk_at "ob"
   all_goals first|exact hT|assumption)
  exact h.cv (fun ts=> [ts.getD 3 0,ts.getD 2 0,ts.getD 0 0,ts.getD 1 0,ts.getD 2 0,0,0]) fun _ _=>rfl
 ·have h:=jY (w:=W) (IG W.params aI lW d cT cP cE cH lE co fr TX eE tx ty a9 pl ao E0 aq E1 au E2 av E3 aw E4) (by
   intro A K
   walk_at "ob"
   all_goals first|exact hT|assumption)
  exact h.cv (fun ts=> [ts.getD 2 0,ts.getD 1 0,ts.getD 0 0,ts.getD 1 0,0,0,0]) fun _ _=>rfl
 ·have h:=jY (w:=W) (II W.params aI lW d cT cP cE cH lE co fr TX eE tx ty a9 pl ao E0 aq E1 au E2 av E3 aw E4) (by
   intro A K
   walk_at "ob"
   all_goals first|exact hT|assumption)
  exact h.cv (fun ts=> [ts.getD 1 0,ts.getD 0 0,ts.getD 0 0,0,0,0,0]) fun _ _=>rfl
 ·have h:=jY (w:=W) (IK W.params aI lW d cT cP cE cH lE co fr TX eE tx ty a9 pl ao E0 aq E1 au E2 av E3 aw E4) (by
   intro A K
   walk_at "ob"
   all_goals first|exact hT|assumption)
  exact h.cv (fun ts=> [ts.getD 0 0,ts.getD 1 0,0,0,0,0,0]) fun _ _=>rfl
theorem Ji (W:World) (aI lW d cT cP cE cH lE:Addr) (co:Value) (fr:Option Addr) (TX:Str) (eE:Nat) (tx ty a9:Tok) (pl:Int) (ao aq au av aw:Tok) (E0 E1 E2 E3 E4:Int) (p:Nat) (hp:p≤4) (h0:decide (E0≥pl)=decide (p≤0)) (h1:decide (E1≥pl)=decide (p≤1)) (h2:decide (E2≥pl)=decide (p≤2)) (h3:decide (E3≥pl)=decide (p≤3)):j6 pw W (jB W.params) (y9 W.params 4 p) 13 (.compStart Y8 0 (.ref aI) (.ref lW) (yf d cT cP cE cH co fr)) ([(aI,⟨.type "range_iterator",none,.fields #[.int 0 0,.int 4 0,.int 1 0],#[]⟩),(lW,j0 [] 0),(d,dE),(cT,j8 (.str TX tx)),(cP,j8 (.int pl a9)),(cE,j8 (.ref lE)),(cH,j8 (.str TX ty)),(lE,⟨.type "list",none,.seq #[.int E0 ao,.int E1 aq,.int E2 au,.int E3 av,.int E4 aw] eE,#[]⟩)].map some):=by
 have first:=KA W aI lW d cT cP cE cH lE co fr TX eE tx ty a9 pl ao aq au av aw E0 E1 E2 E3 E4 p hp h0 h1 h2 h3
 cases hr:r2 W with
 |false=>
  have h:=UA (w:=W) (by have:=IM W.params aI lW d cT cP cE cH lE co fr TX eE tx ty a9 pl ao E0 aq E1 au E2 av E3 aw E4 p (r1 W);rw [←hr] at this;exact this) (by
   intro A K
   walk_at "ob"
   exact tT first)
  exact h.cv (fun ts=>tg ts [5,6,0,1,2,3,4]) fun _ _=>rfl
 |true=>
  have h:=UA (w:=W) (by have:=IQ W.params aI lW d cT cP cE cH lE co fr TX eE tx ty a9 pl ao E0 aq E1 au E2 av E3 aw E4 p (r1 W);rw [←hr] at this;exact this) (by
   intro A K
   walk_at "ob"
   exact tT first)
  exact h.cv (fun ts=>tg ts [5,6,0,1,2,3,4]) fun _ _=>rfl
theorem KC (W:World) (aI lW d cT cP cE cH lE:Addr) (co:Value) (fr:Option Addr) (TX:Str) (eE:Nat) (tx ty a9:Tok) (pl:Int) (ao aq au av aw aQ:Tok) (E0 E1 E2 E3 E4 E5:Int) (p:Nat) (hp:p≤5) (h0:decide (E0≥pl)=decide (p≤0)) (h1:decide (E1≥pl)=decide (p≤1)) (h2:decide (E2≥pl)=decide (p≤2)) (h3:decide (E3≥pl)=decide (p≤3)) (h4:decide (E4≥pl)=decide (p≤4)):j6 pw W (jB W.params) (y9 W.params 5 p) 12 (.compLoop Y8 0 (.ref aI) (.ref lW) (yf d cT cP cE cH co fr)) ([(aI,⟨.type "range_iterator",none,.fields #[.int 0 0,.int 5 0,.int 1 0],#[]⟩),(lW,j0 [] 0),(d,dE),(cT,j8 (.str TX tx)),(cP,j8 (.int pl a9)),(cE,j8 (.ref lE)),(cH,j8 (.str TX ty)),(lE,⟨.type "list",none,.seq #[.int E0 ao,.int E1 aq,.int E2 au,.int E3 av,.int E4 aw,.int E5 aQ] eE,#[]⟩)].map some):=by
 have hT:(TX.cps.toList==TX.cps.toList)=true:=beq_self_eq_true _
 have hh:p=0∨p=1∨p=2∨p=3∨p=4∨p=5:=by lia
 rcases hh with rfl|rfl|rfl|rfl|rfl|rfl
 ·have h:=jY (w:=W) (IU W.params aI lW d cT cP cE cH lE co fr TX eE tx ty a9 pl ao E0 aq E1 au E2 av E3 aw E4 aQ E5) (by
   intro A K
   walk_at "ob"
   all_goals first|exact hT|assumption)
  exact h.cv (fun ts=>tg ts [5,4,0,1,2,3,4]) fun _ _=>rfl
 ·have h:=jY (w:=W) (IW W.params aI lW d cT cP cE cH lE co fr TX eE tx ty a9 pl ao E0 aq E1 au E2 av E3 aw E4 aQ E5) (by
   intro A K
   walk_at "ob"
   all_goals first|exact hT|assumption)
  exact h.cv (fun ts=> [ts.getD 4 0,ts.getD 3 0,ts.getD 0 0,ts.getD 1 0,ts.getD 2 0,ts.getD 3 0,0]) fun _ _=>rfl
 ·have h:=jY (w:=W) (IY W.params aI lW d cT cP cE cH lE co fr TX eE tx ty a9 pl ao E0 aq E1 au E2 av E3 aw E4 aQ E5) (by
   intro A K
   walk_at "ob"
   all_goals first|exact hT|assumption)
  exact h.cv (fun ts=> [ts.getD 3 0,ts.getD 2 0,ts.getD 0 0,ts.getD 1 0,ts.getD 2 0,0,0]) fun _ _=>rfl
 ·have h:=jY (w:=W) (I6 W.params aI lW d cT cP cE cH lE co fr TX eE tx ty a9 pl ao E0 aq E1 au E2 av E3 aw E4 aQ E5) (by
   intro A K
   walk_at "ob"
   all_goals first|exact hT|assumption)
  exact h.cv (fun ts=> [ts.getD 2 0,ts.getD 1 0,ts.getD 0 0,ts.getD 1 0,0,0,0]) fun _ _=>rfl
 ·have h:=jY (w:=W) (I8 W.params aI lW d cT cP cE cH lE co fr TX eE tx ty a9 pl ao E0 aq E1 au E2 av E3 aw E4 aQ E5) (by
   intro A K
   walk_at "ob"
   all_goals first|exact hT|assumption)
  exact h.cv (fun ts=> [ts.getD 1 0,ts.getD 0 0,ts.getD 0 0,0,0,0,0]) fun _ _=>rfl
 ·have h:=jY (w:=W) (I' W.params aI lW d cT cP cE cH lE co fr TX eE tx ty a9 pl ao E0 aq E1 au E2 av E3 aw E4 aQ E5) (by
   intro A K
   walk_at "ob"
   all_goals first|exact hT|assumption)
  exact h.cv (fun ts=> [ts.getD 0 0,ts.getD 1 0,0,0,0,0,0]) fun _ _=>rfl
theorem Jj (W:World) (aI lW d cT cP cE cH lE:Addr) (co:Value) (fr:Option Addr) (TX:Str) (eE:Nat) (tx ty a9:Tok) (pl:Int) (ao aq au av aw aQ:Tok) (E0 E1 E2 E3 E4 E5:Int) (p:Nat) (hp:p≤5) (h0:decide (E0≥pl)=decide (p≤0)) (h1:decide (E1≥pl)=decide (p≤1)) (h2:decide (E2≥pl)=decide (p≤2)) (h3:decide (E3≥pl)=decide (p≤3)) (h4:decide (E4≥pl)=decide (p≤4)):j6 pw W (jB W.params) (y9 W.params 5 p) 13 (.compStart Y8 0 (.ref aI) (.ref lW) (yf d cT cP cE cH co fr)) ([(aI,⟨.type "range_iterator",none,.fields #[.int 0 0,.int 5 0,.int 1 0],#[]⟩),(lW,j0 [] 0),(d,dE),(cT,j8 (.str TX tx)),(cP,j8 (.int pl a9)),(cE,j8 (.ref lE)),(cH,j8 (.str TX ty)),(lE,⟨.type "list",none,.seq #[.int E0 ao,.int E1 aq,.int E2 au,.int E3 av,.int E4 aw,.int E5 aQ] eE,#[]⟩)].map some):=by
 have first:=KC W aI lW d cT cP cE cH lE co fr TX eE tx ty a9 pl ao aq au av aw aQ E0 E1 E2 E3 E4 E5 p hp h0 h1 h2 h3 h4
 cases hr:r2 W with
 |false=>
  have h:=UA (w:=W) (by have:=Ka W.params aI lW d cT cP cE cH lE co fr TX eE tx ty a9 pl ao E0 aq E1 au E2 av E3 aw E4 p aQ E5 (r1 W);rw [←hr] at this;exact this) (by
   intro A K
   walk_at "ob"
   exact tT first)
  exact h.cv (fun ts=>tg ts [5,6,0,1,2,3,4]) fun _ _=>rfl
 |true=>
  have h:=UA (w:=W) (by have:=Kc W.params aI lW d cT cP cE cH lE co fr TX eE tx ty a9 pl ao E0 aq E1 au E2 av E3 aw E4 p aQ E5 (r1 W);rw [←hr] at this;exact this) (by
   intro A K
   walk_at "ob"
   exact tT first)
  exact h.cv (fun ts=>tg ts [5,6,0,1,2,3,4]) fun _ _=>rfl
def Bp:=kg [vP,26279936,vP,vP,vP,vP,0x1020002009393000000,vP,0x1039403039403039493000092,oy,66307,oy,66452,oy,66451,oy]
section
variable (P:Params) (fp:Addr)
def Bq:RD:=⟨[],[],mA 0 3 6 (fun a t=> .ok (.ret (rf (a 0)))) (fun a t=>(List.replicate 0 id)) (fun a t=> [⟨(rf 59),(some (a 1)),.plain,#[]⟩,(dO "dict" [(de P [108,105,110,101,110,111] (t 0) (vi 1 (t 1))),(de P [105,110,115,116,114,101,97,109] (t 2) .none),(de P [119,104,105,116,101,115,112,97,99,101] (t 3) (vt (sl [10,9,13,32]) (t 4))),(de P [112,117,115,104,98,97,99,107] (t 5) (rf (a 2)))] 4),(j0 [] 0)]),[1,0,3],[4,2,6,9,7,11],[],0,fun q qT qS A K=> []⟩
abbrev ko (P:Params):jZ:=(Bq P).an
theorem KD:GC P 8 (cr 59 [.none]) (Bq P) (hk Bp):=ua
def Br:RD:=⟨[],[],mA 0 3 6 (fun a t=> .ok (.ret (rf (a 0)))) (fun a t=>(List.replicate 0 id)) (fun a t=> [⟨(rf 59),(some (a 1)),.plain,#[]⟩,(dO "dict" [(de P [108,105,110,101,110,111] (t 0) (vi 1 (t 1))),(de P [105,110,115,116,114,101,97,109] (t 2) (rf fp)),(de P [119,104,105,116,101,115,112,97,99,101] (t 3) (vt (sl [10,9,13,32]) (t 4))),(de P [112,117,115,104,98,97,99,107] (t 5) (rf (a 2)))] 4),(j0 [] 0)]),[1,0,3],[4,2,6,9,7,11],[],0,fun q qT qS A K=> []⟩
abbrev mY (P:Params) (fp:Addr):jZ:=(Br P fp).an
theorem KG:GC P 8 (cr 59 [.ref fp]) (Br P fp) (hk Bp):=ua
end
def Bs:=kg [su,0x19c930ff80f0f161616]
def Bt:=kg [su,0x19c930ff80f0f16]
def Bu:=kg [sH,0x1940b93000000030303939494939393939394949494949403,oe,267]
def f':=kg [sH,0x1940b9300000003,oe,267]
def Bv:=kg [sH,0x1940b930000000303039394949393939393949494949403,oe,267]
noncomputable def fc:List Nat:= [16,17,18,3,12,4,11,8]
noncomputable def fe:List Nat:= [19,20,21,5,9,17]
noncomputable def fg:List Nat:= [20,22]
abbrev ek (x0:Params) (x1:Nat→Tok) (x2 x8:Nat) (aJ:Nat→Addr) (aB:Nat):=dO "dict" [(de x0 [108,105,110,101,110,111] (x1 x2) (vi 1 (x1 (x2+1)))),(de x0 [105,110,115,116,114,101,97,109] (x1 (x2+2)) .none),(de x0 [119,104,105,116,101,115,112,97,99,101] (x1 (x2+3)) (vt (sl [10,9,13,32]) (x1 (x2+4)))),(de x0 [112,117,115,104,98,97,99,107] (x1 (x2+5)) (rf (x1 x8))),(de x0 [115,112,97,110] (x1 (x2+6)) (rf (aJ aB)))] 5
abbrev oY (x0:Qa) (x3:Nat→Addr) (x7:jX) (bS:Tok) (bV:Int) (bB:Tok) (bI:Int) (d7:Tok) (du:Int) (d8:Tok) (dN:Int) (eU:Tok) (eV:Int) (hW:Tok) (oZ sS gb sT:Value) (fh:Nat→Tok) (o5:Qt) (Bw:Nat→Bool):= [(x0 0 19 (.compStart Y8 0 (rf (x3 16)) (rf (x3 17)) (yf (x3 18) x7.cT (x3 12) x7.cE (x3 11) (rf x7.aN) (some (x3 10)))) [((x3 16),(fo "range_iterator" [(vi 0 0),(vi 4 0),(vi 1 0)])),((x3 17),(j0 [] 0)),((x3 18),(dO "dict" [] 0)),(x7.cT,(j8 (vt x7.T x7.tx))),((x3 12),(cl (vi 0 x7.t0))),(x7.cE,(j8 (rf x7.lE))),((x3 11),(cl (vt x7.T bS))),(x7.lE,(j0 [(vi bV bB),(vi bI d7),(vi du d8),(vi dN eU),(vi eV hW)] x7.eE))]),(x0 1 19 (.compStart VQ 0 (rf (x3 19)) (rf (x3 20)) (y8 (x3 21) x7.cC (rf x7.aN) (some (x3 10)))) [((x3 19),(fo "list_iterator" [(rf (x3 17)),(vi 0 0)])),((x3 20),(j0 [] 0)),((x3 21),(dO "dict" [] 0)),(x7.cC,(j8 (rf x7.lC))),(x7.lC,(j0 [oZ,sS,gb,sT] x7.eC)),((x3 17),(j0 (JJ (jo 0 (4-0) (kr fh 6 5))) (4-0)))]),(o5 2 19 .Eq (rf (x3 20)) (rf (x3 22)) [((x3 20),(j0 (JZ Bw 4 0 (kr fh 12 5)) (UU Bw 4 0))),((x3 22),(j0 [] 0))]),(x0 3 19 (cr 59 [.none]) [])]
abbrev o6 (x0:Qa) (x3:Nat→Addr) (x7:jX) (bS:Tok) (bV:Int) (bB:Tok) (bI:Int) (d7:Tok) (du:Int) (d8:Tok) (dN:Int) (eU:Tok) (eV:Int) (hW:Tok) (mZ:Int) (m5:Tok) (gb sT KH fh KI:Value) (o5:Nat→Tok) (KJ:Qt) (Bx:Nat→Bool):= [(x0 0 19 (.compStart Y8 0 (rf (x3 16)) (rf (x3 17)) (yf (x3 18) x7.cT (x3 12) x7.cE (x3 11) (rf x7.aN) (some (x3 10)))) [((x3 16),(fo "range_iterator" [(vi 0 0),(vi 5 0),(vi 1 0)])),((x3 17),(j0 [] 0)),((x3 18),(dO "dict" [] 0)),(x7.cT,(j8 (vt x7.T x7.tx))),((x3 12),(cl (vi 0 x7.t0))),(x7.cE,(j8 (rf x7.lE))),((x3 11),(cl (vt x7.T bS))),(x7.lE,(j0 [(vi bV bB),(vi bI d7),(vi du d8),(vi dN eU),(vi eV hW),(vi mZ m5)] x7.eE))]),(x0 1 19 (.compStart VQ 0 (rf (x3 19)) (rf (x3 20)) (y8 (x3 21) x7.cC (rf x7.aN) (some (x3 10)))) [((x3 19),(fo "list_iterator" [(rf (x3 17)),(vi 0 0)])),((x3 20),(j0 [] 0)),((x3 21),(dO "dict" [] 0)),(x7.cC,(j8 (rf x7.lC))),(x7.lC,(j0 [gb,sT,KH,fh,KI] x7.eC)),((x3 17),(j0 (JJ (jo 0 (5-0) (kr o5 6 5))) (5-0)))]),(KJ 2 19 .Eq (rf (x3 20)) (rf (x3 22)) [((x3 20),(j0 (JZ Bx 5 0 (kr o5 12 5)) (UU Bx 5 0))),((x3 22),(j0 [] 0))]),(x0 3 19 (cr 59 [.none]) [])]
abbrev o7 (x0:Nat→Addr) (x2:jX) (x4:Nat→Tok):=fX oT ⟨#[60,108,97,109,98,100,97,62]⟩ ⟨#[95,108,97,119,95,112,114,111,103,114,97,109,46,60,108,111,99,97,108,115,62,46,115,101,97,114,99,104,46,60,108,111,99,97,108,115,62,46,60,108,97,109,98,100,97,62]⟩ 3 [(⟨#[119,97,110,116,101,100]⟩,(x0 3)),(⟨#[101,110,100,115]⟩,x2.cE),(⟨#[98,101,103,105,110,115]⟩,(x0 4))] .none (vt (sl [108,97,119,95,112,107,48,48,51,53,95,48,49]) 262) (rf x2.af) (rf (x4 18)) 0
abbrev o8 (x0:Nat→Addr) (x2:jX) (x3:Nat→Tok):=fX oS ⟨#[60,108,97,109,98,100,97,62]⟩ ⟨#[95,108,97,119,95,112,114,111,103,114,97,109,46,60,108,111,99,97,108,115,62,46,115,101,97,114,99,104,46,60,108,111,99,97,108,115,62,46,60,108,97,109,98,100,97,62]⟩ 3 [(⟨#[119,97,110,116,101,100]⟩,(x0 3)),(⟨#[101,110,100,115]⟩,x2.cE)] .none (vt (sl [108,97,119,95,112,107,48,48,51,53,95,48,49]) 262) (rf x2.aA) (rf (x3 13)) 0
abbrev o9 (x0:Qa) (x3:Nat→Addr) (x7:jX) (aK:Int) (bS bB:Tok) (bI:Int) (d7:Tok) (du:Int) (d8:Tok) (dN:Int) (eU:Tok) (eV:Int) (hW:Tok) (mZ:Int) (m5:Tok):=x0 0 19 (.compStart Y8 0 (rf (x3 16)) (rf (x3 17)) (yf (x3 18) x7.cT (x3 12) x7.cE (x3 11) (rf x7.aN) (some (x3 10)))) [((x3 16),(fo "range_iterator" [(vi 0 0),(vi 4 0),(vi 1 0)])),((x3 17),(j0 [] 0)),((x3 18),(dO "dict" [] 0)),(x7.cT,(j8 (vt x7.T x7.tx))),((x3 12),(cl (vi aK bS))),(x7.cE,(j8 (rf x7.lE))),((x3 11),(cl (vt x7.T bB))),(x7.lE,(j0 [(vi bI d7),(vi du d8),(vi dN eU),(vi eV hW),(vi mZ m5)] x7.eE))]
abbrev pa (x0:Qa) (x3:Nat→Addr) (x7:jX) (aK:Int) (bS bB:Tok) (bI:Int) (d7:Tok) (du:Int) (d8:Tok) (dN:Int) (eU:Tok) (eV:Int) (hW:Tok) (mZ:Int) (m5:Tok) (KL:Int) (KN:Tok):=x0 0 19 (.compStart Y8 0 (rf (x3 16)) (rf (x3 17)) (yf (x3 18) x7.cT (x3 12) x7.cE (x3 11) (rf x7.aN) (some (x3 10)))) [((x3 16),(fo "range_iterator" [(vi 0 0),(vi 5 0),(vi 1 0)])),((x3 17),(j0 [] 0)),((x3 18),(dO "dict" [] 0)),(x7.cT,(j8 (vt x7.T x7.tx))),((x3 12),(cl (vi aK bS))),(x7.cE,(j8 (rf x7.lE))),((x3 11),(cl (vt x7.T bB))),(x7.lE,(j0 [(vi bI d7),(vi du d8),(vi dN eU),(vi eV hW),(vi mZ m5),(vi KL KN)] x7.eE))]
abbrev pd (x0:Qa) (x3:Nat→Addr) (x7:jX) (bF bP aK bS:Value) (bB:Nat) (bI:Nat→Tok):=x0 1 19 (.compStart VQ 0 (rf (x3 19)) (rf (x3 20)) (y8 (x3 21) x7.cC (rf x7.aN) (some (x3 10)))) [((x3 19),(fo "list_iterator" [(rf (x3 17)),(vi 0 0)])),((x3 20),(j0 [] 0)),((x3 21),(dO "dict" [] 0)),(x7.cC,(j8 (rf x7.lC))),(x7.lC,(j0 [bF,bP,aK,bS] x7.eC)),((x3 17),(j0 (JJ (jo bB (4-bB) (kr bI 6 5))) (4-bB)))]
abbrev pe (x0:Qa) (x3:Nat→Addr) (x7:jX) (bF bP aK bS bV:Value) (bI:Nat) (d7:Nat→Tok):=x0 1 19 (.compStart VQ 0 (rf (x3 19)) (rf (x3 20)) (y8 (x3 21) x7.cC (rf x7.aN) (some (x3 10)))) [((x3 19),(fo "list_iterator" [(rf (x3 17)),(vi 0 0)])),((x3 20),(j0 [] 0)),((x3 21),(dO "dict" [] 0)),(x7.cC,(j8 (rf x7.lC))),(x7.lC,(j0 [bF,bP,aK,bS,bV] x7.eC)),((x3 17),(j0 (JJ (jo bI (5-bI) (kr d7 6 5))) (5-bI)))]
abbrev pf (x0:Nat→Tok):=vt (sl [95,108,97,119,95,112,114,111,103,114,97,109,46,60,108,111,99,97,108,115,62,46,115,101,97,114,99,104,46,60,108,111,99,97,108,115,62,46,60,108,97,109,98,100,97,62]) (x0 1)
abbrev gd (x0:Nat→Tok) (x1:Nat):=vt (sl [47,99,108,97,105,109,47,99,117,116,46,112,121]) (x0 x1)
abbrev lb (x0:Qt) (x3:Nat→Addr) (x7:Nat→Bool) (x8 x9:Nat) (aJ:Nat→Tok):=x0 2 19 .Eq (rf (x3 20)) (rf (x3 22)) [((x3 20),(j0 (JZ x7 x8 x9 (kr aJ 12 5)) (UU x7 x8 x9))),((x3 22),(j0 [] 0))]
abbrev lg:=j7 2 0 (fun _=> .bool false)
abbrev Vb (x0:jX):=(x0.cT,(j8 (vt x0.T x0.tx)))
abbrev Vc (x0:jX):=(x0.cE,(j8 (rf x0.lE)))
abbrev Vd (x0:jX):=(x0.cC,(j8 (rf x0.lC)))
abbrev pg (x0:jX):=(x0.bD,(fN [(vi 100 0),(vi 23 0),(rf x0.af),(vi 98 0),(vi 23 0),(rf x0.aA)]))
abbrev ph:=vt (sl [108,97,119,95,112,107,48,48,51,53,95,48,49]) 262
abbrev lh (x0:jX):=(x0.bD,(fN [(vi 100 0),(vi 23 0),(rf x0.af)]))
abbrev pj (x0:Params) (x1:Nat→Bool):= [wi fc (y9 x0 4 0),wi fe (yS x0 x1 4 0),wi fg (lg),wi [] (ko x0)]
abbrev pk (x0:Params) (x1:Nat→Bool):= [wi fc (y9 x0 5 0),wi fe (yS x0 x1 5 0),wi fg (lg),wi [] (ko x0)]
abbrev gf (x0:jX) (x1:Int) (x2:Tok) (x3:Int) (x4:Tok) (x5:Int) (x6:Tok) (x7:Int) (x8:Tok) (x9:Int) (aJ:Tok) (aB:Int) (bO:Tok):=(x0.lE,(j0 [(vi x1 x2),(vi x3 x4),(vi x5 x6),(vi x7 x8),(vi x9 aJ),(vi aB bO)] x0.eE))
abbrev gg (x0:jX) (x1:Int) (x2:Tok) (x3:Int) (x4:Tok) (x5:Int) (x6:Tok) (x7:Int) (x8:Tok) (x9:Int) (aJ:Tok):=(x0.lE,(j0 [(vi x1 x2),(vi x3 x4),(vi x5 x6),(vi x7 x8),(vi x9 aJ)] x0.eE))
abbrev gh (x0:Nat→Bool) (x1:Nat) (x3:Nat→Tok) (x4:Nat):=j0 (JZ x0 x1 0 (kr x3 x4 5)) (UU x0 x1 0)
abbrev pn (x0:Nat→Tok):=vt (sl [60,108,97,109,98,100,97,62]) (x0 0)
section
variable (P:Params) (L:jX) (PL:List Value) (B:Bool) (ao:Tok) (E0:Int) (aq:Tok) (E1:Int) (au:Tok) (E2:Int) (av:Tok) (E3:Int) (aw:Tok) (E4:Int) (C0 C1 C2 C3:Value) (ty bl:Tok) (pl:Int) (p:Nat) (C:Nat→Bool) (aQ:Tok) (E5:Int) (C4:Value)
def KO:RD:=⟨[(L.aF,L.fn),(L.aN,L.bq),(L.bD,⟨.none,none,.fields PL.toArray,#[]⟩),Vb L,Vc L,Vd L,(L.cB,(j8 (.bool B))),(L.b',L.cg),gg L E0 ao E1 aq E2 au E3 av E4 aw,(L.lC,(j0 [C0,C1,C2,C3] L.eC))],[wi fc (y9 P 4 p),wi fe (yS P C 4 p),wi fg (j7 2 0 (fun _=> .bool true))],mA 10 0 0 (fun a t=> .ok (.ret .none)) (fun a t=>(List.replicate 10 id)) (fun a t=> []),[],[],[],3,fun q qT qS A K=> [o9 q A L pl bl ty E0 ao E1 aq E2 au E3 av E4 aw,pd q A L C0 C1 C2 C3 p K,lb qT A C 4 p K]⟩
theorem KP:GF P 19 L.aF [vt L.T ty,vi pl bl] L.fn (KO P L PL B ao E0 aq E1 au E2 av E3 aw E4 C0 C1 C2 C3 ty bl pl p C) (hk Bs):=kF
def KQ:RD:=⟨[(L.aF,L.fn),(L.aN,L.bq),(L.bD,⟨.none,none,.fields PL.toArray,#[]⟩),Vb L,Vc L,Vd L,(L.cB,(j8 (.bool B))),(L.b',L.cg),gg L E0 ao E1 aq E2 au E3 av E4 aw,(L.lC,(j0 [C0,C1,C2,C3] L.eC))],[wi fc (y9 P 4 p),wi fe Ya,wi fg (j7 2 0 (fun _=> .bool true))],mA 10 0 0 (fun a t=> .ok (.ret .none)) (fun a t=>(List.replicate 10 id)) (fun a t=> []),[],[],[],3,fun q qT qS A K=> [o9 q A L pl bl ty E0 ao E1 aq E2 au E3 av E4 aw,pd q A L C0 C1 C2 C3 p K,qT 2 19 .Eq (rf (A 20)) (rf (A 22)) [((A 20),(j0 [] 0)),((A 22),(j0 [] 0))]]⟩
theorem KR:GF P 19 L.aF [vt L.T ty,vi pl bl] L.fn (KQ P L PL B ao E0 aq E1 au E2 av E3 aw E4 C0 C1 C2 C3 ty bl pl p) (hk Bt):=kF
def KS:RD:=⟨[(L.aF,L.fn),(L.aN,L.bq),(L.bD,(fN [])),Vb L,Vc L,Vd L,(L.cB,(cl (.bool false))),(L.b',L.cg),gg L E0 ao E1 aq E2 au E3 av E4 aw,(L.lC,(j0 [C0,C1,C2,C3] L.eC))],(pj P C),mA 10 8 29 (fun a t=> .ok (.ret (rf (a 0)))) (fun a t=> [id,id,fun _=>(fN [(vi 100 0),(vi 23 0),(rf (a 1))]),id,id,id,id,id,id,id]) (fun a t=> [⟨(rf 59),(some (a 2)),.plain,#[]⟩,(fo "code" [(pn t),(pf t),(gd t 2),(vi 100 0),(vi 0 0),(vi 0 0),(vi 0 0),(vi 19 0),(rf (t 22)),(.bool true),(vi 181 0),(rf (t 23)),.none,(rf (t 24)),(rf (t 25)),(rf (t 26)),(vn (t 11) 0),(vi 100 0),(gd t 3)]),(ek P t 4 27 a 3),⟨(.type "function"),none,(.func (fX oT ⟨#[60,108,97,109,98,100,97,62]⟩ ⟨#[95,108,97,119,95,112,114,111,103,114,97,109,46,60,108,111,99,97,108,115,62,46,115,101,97,114,99,104,46,60,108,111,99,97,108,115,62,46,60,108,97,109,98,100,97,62]⟩ 3 [(⟨#[119,97,110,116,101,100]⟩,(a 4)),(⟨#[101,110,100,115]⟩,L.cE),(⟨#[98,101,103,105,110,115]⟩,(a 5))] .none (ph) (rf (a 1)) (rf (t 28)) 0)),#[]⟩,(cl (rf (a 6))),(cl (rf (a 7))),(gh C 4 t 12),(j0 (JJ (jo 0 (4-0) (kr t 17 5))) (4-0))]),[23,32,24,33,14,13,20,17],([24,25,26,31]++rg 17 6++ [33,30]++rg 12 5++rg 6 5),(rg 27 5++ [25,26]),4,fun q qT qS A K=>(oY q A L ty E0 ao E1 aq E2 au E3 av E4 aw C0 C1 C2 C3 K qT C)⟩
theorem KU:GF P 19 L.aF [vt L.T ty] L.fn (KS P L ao E0 aq E1 au E2 av E3 aw E4 C0 C1 C2 C3 ty C) (hk Bu):=kF
def KV:RD:=⟨[(L.aF,L.fn),(L.aN,L.bq),lh L,Vb L,Vc L,Vd L,(L.cB,(cl (.bool false))),(L.b',L.cg),gg L E0 ao E1 aq E2 au E3 av E4 aw,(L.lC,(j0 [C0,C1,C2,C3] L.eC))],(pj P C),mA 10 7 19 (fun a t=> .ok (.ret (rf (a 0)))) (fun a t=>(List.replicate 10 id)) (fun a t=> [⟨(rf 59),(some (a 1)),.plain,#[]⟩,(ek P t 0 17 a 2),⟨(.type "function"),none,(.func (o7 a L t)),#[]⟩,(cl (rf (a 5))),(cl (rf (a 6))),(gh C 4 t 7),(j0 (JJ (jo 0 (4-0) (kr t 12 5))) (4-0))]),[23,24,27,14,13,20,17],(rg 17 6++ [25]++rg 12 5++rg 6 5),[25,26],4,fun q qT qS A K=>(oY q A L ty E0 ao E1 aq E2 au E3 av E4 aw C0 C1 C2 C3 K qT C)⟩
theorem KW:GF P 19 L.aF [vt L.T ty] L.fn (KV P L ao E0 aq E1 au E2 av E3 aw E4 C0 C1 C2 C3 ty C) (hk f'):=kF
def KY:RD:=⟨[(L.aF,L.fn),(L.aN,L.bq),lh L,Vb L,Vc L,Vd L,(L.cB,(cl (.bool false))),(L.b',L.cg),gg L E0 ao E1 aq E2 au E3 av E4 aw,(L.lC,(j0 [C0,C1,C2,C3] L.eC))],[wi fc (y9 P 4 p),wi fe (yS P C 4 p),wi fg (lg),wi [] (ko P)],mA 10 7 19 (fun a t=> .ok (.ret (rf (a 0)))) (fun a t=>(List.replicate 10 id)) (fun a t=> [⟨(rf 59),(some (a 1)),.plain,#[]⟩,(ek P t 0 17 a 2),⟨(.type "function"),none,(.func (o7 a L t)),#[]⟩,(cl (rf (a 5))),(cl (rf (a 6))),(j0 (JZ C 4 p (kr t 7 5)) (UU C 4 p)),(j0 (JJ (jo p (4-p) (kr t 12 5))) (4-p))]),[23,24,27,14,13,20,17],(rg 17 6++ [25]++rg 12 5++rg 6 5),[25,26],4,fun q qT qS A K=> [o9 q A L pl bl ty E0 ao E1 aq E2 au E3 av E4 aw,pd q A L C0 C1 C2 C3 p K,lb qT A C 4 p K,q 3 19 (cr 59 [.none]) []]⟩
theorem KZ:GF P 19 L.aF [vt L.T ty,vi pl bl] L.fn (KY P L ao E0 aq E1 au E2 av E3 aw E4 C0 C1 C2 C3 ty bl pl p C) (hk f'):=kF
def K0:RD:=⟨[(L.aF,L.fn),(L.aN,L.bq),lh L,Vb L,Vc L,Vd L,(L.cB,(cl (.bool true))),(L.b',L.cg),gg L E0 ao E1 aq E2 au E3 av E4 aw,(L.lC,(j0 [C0,C1,C2,C3] L.eC))],(pj P C),mA 10 6 24 (fun a t=> .ok (.ret (rf (a 0)))) (fun a t=> [id,id,fun _=>(fN [(vi 100 0),(vi 23 0),(rf L.af),(vi 98 0),(vi 23 0),(rf (a 1))]),id,id,id,id,id,id,id]) (fun a t=> [⟨(rf 59),(some (a 2)),.plain,#[]⟩,(fo "code" [(pn t),(pf t),(gd t 2),(vi 98 0),(vi 0 0),(vi 0 0),(vi 0 0),(vi 19 0),(rf (t 17)),(.bool true),(vi 181 0),(rf (t 18)),.none,(rf (t 19)),(rf (t 20)),(rf (t 21)),(vn (t 11) 0),(vi 98 0),(gd t 3)]),(ek P t 4 22 a 3),⟨(.type "function"),none,(.func (fX oS ⟨#[60,108,97,109,98,100,97,62]⟩ ⟨#[95,108,97,119,95,112,114,111,103,114,97,109,46,60,108,111,99,97,108,115,62,46,115,101,97,114,99,104,46,60,108,111,99,97,108,115,62,46,60,108,97,109,98,100,97,62]⟩ 3 [(⟨#[119,97,110,116,101,100]⟩,(a 4)),(⟨#[101,110,100,115]⟩,L.cE)] .none (ph) (rf (a 1)) (rf (t 23)) 0)),#[]⟩,(cl (rf (a 5))),(gh C 4 t 12)]),[23,32,24,33,14,20],([24,25,26,30]++rg 17 6++ [32,29]++rg 12 5),(rg 27 5++ [25,26]),4,fun q qT qS A K=>(oY q A L ty E0 ao E1 aq E2 au E3 av E4 aw C0 C1 C2 C3 K qT C)⟩
theorem K1:GF P 19 L.aF [vt L.T ty] L.fn (K0 P L ao E0 aq E1 au E2 av E3 aw E4 C0 C1 C2 C3 ty C) (hk Bv):=kF
def K2:RD:=⟨[(L.aF,L.fn),(L.aN,L.bq),pg L,Vb L,Vc L,Vd L,(L.cB,(cl (.bool true))),(L.b',L.cg),gg L E0 ao E1 aq E2 au E3 av E4 aw,(L.lC,(j0 [C0,C1,C2,C3] L.eC))],(pj P C),mA 10 5 14 (fun a t=> .ok (.ret (rf (a 0)))) (fun a t=>(List.replicate 10 id)) (fun a t=> [⟨(rf 59),(some (a 1)),.plain,#[]⟩,(ek P t 0 12 a 2),⟨(.type "function"),none,(.func (o8 a L t)),#[]⟩,(cl (rf (a 4))),(gh C 4 t 7)]),[23,24,27,14,20],(rg 17 6++ [25]++rg 12 5),[25,26],4,fun q qT qS A K=>(oY q A L ty E0 ao E1 aq E2 au E3 av E4 aw C0 C1 C2 C3 K qT C)⟩
theorem K3:GF P 19 L.aF [vt L.T ty] L.fn (K2 P L ao E0 aq E1 au E2 av E3 aw E4 C0 C1 C2 C3 ty C) (hk f'):=kF
def K4:RD:=⟨[(L.aF,L.fn),(L.aN,L.bq),pg L,Vb L,Vc L,Vd L,(L.cB,(cl (.bool true))),(L.b',L.cg),gg L E0 ao E1 aq E2 au E3 av E4 aw,(L.lC,(j0 [C0,C1,C2,C3] L.eC))],[wi fc (y9 P 4 p),wi fe (yS P C 4 p),wi fg (lg),wi [] (ko P)],mA 10 5 14 (fun a t=> .ok (.ret (rf (a 0)))) (fun a t=>(List.replicate 10 id)) (fun a t=> [⟨(rf 59),(some (a 1)),.plain,#[]⟩,(ek P t 0 12 a 2),⟨(.type "function"),none,(.func (o8 a L t)),#[]⟩,(cl (rf (a 4))),(j0 (JZ C 4 p (kr t 7 5)) (UU C 4 p))]),[23,24,27,14,20],(rg 17 6++ [25]++rg 12 5),[25,26],4,fun q qT qS A K=> [o9 q A L pl bl ty E0 ao E1 aq E2 au E3 av E4 aw,pd q A L C0 C1 C2 C3 p K,lb qT A C 4 p K,q 3 19 (cr 59 [.none]) []]⟩
theorem K5:GF P 19 L.aF [vt L.T ty,vi pl bl] L.fn (K4 P L ao E0 aq E1 au E2 av E3 aw E4 C0 C1 C2 C3 ty bl pl p C) (hk f'):=kF
def K6:RD:=⟨[(L.aF,L.fn),(L.aN,L.bq),(L.bD,⟨.none,none,.fields PL.toArray,#[]⟩),Vb L,Vc L,Vd L,(L.cB,(j8 (.bool B))),(L.b',L.cg),gf L E0 ao E1 aq E2 au E3 av E4 aw E5 aQ,(L.lC,(j0 [C0,C1,C2,C3,C4] L.eC))],[wi fc (y9 P 5 p),wi fe (yS P C 5 p),wi fg (j7 2 0 (fun _=> .bool true))],mA 10 0 0 (fun a t=> .ok (.ret .none)) (fun a t=>(List.replicate 10 id)) (fun a t=> []),[],[],[],3,fun q qT qS A K=> [pa q A L pl bl ty E0 ao E1 aq E2 au E3 av E4 aw E5 aQ,pe q A L C0 C1 C2 C3 C4 p K,lb qT A C 5 p K]⟩
theorem K7:GF P 19 L.aF [vt L.T ty,vi pl bl] L.fn (K6 P L PL B ao E0 aq E1 au E2 av E3 aw E4 C0 C1 C2 C3 ty bl pl p C aQ E5 C4) (hk Bs):=kF
def K8:RD:=⟨[(L.aF,L.fn),(L.aN,L.bq),(L.bD,⟨.none,none,.fields PL.toArray,#[]⟩),Vb L,Vc L,Vd L,(L.cB,(j8 (.bool B))),(L.b',L.cg),gf L E0 ao E1 aq E2 au E3 av E4 aw E5 aQ,(L.lC,(j0 [C0,C1,C2,C3,C4] L.eC))],[wi fc (y9 P 5 p),wi fe Ya,wi fg (j7 2 0 (fun _=> .bool true))],mA 10 0 0 (fun a t=> .ok (.ret .none)) (fun a t=>(List.replicate 10 id)) (fun a t=> []),[],[],[],3,fun q qT qS A K=> [pa q A L pl bl ty E0 ao E1 aq E2 au E3 av E4 aw E5 aQ,pe q A L C0 C1 C2 C3 C4 p K,qT 2 19 .Eq (rf (A 20)) (rf (A 22)) [((A 20),(j0 [] 0)),((A 22),(j0 [] 0))]]⟩
theorem K9:GF P 19 L.aF [vt L.T ty,vi pl bl] L.fn (K8 P L PL B ao E0 aq E1 au E2 av E3 aw E4 C0 C1 C2 C3 ty bl pl p aQ E5 C4) (hk Bt):=kF
def K':RD:=⟨[(L.aF,L.fn),(L.aN,L.bq),(L.bD,(fN [])),Vb L,Vc L,Vd L,(L.cB,(cl (.bool false))),(L.b',L.cg),gf L E0 ao E1 aq E2 au E3 av E4 aw E5 aQ,(L.lC,(j0 [C0,C1,C2,C3,C4] L.eC))],(pk P C),mA 10 8 29 (fun a t=> .ok (.ret (rf (a 0)))) (fun a t=> [id,id,fun _=>(fN [(vi 100 0),(vi 23 0),(rf (a 1))]),id,id,id,id,id,id,id]) (fun a t=> [⟨(rf 59),(some (a 2)),.plain,#[]⟩,(fo "code" [(pn t),(pf t),(gd t 2),(vi 100 0),(vi 0 0),(vi 0 0),(vi 0 0),(vi 19 0),(rf (t 22)),(.bool true),(vi 181 0),(rf (t 23)),.none,(rf (t 24)),(rf (t 25)),(rf (t 26)),(vn (t 11) 0),(vi 100 0),(gd t 3)]),(ek P t 4 27 a 3),⟨(.type "function"),none,(.func (fX oT ⟨#[60,108,97,109,98,100,97,62]⟩ ⟨#[95,108,97,119,95,112,114,111,103,114,97,109,46,60,108,111,99,97,108,115,62,46,115,101,97,114,99,104,46,60,108,111,99,97,108,115,62,46,60,108,97,109,98,100,97,62]⟩ 3 [(⟨#[119,97,110,116,101,100]⟩,(a 4)),(⟨#[101,110,100,115]⟩,L.cE),(⟨#[98,101,103,105,110,115]⟩,(a 5))] .none (ph) (rf (a 1)) (rf (t 28)) 0)),#[]⟩,(cl (rf (a 6))),(cl (rf (a 7))),(gh C 5 t 12),(j0 (JJ (jo 0 (5-0) (kr t 17 5))) (5-0))]),[23,32,24,33,14,13,20,17],([24,25,26,31]++rg 17 6++ [33,30]++rg 12 5++rg 6 5),(rg 27 5++ [25,26]),4,fun q qT qS A K=>(o6 q A L ty E0 ao E1 aq E2 au E3 av E4 aw E5 aQ C0 C1 C2 C3 C4 K qT C)⟩
theorem La:GF P 19 L.aF [vt L.T ty] L.fn (K' P L ao E0 aq E1 au E2 av E3 aw E4 C0 C1 C2 C3 ty C aQ E5 C4) (hk Bu):=kF
def Lb:RD:=⟨[(L.aF,L.fn),(L.aN,L.bq),lh L,Vb L,Vc L,Vd L,(L.cB,(cl (.bool false))),(L.b',L.cg),gf L E0 ao E1 aq E2 au E3 av E4 aw E5 aQ,(L.lC,(j0 [C0,C1,C2,C3,C4] L.eC))],(pk P C),mA 10 7 19 (fun a t=> .ok (.ret (rf (a 0)))) (fun a t=>(List.replicate 10 id)) (fun a t=> [⟨(rf 59),(some (a 1)),.plain,#[]⟩,(ek P t 0 17 a 2),⟨(.type "function"),none,(.func (o7 a L t)),#[]⟩,(cl (rf (a 5))),(cl (rf (a 6))),(gh C 5 t 7),(j0 (JJ (jo 0 (5-0) (kr t 12 5))) (5-0))]),[23,24,27,14,13,20,17],(rg 17 6++ [25]++rg 12 5++rg 6 5),[25,26],4,fun q qT qS A K=>(o6 q A L ty E0 ao E1 aq E2 au E3 av E4 aw E5 aQ C0 C1 C2 C3 C4 K qT C)⟩
theorem Lc:GF P 19 L.aF [vt L.T ty] L.fn (Lb P L ao E0 aq E1 au E2 av E3 aw E4 C0 C1 C2 C3 ty C aQ E5 C4) (hk f'):=kF
def Ld:RD:=⟨[(L.aF,L.fn),(L.aN,L.bq),lh L,Vb L,Vc L,Vd L,(L.cB,(cl (.bool false))),(L.b',L.cg),gf L E0 ao E1 aq E2 au E3 av E4 aw E5 aQ,(L.lC,(j0 [C0,C1,C2,C3,C4] L.eC))],[wi fc (y9 P 5 p),wi fe (yS P C 5 p),wi fg (lg),wi [] (ko P)],mA 10 7 19 (fun a t=> .ok (.ret (rf (a 0)))) (fun a t=>(List.replicate 10 id)) (fun a t=> [⟨(rf 59),(some (a 1)),.plain,#[]⟩,(ek P t 0 17 a 2),⟨(.type "function"),none,(.func (o7 a L t)),#[]⟩,(cl (rf (a 5))),(cl (rf (a 6))),(j0 (JZ C 5 p (kr t 7 5)) (UU C 5 p)),(j0 (JJ (jo p (5-p) (kr t 12 5))) (5-p))]),[23,24,27,14,13,20,17],(rg 17 6++ [25]++rg 12 5++rg 6 5),[25,26],4,fun q qT qS A K=> [pa q A L pl bl ty E0 ao E1 aq E2 au E3 av E4 aw E5 aQ,pe q A L C0 C1 C2 C3 C4 p K,lb qT A C 5 p K,q 3 19 (cr 59 [.none]) []]⟩
theorem Le:GF P 19 L.aF [vt L.T ty,vi pl bl] L.fn (Ld P L ao E0 aq E1 au E2 av E3 aw E4 C0 C1 C2 C3 ty bl pl p C aQ E5 C4) (hk f'):=kF
def Lf:RD:=⟨[(L.aF,L.fn),(L.aN,L.bq),lh L,Vb L,Vc L,Vd L,(L.cB,(cl (.bool true))),(L.b',L.cg),gf L E0 ao E1 aq E2 au E3 av E4 aw E5 aQ,(L.lC,(j0 [C0,C1,C2,C3,C4] L.eC))],(pk P C),mA 10 6 24 (fun a t=> .ok (.ret (rf (a 0)))) (fun a t=> [id,id,fun _=>(fN [(vi 100 0),(vi 23 0),(rf L.af),(vi 98 0),(vi 23 0),(rf (a 1))]),id,id,id,id,id,id,id]) (fun a t=> [⟨(rf 59),(some (a 2)),.plain,#[]⟩,(fo "code" [(pn t),(pf t),(gd t 2),(vi 98 0),(vi 0 0),(vi 0 0),(vi 0 0),(vi 19 0),(rf (t 17)),(.bool true),(vi 181 0),(rf (t 18)),.none,(rf (t 19)),(rf (t 20)),(rf (t 21)),(vn (t 11) 0),(vi 98 0),(gd t 3)]),(ek P t 4 22 a 3),⟨(.type "function"),none,(.func (fX oS ⟨#[60,108,97,109,98,100,97,62]⟩ ⟨#[95,108,97,119,95,112,114,111,103,114,97,109,46,60,108,111,99,97,108,115,62,46,115,101,97,114,99,104,46,60,108,111,99,97,108,115,62,46,60,108,97,109,98,100,97,62]⟩ 3 [(⟨#[119,97,110,116,101,100]⟩,(a 4)),(⟨#[101,110,100,115]⟩,L.cE)] .none (ph) (rf (a 1)) (rf (t 23)) 0)),#[]⟩,(cl (rf (a 5))),(gh C 5 t 12)]),[23,32,24,33,14,20],([24,25,26,30]++rg 17 6++ [32,29]++rg 12 5),(rg 27 5++ [25,26]),4,fun q qT qS A K=>(o6 q A L ty E0 ao E1 aq E2 au E3 av E4 aw E5 aQ C0 C1 C2 C3 C4 K qT C)⟩
theorem Lg:GF P 19 L.aF [vt L.T ty] L.fn (Lf P L ao E0 aq E1 au E2 av E3 aw E4 C0 C1 C2 C3 ty C aQ E5 C4) (hk Bv):=kF
def Lh:RD:=⟨[(L.aF,L.fn),(L.aN,L.bq),pg L,Vb L,Vc L,Vd L,(L.cB,(cl (.bool true))),(L.b',L.cg),gf L E0 ao E1 aq E2 au E3 av E4 aw E5 aQ,(L.lC,(j0 [C0,C1,C2,C3,C4] L.eC))],(pk P C),mA 10 5 14 (fun a t=> .ok (.ret (rf (a 0)))) (fun a t=>(List.replicate 10 id)) (fun a t=> [⟨(rf 59),(some (a 1)),.plain,#[]⟩,(ek P t 0 12 a 2),⟨(.type "function"),none,(.func (o8 a L t)),#[]⟩,(cl (rf (a 4))),(gh C 5 t 7)]),[23,24,27,14,20],(rg 17 6++ [25]++rg 12 5),[25,26],4,fun q qT qS A K=>(o6 q A L ty E0 ao E1 aq E2 au E3 av E4 aw E5 aQ C0 C1 C2 C3 C4 K qT C)⟩
theorem Li:GF P 19 L.aF [vt L.T ty] L.fn (Lh P L ao E0 aq E1 au E2 av E3 aw E4 C0 C1 C2 C3 ty C aQ E5 C4) (hk f'):=kF
def Lj:RD:=⟨[(L.aF,L.fn),(L.aN,L.bq),pg L,Vb L,Vc L,Vd L,(L.cB,(cl (.bool true))),(L.b',L.cg),gf L E0 ao E1 aq E2 au E3 av E4 aw E5 aQ,(L.lC,(j0 [C0,C1,C2,C3,C4] L.eC))],[wi fc (y9 P 5 p),wi fe (yS P C 5 p),wi fg (lg),wi [] (ko P)],mA 10 5 14 (fun a t=> .ok (.ret (rf (a 0)))) (fun a t=>(List.replicate 10 id)) (fun a t=> [⟨(rf 59),(some (a 1)),.plain,#[]⟩,(ek P t 0 12 a 2),⟨(.type "function"),none,(.func (o8 a L t)),#[]⟩,(cl (rf (a 4))),(j0 (JZ C 5 p (kr t 7 5)) (UU C 5 p))]),[23,24,27,14,20],(rg 17 6++ [25]++rg 12 5),[25,26],4,fun q qT qS A K=> [pa q A L pl bl ty E0 ao E1 aq E2 au E3 av E4 aw E5 aQ,pe q A L C0 C1 C2 C3 C4 p K,lb qT A C 5 p K,q 3 19 (cr 59 [.none]) []]⟩
theorem Lk:GF P 19 L.aF [vt L.T ty,vi pl bl] L.fn (Lj P L ao E0 aq E1 au E2 av E3 aw E4 C0 C1 C2 C3 ty bl pl p C aQ E5 C4) (hk f'):=kF
end
noncomputable def vD:Value→PyData
 | .int i _=> .int i
 | .str x _=> .str x
 | .bool b=> .bool b
 |_=> .none
noncomputable def jP:Value→Bool
 | .int _ _=>true
 | .str x _=>PyData.strOk x
 | .bool _=>true
 |_=>false
theorem Ln {h:Heap}: ∀{v:Value},jP v=true→Reads h v (vD v) []
 | .int i t,_=> .int i t
 | .str x t,_=> .str x t
 | .bool b,_=> .bool b
 | .none,h=>nomatch h
 | .ellipsis,h=>nomatch h
 | .notImplemented,h=>nomatch h
 | .float _ _,h=>nomatch h
 | .bytes _ _,h=>nomatch h
 | .type _,h=>nomatch h
 | .builtin _,h=>nomatch h
 | .ref _,h=>nomatch h
theorem kR {h:Heap}: ∀{vs:List Value},vs.all jP=true→ReadsAll h vs (vs.map vD) []
 | [],_=> .nil
 |v::vs,q=>by
  have q':jP v=true∧vs.all jP=true:=by simpa using q
  exact .cons (as:= []) (bs:= []) (Ln q'.1) (kR q'.2)
theorem Lp: ∀{v:Value},jP v=true→(vD v).canLay0=true∧(vD v).depth=0
 | .int i t,_=>⟨by simp [vD,PyData.canLay0],by simp [vD,PyData.depth]⟩
 | .str x t,h=>⟨by have h':PyData.strOk x=true:=h;simpa [vD,PyData.canLay0] using h',by simp [vD,PyData.depth]⟩
 | .bool b,_=>⟨by simp [vD,PyData.canLay0],by simp [vD,PyData.depth]⟩
 | .none,h=>nomatch h
 | .ellipsis,h=>nomatch h
 | .notImplemented,h=>nomatch h
 | .float _ _,h=>nomatch h
 | .bytes _ _,h=>nomatch h
 | .type _,h=>nomatch h
 | .builtin _,h=>nomatch h
 | .ref _,h=>nomatch h
theorem Jm: ∀{vs:List Value},vs.all jP=true→PyData.canLayAll0 (vs.map vD)=true∧PyData.depthAll (vs.map vD)=0
 | [],_=>⟨by simp [PyData.canLayAll0],by simp [PyData.depthAll]⟩
 |v::vs,q=>by
  have q':jP v=true∧vs.all jP=true:=by simpa using q
  have h1:=Lp q'.1
  have h2:=Jm q'.2
  exact ⟨by simp [PyData.canLayAll0,h1.1,h2.1],by simp [PyData.depthAll,h1.2,h2.2]⟩
theorem yy {vs:List Value} (q:vs.all jP=true):PySem.SeqAt.shaped (.list (vs.map vD))=true:=by
 have h:=Jm q
 unfold PySem.SeqAt.shaped
 simp [PyData.canLay0,PyData.depth,h.1,h.2]
theorem UR {A:Around} {d:Nat} (S:kT A d) (hd:7≤d):A.units+64<cLine:=by
 have:=S.units
 lia
theorem v9 {W:World} {kt:KT} {an:jZ} {d:Nat} (hd:7≤d) {a b:Addr} {xs ys:List Value} {e1 e2:Nat} {r:Bool} (hr:an.res [] []= .ok (.ret (.bool r))) (hx:xs.all jP=true) (hy:ys.all jP=true) (h:PyData.eqvAll (xs.map vD) (ys.map vD)=r):
  YD pw W kt an d .Eq (.ref a) (.ref b) [some (a,j0 xs e1),some (b,j0 ys e2)]:=by
 intro A Q E s S Z hQ
 have h1:=Z.own _ (.head _)
 have h2:=Z.own _ (.tail _ (.head _))
 refine eq_dataH (Reads.list h1 rfl rfl (kR hx)) (Reads.list h2 rfl rfl (kR hy)) (yy hx) (yy hy) (UR S hd) ?_
 have e:PyData.eqv (.list (xs.map vD)) (.list (ys.map vD))=r:=by
  unfold PyData.eqv
  exact h
 rw [e]
 exact hQ r hr
theorem JF (C:Nat→Bool): ∀(l:List (Nat×Tok)) (xs:List Value) (e:Nat),c2 C l xs e=(xs++JJ (l.filter fun x=>C x.1),e+(l.filter fun x=>C x.1).length)
 | [],xs,e=>by simp [c2,JJ]
 |(k,t)::l,xs,e=>by
  cases hb:C k with
  |true=>simp [c2,hb,JF C l,JJ];lia
  |false=>simp [c2,hb,JF C l]
theorem V5: ∀(m p:Nat) (ts:List Tok),(jo p m ts).length=m
 |0,_,_=>rfl
 |m+1,p,ts=>by simp [jo,V5 m]
theorem V4: ∀(m p:Nat) (ts:List Tok),(jo p m ts).map (·.1)=List.range' p m
 |0,_,_=>rfl
 |m+1,p,ts=>by simp [jo,V4 m,List.range'_succ]
theorem By {m p:Nat} {ts:List Tok} {k:Nat} {t:Tok} (h:(k,t)∈jo p m ts):p≤k∧k<p+m:=by
 have:k∈(jo p m ts).map (·.1):=List.mem_map_of_mem (f:=(·.1)) h
 rw [V4,List.mem_range'_1] at this
 exact this
theorem Bz (C:Nat→Bool) (p m:Nat) (ts:List Tok):((jo p m ts).filter fun x=>C x.1).length=((List.range' p m).filter C).length:=by
 rw [←V4 m p ts,List.filter_map,List.length_map]
 rfl
theorem Lq (C:Nat→Bool) (n p:Nat) (ts:List Tok):(c2 C (jo p (n-p) ts) [] 0).2=UU C n p:=by
 unfold UU
 rw [JF,JF,Bz,Bz]
theorem u8: ∀l:List (Nat×Tok),(JJ l).all jP=true
 | []=>rfl
 |(k,t)::l=>by simp [JJ,jP,u8 l]
theorem va (C:Nat→Bool) (n p:Nat) (ts:List Tok):JZ C n p ts=JJ ((jo p (n-p) ts).filter fun x=>C x.1):=by
 unfold JZ
 rw [JF];simp
theorem BA {C:Nat→Bool} {n p:Nat} {ts:List Tok} (h: ∀k,p≤k→k<n→C k=false):JZ C n p ts= []:=by
 rw [va]
 have:((jo p (n-p) ts).filter fun x=>C x.1)= []:=by
  rw [List.filter_eq_nil_iff]
  rintro ⟨k,t⟩ hm
  have:=By hm
  simp [h k this.1 (by lia)]
 rw [this];rfl
theorem vG {C:Nat→Bool} {n p k:Nat} {ts:List Tok} (h1:p≤k) (h2:k<n) (h3:C k=true):PyData.eqvAll ((JZ C n p ts).map vD) ([].map vD)=false:=by
 rw [va]
 have hm:k∈(jo p (n-p) ts).map (·.1):=by
  rw [V4,List.mem_range'_1];lia
 obtain ⟨⟨k',t⟩,Lr,rfl⟩:=List.mem_map.mp hm
 have hf:(k',t)∈(jo p (n-p) ts).filter fun x=>C x.1:=List.mem_filter.mpr ⟨Lr,h3⟩
 generalize (jo p (n-p) ts).filter (fun x=>C x.1)=l at hf
 cases l with
 |nil=>cases hf
 |cons x l=>
  obtain ⟨a,b⟩:=x
  simp [JJ,PyData.eqvAll]
theorem k8 (W:World) {d:Nat} (hd:8≤d):j6 pw W (jB W.params) (ko W.params) d (.call (.ref 59) ⟨[.none],[]⟩) []:=
 j6.mono (jY (w:=W) (KD W.params) (fun A K=>mj)) hd
theorem Lv (W:World) (a:Addr) {d:Nat} (hd:8≤d):j6 pw W (jB W.params) (mY W.params a) d (.call (.ref 59) ⟨[.ref a],[]⟩) []:=
 j6.mono (jY (w:=W) (KG W.params a) (fun A K=>mj)) hd
theorem y2 (W:World) (aI lW d cC lC lB:Addr) (CS:List Value) (eC:Nat) (co:Value) (fr:Option Addr) (C:Nat→Bool) (n p:Nat) (ts:List Tok) (pq:ts.length=5) (hp:p<n) (hn:n≤100) (hC: ∀k,k<n→CS[k]? =some (.bool (C k))):
  j6 pw W (jB W.params) (yS W.params C n p) 9 (.compStart VQ 0 (.ref aI) (.ref lW) (y8 d cC co fr)) [some (aI,kc lB 0),some (lW,j0 [] 0),some (d,dE),some (cC,j8 (.ref lC)),some (lC,j0 CS eC),some (lB,j0 (dX n p ts) (n-p))]:=by
 have h:=Kz W aI lW d cC lC lB CS.toArray eC (n-p) co fr C (jo p (n-p) ts) (fun k t hm=>by
  have:=By hm
  refine ⟨?_,by lia⟩
  rw [List.getElem?_toArray]
  exact hC k (by lia)) (by rw [V5];lia) [] 0 rfl (by
   intro e
   have:=congrArg List.length e
   rw [V5] at this
   simp at this
   lia)
 rw [V5,Lq] at h
 refine j6.conv (aU:=yS W.params C n p) h (Nat.le_refl _) rfl fun as cf la lt'=>⟨cf.getD 0 0::ts,by simp [pq,yS],rfl,rfl,?_,rfl⟩
 rfl
def Lw:=kg [0x1939d070707d0949c0606069403049b0707079a0808089405049302]
def Lx:=kg [0x1939d0606069c0505059403049b0606069a0505059403049302]
section
variable (P:Params) (H:uD) (cE lE:Addr) (lc:List Tok) (WT:List Value) (eW:Nat) (BG:List Value) (eB:Nat) (Es:List Value) (eE w b:Nat) (tw tb gi:Tok) (I:Int) (sU:Tok) (J:Int)
def Ly:RD:=⟨[(H.d6,(H.mU cE)),(H.co,(jD 100 lc)),(H.cW,(j8 (rf H.lW))),(cE,(j8 (rf lE))),(H.cB,(j8 (rf H.lB))),(H.lW,(j0 WT eW)),(lE,(j0 Es eE)),(H.lB,(j0 BG eB))],[wi [7] (j7 1 0 (fun _=>(vn b tb))),wi [6] (j7 1 0 (fun _=>(vi I gi))),wi [5] (j7 1 0 (fun _=>(vn w tw))),wi [6] (j7 1 0 (fun _=>(vi J sU)))],mA 8 1 0 (fun a t=> .ok (.ret (rf (a 0)))) (fun a t=>(List.replicate 8 id)) (fun a t=> [(sq "tuple" [(vi I gi),(vi J sU)] 0)]),[9],[],[],4,fun q qT qS A K=> [q 0 9 (cb "list.__getitem__" [rf H.lB,vi 0 (K 0)]) [(H.lB,(j0 BG eB))],q 1 9 (cb "list.__getitem__" [rf lE,vn b tb]) [(lE,(j0 Es eE))],q 2 9 (cb "list.__getitem__" [rf H.lW,vi 0 (K 1)]) [(H.lW,(j0 WT eW))],q 3 9 (cb "list.__getitem__" [rf lE,vi (((w:Nat):Int)+1) (K 3)]) [(lE,(j0 Es eE))]]⟩
theorem Lz:GF P 9 H.d6 [] (H.mU cE) (Ly H cE lE lc WT eW BG eB Es eE w b tw tb gi I sU J) (hk Lw):=kF
def spT:RD:=⟨[(H.d6,(H.hU cE)),(H.co,(jD 98 lc)),(H.cW,(j8 (rf H.lW))),(cE,(j8 (rf lE))),(H.lW,(j0 WT eW)),(lE,(j0 Es eE))],[wi [4] (j7 1 0 (fun _=>(vn w tw))),wi [5] (j7 1 0 (fun _=>(vi I gi))),wi [4] (j7 1 0 (fun _=>(vn w tw))),wi [5] (j7 1 0 (fun _=>(vi I gi)))],mA 6 1 0 (fun a t=> .ok (.ret (rf (a 0)))) (fun a t=>(List.replicate 6 id)) (fun a t=> [(sq "tuple" [(vi I gi),(vi I gi)] 0)]),[7],[],[],4,fun q qT qS A K=> [q 0 9 (cb "list.__getitem__" [rf H.lW,vi 0 (K 0)]) [(H.lW,(j0 WT eW))],q 1 9 (cb "list.__getitem__" [rf lE,vn w tw]) [(lE,(j0 Es eE))],q 2 9 (cb "list.__getitem__" [rf H.lW,vi 0 (K 1)]) [(H.lW,(j0 WT eW))],q 3 9 (cb "list.__getitem__" [rf lE,vn w tw]) [(lE,(j0 Es eE))]]⟩
theorem LA:GF P 9 H.d6 [] (H.hU cE) (spT H cE lE lc WT eW Es eE w tw gi I) (hk Lx):=kF
end
theorem LD (W:World) (L:jX) (ao:Tok) (E0:Int) (aq:Tok) (E1:Int) (au:Tok) (E2:Int) (av:Tok) (E3:Int) (aw:Tok) (E4:Int) (C:Nat→Bool) (ty:Tok) (a9:Tok) (pl:Int) (p:Nat) (PL:List Value) (B:Bool) (h0:decide (E0≥pl)=decide (p≤0)) (h1:decide (E1≥pl)=decide (p≤1)) (h2:decide (E2≥pl)=decide (p≤2)) (h3:decide (E3≥pl)=decide (p≤3)) (hp:p<4) (hw: ∀k,p≤k→k<4→C k=false):j6 pw W (jB W.params) hV 20 (.call (.ref L.aF) ⟨[.str L.T ty,.int pl a9],[]⟩) ((L.bK PL B [.int E0 ao,.int E1 aq,.int E2 au,.int E3 av,.int E4 aw] [.bool (C 0),.bool (C 1),.bool (C 2),.bool (C 3)]).map some):=by
 have h:=uM (w:=W) (KP W.params L PL B ao E0 aq E1 au E2 av E3 aw E4 (.bool (C 0)) (.bool (C 1)) (.bool (C 2)) (.bool (C 3)) ty a9 pl p C) (.inr (.head _)) (by
  intro A K
  walk_at "ob"
  ·exact fun _ hz=>Ji W _ _ _ _ _ _ _ _ _ _ L.T L.eE L.tx ty a9 pl ao aq au av aw E0 E1 E2 E3 E4 p (jH hp) h0 h1 h2 h3 _ (dl hz)
  ·exact fun _ hz=>y2 W _ _ _ _ _ _ [.bool (C 0),.bool (C 1),.bool (C 2),.bool (C 3)] L.eC _ _ C 4 p _ rfl hp (Nat.le_add_left _ _) (fun k hk=>by have hh:k=0∨k=1∨k=2∨k=3:=(by lia);rcases hh with rfl|rfl|rfl|rfl<;>rfl) _ (dl hz)
  ·refine v9 (by decide) (ys:= []) rfl (by rw [va];exact u8 _) rfl ?_
   rw [BA hw];simp [PyData.eqvAll]
  )
 exact h.cv (fun ts=> []) fun _ _=>rfl
theorem LI (W:World) (L:jX) (ao:Tok) (E0:Int) (aq:Tok) (E1:Int) (au:Tok) (E2:Int) (av:Tok) (E3:Int) (aw:Tok) (E4:Int) (C:Nat→Bool) (ty:Tok) (a9:Tok) (pl:Int) (p:Nat) (PL:List Value) (B:Bool) (h0:decide (E0≥pl)=decide (p≤0)) (h1:decide (E1≥pl)=decide (p≤1)) (h2:decide (E2≥pl)=decide (p≤2)) (h3:decide (E3≥pl)=decide (p≤3)) (hp:p=4):j6 pw W (jB W.params) hV 20 (.call (.ref L.aF) ⟨[.str L.T ty,.int pl a9],[]⟩) ((L.bK PL B [.int E0 ao,.int E1 aq,.int E2 au,.int E3 av,.int E4 aw] [.bool (C 0),.bool (C 1),.bool (C 2),.bool (C 3)]).map some):=by
 have h:=uM (w:=W) (KR W.params L PL B ao E0 aq E1 au E2 av E3 aw E4 (.bool (C 0)) (.bool (C 1)) (.bool (C 2)) (.bool (C 3)) ty a9 pl p) (.inr (.head _)) (by
  intro A K
  walk_at "ob"
  ·exact fun _ hz=>Ji W _ _ _ _ _ _ _ _ _ _ L.T L.eE L.tx ty a9 pl ao aq au av aw E0 E1 E2 E3 E4 p (Nat.le_of_eq hp) h0 h1 h2 h3 _ (dl hz)
  ·subst hp;exact fun _ hz=>Bo W _ _ _ _ _ _ _ _ _ _ _ [] 0 _ (dl hz)
  ·exact v9 (by decide) (xs:= []) (ys:= []) rfl rfl rfl (by simp [PyData.eqvAll])
  )
 exact h.cv (fun ts=> []) fun _ _=>rfl
theorem LJ (W:World) (L:jX) (ao:Tok) (E0:Int) (aq:Tok) (E1:Int) (au:Tok) (E2:Int) (av:Tok) (E3:Int) (aw:Tok) (E4:Int) (C:Nat→Bool) (ty:Tok) (h0:decide (E0≥0)=decide (0≤0)) (h1:decide (E1≥0)=decide (0≤1)) (h2:decide (E2≥0)=decide (0≤2)) (h3:decide (E3≥0)=decide (0≤3)) (kw:Nat) (bC:kw<4) (bM:C kw=true):j6 pw W (jB W.params) (oV W.params L C 4 0) 20 (.call (.ref L.aF) ⟨[.str L.T ty],[]⟩) ((L.bK eQ false [.int E0 ao,.int E1 aq,.int E2 au,.int E3 av,.int E4 aw] [.bool (C 0),.bool (C 1),.bool (C 2),.bool (C 3)]).map some):=by
 have h:=uM (w:=W) (KU W.params L ao E0 aq E1 au E2 av E3 aw E4 (.bool (C 0)) (.bool (C 1)) (.bool (C 2)) (.bool (C 3)) ty C) (.inr (.head _)) (by
  intro A K
  walk_at "ob"
  ·exact fun _ hz=>Ji W _ _ _ _ _ _ _ _ _ _ L.T L.eE L.tx ty L.t0 0 ao aq au av aw E0 E1 E2 E3 E4 0 (Nat.zero_le _) h0 h1 h2 h3 _ (dl hz)
  ·exact fun _ hz=>y2 W _ _ _ _ _ _ [.bool (C 0),.bool (C 1),.bool (C 2),.bool (C 3)] L.eC _ _ C 4 0 _ rfl (Nat.succ_pos _) (Nat.le_add_left _ _) (fun k hk=>by have hh:k=0∨k=1∨k=2∨k=3:=(by lia);rcases hh with rfl|rfl|rfl|rfl<;>rfl) _ (dl hz)
  ·exact v9 (by decide) (ys:= []) rfl (by rw [va];exact u8 _) rfl (vG (k:=kw) (Nat.zero_le _) bC bM)
  ·exact k8 W (by decide)
  )
 exact h.cv (fun ts=>tg ts [4,5,6,7,8,9,10,27,28,12,13,14,15,16,17,18,19,20,21,0,1,2,22,23,24,25,26,11,3]) fun _ _=>rfl
theorem LK (W:World) (L:jX) (ao:Tok) (E0:Int) (aq:Tok) (E1:Int) (au:Tok) (E2:Int) (av:Tok) (E3:Int) (aw:Tok) (E4:Int) (C:Nat→Bool) (ty:Tok) (h0:decide (E0≥0)=decide (0≤0)) (h1:decide (E1≥0)=decide (0≤1)) (h2:decide (E2≥0)=decide (0≤2)) (h3:decide (E3≥0)=decide (0≤3)) (kw:Nat) (bC:kw<4) (bM:C kw=true):j6 pw W (jB W.params) (yb W.params L C 4 0) 20 (.call (.ref L.aF) ⟨[.str L.T ty],[]⟩) ((L.bK (jL L.af) false [.int E0 ao,.int E1 aq,.int E2 au,.int E3 av,.int E4 aw] [.bool (C 0),.bool (C 1),.bool (C 2),.bool (C 3)]).map some):=by
 have h:=uM (w:=W) (KW W.params L ao E0 aq E1 au E2 av E3 aw E4 (.bool (C 0)) (.bool (C 1)) (.bool (C 2)) (.bool (C 3)) ty C) (.inr (.head _)) (by
  intro A K
  walk_at "ob"
  ·exact fun _ hz=>Ji W _ _ _ _ _ _ _ _ _ _ L.T L.eE L.tx ty L.t0 0 ao aq au av aw E0 E1 E2 E3 E4 0 (Nat.zero_le _) h0 h1 h2 h3 _ (dl hz)
  ·exact fun _ hz=>y2 W _ _ _ _ _ _ [.bool (C 0),.bool (C 1),.bool (C 2),.bool (C 3)] L.eC _ _ C 4 0 _ rfl (Nat.succ_pos _) (Nat.le_add_left _ _) (fun k hk=>by have hh:k=0∨k=1∨k=2∨k=3:=(by lia);rcases hh with rfl|rfl|rfl|rfl<;>rfl) _ (dl hz)
  ·exact v9 (by decide) (ys:= []) rfl (by rw [va];exact u8 _) rfl (vG (k:=kw) (Nat.zero_le _) bC bM)
  ·exact k8 W (by decide)
  )
 exact h.cv (fun ts=>tg ts [0,1,2,3,4,5,6,17,18,7,8,9,10,11,12,13,14,15,16]) fun _ _=>rfl
theorem LL (W:World) (L:jX) (ao:Tok) (E0:Int) (aq:Tok) (E1:Int) (au:Tok) (E2:Int) (av:Tok) (E3:Int) (aw:Tok) (E4:Int) (C:Nat→Bool) (ty:Tok) (a9:Tok) (pl:Int) (p:Nat) (h0:decide (E0≥pl)=decide (p≤0)) (h1:decide (E1≥pl)=decide (p≤1)) (h2:decide (E2≥pl)=decide (p≤2)) (h3:decide (E3≥pl)=decide (p≤3)) (kw:Nat) (cV:p≤kw) (bC:kw<4) (bM:C kw=true):j6 pw W (jB W.params) (yb W.params L C 4 p) 20 (.call (.ref L.aF) ⟨[.str L.T ty,.int pl a9],[]⟩) ((L.bK (jL L.af) false [.int E0 ao,.int E1 aq,.int E2 au,.int E3 av,.int E4 aw] [.bool (C 0),.bool (C 1),.bool (C 2),.bool (C 3)]).map some):=by
 have h:=uM (w:=W) (KZ W.params L ao E0 aq E1 au E2 av E3 aw E4 (.bool (C 0)) (.bool (C 1)) (.bool (C 2)) (.bool (C 3)) ty a9 pl p C) (.inr (.head _)) (by
  intro A K
  walk_at "ob"
  ·exact fun _ hz=>Ji W _ _ _ _ _ _ _ _ _ _ L.T L.eE L.tx ty a9 pl ao aq au av aw E0 E1 E2 E3 E4 p (jH (yL cV bC)) h0 h1 h2 h3 _ (dl hz)
  ·exact fun _ hz=>y2 W _ _ _ _ _ _ [.bool (C 0),.bool (C 1),.bool (C 2),.bool (C 3)] L.eC _ _ C 4 p _ rfl (yL cV bC) (Nat.le_add_left _ _) (fun k hk=>by have hh:k=0∨k=1∨k=2∨k=3:=(by lia);rcases hh with rfl|rfl|rfl|rfl<;>rfl) _ (dl hz)
  ·exact v9 (by decide) (ys:= []) rfl (by rw [va];exact u8 _) rfl (vG (k:=kw) cV bC bM)
  ·exact k8 W (by decide)
  )
 exact h.cv (fun ts=>tg ts [0,1,2,3,4,5,6,17,18,7,8,9,10,11,12,13,14,15,16]) fun _ _=>rfl
theorem LN (W:World) (L:jX) (ao:Tok) (E0:Int) (aq:Tok) (E1:Int) (au:Tok) (E2:Int) (av:Tok) (E3:Int) (aw:Tok) (E4:Int) (C:Nat→Bool) (ty:Tok) (h0:decide (E0≥0)=decide (0≤0)) (h1:decide (E1≥0)=decide (0≤1)) (h2:decide (E2≥0)=decide (0≤2)) (h3:decide (E3≥0)=decide (0≤3)) (kw:Nat) (bC:kw<4) (bM:C kw=true):j6 pw W (jB W.params) (Yb W.params L C 4 0) 20 (.call (.ref L.aF) ⟨[.str L.T ty],[]⟩) ((L.bK (jL L.af) true [.int E0 ao,.int E1 aq,.int E2 au,.int E3 av,.int E4 aw] [.bool (C 0),.bool (C 1),.bool (C 2),.bool (C 3)]).map some):=by
 have h:=uM (w:=W) (K1 W.params L ao E0 aq E1 au E2 av E3 aw E4 (.bool (C 0)) (.bool (C 1)) (.bool (C 2)) (.bool (C 3)) ty C) (.inr (.head _)) (by
  intro A K
  walk_at "ob"
  ·exact fun _ hz=>Ji W _ _ _ _ _ _ _ _ _ _ L.T L.eE L.tx ty L.t0 0 ao aq au av aw E0 E1 E2 E3 E4 0 (Nat.zero_le _) h0 h1 h2 h3 _ (dl hz)
  ·exact fun _ hz=>y2 W _ _ _ _ _ _ [.bool (C 0),.bool (C 1),.bool (C 2),.bool (C 3)] L.eC _ _ C 4 0 _ rfl (Nat.succ_pos _) (Nat.le_add_left _ _) (fun k hk=>by have hh:k=0∨k=1∨k=2∨k=3:=(by lia);rcases hh with rfl|rfl|rfl|rfl<;>rfl) _ (dl hz)
  ·exact v9 (by decide) (ys:= []) rfl (by rw [va];exact u8 _) rfl (vG (k:=kw) (Nat.zero_le _) bC bM)
  ·exact k8 W (by decide)
  )
 exact h.cv (fun ts=>tg ts [4,5,6,7,8,9,10,22,23,12,13,14,15,16,0,1,2,17,18,19,20,21,11,3]) fun _ _=>rfl
theorem LO (W:World) (L:jX) (ao:Tok) (E0:Int) (aq:Tok) (E1:Int) (au:Tok) (E2:Int) (av:Tok) (E3:Int) (aw:Tok) (E4:Int) (C:Nat→Bool) (ty:Tok) (h0:decide (E0≥0)=decide (0≤0)) (h1:decide (E1≥0)=decide (0≤1)) (h2:decide (E2≥0)=decide (0≤2)) (h3:decide (E3≥0)=decide (0≤3)) (kw:Nat) (bC:kw<4) (bM:C kw=true):j6 pw W (jB W.params) (yv W.params L C 4 0) 20 (.call (.ref L.aF) ⟨[.str L.T ty],[]⟩) ((L.bK (ku L.af L.aA) true [.int E0 ao,.int E1 aq,.int E2 au,.int E3 av,.int E4 aw] [.bool (C 0),.bool (C 1),.bool (C 2),.bool (C 3)]).map some):=by
 have h:=uM (w:=W) (K3 W.params L ao E0 aq E1 au E2 av E3 aw E4 (.bool (C 0)) (.bool (C 1)) (.bool (C 2)) (.bool (C 3)) ty C) (.inr (.head _)) (by
  intro A K
  walk_at "ob"
  ·exact fun _ hz=>Ji W _ _ _ _ _ _ _ _ _ _ L.T L.eE L.tx ty L.t0 0 ao aq au av aw E0 E1 E2 E3 E4 0 (Nat.zero_le _) h0 h1 h2 h3 _ (dl hz)
  ·exact fun _ hz=>y2 W _ _ _ _ _ _ [.bool (C 0),.bool (C 1),.bool (C 2),.bool (C 3)] L.eC _ _ C 4 0 _ rfl (Nat.succ_pos _) (Nat.le_add_left _ _) (fun k hk=>by have hh:k=0∨k=1∨k=2∨k=3:=(by lia);rcases hh with rfl|rfl|rfl|rfl<;>rfl) _ (dl hz)
  ·exact v9 (by decide) (ys:= []) rfl (by rw [va];exact u8 _) rfl (vG (k:=kw) (Nat.zero_le _) bC bM)
  ·exact k8 W (by decide)
  )
 exact h.cv (fun ts=>tg ts [0,1,2,3,4,5,6,12,13,7,8,9,10,11]) fun _ _=>rfl
theorem LQ (W:World) (L:jX) (ao:Tok) (E0:Int) (aq:Tok) (E1:Int) (au:Tok) (E2:Int) (av:Tok) (E3:Int) (aw:Tok) (E4:Int) (C:Nat→Bool) (ty:Tok) (a9:Tok) (pl:Int) (p:Nat) (h0:decide (E0≥pl)=decide (p≤0)) (h1:decide (E1≥pl)=decide (p≤1)) (h2:decide (E2≥pl)=decide (p≤2)) (h3:decide (E3≥pl)=decide (p≤3)) (kw:Nat) (cV:p≤kw) (bC:kw<4) (bM:C kw=true):j6 pw W (jB W.params) (yv W.params L C 4 p) 20 (.call (.ref L.aF) ⟨[.str L.T ty,.int pl a9],[]⟩) ((L.bK (ku L.af L.aA) true [.int E0 ao,.int E1 aq,.int E2 au,.int E3 av,.int E4 aw] [.bool (C 0),.bool (C 1),.bool (C 2),.bool (C 3)]).map some):=by
 have h:=uM (w:=W) (K5 W.params L ao E0 aq E1 au E2 av E3 aw E4 (.bool (C 0)) (.bool (C 1)) (.bool (C 2)) (.bool (C 3)) ty a9 pl p C) (.inr (.head _)) (by
  intro A K
  walk_at "ob"
  ·exact fun _ hz=>Ji W _ _ _ _ _ _ _ _ _ _ L.T L.eE L.tx ty a9 pl ao aq au av aw E0 E1 E2 E3 E4 p (jH (yL cV bC)) h0 h1 h2 h3 _ (dl hz)
  ·exact fun _ hz=>y2 W _ _ _ _ _ _ [.bool (C 0),.bool (C 1),.bool (C 2),.bool (C 3)] L.eC _ _ C 4 p _ rfl (yL cV bC) (Nat.le_add_left _ _) (fun k hk=>by have hh:k=0∨k=1∨k=2∨k=3:=(by lia);rcases hh with rfl|rfl|rfl|rfl<;>rfl) _ (dl hz)
  ·exact v9 (by decide) (ys:= []) rfl (by rw [va];exact u8 _) rfl (vG (k:=kw) cV bC bM)
  ·exact k8 W (by decide)
  )
 exact h.cv (fun ts=>tg ts [0,1,2,3,4,5,6,12,13,7,8,9,10,11]) fun _ _=>rfl
theorem LR (W:World) (L:jX) (ao:Tok) (E0:Int) (aq:Tok) (E1:Int) (au:Tok) (E2:Int) (av:Tok) (E3:Int) (aw:Tok) (E4:Int) (aQ:Tok) (E5:Int) (C:Nat→Bool) (ty:Tok) (a9:Tok) (pl:Int) (p:Nat) (PL:List Value) (B:Bool) (h0:decide (E0≥pl)=decide (p≤0)) (h1:decide (E1≥pl)=decide (p≤1)) (h2:decide (E2≥pl)=decide (p≤2)) (h3:decide (E3≥pl)=decide (p≤3)) (h4:decide (E4≥pl)=decide (p≤4)) (hp:p<5) (hw: ∀k,p≤k→k<5→C k=false):j6 pw W (jB W.params) hV 20 (.call (.ref L.aF) ⟨[.str L.T ty,.int pl a9],[]⟩) ((L.bK PL B [.int E0 ao,.int E1 aq,.int E2 au,.int E3 av,.int E4 aw,.int E5 aQ] [.bool (C 0),.bool (C 1),.bool (C 2),.bool (C 3),.bool (C 4)]).map some):=by
 have h:=uM (w:=W) (K7 W.params L PL B ao E0 aq E1 au E2 av E3 aw E4 (.bool (C 0)) (.bool (C 1)) (.bool (C 2)) (.bool (C 3)) ty a9 pl p C aQ E5 (.bool (C 4))) (.inr (.head _)) (by
  intro A K
  walk_at "ob"
  ·exact fun _ hz=>Jj W _ _ _ _ _ _ _ _ _ _ L.T L.eE L.tx ty a9 pl ao aq au av aw aQ E0 E1 E2 E3 E4 E5 p (jH hp) h0 h1 h2 h3 h4 _ (dl hz)
  ·exact fun _ hz=>y2 W _ _ _ _ _ _ [.bool (C 0),.bool (C 1),.bool (C 2),.bool (C 3),.bool (C 4)] L.eC _ _ C 5 p _ rfl hp (Nat.le_add_left _ _) (fun k hk=>by have hh:k=0∨k=1∨k=2∨k=3∨k=4:=(by lia);rcases hh with rfl|rfl|rfl|rfl|rfl<;>rfl) _ (dl hz)
  ·refine v9 (by decide) (ys:= []) rfl (by rw [va];exact u8 _) rfl ?_
   rw [BA hw];simp [PyData.eqvAll]
  )
 exact h.cv (fun ts=> []) fun _ _=>rfl
theorem LU (W:World) (L:jX) (ao:Tok) (E0:Int) (aq:Tok) (E1:Int) (au:Tok) (E2:Int) (av:Tok) (E3:Int) (aw:Tok) (E4:Int) (aQ:Tok) (E5:Int) (C:Nat→Bool) (ty:Tok) (a9:Tok) (pl:Int) (p:Nat) (PL:List Value) (B:Bool) (h0:decide (E0≥pl)=decide (p≤0)) (h1:decide (E1≥pl)=decide (p≤1)) (h2:decide (E2≥pl)=decide (p≤2)) (h3:decide (E3≥pl)=decide (p≤3)) (h4:decide (E4≥pl)=decide (p≤4)) (hp:p=5):j6 pw W (jB W.params) hV 20 (.call (.ref L.aF) ⟨[.str L.T ty,.int pl a9],[]⟩) ((L.bK PL B [.int E0 ao,.int E1 aq,.int E2 au,.int E3 av,.int E4 aw,.int E5 aQ] [.bool (C 0),.bool (C 1),.bool (C 2),.bool (C 3),.bool (C 4)]).map some):=by
 have h:=uM (w:=W) (K9 W.params L PL B ao E0 aq E1 au E2 av E3 aw E4 (.bool (C 0)) (.bool (C 1)) (.bool (C 2)) (.bool (C 3)) ty a9 pl p aQ E5 (.bool (C 4))) (.inr (.head _)) (by
  intro A K
  walk_at "ob"
  ·exact fun _ hz=>Jj W _ _ _ _ _ _ _ _ _ _ L.T L.eE L.tx ty a9 pl ao aq au av aw aQ E0 E1 E2 E3 E4 E5 p (Nat.le_of_eq hp) h0 h1 h2 h3 h4 _ (dl hz)
  ·subst hp;exact fun _ hz=>Bo W _ _ _ _ _ _ _ _ _ _ _ [] 0 _ (dl hz)
  ·exact v9 (by decide) (xs:= []) (ys:= []) rfl rfl rfl (by simp [PyData.eqvAll])
  )
 exact h.cv (fun ts=> []) fun _ _=>rfl
theorem LV (W:World) (L:jX) (ao:Tok) (E0:Int) (aq:Tok) (E1:Int) (au:Tok) (E2:Int) (av:Tok) (E3:Int) (aw:Tok) (E4:Int) (aQ:Tok) (E5:Int) (C:Nat→Bool) (ty:Tok) (h0:decide (E0≥0)=decide (0≤0)) (h1:decide (E1≥0)=decide (0≤1)) (h2:decide (E2≥0)=decide (0≤2)) (h3:decide (E3≥0)=decide (0≤3)) (h4:decide (E4≥0)=decide (0≤4)) (kw:Nat) (bC:kw<5) (bM:C kw=true):j6 pw W (jB W.params) (oV W.params L C 5 0) 20 (.call (.ref L.aF) ⟨[.str L.T ty],[]⟩) ((L.bK eQ false [.int E0 ao,.int E1 aq,.int E2 au,.int E3 av,.int E4 aw,.int E5 aQ] [.bool (C 0),.bool (C 1),.bool (C 2),.bool (C 3),.bool (C 4)]).map some):=by
 have h:=uM (w:=W) (La W.params L ao E0 aq E1 au E2 av E3 aw E4 (.bool (C 0)) (.bool (C 1)) (.bool (C 2)) (.bool (C 3)) ty C aQ E5 (.bool (C 4))) (.inr (.head _)) (by
  intro A K
  walk_at "ob"
  ·exact fun _ hz=>Jj W _ _ _ _ _ _ _ _ _ _ L.T L.eE L.tx ty L.t0 0 ao aq au av aw aQ E0 E1 E2 E3 E4 E5 0 (Nat.zero_le _) h0 h1 h2 h3 h4 _ (dl hz)
  ·exact fun _ hz=>y2 W _ _ _ _ _ _ [.bool (C 0),.bool (C 1),.bool (C 2),.bool (C 3),.bool (C 4)] L.eC _ _ C 5 0 _ rfl (Nat.succ_pos _) (Nat.le_add_left _ _) (fun k hk=>by have hh:k=0∨k=1∨k=2∨k=3∨k=4:=(by lia);rcases hh with rfl|rfl|rfl|rfl|rfl<;>rfl) _ (dl hz)
  ·exact v9 (by decide) (ys:= []) rfl (by rw [va];exact u8 _) rfl (vG (k:=kw) (Nat.zero_le _) bC bM)
  ·exact k8 W (by decide)
  )
 exact h.cv (fun ts=>tg ts [4,5,6,7,8,9,10,27,28,12,13,14,15,16,17,18,19,20,21,0,1,2,22,23,24,25,26,11,3]) fun _ _=>rfl
theorem LW (W:World) (L:jX) (ao:Tok) (E0:Int) (aq:Tok) (E1:Int) (au:Tok) (E2:Int) (av:Tok) (E3:Int) (aw:Tok) (E4:Int) (aQ:Tok) (E5:Int) (C:Nat→Bool) (ty:Tok) (h0:decide (E0≥0)=decide (0≤0)) (h1:decide (E1≥0)=decide (0≤1)) (h2:decide (E2≥0)=decide (0≤2)) (h3:decide (E3≥0)=decide (0≤3)) (h4:decide (E4≥0)=decide (0≤4)) (kw:Nat) (bC:kw<5) (bM:C kw=true):j6 pw W (jB W.params) (yb W.params L C 5 0) 20 (.call (.ref L.aF) ⟨[.str L.T ty],[]⟩) ((L.bK (jL L.af) false [.int E0 ao,.int E1 aq,.int E2 au,.int E3 av,.int E4 aw,.int E5 aQ] [.bool (C 0),.bool (C 1),.bool (C 2),.bool (C 3),.bool (C 4)]).map some):=by
 have h:=uM (w:=W) (Lc W.params L ao E0 aq E1 au E2 av E3 aw E4 (.bool (C 0)) (.bool (C 1)) (.bool (C 2)) (.bool (C 3)) ty C aQ E5 (.bool (C 4))) (.inr (.head _)) (by
  intro A K
  walk_at "ob"
  ·exact fun _ hz=>Jj W _ _ _ _ _ _ _ _ _ _ L.T L.eE L.tx ty L.t0 0 ao aq au av aw aQ E0 E1 E2 E3 E4 E5 0 (Nat.zero_le _) h0 h1 h2 h3 h4 _ (dl hz)
  ·exact fun _ hz=>y2 W _ _ _ _ _ _ [.bool (C 0),.bool (C 1),.bool (C 2),.bool (C 3),.bool (C 4)] L.eC _ _ C 5 0 _ rfl (Nat.succ_pos _) (Nat.le_add_left _ _) (fun k hk=>by have hh:k=0∨k=1∨k=2∨k=3∨k=4:=(by lia);rcases hh with rfl|rfl|rfl|rfl|rfl<;>rfl) _ (dl hz)
  ·exact v9 (by decide) (ys:= []) rfl (by rw [va];exact u8 _) rfl (vG (k:=kw) (Nat.zero_le _) bC bM)
  ·exact k8 W (by decide)
  )
 exact h.cv (fun ts=>tg ts [0,1,2,3,4,5,6,17,18,7,8,9,10,11,12,13,14,15,16]) fun _ _=>rfl
theorem LX (W:World) (L:jX) (ao:Tok) (E0:Int) (aq:Tok) (E1:Int) (au:Tok) (E2:Int) (av:Tok) (E3:Int) (aw:Tok) (E4:Int) (aQ:Tok) (E5:Int) (C:Nat→Bool) (ty:Tok) (a9:Tok) (pl:Int) (p:Nat) (h0:decide (E0≥pl)=decide (p≤0)) (h1:decide (E1≥pl)=decide (p≤1)) (h2:decide (E2≥pl)=decide (p≤2)) (h3:decide (E3≥pl)=decide (p≤3)) (h4:decide (E4≥pl)=decide (p≤4)) (kw:Nat) (cV:p≤kw) (bC:kw<5) (bM:C kw=true):j6 pw W (jB W.params) (yb W.params L C 5 p) 20 (.call (.ref L.aF) ⟨[.str L.T ty,.int pl a9],[]⟩) ((L.bK (jL L.af) false [.int E0 ao,.int E1 aq,.int E2 au,.int E3 av,.int E4 aw,.int E5 aQ] [.bool (C 0),.bool (C 1),.bool (C 2),.bool (C 3),.bool (C 4)]).map some):=by
 have h:=uM (w:=W) (Le W.params L ao E0 aq E1 au E2 av E3 aw E4 (.bool (C 0)) (.bool (C 1)) (.bool (C 2)) (.bool (C 3)) ty a9 pl p C aQ E5 (.bool (C 4))) (.inr (.head _)) (by
  intro A K
  walk_at "ob"
  ·exact fun _ hz=>Jj W _ _ _ _ _ _ _ _ _ _ L.T L.eE L.tx ty a9 pl ao aq au av aw aQ E0 E1 E2 E3 E4 E5 p (jH (yL cV bC)) h0 h1 h2 h3 h4 _ (dl hz)
  ·exact fun _ hz=>y2 W _ _ _ _ _ _ [.bool (C 0),.bool (C 1),.bool (C 2),.bool (C 3),.bool (C 4)] L.eC _ _ C 5 p _ rfl (yL cV bC) (Nat.le_add_left _ _) (fun k hk=>by have hh:k=0∨k=1∨k=2∨k=3∨k=4:=(by lia);rcases hh with rfl|rfl|rfl|rfl|rfl<;>rfl) _ (dl hz)
  ·exact v9 (by decide) (ys:= []) rfl (by rw [va];exact u8 _) rfl (vG (k:=kw) cV bC bM)
  ·exact k8 W (by decide)
  )
 exact h.cv (fun ts=>tg ts [0,1,2,3,4,5,6,17,18,7,8,9,10,11,12,13,14,15,16]) fun _ _=>rfl
theorem LY (W:World) (L:jX) (ao:Tok) (E0:Int) (aq:Tok) (E1:Int) (au:Tok) (E2:Int) (av:Tok) (E3:Int) (aw:Tok) (E4:Int) (aQ:Tok) (E5:Int) (C:Nat→Bool) (ty:Tok) (h0:decide (E0≥0)=decide (0≤0)) (h1:decide (E1≥0)=decide (0≤1)) (h2:decide (E2≥0)=decide (0≤2)) (h3:decide (E3≥0)=decide (0≤3)) (h4:decide (E4≥0)=decide (0≤4)) (kw:Nat) (bC:kw<5) (bM:C kw=true):j6 pw W (jB W.params) (Yb W.params L C 5 0) 20 (.call (.ref L.aF) ⟨[.str L.T ty],[]⟩) ((L.bK (jL L.af) true [.int E0 ao,.int E1 aq,.int E2 au,.int E3 av,.int E4 aw,.int E5 aQ] [.bool (C 0),.bool (C 1),.bool (C 2),.bool (C 3),.bool (C 4)]).map some):=by
 have h:=uM (w:=W) (Lg W.params L ao E0 aq E1 au E2 av E3 aw E4 (.bool (C 0)) (.bool (C 1)) (.bool (C 2)) (.bool (C 3)) ty C aQ E5 (.bool (C 4))) (.inr (.head _)) (by
  intro A K
  walk_at "ob"
  ·exact fun _ hz=>Jj W _ _ _ _ _ _ _ _ _ _ L.T L.eE L.tx ty L.t0 0 ao aq au av aw aQ E0 E1 E2 E3 E4 E5 0 (Nat.zero_le _) h0 h1 h2 h3 h4 _ (dl hz)
  ·exact fun _ hz=>y2 W _ _ _ _ _ _ [.bool (C 0),.bool (C 1),.bool (C 2),.bool (C 3),.bool (C 4)] L.eC _ _ C 5 0 _ rfl (Nat.succ_pos _) (Nat.le_add_left _ _) (fun k hk=>by have hh:k=0∨k=1∨k=2∨k=3∨k=4:=(by lia);rcases hh with rfl|rfl|rfl|rfl|rfl<;>rfl) _ (dl hz)
  ·exact v9 (by decide) (ys:= []) rfl (by rw [va];exact u8 _) rfl (vG (k:=kw) (Nat.zero_le _) bC bM)
  ·exact k8 W (by decide)
  )
 exact h.cv (fun ts=>tg ts [4,5,6,7,8,9,10,22,23,12,13,14,15,16,0,1,2,17,18,19,20,21,11,3]) fun _ _=>rfl
theorem LZ (W:World) (L:jX) (ao:Tok) (E0:Int) (aq:Tok) (E1:Int) (au:Tok) (E2:Int) (av:Tok) (E3:Int) (aw:Tok) (E4:Int) (aQ:Tok) (E5:Int) (C:Nat→Bool) (ty:Tok) (h0:decide (E0≥0)=decide (0≤0)) (h1:decide (E1≥0)=decide (0≤1)) (h2:decide (E2≥0)=decide (0≤2)) (h3:decide (E3≥0)=decide (0≤3)) (h4:decide (E4≥0)=decide (0≤4)) (kw:Nat) (bC:kw<5) (bM:C kw=true):j6 pw W (jB W.params) (yv W.params L C 5 0) 20 (.call (.ref L.aF) ⟨[.str L.T ty],[]⟩) ((L.bK (ku L.af L.aA) true [.int E0 ao,.int E1 aq,.int E2 au,.int E3 av,.int E4 aw,.int E5 aQ] [.bool (C 0),.bool (C 1),.bool (C 2),.bool (C 3),.bool (C 4)]).map some):=by
 have h:=uM (w:=W) (Li W.params L ao E0 aq E1 au E2 av E3 aw E4 (.bool (C 0)) (.bool (C 1)) (.bool (C 2)) (.bool (C 3)) ty C aQ E5 (.bool (C 4))) (.inr (.head _)) (by
  intro A K
  walk_at "ob"
  ·exact fun _ hz=>Jj W _ _ _ _ _ _ _ _ _ _ L.T L.eE L.tx ty L.t0 0 ao aq au av aw aQ E0 E1 E2 E3 E4 E5 0 (Nat.zero_le _) h0 h1 h2 h3 h4 _ (dl hz)
  ·exact fun _ hz=>y2 W _ _ _ _ _ _ [.bool (C 0),.bool (C 1),.bool (C 2),.bool (C 3),.bool (C 4)] L.eC _ _ C 5 0 _ rfl (Nat.succ_pos _) (Nat.le_add_left _ _) (fun k hk=>by have hh:k=0∨k=1∨k=2∨k=3∨k=4:=(by lia);rcases hh with rfl|rfl|rfl|rfl|rfl<;>rfl) _ (dl hz)
  ·exact v9 (by decide) (ys:= []) rfl (by rw [va];exact u8 _) rfl (vG (k:=kw) (Nat.zero_le _) bC bM)
  ·exact k8 W (by decide)
  )
 exact h.cv (fun ts=>tg ts [0,1,2,3,4,5,6,12,13,7,8,9,10,11]) fun _ _=>rfl
theorem L5 (W:World) (L:jX) (ao:Tok) (E0:Int) (aq:Tok) (E1:Int) (au:Tok) (E2:Int) (av:Tok) (E3:Int) (aw:Tok) (E4:Int) (aQ:Tok) (E5:Int) (C:Nat→Bool) (ty:Tok) (a9:Tok) (pl:Int) (p:Nat) (h0:decide (E0≥pl)=decide (p≤0)) (h1:decide (E1≥pl)=decide (p≤1)) (h2:decide (E2≥pl)=decide (p≤2)) (h3:decide (E3≥pl)=decide (p≤3)) (h4:decide (E4≥pl)=decide (p≤4)) (kw:Nat) (cV:p≤kw) (bC:kw<5) (bM:C kw=true):j6 pw W (jB W.params) (yv W.params L C 5 p) 20 (.call (.ref L.aF) ⟨[.str L.T ty,.int pl a9],[]⟩) ((L.bK (ku L.af L.aA) true [.int E0 ao,.int E1 aq,.int E2 au,.int E3 av,.int E4 aw,.int E5 aQ] [.bool (C 0),.bool (C 1),.bool (C 2),.bool (C 3),.bool (C 4)]).map some):=by
 have h:=uM (w:=W) (Lk W.params L ao E0 aq E1 au E2 av E3 aw E4 (.bool (C 0)) (.bool (C 1)) (.bool (C 2)) (.bool (C 3)) ty a9 pl p C aQ E5 (.bool (C 4))) (.inr (.head _)) (by
  intro A K
  walk_at "ob"
  ·exact fun _ hz=>Jj W _ _ _ _ _ _ _ _ _ _ L.T L.eE L.tx ty a9 pl ao aq au av aw aQ E0 E1 E2 E3 E4 E5 p (jH (yL cV bC)) h0 h1 h2 h3 h4 _ (dl hz)
  ·exact fun _ hz=>y2 W _ _ _ _ _ _ [.bool (C 0),.bool (C 1),.bool (C 2),.bool (C 3),.bool (C 4)] L.eC _ _ C 5 p _ rfl (yL cV bC) (Nat.le_add_left _ _) (fun k hk=>by have hh:k=0∨k=1∨k=2∨k=3∨k=4:=(by lia);rcases hh with rfl|rfl|rfl|rfl|rfl<;>rfl) _ (dl hz)
  ·exact v9 (by decide) (ys:= []) rfl (by rw [va];exact u8 _) rfl (vG (k:=kw) cV bC bM)
  ·exact k8 W (by decide)
  )
 exact h.cv (fun ts=>tg ts [0,1,2,3,4,5,6,12,13,7,8,9,10,11]) fun _ _=>rfl
noncomputable def L6 (xs:List Value):Obj:=⟨.type "tuple",none,.seq xs.toArray 0,#[]⟩
def kL (k:Nat) (I:Int) (It:Tok) (J:Int) (Jt:Tok):jZ:={ids:=List.range k,na:=1,nt:=0,res:=fun as _=> .ok (.ret (.ref (as.getD 0 0))),upd:=fun _ _=>List.replicate k id,new:=fun _ _=> [L6 [.int I It,.int J Jt]]}
def uD.ll (H:uD) (cE lE:Addr) (lc:List Tok) (WT:List Value) (eW:Nat) (BG:List Value) (eB:Nat) (Es:List Value) (eE:Nat):List (Addr×Obj):= [(H.d6,H.mU cE),(H.co,jD 100 lc),(H.cW,j8 (.ref H.lW)),(cE,j8 (.ref lE)),(H.cB,j8 (.ref H.lB)),(H.lW,j0 WT eW),(lE,j0 Es eE),(H.lB,j0 BG eB)]
def uD.gj (H:uD) (cE lE:Addr) (lc:List Tok) (WT:List Value) (eW:Nat) (Es:List Value) (eE:Nat):List (Addr×Obj):= [(H.d6,H.hU cE),(H.co,jD 98 lc),(H.cW,j8 (.ref H.lW)),(cE,j8 (.ref lE)),(H.lW,j0 WT eW),(lE,j0 Es eE)]
theorem Jl {xs:List Value} {i:Nat} {v:Value} (h:xs[i]? =some v):(xs.toArray)[i]? =some v:=by
 rw [List.getElem?_toArray];exact h
theorem L7 (W:World) (H:uD) (cE lE:Addr) (lc:List Tok) (WT:List Value) (eW:Nat) (BG:List Value) (eB:Nat) (Es:List Value) (eE:Nat) {w b:Nat} {tw tb:Tok} {I J:Int} {It Jt:Tok} (hw:WT[0]? =some (.int (w:Int) tw)) (hb:BG[0]? =some (.int (b:Int) tb)) (hI:Es[b]? =some (.int I It)) (hJ:Es[w+1]? =some (.int J Jt)) (hl:w<1000) (L8:b<1000):
  j6 pw W (jB W.params) (kL 8 I It J Jt) 10 (.call (.ref H.d6) ⟨[],[]⟩) ((H.ll cE lE lc WT eW BG eB Es eE).map some):=by
 have h:=uM (w:=W) (Lz W.params H cE lE lc WT eW BG eB Es eE w b tw tb It I Jt J) (.inr (.head _)) (by
  intro A K
  walk_at "ob"
  ·exact uk (res:=fun _=> .int (b:Int) tb) (ts:= []) (nt:=0) rfl (by decide) (by decide) (Jl hb)
  ·exact uk (res:=fun _=> .int I It) (ts:= []) (nt:=0) rfl (by lia) (by lia) (by rw [Int.toNat_natCast];exact Jl hI)
  ·exact uk (res:=fun _=> .int (w:Int) tw) (ts:= []) (nt:=0) rfl (by decide) (by decide) (Jl hw)
  ·refine (uk (res:=fun _=> .int J Jt) (ts:= []) (nt:=0) rfl (by lia) (by lia) ?_)
   have e:((w:Int)+1).toNat=w+1:=rfl
   rw [e];exact Jl hJ)
 exact h.cv (fun ts=> []) fun _ _=>rfl
theorem L9 (W:World) (H:uD) (cE lE:Addr) (lc:List Tok) (WT:List Value) (eW:Nat) (Es:List Value) (eE:Nat) {w:Nat} {tw:Tok} {I:Int} {It:Tok} (hw:WT[0]? =some (.int (w:Int) tw)) (hI:Es[w]? =some (.int I It)) (hl:w<1000):
  j6 pw W (jB W.params) (kL 6 I It I It) 10 (.call (.ref H.d6) ⟨[],[]⟩) ((H.gj cE lE lc WT eW Es eE).map some):=by
 have h:=uM (w:=W) (LA W.params H cE lE lc WT eW Es eE w tw It I) (.inr (.head _)) (by
  intro A K
  walk_at "ob"
  ·exact uk (res:=fun _=> .int (w:Int) tw) (ts:= []) (nt:=0) rfl (by decide) (by decide) (Jl hw)
  ·exact uk (res:=fun _=> .int I It) (ts:= []) (nt:=0) rfl (by lia) (by lia) (by rw [Int.toNat_natCast];exact Jl hI)
  ·exact uk (res:=fun _=> .int (w:Int) tw) (ts:= []) (nt:=0) rfl (by decide) (by decide) (Jl hw)
  ·exact uk (res:=fun _=> .int I It) (ts:= []) (nt:=0) rfl (by lia) (by lia) (by rw [Int.toNat_natCast];exact Jl hI))
 exact h.cv (fun ts=> []) fun _ _=>rfl
noncomputable def uP (E:Nat→Int) (et:Nat→Tok) (n:Nat):List Value:=(List.range (n+1)).map fun k=> .int (E k) (et k)
noncomputable def vl (C:Nat→Bool) (n:Nat):List Value:=(List.range n).map fun k=> .bool (C k)
section
variable (W:World) (L:jX) (E:Nat→Int) (et:Nat→Tok) (C:Nat→Bool) (n:Nat) (hn:n=4∨n=5)
include hn
theorem BC (PL:List Value) (B:Bool) (ty a9:Tok) (pl:Int) (p:Nat) (hp:p≤n) (hE: ∀k,k<n→decide (E k≥pl)=decide (p≤k)) (hw: ∀k,p≤k→k<n→C k=false):
  j6 pw W (jB W.params) hV 20 (.call (.ref L.aF) ⟨[.str L.T ty,.int pl a9],[]⟩) ((L.bK PL B (uP E et n) (vl C n)).map some):=by
 rcases hn with rfl|rfl
 ·by_cases q:p=4
  ·exact LI W L _ _ _ _ _ _ _ _ _ _ C ty a9 pl p PL B (hE 0 (by decide)) (hE 1 (by decide)) (hE 2 (by decide)) (hE 3 (by decide)) q
  ·exact LD W L _ _ _ _ _ _ _ _ _ _ C ty a9 pl p PL B (hE 0 (by decide)) (hE 1 (by decide)) (hE 2 (by decide)) (hE 3 (by decide)) (Nat.lt_of_le_of_ne hp q) hw
 ·by_cases q:p=5
  ·exact LU W L _ _ _ _ _ _ _ _ _ _ _ _ C ty a9 pl p PL B (hE 0 (by decide)) (hE 1 (by decide)) (hE 2 (by decide)) (hE 3 (by decide)) (hE 4 (by decide)) q
  ·exact LR W L _ _ _ _ _ _ _ _ _ _ _ _ C ty a9 pl p PL B (hE 0 (by decide)) (hE 1 (by decide)) (hE 2 (by decide)) (hE 3 (by decide)) (hE 4 (by decide)) (Nat.lt_of_le_of_ne hp q) hw
theorem Ma (ty:Tok) (hE: ∀k,k<n→decide (E k≥0)=decide (0≤k)) (kw:Nat) (bC:kw<n) (bM:C kw=true):j6 pw W (jB W.params) (oV W.params L C n 0) 20 (.call (.ref L.aF) ⟨[.str L.T ty],[]⟩) ((L.bK eQ false (uP E et n) (vl C n)).map some):=by
 rcases hn with rfl|rfl
 ·exact LJ W L _ _ _ _ _ _ _ _ _ _ C ty (hE 0 (by decide)) (hE 1 (by decide)) (hE 2 (by decide)) (hE 3 (by decide)) kw bC bM
 ·exact LV W L _ _ _ _ _ _ _ _ _ _ _ _ C ty (hE 0 (by decide)) (hE 1 (by decide)) (hE 2 (by decide)) (hE 3 (by decide)) (hE 4 (by decide)) kw bC bM
theorem ps (ty:Tok) (hE: ∀k,k<n→decide (E k≥0)=decide (0≤k)) (kw:Nat) (bC:kw<n) (bM:C kw=true):j6 pw W (jB W.params) (yb W.params L C n 0) 20 (.call (.ref L.aF) ⟨[.str L.T ty],[]⟩) ((L.bK (jL L.af) false (uP E et n) (vl C n)).map some):=by
 rcases hn with rfl|rfl
 ·exact LK W L _ _ _ _ _ _ _ _ _ _ C ty (hE 0 (by decide)) (hE 1 (by decide)) (hE 2 (by decide)) (hE 3 (by decide)) kw bC bM
 ·exact LW W L _ _ _ _ _ _ _ _ _ _ _ _ C ty (hE 0 (by decide)) (hE 1 (by decide)) (hE 2 (by decide)) (hE 3 (by decide)) (hE 4 (by decide)) kw bC bM
theorem Mb (ty:Tok) (a9:Tok) (pl:Int) (p:Nat) (hE: ∀k,k<n→decide (E k≥pl)=decide (p≤k)) (kw:Nat) (cV:p≤kw) (bC:kw<n) (bM:C kw=true):j6 pw W (jB W.params) (yb W.params L C n p) 20 (.call (.ref L.aF) ⟨[.str L.T ty,.int pl a9],[]⟩) ((L.bK (jL L.af) false (uP E et n) (vl C n)).map some):=by
 rcases hn with rfl|rfl
 ·exact LL W L _ _ _ _ _ _ _ _ _ _ C ty a9 pl p (hE 0 (by decide)) (hE 1 (by decide)) (hE 2 (by decide)) (hE 3 (by decide)) kw cV bC bM
 ·exact LX W L _ _ _ _ _ _ _ _ _ _ _ _ C ty a9 pl p (hE 0 (by decide)) (hE 1 (by decide)) (hE 2 (by decide)) (hE 3 (by decide)) (hE 4 (by decide)) kw cV bC bM
theorem BD (ty:Tok) (hE: ∀k,k<n→decide (E k≥0)=decide (0≤k)) (kw:Nat) (bC:kw<n) (bM:C kw=true):j6 pw W (jB W.params) (Yb W.params L C n 0) 20 (.call (.ref L.aF) ⟨[.str L.T ty],[]⟩) ((L.bK (jL L.af) true (uP E et n) (vl C n)).map some):=by
 rcases hn with rfl|rfl
 ·exact LN W L _ _ _ _ _ _ _ _ _ _ C ty (hE 0 (by decide)) (hE 1 (by decide)) (hE 2 (by decide)) (hE 3 (by decide)) kw bC bM
 ·exact LY W L _ _ _ _ _ _ _ _ _ _ _ _ C ty (hE 0 (by decide)) (hE 1 (by decide)) (hE 2 (by decide)) (hE 3 (by decide)) (hE 4 (by decide)) kw bC bM
theorem sW (ty:Tok) (hE: ∀k,k<n→decide (E k≥0)=decide (0≤k)) (kw:Nat) (bC:kw<n) (bM:C kw=true):j6 pw W (jB W.params) (yv W.params L C n 0) 20 (.call (.ref L.aF) ⟨[.str L.T ty],[]⟩) ((L.bK (ku L.af L.aA) true (uP E et n) (vl C n)).map some):=by
 rcases hn with rfl|rfl
 ·exact LO W L _ _ _ _ _ _ _ _ _ _ C ty (hE 0 (by decide)) (hE 1 (by decide)) (hE 2 (by decide)) (hE 3 (by decide)) kw bC bM
 ·exact LZ W L _ _ _ _ _ _ _ _ _ _ _ _ C ty (hE 0 (by decide)) (hE 1 (by decide)) (hE 2 (by decide)) (hE 3 (by decide)) (hE 4 (by decide)) kw bC bM
theorem Md (ty:Tok) (a9:Tok) (pl:Int) (p:Nat) (hE: ∀k,k<n→decide (E k≥pl)=decide (p≤k)) (kw:Nat) (cV:p≤kw) (bC:kw<n) (bM:C kw=true):j6 pw W (jB W.params) (yv W.params L C n p) 20 (.call (.ref L.aF) ⟨[.str L.T ty,.int pl a9],[]⟩) ((L.bK (ku L.af L.aA) true (uP E et n) (vl C n)).map some):=by
 rcases hn with rfl|rfl
 ·exact LQ W L _ _ _ _ _ _ _ _ _ _ C ty a9 pl p (hE 0 (by decide)) (hE 1 (by decide)) (hE 2 (by decide)) (hE 3 (by decide)) kw cV bC bM
 ·exact L5 W L _ _ _ _ _ _ _ _ _ _ _ _ C ty a9 pl p (hE 0 (by decide)) (hE 1 (by decide)) (hE 2 (by decide)) (hE 3 (by decide)) (hE 4 (by decide)) kw cV bC bM
end
noncomputable def Mf (s:Stmt) (env:Env):Code:=match s with
 | .While t b e _=> .whileLoop t b e env
 |_=>default
def JO (D:Addr):Code:=Mf ((Vu (top 1)).getD 4 default) {scope:=rW (top 1),locals:=D,globals:=3,cells:= [],qual:=⟨#[115,101,97,114,99,104,95,114,101,118,101,114,115,101,46,60,108,111,99,97,108,115,62,46]⟩,func:=some 21,code:= .ref 20,frame:=some D,builtins:=0}
def Jd (P:Params) (L:jX) (ty ct:Tok) (col:Int) (qs:List Tok) (m f i j:Value):Obj:=dO "frame" [de P [112,114,111,103] (qs.getD 0 0) (rf L.aP),de P [99,104,97,114,115] (qs.getD 1 0) (vt L.T ty),de P [99,111,108] (qs.getD 2 0) (vi col ct),de P [109] (qs.getD 3 0) m,de P [102,111,117,110,100] (qs.getD 4 0) f,de P [105] (qs.getD 5 0) i,de P [106] (qs.getD 6 0) j] 7
noncomputable def Mg (i:Nat):Obj→Value
 |⟨_,_,.dict es _,_⟩=>(es.toList.getD i ⟨0,.none,.none⟩).val
 |_=> .none
def BE (f:Option Value) (m i j:Value) (o:Obj):Obj:=jO 6 j (jO 5 i (jO 4 (f.getD (Mg 3 o)) (jO 3 m o)))
def lq (mv jv:Nat→Value) (iv:Value):jZ:={ids:=List.range 14,na:=0,nt:=2,res:=fun _ _=> .ok .next,upd:=fun _ ts=>(BE none (mv (ts.getD 0 0)) iv (jv (ts.getD 1 0)))::List.replicate 13 id,new:=fun _ _=> []}
def lr (a:jZ) (mv jv:Nat→Value) (iv:Value):jZ:={ids:=List.range 14,na:=a.na,nt:=a.nt+2,res:=fun _ _=> .ok .next,upd:=fun as ts=>(BE (some (.ref (as.getD 0 0))) (mv (ts.getD a.nt 0)) iv (jv (ts.getD (a.nt+1) 0)))::List.replicate 13 id,new:=a.new}
def Mh:=kg [zI,sg,0x10dde0d0ddb0d0d910d0d940d0d94]
def Mi:=kg [sI,1163333078673]
def Mj:=kg [zJ,1163333078673]
def Mk:=kg [sI,0x10ede0e0edb0e0e91]
def BF:=kg [sI,69276]
def BH:=kg [zJ,69276]
def BI:=kg [zI,sv,0x10d9c0d0d940d0d94]
def BJ:=kg [sJ,1773653787028]
def Ml:=kg [ot,66009,ou]
def Mm:=kg [sJ,523371846631828]
def Mo:=kg [sJ,0x1de0101db0101010194]
def BK:=kg [zK,1773653787028]
def Mp:=kg [ot,0x101010194d09401d8,ou]
def Mq:=kg [zK,523371846631828]
noncomputable def pv:List Nat:= [16,12,17,6,18,19,10,20]
noncomputable def px:List Nat:= [16,13,17,7,18,19,11,20]
abbrev m6 (x0:Addr) (x1:Params) (x2:jX) (x3 x4:Tok) (x5:Int) (x6:List Tok) (x7:Addr) (x8:Value) (x9:Int) (aJ:Tok) (aB:Int) (bO:Tok) (bF bP:List Value) (aK:List Tok):= [(x0,(Jd x1 x2 x3 x4 x5 x6 (rf x7) x8 (vi x9 aJ) (vi aB bO))),(x2.aP,x2.prog),(x2.d2,(x2.ei x1)),(x2.aF,x2.fn),(x2.aN,x2.bq),(x2.bD,(fN (jL x2.af))),(x2.cT,(j8 (vt x2.T x2.tx))),(x2.cE,(j8 (rf x2.lE))),(x2.cC,(j8 (rf x2.lC))),(x2.cB,(j8 (.bool false))),(x2.b',x2.cg),(x2.lE,(j0 bF x2.eE)),(x2.lC,(j0 bP x2.eC)),(x2.af,(jD 100 aK))]
abbrev pz (x0:jX) (x1:Params) (x2 x3:List Value) (x4:List Tok):= [(x0.aP,x0.prog),(x0.d2,(x0.ei x1)),(x0.aF,x0.fn),(x0.aN,x0.bq),(x0.bD,(fN (jL x0.af))),(x0.cT,(j8 (vt x0.T x0.tx))),(x0.cE,(j8 (rf x0.lE))),(x0.cC,(j8 (rf x0.lC))),(x0.cB,(j8 (.bool false))),(x0.b',x0.cg),(x0.lE,(j0 x2 x0.eE)),(x0.lC,(j0 x3 x0.eC)),(x0.af,(jD 100 x4))]
abbrev pA (x0:Addr) (x1:Params) (x2:jX) (x3 x4:Tok) (x5:Int) (x6:List Tok) (x7:Addr) (x8:Value) (x9:Int) (aJ:Tok) (aB:Int) (bO:Tok) (bF bP:List Value) (aK:List Tok):= [(x0,(Jd x1 x2 x3 x4 x5 x6 (rf x7) x8 (vi x9 aJ) (vi aB bO))),(x2.aP,x2.prog),(x2.d2,(x2.ei x1)),(x2.aF,x2.fn),(x2.aN,x2.bq),(x2.bD,(fN (ku x2.af x2.aA))),(x2.cT,(j8 (vt x2.T x2.tx))),(x2.cE,(j8 (rf x2.lE))),(x2.cC,(j8 (rf x2.lC))),(x2.cB,(j8 (.bool true))),(x2.b',x2.cg),(x2.lE,(j0 bF x2.eE)),(x2.lC,(j0 bP x2.eC)),(x2.aA,(jD 98 aK))]
abbrev sX (x0:jX) (x1:Params) (x2 x3:List Value) (x4:List Tok):= [(x0.aP,x0.prog),(x0.d2,(x0.ei x1)),(x0.aF,x0.fn),(x0.aN,x0.bq),(x0.bD,(fN (ku x0.af x0.aA))),(x0.cT,(j8 (vt x0.T x0.tx))),(x0.cE,(j8 (rf x0.lE))),(x0.cC,(j8 (rf x0.lC))),(x0.cB,(j8 (.bool true))),(x0.b',x0.cg),(x0.lE,(j0 x2 x0.eE)),(x0.lC,(j0 x3 x0.eC)),(x0.aA,(jD 98 x4))]
abbrev pB (x0:Qa) (x3:Nat→Addr) (aJ:jX) (aB:Nat→Tok) (bF:List Tok) (bP:Nat→Bool) (aK:Nat) (dN:List Value):=x0 1 29 (cr (x3 16) []) (uD.ll ⟨0,0,(x3 16),(x3 17),(x3 18),(x3 19),(x3 20),aJ.af,0,0,0,0,0,0,0,0,(aB 12)⟩ aJ.cE aJ.lE bF (JZ bP aK 0 (kr aB 13 5)) (UU bP aK 0) (dX aK 0 (kr aB 18 5)) (aK-0) dN aJ.eE)
abbrev pC (x0:Qa) (x3:Nat→Addr) (aJ:jX) (aB:Nat→Tok) (bF:List Tok) (bP:Nat→Bool) (aK bS:Nat) (du:List Value):=x0 1 27 (cr (x3 16) []) (uD.ll ⟨0,0,(x3 16),(x3 17),(x3 18),(x3 19),(x3 20),aJ.af,0,0,0,0,0,0,0,0,(aB 10)⟩ aJ.cE aJ.lE bF (JZ bP aK bS (kr aB 11 5)) (UU bP aK bS) (dX aK bS (kr aB 16 5)) (aK-bS) du aJ.eE)
abbrev pD (x0:Nat→Addr) (x8:jX) (x9:Nat→Tok) (bV:Nat):=uD.mU ⟨(x0 0),(x0 1),(x0 2),(x0 3),(x0 4),(x0 5),(x0 6),x8.af,(x9 0),(x9 1),(x9 2),(x9 3),(x9 4),(x9 5),(x9 6),(x9 bV),(x9 (bV+1))⟩ x8.cE
abbrev pE (x0:Nat→Addr) (x8:jX) (x9:Nat→Tok) (bV:Nat):=uD.hit ⟨(x0 0),(x0 1),(x0 2),(x0 3),(x0 4),(x0 5),(x0 6),x8.af,(x9 0),(x9 1),(x9 2),(x9 3),(x9 4),(x9 5),(x9 6),(x9 bV),(x9 (bV+1))⟩
abbrev pG (x0:Nat→Addr) (x6:jX) (x7:Nat→Tok) (aK:Nat):=uD.hU ⟨(x0 0),(x0 1),(x0 2),(x0 3),0,(x0 4),0,x6.aA,(x7 0),(x7 1),(x7 2),(x7 3),(x7 4),(x7 5),(x7 6),(x7 aK),(x7 (aK+1))⟩ x6.cE
abbrev pH (x0:Nat→Addr) (x8:jX) (x9:Nat→Tok) (bV:Nat) (bI:Params):=uD.i6 ⟨(x0 0),(x0 1),(x0 2),(x0 3),(x0 4),(x0 5),(x0 6),x8.af,(x9 0),(x9 1),(x9 2),(x9 3),(x9 4),(x9 5),(x9 6),(x9 bV),(x9 (bV+1))⟩ bI
abbrev pI (x0:Nat→Addr) (x6:jX) (x7:Nat→Tok) (aK:Nat):=uD.hit ⟨(x0 0),(x0 1),(x0 2),(x0 3),0,(x0 4),0,x6.aA,(x7 0),(x7 1),(x7 2),(x7 3),(x7 4),(x7 5),(x7 6),(x7 aK),(x7 (aK+1))⟩
abbrev pJ (x0:Nat→Addr) (x6:jX) (x7:Nat→Tok) (aK:Nat) (bV:Params):=uD.i6 ⟨(x0 0),(x0 1),(x0 2),(x0 3),0,(x0 4),0,x6.aA,(x7 0),(x7 1),(x7 2),(x7 3),(x7 4),(x7 5),(x7 6),(x7 aK),(x7 (aK+1))⟩ bV
noncomputable abbrev lu (x0:Nat→Tok) (x4:Nat):= [(x0 0),(x0 1),(x0 2),(x0 x4),(x0 (x4+1)),(x0 (x4+3)),(x0 (x4+4))]
abbrev sY (x0:Qa) (x3:Nat→Addr) (x8:jX) (x9:Nat→Tok) (aB:List Tok) (bO:Nat→Bool) (bF:Nat) (bB:List Value):=x0 1 29 (cr (x3 16) []) (uD.gj ⟨0,0,(x3 16),(x3 17),0,(x3 18),0,x8.aA,0,0,0,0,0,0,0,0,(x9 12)⟩ x8.cE x8.lE aB (JZ bO bF 0 (kr x9 13 5)) (UU bO bF 0) bB x8.eE)
abbrev sZ (x0:Qa) (x3:Nat→Addr) (x8:jX) (x9:Nat→Tok) (aB:List Tok) (bO:Nat→Bool) (bF bP:Nat) (bV:List Value):=x0 1 27 (cr (x3 16) []) (uD.gj ⟨0,0,(x3 16),(x3 17),0,(x3 18),0,x8.aA,0,0,0,0,0,0,0,0,(x9 13)⟩ x8.cE x8.lE aB (JZ bO bF bP (kr x9 14 5)) (UU bO bF bP) bV x8.eE)
section
variable (P:Params) (L:jX) (n:Nat) (C:Nat→Bool) (Es Cs:List Value) (lc:List Tok) (ty bu:Tok) (col I1:Int) (ax:Tok) (J1:Int) (bL:Tok) (mv jv:Nat→Value) (iv:Value) (pL:Nat) (D M:Addr) (fv:Value) (cZ:Tok) (I0:Int) (cM:Tok) (J0:Int) (QS:List Tok) (p:Nat)
def Mr:RD:=⟨[(L.aP,L.prog),(L.d2,(L.ei P)),(L.aF,L.fn),(L.aN,L.bq),(L.bD,⟨.none,none,.fields eQ.toArray,#[]⟩),(L.cT,(j8 (vt L.T L.tx))),(L.cE,(j8 (rf L.lE))),(L.cC,(j8 (rf L.lC))),(L.cB,(j8 (.bool false))),(L.b',L.cg),(L.lE,(j0 Es L.eE)),(L.lC,(j0 Cs L.eC))],[wi (rg 2 10) (oV P L C n 0),wi [16,14,17,6,18,19,10,20] (kL 8 I1 ax J1 bL)],mA 12 1 10 (fun a t=> .ok (.ret .none)) (fun a t=> [id,id,id,id,fun _=>(fN (jL (a 0))),id,id,id,id,id,id,id]) (fun a t=> [(jD 100 (kr t 0 10))]),[14],(rg 23 10),[],4,fun q qT qS A K=> [q 0 29 (cr L.aF [vt L.T ty]) (L.bK eQ false Es Cs),q 1 29 (cr (A 16) []) (uD.ll ⟨0,0,(A 16),(A 17),(A 18),(A 19),(A 20),(A 14),0,0,0,0,0,0,0,0,(K 12)⟩ L.cE L.lE (kr K 23 10) (JZ C n 0 (kr K 13 5)) (UU C n 0) (dX n 0 (kr K 18 5)) (n-0) Es L.eE),(decide (I1<col))=true,(decide (J1≤col))=false]⟩
theorem Ms:GF P 29 21 [rf L.aP,vt L.T ty,vi col bu] (d0 P) (Mr P L n C Es Cs ty col I1 ax J1 bL) (hk Mh):=kF
def Mt:RD:=⟨(pz L P Es Cs lc),[wi (rg 2 10) (yb P L C n 0),wi pv (kL 8 I1 ax J1 bL)],mA 13 0 0 (fun a t=> .ok (.ret .none)) (fun a t=>(List.replicate 13 id)) (fun a t=> []),[],[],[],3,fun q qT qS A K=> [q 0 29 (cr L.aF [vt L.T ty]) (L.bK (jL L.af) false Es Cs),pB q A L K lc C n Es,(decide (I1<col))=false]⟩
theorem Mu:GF P 29 21 [rf L.aP,vt L.T ty,vi col bu] (d0 P) (Mt P L n C Es Cs lc ty col I1 ax J1 bL) (hk Mi):=kF
def Mv:RD:=⟨(sX L P Es Cs lc),[wi (rg 2 10) (yv P L C n 0),wi [16,12,17,6,18,10] (kL 6 I1 ax I1 ax)],mA 13 0 0 (fun a t=> .ok (.ret .none)) (fun a t=>(List.replicate 13 id)) (fun a t=> []),[],[],[],3,fun q qT qS A K=> [q 0 29 (cr L.aF [vt L.T ty]) (L.bK (ku L.af L.aA) true Es Cs),sY q A L K lc C n Es,(decide (I1<col))=false]⟩
theorem Mw:GF P 29 21 [rf L.aP,vt L.T ty,vi col bu] (d0 P) (Mv P L n C Es Cs lc ty col I1 ax) (hk Mj):=kF
def Mx:RD:=⟨(pz L P Es Cs lc),[wi (rg 2 10) (yb P L C n 0),wi pv (kL 8 I1 ax J1 bL)],mA 13 0 0 (fun a t=> .ok (.ret .none)) (fun a t=>(List.replicate 13 id)) (fun a t=> []),[],[],[],4,fun q qT qS A K=> [q 0 29 (cr L.aF [vt L.T ty]) (L.bK (jL L.af) false Es Cs),pB q A L K lc C n Es,(decide (I1<col))=true,(decide (J1≤col))=false]⟩
theorem My:GF P 29 21 [rf L.aP,vt L.T ty,vi col bu] (d0 P) (Mx P L n C Es Cs lc ty col I1 ax J1 bL) (hk Mk):=kF
def Mz:RD:=⟨(pz L P Es Cs lc),[wi (rg 2 10) (yb P L C n 0),wi pv (kL 8 I1 ax J1 bL),wi ([13]++rg 0 13) (lq mv jv iv)],mA 13 7 19 (fun a t=> .ok (.ret (rf (a 0)))) (fun a t=>(List.replicate 13 id)) (fun a t=> [(pE a L t 7),(pH a L t 7 P),(pD a L t 7),(cl (rf (a 5))),(cl (rf (a 6))),(j0 (JZ C n 0 (kr t 9 5)) (UU C n 0)),(j0 (dX n 0 (kr t 14 5)) (n-0))]),(rg 14 7),(rg 4 19),[],3,fun q qT qS A K=> [q 0 29 (cr L.aF [vt L.T ty]) (L.bK (jL L.af) false Es Cs),pB q A L K lc C n Es,q 2 29 (JO (A 13)) (((A 13),(Jd P L ty bu col (lu K 23)) (rf (A 14)) .none (vi I1 ax) (vi J1 bL))::(jX.aV L P (jL L.af) false Es Cs++ [(L.af,(jD 100 lc))]))]⟩
theorem MA:GF P 29 21 [rf L.aP,vt L.T ty,vi col bu] (d0 P) (Mz P L n C Es Cs lc ty bu col I1 ax J1 bL mv jv iv) (hk BF):=kF
def MB:RD:=⟨(pz L P Es Cs lc),[wi (rg 2 10) (yb P L C n 0),wi pv (kL 8 I1 ax J1 bL),wi ([13]++rg 0 13) (lr (yb P L C n pL) mv jv iv)],mA 13 7 19 (fun a t=> .ok (.ret (rf (a 0)))) (fun a t=>(List.replicate 13 id)) (fun a t=> [(pE a L t 7),(pH a L t 7 P),(pD a L t 7),(cl (rf (a 5))),(cl (rf (a 6))),(j0 (JZ C n pL (kr t 9 5)) (UU C n pL)),(j0 (dX n pL (kr t 14 5)) (n-pL))]),(rg 25 7),(rg 28 19),[],3,fun q qT qS A K=> [q 0 29 (cr L.aF [vt L.T ty]) (L.bK (jL L.af) false Es Cs),pB q A L K lc C n Es,q 2 29 (JO (A 13)) (((A 13),(Jd P L ty bu col (lu K 23)) (rf (A 14)) .none (vi I1 ax) (vi J1 bL))::(jX.aV L P (jL L.af) false Es Cs++ [(L.af,(jD 100 lc))]))]⟩
theorem MC:GF P 29 21 [rf L.aP,vt L.T ty,vi col bu] (d0 P) (MB P L n C Es Cs lc ty bu col I1 ax J1 bL mv jv iv pL) (hk BF):=kF
def MD:RD:=⟨(sX L P Es Cs lc),[wi (rg 2 10) (yv P L C n 0),wi [16,12,17,6,18,10] (kL 6 I1 ax I1 ax),wi ([13]++rg 0 13) (lq mv jv iv)],mA 13 5 14 (fun a t=> .ok (.ret (rf (a 0)))) (fun a t=>(List.replicate 13 id)) (fun a t=> [(pI a L t 7),(pJ a L t 7 P),(pG a L t 7),(cl (rf (a 4))),(j0 (JZ C n 0 (kr t 9 5)) (UU C n 0))]),(rg 14 5),(rg 4 14),[],3,fun q qT qS A K=> [q 0 29 (cr L.aF [vt L.T ty]) (L.bK (ku L.af L.aA) true Es Cs),sY q A L K lc C n Es,q 2 29 (JO (A 13)) (((A 13),(Jd P L ty bu col (lu K 18)) (rf (A 14)) .none (vi I1 ax) (vi I1 ax))::(jX.aV L P (ku L.af L.aA) true Es Cs++ [(L.aA,(jD 98 lc))]))]⟩
theorem ME:GF P 29 21 [rf L.aP,vt L.T ty,vi col bu] (d0 P) (MD P L n C Es Cs lc ty bu col I1 ax mv jv iv) (hk BH):=kF
def MF:RD:=⟨(sX L P Es Cs lc),[wi (rg 2 10) (yv P L C n 0),wi [16,12,17,6,18,10] (kL 6 I1 ax I1 ax),wi ([13]++rg 0 13) (lr (yv P L C n pL) mv jv iv)],mA 13 5 14 (fun a t=> .ok (.ret (rf (a 0)))) (fun a t=>(List.replicate 13 id)) (fun a t=> [(pI a L t 7),(pJ a L t 7 P),(pG a L t 7),(cl (rf (a 4))),(j0 (JZ C n pL (kr t 9 5)) (UU C n pL))]),(rg 23 5),(rg 23 14),[],3,fun q qT qS A K=> [q 0 29 (cr L.aF [vt L.T ty]) (L.bK (ku L.af L.aA) true Es Cs),sY q A L K lc C n Es,q 2 29 (JO (A 13)) (((A 13),(Jd P L ty bu col (lu K 18)) (rf (A 14)) .none (vi I1 ax) (vi I1 ax))::(jX.aV L P (ku L.af L.aA) true Es Cs++ [(L.aA,(jD 98 lc))]))]⟩
theorem MG:GF P 29 21 [rf L.aP,vt L.T ty,vi col bu] (d0 P) (MF P L n C Es Cs lc ty bu col I1 ax mv jv iv pL) (hk BH):=kF
def MH:RD:=⟨[(L.aP,L.prog),(L.d2,(L.ei P)),(L.aF,L.fn),(L.aN,L.bq),(L.bD,(fN (jL L.af))),(L.cT,(j8 (vt L.T L.tx))),(L.cE,(j8 (rf L.lE))),(L.cC,(j8 (rf L.lC))),(L.cB,(j8 (.bool true))),(L.b',L.cg),(L.lE,(j0 Es L.eE)),(L.lC,(j0 Cs L.eC))],[wi (rg 2 10) (Yb P L C n 0),wi [16,14,17,6,18,10] (kL 6 I1 ax I1 ax),wi ([12]++rg 0 12++ [14]) (lq mv jv iv)],mA 12 6 24 (fun a t=> .ok (.ret (rf (a 0)))) (fun a t=> [id,id,id,id,fun _=>(fN (ku L.af (a 1))),id,id,id,id,id,id,id]) (fun a t=> [(uD.hit ⟨(a 0),(a 2),(a 3),(a 4),0,(a 5),0,(a 1),(t 0),(t 1),(t 2),(t 3),(t 4),(t 5),(t 6),(t 7),(t 8)⟩),(jD 98 (kr t 9 10)),(uD.i6 ⟨(a 0),(a 2),(a 3),(a 4),0,(a 5),0,(a 1),(t 0),(t 1),(t 2),(t 3),(t 4),(t 5),(t 6),(t 7),(t 8)⟩ P),(uD.hU ⟨(a 0),(a 2),(a 3),(a 4),0,(a 5),0,(a 1),(t 0),(t 1),(t 2),(t 3),(t 4),(t 5),(t 6),(t 7),(t 8)⟩ L.cE),(cl (rf (a 5))),(j0 (JZ C n 0 (kr t 19 5)) (UU C n 0))]),(rg 13 6),(rg 4 9++rg 18 10++rg 13 5),[],3,fun q qT qS A K=> [q 0 29 (cr L.aF [vt L.T ty]) (L.bK (jL L.af) true Es Cs),q 1 29 (cr (A 16) []) (uD.gj ⟨0,0,(A 16),(A 17),0,(A 18),0,(A 14),0,0,0,0,0,0,0,0,(K 12)⟩ L.cE L.lE (kr K 18 10) (JZ C n 0 (kr K 13 5)) (UU C n 0) Es L.eE),q 2 29 (JO (A 12)) (((A 12),(Jd P {L with aA:=(A 14)} ty bu col (lu K 28)) (rf (A 13)) .none (vi I1 ax) (vi I1 ax))::(jX.aV {L with aA:=(A 14)} P (ku L.af (A 14)) true Es Cs++ [((A 14),(jD 98 (kr K 18 10)))]))]⟩
theorem MI:GF P 29 21 [rf L.aP,vt L.T ty,vi col bu] (d0 P) (MH P L n C Es Cs ty bu col I1 ax mv jv iv) (hk BI):=kF
def MJ:RD:=⟨[(L.aP,L.prog),(L.d2,(L.ei P)),(L.aF,L.fn),(L.aN,L.bq),(L.bD,(fN (jL L.af))),(L.cT,(j8 (vt L.T L.tx))),(L.cE,(j8 (rf L.lE))),(L.cC,(j8 (rf L.lC))),(L.cB,(j8 (.bool true))),(L.b',L.cg),(L.lE,(j0 Es L.eE)),(L.lC,(j0 Cs L.eC))],[wi (rg 2 10) (Yb P L C n 0),wi [16,14,17,6,18,10] (kL 6 I1 ax I1 ax),(([12]++rg 0 12++ [14]),fun c=>lr (yv P {L with aA:=Ux c 11} C n pL) mv jv iv)],mA 12 6 24 (fun a t=> .ok (.ret (rf (a 0)))) (fun a t=> [id,id,id,id,fun _=>(fN (ku L.af (a 1))),id,id,id,id,id,id,id]) (fun a t=> [(uD.hit ⟨(a 0),(a 2),(a 3),(a 4),0,(a 5),0,(a 1),(t 0),(t 1),(t 2),(t 3),(t 4),(t 5),(t 6),(t 7),(t 8)⟩),(jD 98 (kr t 9 10)),(uD.i6 ⟨(a 0),(a 2),(a 3),(a 4),0,(a 5),0,(a 1),(t 0),(t 1),(t 2),(t 3),(t 4),(t 5),(t 6),(t 7),(t 8)⟩ P),(uD.hU ⟨(a 0),(a 2),(a 3),(a 4),0,(a 5),0,(a 1),(t 0),(t 1),(t 2),(t 3),(t 4),(t 5),(t 6),(t 7),(t 8)⟩ L.cE),(cl (rf (a 5))),(j0 (JZ C n pL (kr t 19 5)) (UU C n pL))]),[23,14,24,25,26,27],(rg 33 9++rg 18 10++rg 42 5),[],3,fun q qT qS A K=> [q 0 29 (cr L.aF [vt L.T ty]) (L.bK (jL L.af) true Es Cs),q 1 29 (cr (A 16) []) (uD.gj ⟨0,0,(A 16),(A 17),0,(A 18),0,(A 14),0,0,0,0,0,0,0,0,(K 12)⟩ L.cE L.lE (kr K 18 10) (JZ C n 0 (kr K 13 5)) (UU C n 0) Es L.eE),q 2 29 (JO (A 12)) (((A 12),(Jd P {L with aA:=(A 14)} ty bu col (lu K 28)) (rf (A 13)) .none (vi I1 ax) (vi I1 ax))::(jX.aV {L with aA:=(A 14)} P (ku L.af (A 14)) true Es Cs++ [((A 14),(jD 98 (kr K 18 10)))]))]⟩
theorem MK:GF P 29 21 [rf L.aP,vt L.T ty,vi col bu] (d0 P) (MJ P L n C Es Cs ty bu col I1 ax mv jv iv pL) (hk BI):=kF
def ML:RD:=⟨(m6 D P L ty bu col QS M fv I0 cZ J0 cM Es Cs lc),[wi (rg 3 10) (yb P L C n p),wi px (kL 8 I1 ax J1 bL),wi (rg 0 14) (lq mv jv iv)],mA 14 7 21 (fun a t=> .ok .next) (fun a t=> [fun _=>((Jd P L ty bu col QS) (mv (t 7)) (rf (a 0)) iv (jv (t 8))),id,id,id,id,id,id,id,id,id,id,id,id,id]) (fun a t=> [(pE a L t 9),(pH a L t 9 P),(pD a L t 9),(cl (rf (a 5))),(cl (rf (a 6))),(j0 (JZ C n p (kr t 11 5)) (UU C n p)),(j0 (dX n p (kr t 16 5)) (n-p))]),(rg 14 7),(rg 2 7++ [25,26]++rg 9 12),[],6,fun q qT qS A K=> [(decide (I0<col))=true,(decide (J0≤col))=true,(I0==J0)=false,q 0 27 (cr L.aF [vt L.T ty,vi J0 cM]) (L.bK (jL L.af) false Es Cs),pC q A L K lc C n p Es,q 2 28 (JO D) ((D,(Jd P L ty bu col QS) (rf (A 14)) (rf M) (vi I1 ax) (vi J1 bL))::(jX.aV L P (jL L.af) false Es Cs++ [(L.af,(jD 100 lc))]))]⟩
theorem MM:GC P 28 (JO D) (ML P L n C Es Cs lc ty bu col I1 ax J1 bL mv jv iv D M fv cZ I0 cM J0 QS p) (hk BJ):=ua
def MN:RD:=⟨(m6 D P L ty bu col QS M fv I0 cZ J0 cM Es Cs lc),[wi (rg 3 10) (yb P L C n p),wi px (kL 8 I1 ax J1 bL),wi (rg 0 14) (lr (yb P L C n pL) mv jv iv)],mA 14 7 21 (fun a t=> .ok .next) (fun a t=> [fun _=>((Jd P L ty bu col QS) (mv (t 7)) (rf (a 0)) iv (jv (t 8))),id,id,id,id,id,id,id,id,id,id,id,id,id]) (fun a t=> [(pE a L t 9),(pH a L t 9 P),(pD a L t 9),(cl (rf (a 5))),(cl (rf (a 6))),(j0 (JZ C n pL (kr t 11 5)) (UU C n pL)),(j0 (dX n pL (kr t 16 5)) (n-pL))]),(rg 25 7),(rg 25 7++ [44,45]++rg 32 12),[],6,fun q qT qS A K=> [(decide (I0<col))=true,(decide (J0≤col))=true,(I0==J0)=false,q 0 27 (cr L.aF [vt L.T ty,vi J0 cM]) (L.bK (jL L.af) false Es Cs),pC q A L K lc C n p Es,q 2 28 (JO D) ((D,(Jd P L ty bu col QS) (rf (A 14)) (rf M) (vi I1 ax) (vi J1 bL))::(jX.aV L P (jL L.af) false Es Cs++ [(L.af,(jD 100 lc))]))]⟩
theorem MO:GC P 28 (JO D) (MN P L n C Es Cs lc ty bu col I1 ax J1 bL mv jv iv pL D M fv cZ I0 cM J0 QS p) (hk BJ):=ua
def MP:RD:=⟨(m6 D P L ty bu col QS M fv I0 cZ J0 cM Es Cs lc),[wi (rg 3 10) hV],mA 14 0 0 (fun a t=> .ok .next) (fun a t=> [fun _=>(Jd P L ty bu col QS .none (rf M) (vi I0 cZ) (vi J0 cM)),id,id,id,id,id,id,id,id,id,id,id,id,id]) (fun a t=> []),[],[],[],4,fun q qT qS A K=> [(decide (I0<col))=true,(decide (J0≤col))=true,(I0==J0)=false,q 0 27 (cr L.aF [vt L.T ty,vi J0 cM]) (L.bK (jL L.af) false Es Cs)]⟩
theorem MQ:GC P 28 (JO D) (MP P L Es Cs lc ty bu col D M fv cZ I0 cM J0 QS) (hk Ml):=ua
def MR:RD:=⟨(m6 D P L ty bu col QS M fv I0 cZ J0 cM Es Cs lc),[wi (rg 3 10) (yb P L C n p),wi px (kL 8 I1 ax J1 bL)],mA 14 0 1 (fun a t=> .ok .next) (fun a t=> [fun _=>(Jd P L ty bu col QS (rf (t 0)) (rf M) (vi I1 ax) (vi J1 bL)),id,id,id,id,id,id,id,id,id,id,id,id,id]) (fun a t=> []),[],[],[14],6,fun q qT qS A K=> [(decide (I0<col))=true,(decide (J0≤col))=true,(I0==J0)=false,q 0 27 (cr L.aF [vt L.T ty,vi J0 cM]) (L.bK (jL L.af) false Es Cs),pC q A L K lc C n p Es,(decide (I1<col))=false]⟩
theorem MS:GC P 28 (JO D) (MR P L n C Es Cs lc ty bu col I1 ax J1 bL D M fv cZ I0 cM J0 QS p) (hk Mm):=ua
def MT:RD:=⟨(m6 D P L ty bu col QS M fv I0 cZ J0 cM Es Cs lc),[wi (rg 3 10) (yb P L C n p),wi px (kL 8 I1 ax J1 bL)],mA 14 0 1 (fun a t=> .ok .next) (fun a t=> [fun _=>(Jd P L ty bu col QS (rf (t 0)) (rf M) (vi I1 ax) (vi J1 bL)),id,id,id,id,id,id,id,id,id,id,id,id,id]) (fun a t=> []),[],[],[14],7,fun q qT qS A K=> [(decide (I0<col))=true,(decide (J0≤col))=true,(I0==J0)=false,q 0 27 (cr L.aF [vt L.T ty,vi J0 cM]) (L.bK (jL L.af) false Es Cs),pC q A L K lc C n p Es,(decide (I1<col))=true,(decide (J1≤col))=false]⟩
theorem MU:GC P 28 (JO D) (MT P L n C Es Cs lc ty bu col I1 ax J1 bL D M fv cZ I0 cM J0 QS p) (hk Mo):=ua
def MV:RD:=⟨(pA D P L ty bu col QS M fv I0 cZ J0 cM Es Cs lc),[wi (rg 3 10) (yv P L C n p),wi [16,13,17,7,18,11] (kL 6 I1 ax I1 ax),wi (rg 0 14) (lq mv jv iv)],mA 14 5 16 (fun a t=> .ok .next) (fun a t=> [fun _=>((Jd P L ty bu col QS) (mv (t 7)) (rf (a 0)) iv (jv (t 8))),id,id,id,id,id,id,id,id,id,id,id,id,id]) (fun a t=> [(pI a L t 9),(pJ a L t 9 P),(pG a L t 9),(cl (rf (a 4))),(j0 (JZ C n p (kr t 11 5)) (UU C n p))]),(rg 14 5),(rg 5 7++ [23,24]++rg 12 7),[],6,fun q qT qS A K=> [(decide (I0<col))=true,(decide (J0≤col))=true,(I0==J0)=true,q 0 27 (cr L.aF [vt L.T ty,vi (J0+1) (K 2)]) (L.bK (ku L.af L.aA) true Es Cs),sZ q A L K lc C n p Es,q 2 28 (JO D) ((D,(Jd P L ty bu col QS) (rf (A 14)) (rf M) (vi I1 ax) (vi I1 ax))::(jX.aV L P (ku L.af L.aA) true Es Cs++ [(L.aA,(jD 98 lc))]))]⟩
theorem MX:GC P 28 (JO D) (MV P L n C Es Cs lc ty bu col I1 ax mv jv iv D M fv cZ I0 cM J0 QS p) (hk BK):=ua
def MY:RD:=⟨(pA D P L ty bu col QS M fv I0 cZ J0 cM Es Cs lc),[wi (rg 3 10) (yv P L C n p),wi [16,13,17,7,18,11] (kL 6 I1 ax I1 ax),wi (rg 0 14) (lr (yv P L C n pL) mv jv iv)],mA 14 5 16 (fun a t=> .ok .next) (fun a t=> [fun _=>((Jd P L ty bu col QS) (mv (t 7)) (rf (a 0)) iv (jv (t 8))),id,id,id,id,id,id,id,id,id,id,id,id,id]) (fun a t=> [(pI a L t 9),(pJ a L t 9 P),(pG a L t 9),(cl (rf (a 4))),(j0 (JZ C n pL (kr t 11 5)) (UU C n pL))]),(rg 23 5),(rg 23 7++ [37,38]++rg 30 7),[],6,fun q qT qS A K=> [(decide (I0<col))=true,(decide (J0≤col))=true,(I0==J0)=true,q 0 27 (cr L.aF [vt L.T ty,vi (J0+1) (K 2)]) (L.bK (ku L.af L.aA) true Es Cs),sZ q A L K lc C n p Es,q 2 28 (JO D) ((D,(Jd P L ty bu col QS) (rf (A 14)) (rf M) (vi I1 ax) (vi I1 ax))::(jX.aV L P (ku L.af L.aA) true Es Cs++ [(L.aA,(jD 98 lc))]))]⟩
theorem MZ:GC P 28 (JO D) (MY P L n C Es Cs lc ty bu col I1 ax mv jv iv pL D M fv cZ I0 cM J0 QS p) (hk BK):=ua
def M0:RD:=⟨(pA D P L ty bu col QS M fv I0 cZ J0 cM Es Cs lc),[wi (rg 3 10) hV],mA 14 0 1 (fun a t=> .ok .next) (fun a t=> [fun _=>(Jd P L ty bu col QS .none (rf M) (vi I0 cZ) (vi (J0+1) (t 0))),id,id,id,id,id,id,id,id,id,id,id,id,id]) (fun a t=> []),[],[2],[],4,fun q qT qS A K=> [(decide (I0<col))=true,(decide (J0≤col))=true,(I0==J0)=true,q 0 27 (cr L.aF [vt L.T ty,vi (J0+1) (K 2)]) (L.bK (ku L.af L.aA) true Es Cs)]⟩
theorem M1:GC P 28 (JO D) (M0 P L Es Cs lc ty bu col D M fv cZ I0 cM J0 QS) (hk Mp):=ua
def M3:RD:=⟨(pA D P L ty bu col QS M fv I0 cZ J0 cM Es Cs lc),[wi (rg 3 10) (yv P L C n p),wi [16,13,17,7,18,11] (kL 6 I1 ax I1 ax)],mA 14 0 1 (fun a t=> .ok .next) (fun a t=> [fun _=>(Jd P L ty bu col QS (rf (t 0)) (rf M) (vi I1 ax) (vi I1 ax)),id,id,id,id,id,id,id,id,id,id,id,id,id]) (fun a t=> []),[],[],[14],6,fun q qT qS A K=> [(decide (I0<col))=true,(decide (J0≤col))=true,(I0==J0)=true,q 0 27 (cr L.aF [vt L.T ty,vi (J0+1) (K 2)]) (L.bK (ku L.af L.aA) true Es Cs),sZ q A L K lc C n p Es,(decide (I1<col))=false]⟩
theorem M4:GC P 28 (JO D) (M3 P L n C Es Cs lc ty bu col I1 ax D M fv cZ I0 cM J0 QS p) (hk Mq):=ua
end
theorem n5 {n:Nat} (h:n=4∨n=5):n≤5:=by rcases h with rfl|rfl<;>decide
def yc (C:Nat→Bool) (p w:Nat):Prop:=p≤w∧C w=true∧ ∀k,p≤k→k<w→C k=false
theorem M5 {p q:Prop} [Decidable p] [Decidable q] (h:p↔q):decide p=decide q:=by
 by_cases hp:p
 ·rw [decide_eq_true hp,decide_eq_true (h.mp hp)]
 ·rw [decide_eq_false hp,decide_eq_false fun x=>hp (h.mpr x)]
theorem BL (C:Nat→Bool): ∀(m p w:Nat) (ts:List Tok),yc C p w→w<p+m→ ∃t,(JJ ((jo p m ts).filter fun x=>C x.1))[0]? =some (.int (w:Int) t)
 |0,p,w,ts,f,h=>absurd f.1 (Nat.not_le_of_lt h)
 |m+1,p,w,ts,f,h=>by
  cases hb:C p with
  |true=>
   have:w=p:=by
    rcases Nat.lt_or_ge p w with q|q
    ·have:=f.2.2 p (Nat.le_refl _) q
     rw [hb] at this;cases this
    ·have:=f.1;exact Nat.le_antisymm q this
   subst this
   exact ⟨ts.getD 0 0,by simp [jo,hb,JJ]⟩
  |false=>
   have dM:p≠w:=fun e=>by rw [e,f.2.1] at hb;cases hb
   obtain ⟨t,ht⟩:=BL C m (p+1) w ts.tail ⟨by have:=f.1;exact Nat.lt_of_le_of_ne this dM,f.2.1,fun k h1 h2=>f.2.2 k (jH h1) h2⟩ (JC h (Nat.add_right_comm p 1 m).symm)
   refine ⟨t,?_⟩
   rw [←ht]
   simp [jo,hb]
theorem BM {C:Nat→Bool} {n p w:Nat} {ts:List Tok} (f:yc C p w) (h:w<n): ∃t,(JZ C n p ts)[0]? =some (.int (w:Int) t):=by
 rw [va]
 exact BL C (n-p) p w ts f (JC h (Nat.add_sub_of_le (jc f.1 (jH h))).symm)
theorem M6 {n p:Nat} {ts:List Tok} (h:p<n): ∃t,(dX n p ts)[0]? =some (.int (p:Int) t):=by
 unfold dX
 obtain ⟨m,hm⟩: ∃m,n-p=m+1:=⟨Nat.pred (n-p),(Nat.succ_pred (Nat.sub_ne_zero_of_lt h)).symm⟩
 rw [hm]
 exact ⟨ts.getD 0 0,rfl⟩
theorem s6 (E:Nat→Int) (et:Nat→Tok) {n k:Nat} (h:k≤n):(uP E et n)[k]? =some (.int (E k) (et k)):=by
 unfold uP
 rw [List.getElem?_map,List.getElem?_range (lM h)]
 rfl
noncomputable def s7:List (Obj→Obj):= [id,id,id,id,id,id,id,id,id,id,id,id,id]
def yu (P:Params) (L:jX) (C:Nat→Bool) (n p:Nat):jZ:={ids:=List.range 13,na:=7,nt:=19,res:=fun as _=> .ok (.ret (.ref (as.getD 0 0))),upd:=fun _ _=>s7,new:=(yb P L C n p).new}
def ya (P:Params) (L:jX) (C:Nat→Bool) (n p:Nat):jZ:={ids:=List.range 13,na:=5,nt:=14,res:=fun as _=> .ok (.ret (.ref (as.getD 0 0))),upd:=fun _ _=>s7,new:=(yv P L C n p).new}
def v8:jZ:={ids:=List.range 13,na:=0,nt:=0,res:=fun _ _=> .ok (.ret .none),upd:=fun _ _=>s7,new:=fun _ _=> []}
def pK:jZ:={ids:=List.range 12,na:=1,nt:=10,res:=fun _ _=> .ok (.ret .none),upd:=fun as _=> [id,id,id,id,fun _=>⟨.none,none,.fields (jL (as.getD 0 0)).toArray,#[]⟩,id,id,id,id,id,id,id],new:=fun _ ts=> [jD 100 ts]}
def lx (P:Params) (L:jX) (C:Nat→Bool) (n p:Nat):jZ:={ids:=List.range 12,na:=6,nt:=24,res:=fun as _=> .ok (.ret (.ref (as.getD 0 0))),upd:=fun as _=> [id,id,id,id,fun _=>⟨.none,none,.fields (ku L.af (as.getD 1 0)).toArray,#[]⟩,id,id,id,id,id,id,id],new:=(Yb P L C n p).new}
section
variable (W:World) (L:jX) (E:Nat→Int) (et:Nat→Tok) (C:Nat→Bool) (n:Nat) (hn:n=4∨n=5) (hE: ∀i j,i<j→j≤n→E i<E j)
include hn hE
omit hn in
theorem m7 {i j:Nat} (h:i≤j) (hj:j≤n):E i≤E j:=by
 rcases Nat.lt_or_ge i j with q|q
 ·exact Int.le_of_lt (hE i j q hj)
 ·have:i=j:=Nat.le_antisymm h q
  subst this;exact Int.le_refl _
omit hn in
theorem s8 {p:Nat} (hp:p≤n): ∀k,k<n→decide (E k≥E p)=decide (p≤k):=fun k hk=>by
 by_cases q:p≤k
 ·rw [decide_eq_true q]
  exact decide_eq_true (m7 E n hE q (jH hk))
 ·rw [decide_eq_false q]
  have:=hE k p (Nat.lt_of_not_le q) hp
  exact decide_eq_false (by lia)
omit hn in
theorem Vh (h0:E 0=0): ∀k,k<n→decide (E k≥0)=decide (0≤k):=fun k hk=>by
 have:=s8 E n hE (p:=0) (Nat.zero_le _) k hk
 rw [h0] at this
 exact this
omit hn in
theorem s9 {i j:Nat} (h:i<j) (hj:j≤n):decide (E i<E j)=true:=decide_eq_true (hE i j h hj)
omit hn in
theorem pM {i j:Nat} (h:j≤i) (hj:i≤n):decide (E i<E j)=false:=decide_eq_false (by have:=m7 E n hE h hj;lia)
omit hn in
theorem BO {i j:Nat} (h:i≤j) (hj:j≤n):decide (E i≤E j)=true:=decide_eq_true (m7 E n hE h hj)
omit hn in
theorem M7 {i j:Nat} (h:j<i) (hj:i≤n):decide (E i≤E j)=false:=decide_eq_false (by have:=hE j i h hj;lia)
omit hn in
theorem M8 {i j:Nat} (h:i<j) (hj:j≤n):(E i==E j)=false:=by
 have:=hE i j h hj
 exact beq_false_of_ne (by lia)
abbrev BP (lc:List Tok) (ty bf:Tok) (c:Nat) (an:jZ):Prop:=j6 pw W (jB W.params) an 30 (.call (.ref 21) ⟨[.ref L.aP,.str L.T ty,.int (E c) bf],[]⟩) ((L.aV W.params (jL L.af) false (uP E et n) (vl C n)++ [(L.af,jD 100 lc)]).map some)
abbrev BQ (lc:List Tok) (ty bf:Tok) (c:Nat) (an:jZ):Prop:=j6 pw W (jB W.params) an 30 (.call (.ref 21) ⟨[.ref L.aP,.str L.T ty,.int (E c) bf],[]⟩) ((L.aV W.params (ku L.af L.aA) true (uP E et n) (vl C n)++ [(L.aA,jD 98 lc)]).map some)
omit hn hE in
theorem BR (bb: ∀k,E k=(k:Int)) (w k:Nat):decide (E k≥E w+1)=decide (w+1≤k):=by rw [bb,bb];exact M5 (by lia)
omit hn hE in
theorem u3 {H:uD} {lc:List Tok} {bx bE:List Tok} {eW eB p w:Nat} (f:yc C p w) (hw:w<n) (hn:n≤5):j6 pw W (jB W.params) (kL 8 (E p) (et p) (E (w+1)) (et (w+1))) 10 (.call (.ref H.d6) ⟨[],[]⟩) ((H.ll L.cE L.lE lc (JZ C n p bx) eW (dX n p bE) eB (uP E et n) L.eE).map some):=by
 obtain ⟨t1,h1⟩:=BM (ts:=bx) f hw
 obtain ⟨t2,h2⟩:=M6 (n:=n) (p:=p) (ts:=bE) (by have:=f.1;exact yL this hw)
 exact L7 W H L.cE L.lE lc _ _ _ _ _ _ h1 h2 (s6 E et (by have:=f.1;exact jH (yL this hw))) (s6 E et hw) (by lia) (by have:=f.1;lia)
omit hn hE in
theorem kJ {H:uD} {lc:List Tok} {bx:List Tok} {eW p w:Nat} (f:yc C p w) (hw:w<n) (hn:n≤5):j6 pw W (jB W.params) (kL 6 (E w) (et w) (E w) (et w)) 10 (.call (.ref H.d6) ⟨[],[]⟩) ((H.gj L.cE L.lE lc (JZ C n p bx) eW (uP E et n) L.eE).map some):=by
 obtain ⟨t1,h1⟩:=BM (ts:=bx) f hw
 exact L9 W H L.cE L.lE lc _ _ _ _ h1 (s6 E et (jH hw)) (by lia)
theorem M9 (h0:E 0=0) (lc:List Tok) (ty bf:Tok) (wn:Nat) (f1:yc C 0 wn) (cc:wn<n) (col:Int) (ta:0<col) (M':col<E 1):j6 pw W (jB W.params) pK 30 (.call (.ref 21) ⟨[.ref L.aP,.str L.T ty,.int col bf],[]⟩) ((L.aV W.params eQ false (uP E et n) (vl C n)).map some):=by
 have aj:=n5 hn
 have h:=uM (w:=W) (Ms W.params L n C (uP E et n) (vl C n) ty bf col (E 0) (et 0) (E (wn+1)) (et (wn+1))) (.inl (UJ _)) (by
  intro A K
  walk_at "ob"
  ·exact fun _ hz=>Ma W L E et C n hn ty (Vh E n hE h0) wn cc f1.2.1 _ (dl hz)
  ·exact fun _ hz=>u3 W L E et C n f1 cc aj _ (dl hz)
  ·rw [h0];exact decide_eq_true ta
  ·exact decide_eq_false (by have:=m7 E n hE (i:=1) (j:=wn+1) (Nat.succ_pos _) cc;lia)
  )
 exact h.cv (fun ts=>tg ts (rg 0 10)) fun _ _=>rfl
theorem Nb (h0:E 0=0) (lc:List Tok) (ty bf:Tok) (wn:Nat) (f1:yc C 0 wn) (cc:wn<n) (col:Int) (ta:0<col) (M':col<E 1):j6 pw W (jB W.params) v8 30 (.call (.ref 21) ⟨[.ref L.aP,.str L.T ty,.int col bf],[]⟩) ((L.aV W.params (jL L.af) false (uP E et n) (vl C n)++ [(L.af,jD 100 lc)]).map some):=by
 have aj:=n5 hn
 have h:=uM (w:=W) (My W.params L n C (uP E et n) (vl C n) lc ty bf col (E 0) (et 0) (E (wn+1)) (et (wn+1))) (.inl (UJ _)) (by
  intro A K
  walk_at "ob"
  ·exact fun _ hz=>ps W L E et C n hn ty (Vh E n hE h0) wn cc f1.2.1 _ (dl hz)
  ·exact fun _ hz=>u3 W L E et C n f1 cc aj _ (dl hz)
  ·rw [h0];exact decide_eq_true ta
  ·exact decide_eq_false (by have:=m7 E n hE (i:=1) (j:=wn+1) (Nat.succ_pos _) cc;lia)
  )
 exact h.cv (fun ts=> []) fun _ _=>rfl
theorem Nc (h0:E 0=0) (lc:List Tok) (ty bf:Tok) (c:Nat) (hc:c≤n) (wn:Nat) (f1:yc C 0 wn) (cc:wn<n) (BU:c≤wn) (Nf:0=c):BP W L E et C n lc ty bf c v8:=by
 have aj:=n5 hn
 have h:=uM (w:=W) (Mu W.params L n C (uP E et n) (vl C n) lc ty bf (E c) (E 0) (et 0) (E (wn+1)) (et (wn+1))) (.inl (UJ _)) (by
  intro A K
  walk_at "ob"
  ·exact fun _ hz=>ps W L E et C n hn ty (Vh E n hE h0) wn cc f1.2.1 _ (dl hz)
  ·exact fun _ hz=>u3 W L E et C n f1 cc aj _ (dl hz)
  ·exact pM E n hE (Nat.le_of_eq Nf.symm) (Nat.zero_le _)
  )
 exact h.cv (fun ts=> []) fun _ _=>rfl
theorem Ng (h0:E 0=0) (bb: ∀k,E k=(k:Int)) (lc:List Tok) (ty bf:Tok) (c:Nat) (hc:c≤n) (wn:Nat) (f1:yc C 0 wn) (cc:wn<n) (BU:c≤wn):BQ W L E et C n lc ty bf c v8:=by
 have aj:=n5 hn
 have h:=uM (w:=W) (Mw W.params L n C (uP E et n) (vl C n) lc ty bf (E c) (E wn) (et wn)) (.inl (UJ _)) (by
  intro A K
  walk_at "ob"
  ·exact fun _ hz=>sW W L E et C n hn ty (Vh E n hE h0) wn cc f1.2.1 _ (dl hz)
  ·exact fun _ hz=>kJ W L E et C n f1 cc aj _ (dl hz)
  ·exact pM E n hE BU (jH cc)
  )
 exact h.cv (fun ts=> []) fun _ _=>rfl
end
def ke (C:Nat→Bool) (c p w:Nat):Prop:=yc C p w∧w<c∧(p=0∨(1≤p∧C (p-1)=true))∧ ∀k,w<k→k<c→C k=false
theorem YK (C:Nat→Bool) (n:Nat): ∀(m p:Nat),p+m=n→(∃w,yc C p w∧w<n)∨(∀k,p≤k→k<n→C k=false)
 |0,p,h=> .inr fun k h1 h2=>absurd h1 (Nat.not_le_of_lt (JC h2 h.symm))
 |m+1,p,h=>by
  cases hb:C p with
  |true=>exact .inl ⟨p,⟨Nat.le_refl _,hb,fun k h1 h2=>absurd h1 (Nat.not_le_of_lt h2)⟩,JC (Nat.lt_add_of_pos_right (Nat.succ_pos m)) h⟩
  |false=>
   rcases YK C n m (p+1) ((Nat.add_right_comm p 1 m).trans h) with ⟨w,f,hw⟩|hz
   ·refine .inl ⟨w,⟨by have:=f.1;exact jH this,f.2.1,fun k h1 h2=> ?_⟩,hw⟩
    by_cases e:k=p
    ·rw [e];exact hb
    ·exact f.2.2 k (Nat.lt_of_le_of_ne h1 (Ne.symm e)) h2
   ·refine .inr fun k h1 h2=> ?_
    by_cases e:k=p
    ·rw [e];exact hb
    ·exact hz k (Nat.lt_of_le_of_ne h1 (Ne.symm e)) h2
abbrev vF (W:World) (E:Nat→Int) (et:Nat→Tok) (C:Nat→Bool) (n:Nat) (L:jX) (lc:List Tok):List (Addr×Obj):=L.aV W.params (jL L.af) false (uP E et n) (vl C n)++ [(L.af,jD 100 lc)]
abbrev vT (W:World) (E:Nat→Int) (et:Nat→Tok) (C:Nat→Bool) (n:Nat) (L:jX) (lc:List Tok):List (Addr×Obj):=L.aV W.params (ku L.af L.aA) true (uP E et n) (vl C n)++ [(L.aA,jD 98 lc)]
abbrev BV (W:World) (V:jX→List Tok→List (Addr×Obj)) (ty ct:Tok) (col:Int) (i j:Value) (an:jX→jZ):Prop:= ∀(L:jX) (D M:Addr) (qs:List Tok) (fv:Value) (lc:List Tok),j6 pw W (jB W.params) (an L) 28 (JO D) (((D,Jd W.params L ty ct col qs (.ref M) fv i j)::V L lc).map some)
abbrev BW (W:World) (C:Nat→Bool) (c:Nat) (V:jX→List Tok→List (Addr×Obj)) (S:jX→Nat→jZ) (ty ct:Tok) (col:Int) (p w:Nat) (i j:Value):Prop:= ∃(mv jv:Nat→Value) (iv:Value),(ke C c p w∧BV W V ty ct col i j fun _=>lq mv jv iv)∨ ∃p' w',ke C c p' w'∧BV W V ty ct col i j fun L=>lr (S L p') mv jv iv
section
variable (W:World) (E:Nat→Int) (et:Nat→Tok) (C:Nat→Bool) (n:Nat) (hn:n=4∨n=5) (hE: ∀i j,i<j→j≤n→E i<E j) (ty ct:Tok) (c:Nat) (hc:c≤n)
include hn hE hc
theorem BX: ∀m p w,n-w≤m→yc C p w→w<c→(p=0∨(1≤p∧C (p-1)=true))→BW W C c (vF W E et C n) (fun L=>yb W.params L C n) ty ct (E c) p w (.int (E p) (et p)) (.int (E (w+1)) (et (w+1)))
 |0,p,w,hm,f,hw,hp=>absurd (uC hw hc) (Nat.not_lt_of_le (Nat.le_of_sub_eq_zero (Nat.le_zero.mp hm)))
 |m+1,p,w,hm,f,hw,hp=>by
  have aj:=n5 hn
  have nw:w+1≤n:=jc hw hc
  have o1:=s9 E n hE (yL f.1 hw) hc
  have o2:=BO E n hE hw hc
  have o3:=M8 E n hE (lM f.1) nw
  rcases YK C n (n-(w+1)) (w+1) (Nat.add_sub_of_le nw) with ⟨w2,f2,h2⟩|hz
  ·have o4:=fun L=>Mb W L E et C n hn ty (et (w+1)) _ (w+1) (s8 E n hE nw) w2 f2.1 h2 f2.2.1
   by_cases q:w2<c
   ·obtain ⟨mv,jv,iv,⟨l,h⟩|⟨p',w',l,h⟩⟩:=BX m (w+1) w2 (jc (Nat.sub_le_sub_left f2.1 n) (Nat.pred_le_pred hm)) f2 q (.inr ⟨Nat.succ_pos _,f.2.1⟩)
    ·refine ⟨mv,jv,iv,.inr ⟨_,_,l,fun L D M qs fv lc=>(jY (MM W.params L n C _ _ lc ty ct (E c) (E (w+1)) (et (w+1)) (E (w2+1)) (et (w2+1)) mv jv iv D M fv (et p) (E p) (et (w+1)) (E (w+1)) qs (w+1)) fun A K _ k=>k o1 o2 o3 (fun _ hz=>o4 L _ (dl hz)) (fun _ hz=>u3 W L E et C n f2 h2 aj _ (dl hz)) (fun _ hz=>h L D _ qs _ lc _ hz)).cv (fun ts=>tg ts (rg 0 7++rg 9 12++ [7,8])) fun _ _=>rfl⟩⟩
    ·refine ⟨mv,jv,iv,.inr ⟨_,_,l,fun L D M qs fv lc=>(jY (MO W.params L n C _ _ lc ty ct (E c) (E (w+1)) (et (w+1)) (E (w2+1)) (et (w2+1)) mv jv iv p' D M fv (et p) (E p) (et (w+1)) (E (w+1)) qs (w+1)) fun A K _ k=>k o1 o2 o3 (fun _ hz=>o4 L _ (dl hz)) (fun _ hz=>u3 W L E et C n f2 h2 aj _ (dl hz)) (fun _ hz=>h L D _ qs _ lc _ hz)).cv (fun ts=>tg ts (rg 0 7++rg 9 12++ [7,8])) fun _ _=>rfl⟩⟩
   ·refine ⟨fun t=> .ref t,fun _=> .int (E (w2+1)) (et (w2+1)),.int (E (w+1)) (et (w+1)),.inl ⟨⟨f,hw,hp,fun k h1 h2=>f2.2.2 k h1 (uC h2 (gV q))⟩,fun L D M qs fv lc=> ?_⟩⟩
    by_cases e:w+1=c
    ·exact (jY (MS W.params L n C _ _ lc ty ct (E c) (E (w+1)) (et (w+1)) (E (w2+1)) (et (w2+1)) D M fv (et p) (E p) (et (w+1)) (E (w+1)) qs (w+1)) fun A K _ k=>k o1 o2 o3 (fun _ hz=>o4 L _ (dl hz)) (fun _ hz=>u3 W L E et C n f2 h2 aj _ (dl hz)) (pM E n hE (Nat.le_of_eq e.symm) nw)).cv (fun ts=>tg ts [0,0]) fun _ _=>rfl
    ·exact (jY (MU W.params L n C _ _ lc ty ct (E c) (E (w+1)) (et (w+1)) (E (w2+1)) (et (w2+1)) D M fv (et p) (E p) (et (w+1)) (E (w+1)) qs (w+1)) fun A K _ k=>k o1 o2 o3 (fun _ hz=>o4 L _ (dl hz)) (fun _ hz=>u3 W L E et C n f2 h2 aj _ (dl hz)) (s9 E n hE (Nat.lt_of_le_of_ne hw e) hc) (M7 E n hE (lM (gV q)) h2)).cv (fun ts=>tg ts [0,0]) fun _ _=>rfl
  ·exact ⟨fun _=> .none,fun _=> .int (E (w+1)) (et (w+1)),.int (E p) (et p),.inl ⟨⟨f,hw,hp,fun k h1 h2=>hz k h1 (uC h2 hc)⟩,fun L D M qs fv lc=>(jY (MQ W.params L _ _ lc ty ct (E c) D M fv (et p) (E p) (et (w+1)) (E (w+1)) qs) fun A K _ k=>k o1 o2 o3 (fun _ td=>BC W L E et C n hn _ false ty _ _ (w+1) nw (s8 E n hE nw) hz _ (dl td))).cv (fun ts=> [0,0]) fun _ _=>rfl⟩⟩
theorem tf (bb: ∀k,E k=(k:Int)): ∀m p w,n-w≤m→yc C p w→w<c→(p=0∨(1≤p∧C (p-1)=true))→BW W C c (vT W E et C n) (fun L=>yv W.params L C n) ty ct (E c) p w (.int (E w) (et w)) (.int (E w) (et w))
 |0,p,w,hm,f,hw,hp=>absurd (uC hw hc) (Nat.not_lt_of_le (Nat.le_of_sub_eq_zero (Nat.le_zero.mp hm)))
 |m+1,p,w,hm,f,hw,hp=>by
  have aj:=n5 hn
  have nw:w+1≤n:=jc hw hc
  have o1:=s9 E n hE hw hc
  have o2:=BO E n hE (jH hw) hc
  have o3:=beq_self_eq_true (E w)
  rcases YK C n (n-(w+1)) (w+1) (Nat.add_sub_of_le nw) with ⟨w2,f2,h2⟩|hz
  ·have o4:=fun L t=>Md W L E et C n hn ty t _ (w+1) (fun k _=>BR E bb w k) w2 f2.1 h2 f2.2.1
   by_cases q:w2<c
   ·obtain ⟨mv,jv,iv,⟨l,h⟩|⟨p',w',l,h⟩⟩:=tf bb m (w+1) w2 (jc (Nat.sub_le_sub_left f2.1 n) (Nat.pred_le_pred hm)) f2 q (.inr ⟨Nat.succ_pos _,f.2.1⟩)
    ·exact ⟨mv,jv,iv,.inr ⟨_,_,l,fun L D M qs fv lc=>(jY (MX W.params L n C _ _ lc ty ct (E c) (E w2) (et w2) mv jv iv D M fv (et w) (E w) (et w) (E w) qs (w+1)) fun A K _ k=>k o1 o2 o3 (fun _ hz=>o4 L _ _ (dl hz)) (fun _ hz=>kJ W L E et C n f2 h2 aj _ (dl hz)) (fun _ hz=>h L D _ qs _ lc _ hz)).cv (fun ts=>tg ts (rg 0 7++rg 9 7++ [7,8])) fun _ _=>rfl⟩⟩
    ·exact ⟨mv,jv,iv,.inr ⟨_,_,l,fun L D M qs fv lc=>(jY (MZ W.params L n C _ _ lc ty ct (E c) (E w2) (et w2) mv jv iv p' D M fv (et w) (E w) (et w) (E w) qs (w+1)) fun A K _ k=>k o1 o2 o3 (fun _ hz=>o4 L _ _ (dl hz)) (fun _ hz=>kJ W L E et C n f2 h2 aj _ (dl hz)) (fun _ hz=>h L D _ qs _ lc _ hz)).cv (fun ts=>tg ts (rg 0 7++rg 9 7++ [7,8])) fun _ _=>rfl⟩⟩
   ·exact ⟨fun t=> .ref t,fun _=> .int (E w2) (et w2),.int (E w2) (et w2),.inl ⟨⟨f,hw,hp,fun k h1 h2=>f2.2.2 k h1 (uC h2 (gV q))⟩,fun L D M qs fv lc=>(jY (M4 W.params L n C _ _ lc ty ct (E c) (E w2) (et w2) D M fv (et w) (E w) (et w) (E w) qs (w+1)) fun A K _ k=>k o1 o2 o3 (fun _ hz=>o4 L _ _ (dl hz)) (fun _ hz=>kJ W L E et C n f2 h2 aj _ (dl hz)) (pM E n hE (gV q) (jH h2))).cv (fun ts=>tg ts [0,0]) fun _ _=>rfl⟩⟩
  ·exact ⟨fun _=> .none,fun t=> .int (E w+1) t,.int (E w) (et w),.inl ⟨⟨f,hw,hp,fun k h1 h2=>hz k h1 (uC h2 hc)⟩,fun L D M qs fv lc=>(jY (M1 W.params L _ _ lc ty ct (E c) D M fv (et w) (E w) (et w) (E w) qs) fun A K _ k=>k o1 o2 o3 (fun _ td=>BC W L E et C n hn _ true ty _ _ (w+1) nw (fun k _=>BR E bb w k) hz _ (dl td))).cv (fun ts=>tg ts [0,0]) fun _ _=>rfl⟩⟩
omit hn hE in
theorem th (bo: ∃k,k<c∧C k=true): ∃w,yc C 0 w∧w<c:=by
 obtain ⟨k,hk,hb⟩:=bo
 rcases YK C n (n-0) 0 (Nat.zero_add _) with ⟨w,f,hw⟩|hz
 ·refine ⟨w,f,?_⟩
  rcases Nat.lt_or_ge w c with q|q
  ·exact q
  ·have:=f.2.2 k (Nat.zero_le _) (uC hk q);rw [hb] at this;cases this
 ·have:=hz k (Nat.zero_le _) (uC hk hc);rw [hb] at this;cases this
end
section
variable (W:World) (L:jX) (E:Nat→Int) (et:Nat→Tok) (C:Nat→Bool) (n:Nat) (hn:n=4∨n=5) (hE: ∀i j,i<j→j≤n→E i<E j) (h0:E 0=0)
include hn hE h0
theorem Nh (lc:List Tok) (ty bf:Tok) (c:Nat) (hc:c≤n) (bo: ∃k,k<c∧C k=true): ∃p w,ke C c p w∧j6 pw W (jB W.params) (yu W.params L C n p) 30 (.call (.ref 21) ⟨[.ref L.aP,.str L.T ty,.int (E c) bf],[]⟩) ((vF W E et C n L lc).map some):=by
 have aj:=n5 hn
 obtain ⟨w,f,hw⟩:=th C n c hc bo
 have cc:=uC hw hc
 obtain ⟨mv,jv,iv,⟨l,h⟩|⟨p',w',l,h⟩⟩:=BX W E et C n hn hE ty bf c hc n 0 w (Nat.sub_le _ _) f hw (.inl rfl)
 ·exact ⟨_,_,l,(uM (MA W.params L n C _ _ lc ty bf (E c) (E 0) (et 0) (E (w+1)) (et (w+1)) mv jv iv) (.inl (UJ _)) fun A K _ k=>k (fun _ hz=>ps W L E et C n hn ty (Vh E n hE h0) w cc f.2.1 _ (dl hz)) (fun _ hz=>u3 W L E et C n f cc aj _ (dl hz)) (fun _ hz=>h L _ _ _ _ lc _ (dl hz))).cv (fun ts=>tg ts (rg 0 19)) fun _ _=>rfl⟩
 ·exact ⟨_,_,l,(uM (MC W.params L n C _ _ lc ty bf (E c) (E 0) (et 0) (E (w+1)) (et (w+1)) mv jv iv p') (.inl (UJ _)) fun A K _ k=>k (fun _ hz=>ps W L E et C n hn ty (Vh E n hE h0) w cc f.2.1 _ (dl hz)) (fun _ hz=>u3 W L E et C n f cc aj _ (dl hz)) (fun _ hz=>h L _ _ _ _ lc _ (dl hz))).cv (fun ts=>tg ts (rg 0 19)) fun _ _=>rfl⟩
theorem Ni (bb: ∀k,E k=(k:Int)) (lc:List Tok) (ty bf:Tok) (c:Nat) (hc:c≤n) (Nj:c≤4) (bo: ∃k,k<c∧C k=true): ∃p w,ke C c p w∧j6 pw W (jB W.params) (ya W.params L C n p) 30 (.call (.ref 21) ⟨[.ref L.aP,.str L.T ty,.int (E c) bf],[]⟩) ((vT W E et C n L lc).map some):=by
 have aj:=n5 hn
 obtain ⟨w,f,hw⟩:=th C n c hc bo
 have cc:=uC hw hc
 obtain ⟨mv,jv,iv,⟨l,h⟩|⟨p',w',l,h⟩⟩:=tf W E et C n hn hE ty bf c hc bb n 0 w (Nat.sub_le _ _) f hw (.inl rfl)
 ·exact ⟨_,_,l,(uM (ME W.params L n C _ _ lc ty bf (E c) (E w) (et w) mv jv iv) (.inl (UJ _)) fun A K _ k=>k (fun _ hz=>sW W L E et C n hn ty (Vh E n hE h0) w cc f.2.1 _ (dl hz)) (fun _ hz=>kJ W L E et C n f cc aj _ (dl hz)) (fun _ hz=>h L _ _ _ _ lc _ (dl hz))).cv (fun ts=>tg ts (rg 0 14)) fun _ _=>rfl⟩
 ·exact ⟨_,_,l,(uM (MG W.params L n C _ _ lc ty bf (E c) (E w) (et w) mv jv iv p') (.inl (UJ _)) fun A K _ k=>k (fun _ hz=>sW W L E et C n hn ty (Vh E n hE h0) w cc f.2.1 _ (dl hz)) (fun _ hz=>kJ W L E et C n f cc aj _ (dl hz)) (fun _ hz=>h L _ _ _ _ lc _ (dl hz))).cv (fun ts=>tg ts (rg 0 14)) fun _ _=>rfl⟩
theorem Nk (bb: ∀k,E k=(k:Int)) (ty bf:Tok) (c:Nat) (hc:c≤n) (Nj:c≤4) (bo: ∃k,k<c∧C k=true): ∃p w,ke C c p w∧j6 pw W (jB W.params) (lx W.params L C n p) 30 (.call (.ref 21) ⟨[.ref L.aP,.str L.T ty,.int (E c) bf],[]⟩) ((L.aV W.params (jL L.af) true (uP E et n) (vl C n)).map some):=by
 have aj:=n5 hn
 obtain ⟨w,f,hw⟩:=th C n c hc bo
 have cc:=uC hw hc
 obtain ⟨mv,jv,iv,⟨l,h⟩|⟨p',w',l,h⟩⟩:=tf W E et C n hn hE ty bf c hc bb n 0 w (Nat.sub_le _ _) f hw (.inl rfl)
 ·exact ⟨_,_,l,(uM (MI W.params L n C _ _ ty bf (E c) (E w) (et w) mv jv iv) (.inl (UJ _)) fun A K _ k=>k (fun _ hz=>BD W L E et C n hn ty (Vh E n hE h0) w cc f.2.1 _ (dl hz)) (fun _ hz=>kJ W L E et C n f cc aj _ (dl hz)) (fun _ hz=>h {L with aA:=A 14} _ _ _ _ _ _ (dl hz))).cv (fun ts=>tg ts (rg 0 9++rg 19 5++rg 9 10)) fun _ _=>rfl⟩
 ·exact ⟨_,_,l,(uM (MK W.params L n C _ _ ty bf (E c) (E w) (et w) mv jv iv p') (.inl (UJ _)) fun A K _ k=>k (fun _ hz=>BD W L E et C n hn ty (Vh E n hE h0) w cc f.2.1 _ (dl hz)) (fun _ hz=>kJ W L E et C n f cc aj _ (dl hz)) (fun _ hz=>h {L with aA:=A 14} _ _ _ _ _ _ (dl hz))).cv (fun ts=>tg ts (rg 0 9++rg 19 5++rg 9 10)) fun _ _=>rfl⟩
theorem Nm (lc:List Tok) (ty bf:Tok) (bo: ∃k,k<n∧C k=true):j6 pw W (jB W.params) v8 30 (.call (.ref 21) ⟨[.ref L.aP,.str L.T ty,.int 0 bf],[]⟩) ((L.aV W.params (jL L.af) false (uP E et n) (vl C n)++ [(L.af,jD 100 lc)]).map some):=by
 rcases YK C n n 0 (Nat.zero_add n) with ⟨w,f,hw⟩|hz
 ·have:=Nc W L E et C n hn hE h0 lc ty bf 0 (Nat.zero_le _) w f hw (Nat.zero_le _) rfl
  unfold BP at this;rw [h0] at this
  exact this
 ·exfalso;obtain ⟨k,hk,hb⟩:=bo;have:=hz k (Nat.zero_le _) hk;rw [hb] at this;cases this
theorem Nn (bb: ∀k,E k=(k:Int)) (lc:List Tok) (ty bf:Tok) (bo: ∃k,k<n∧C k=true):j6 pw W (jB W.params) v8 30 (.call (.ref 21) ⟨[.ref L.aP,.str L.T ty,.int 0 bf],[]⟩) ((L.aV W.params (ku L.af L.aA) true (uP E et n) (vl C n)++ [(L.aA,jD 98 lc)]).map some):=by
 rcases YK C n n 0 (Nat.zero_add n) with ⟨w,f,hw⟩|hz
 ·have:=Ng W L E et C n hn hE h0 bb lc ty bf 0 (Nat.zero_le _) w f hw (Nat.zero_le _)
  unfold BQ at this;rw [h0] at this
  exact this
 ·exfalso;obtain ⟨k,hk,hb⟩:=bo;have:=hz k (Nat.zero_le _) hk;rw [hb] at this;cases this
theorem BZ (lc:List Tok) (ty bf:Tok) (bo: ∃k,k<n∧C k=true) (h2:2≤E 1):j6 pw W (jB W.params) v8 30 (.call (.ref 21) ⟨[.ref L.aP,.str L.T ty,.int (E 1-1) bf],[]⟩) ((L.aV W.params (jL L.af) false (uP E et n) (vl C n)++ [(L.af,jD 100 lc)]).map some):=by
 rcases YK C n n 0 (Nat.zero_add n) with ⟨w,f,hw⟩|hz
 ·exact Nb W L E et C n hn hE h0 lc ty bf w f hw (E 1-1) (by lia) (by lia)
 ·exfalso;obtain ⟨k,hk,hb⟩:=bo;have:=hz k (Nat.zero_le _) hk;rw [hb] at this;cases this
theorem B1 (ty bf:Tok) (bo: ∃k,k<n∧C k=true) (h2:2≤E 1):j6 pw W (jB W.params) pK 30 (.call (.ref 21) ⟨[.ref L.aP,.str L.T ty,.int (E 1-1) bf],[]⟩) ((L.aV W.params eQ false (uP E et n) (vl C n)).map some):=by
 rcases YK C n n 0 (Nat.zero_add n) with ⟨w,f,hw⟩|hz
 ·exact M9 W L E et C n hn hE h0 [] ty bf w f hw (E 1-1) (by lia) (by lia)
 ·exfalso;obtain ⟨k,hk,hb⟩:=bo;have:=hz k (Nat.zero_le _) hk;rw [hb] at this;cases this
end
def Np:=kg [zL,102676,zM,281,zN]
def Nq:=kg [zL,0x191141414911414,zM,309070570527001,zN]
section
variable (P:Params) (L:jX) (n:Nat) (C:Nat→Bool) (Es Cs PL:List Value) (B:Bool) (lc:List Tok) (ty bu:Tok) (col:Int)
def rE:RD:=⟨[(L.aP,L.prog),(L.d2,(L.ei P)),(L.aF,L.fn),(L.aN,L.bq),(L.bD,⟨.none,none,.fields PL.toArray,#[]⟩),(L.cT,(j8 (vt L.T L.tx))),(L.cE,(j8 (rf L.lE))),(L.cC,(j8 (rf L.lC))),(L.cB,(j8 (.bool B))),(L.b',L.cg),(L.lE,(j0 Es L.eE)),(L.lC,(j0 [] L.eC))],[wi [25,29] (j7 2 0 (fun _=> .bool true))],mA 12 0 0 (fun a t=> .ok (.ret .none)) (fun a t=>(List.replicate 12 id)) (fun a t=> []),[],[],[],1,fun q qT qS A K=> [qT 0 28 .Eq (rf (A 25)) (rf (A 29)) [((A 25),(j0 [] 0)),((A 29),(j0 [] 0))]]⟩
theorem Nr:GF P 29 21 [rf L.aP,vt L.T ty,vi col bu] (d0 P) (rE P L Es PL B) (hb Np Nq):=Ur
end
noncomputable def k0 (o:Obj) (k:Nat):jZ:={ids:=List.range k,na:=1,nt:=0,res:=fun as _=> .ok (.ret (.ref (as.getD 0 0))),upd:=fun _ _=>List.replicate k id,new:=fun _ _=> [o]}
theorem ti {kt:KT} {vs:List (Option (Addr×Obj))} {k:Nat} {o:Obj} {s:Shared} {n:Nat} (hk:vs.length=k) (ho:o.isFreed=false) (Z:Vp kt s.heap vs):
  kB vs (k0 o k) [s.heap.objs.size] [] s {s with heap:=s.heap.push o,toks:=n}:=by
 subst hk
 refine ⟨fun b o' e _=>Heap.get?_push_of_some _ e,by simp [k0],fun i p f h1 h2=> ?_,rfl,fun i a o' h1 h2=> ?_,by simp,rfl,rfl,rfl⟩
 ·have:f=id:=by
   simp only [k0,List.getElem?_replicate] at h2
   split at h2
   ·exact (Option.some.inj h2).symm
   ·cases h2
  subst this
  exact Heap.get?_push_of_some _ (Z.own p (List.mem_of_getElem? h1))
 ·have hi:i<1:=(List.getElem?_eq_some_iff.mp h1).1
  obtain rfl:i=0:=by lia
  cases h1;cases h2
  refine ⟨Heap.get?_push_size _ ho,?_⟩
  cases q:s.heap.get? s.heap.objs.size with
  |none=>rfl
  |some o'=>exact absurd (Heap.lt_size q) (Nat.lt_irrefl _)
theorem B2 {w:World} {kt:KT} {d:Nat} {a b:Addr} {xs ys:List Value} {e1 e2:Nat} (hs:xs.length+ys.length≤1000):
  j6 pw w kt (k0 (j0 (xs++ys) 0) 2) d (.call (.builtin "list.__add__") ⟨[.ref a,.ref b],[]⟩) [some (a,j0 xs e1),some (b,j0 ys e2)]:=by
 refine .of ?_;intro A R s S Z hR
 have h1:=Z.own _ (.head _)
 have h2:=Z.own _ (.tail _ (.head _))
 refine uu F.slot_list_add (kG h1 rfl) F.entry_list_add (F.args_list_add_2 _ _) (AutoSeq1.list___add___list_list_0 a xs.toArray e1 b ys.toArray e2 (by have e:sizeLine=16777216:=rfl;simp;lia)) _ _ _ _ ⟨h1,h2,?_⟩
 have e:(xs.toArray++ys.toArray:Array Value)=(xs++ys).toArray:=by simp
 rw [e]
 exact hR _ _ [] rfl rfl (ti (n:=s.toks) rfl rfl Z)
theorem tj: ∀(p:Option (Int×Tok)),IsPart (partValue p) (p.map (·.1))
 |none=> .none
 |some (i,t)=> .int i t
theorem U4 {w:World} {kt:KT} {d:Nat} {l sl:Addr} {xs ys:List Value} {e:Nat} {lo hi st:Option (Int×Tok)} (h0:st.map (·.1)≠some 0) (hs:xs.length≤1000) (hy:slicePick xs.toArray (lo.map (·.1)) (hi.map (·.1)) (st.map (·.1))=ys.toArray):
  j6 pw w kt (k0 (j0 ys 0) 2) d (.call (.builtin "list.__getitem__") ⟨[.ref l,.ref sl],[]⟩) [some (l,j0 xs e),some (sl,⟨.type "slice",none,.fields #[partValue lo,partValue hi,partValue st],#[]⟩)]:=by
 refine .of ?_;intro A R s S Z hR
 have hl:=Z.own _ (.head _)
 have pN:=Z.own _ (.tail _ (.head _))
 have B3:s.TypeIs (.ref sl) "slice":=⟨_,pN,rfl⟩
 refine codeAny_call_builtin F.slot_list_getitem.plain F.entry_list_getitem (F.slot_list_getitem.check _ _ _ _ _ _ _ _ (kG hl rfl) (F.args_list_getitem_2 _ _) ?_)
 show wpAny _ _ (Builtin.List.listSubscript? (.ref sl)>>=_) _ _ s
 refine wpAny_bind ?_
 unfold Builtin.List.listSubscript?
 refine wpAny_bind (wpAny_specialOf B3 slice_no_index ?_)
 simp only [Option.isNone_none,if_true]
 refine wpAny_pure ?_
 show wpAny _ _ (typeOf (.ref sl)>>=_) _ _ s
 refine wpAny_bind (wpAny_typeOf B3 ?_)
 rw [if_neg (by decide)]
 rw [listSliceParts_eq]
 have Nt: ¬((rawPart (st.map (·.1))==rawInt 0)=true):=by
  cases hq:st.map (·.1) with
  |none=>exact Bool.false_ne_true
  |some c=>
   intro hh
   have:c=0:=by simpa [rawPart,rawInt] using hh
   exact h0 (by rw [hq,this])
 refine wpAny_bind (wpAny_bind (wpAny_field pN rfl (x:=partValue st) rfl (wpAny_bind (wpAny_listPart (tj st) ?_))))
 rw [if_neg Nt]
 refine wpAny_bind (wpAny_field pN rfl (x:=partValue lo) rfl (wpAny_bind (wpAny_listPart (tj lo) ?_)))
 refine wpAny_bind (wpAny_field pN rfl (x:=partValue hi) rfl (wpAny_bind (wpAny_listPart (tj hi) (wpAny_pure ?_))))
 refine wpAny_bind (m:=Builtin.List.listItems (.ref l)) ?_
 unfold Builtin.List.listItems
 refine wpAny_bind (wpAny_seqItems hl rfl (wpAny_pure ?_))
 refine wpAny_bind (wpAny_of_eq (sliceIndices_raw _ _ _ xs.toArray.size h0) ?_)
 have m8:=hy
 unfold slicePick at m8
 have fi:ys.length≤sizeLine:=by
  have q:=slicePick_size_le xs.toArray (lo.map (·.1)) (hi.map (·.1)) (st.map (·.1))
  rw [hy] at q
  have e:sizeLine=16777216:=rfl
  simp at q
  lia
 refine wpAny_bind (wpAny_newObj_type (wpAny_pure ?_) ?_)
 ·show R (.ok (.ret (.ref s.heap.objs.size))) {s with heap:=s.heap.push ⟨.type "list",none,.seq (slicePick xs.toArray (lo.map (·.1)) (hi.map (·.1)) (st.map (·.1))) 0,#[]⟩,toks:=s.toks}
  rw [hy]
  exact hR _ _ [] rfl rfl (ti (n:=s.toks) rfl rfl Z)
 ·show (slicePick xs.toArray (lo.map (·.1)) (hi.map (·.1)) (st.map (·.1))).size≤_
  rw [hy]
  simpa using fi
theorem Nu {w:World} {kt:KT} {d:Nat} {r:Addr} {m:Nat} {t u v:Tok} (hm:m≤20):
  j6 pw w kt (k0 (jz 0 m) 1) d (.call (.builtin "range.__iter__") ⟨[.ref r],[]⟩) [some (r,⟨.type "range",none,.fields #[.int 0 t,.int (m:Int) u,.int 1 v],#[]⟩)]:=by
 refine .of ?_;intro A R s S Z hR
 have h1:=Z.own _ (.head _)
 have hb:(Builtin.Range.rangeFitsLong 0&&Builtin.Range.rangeFitsLong (m:Int)&&Builtin.Range.rangeFitsLong 1&&Builtin.Range.rangeFitsLong (Builtin.Range.rangeSize 0 (m:Int) 1)&&(Builtin.Range.rangeSize 0 (m:Int) 1==0||if (1:Int)>0 then Builtin.Range.rangeFitsLong ((m:Int)+(1-1)) else Builtin.Range.rangeFitsLong ((m:Int)+(1+1))))=true∧Builtin.Range.rangeSize 0 (m:Int) 1=m:=by
  have key: ∀m:Fin 21,(Builtin.Range.rangeFitsLong 0&&Builtin.Range.rangeFitsLong ((m.val:Nat):Int)&&Builtin.Range.rangeFitsLong 1&&Builtin.Range.rangeFitsLong (Builtin.Range.rangeSize 0 ((m.val:Nat):Int) 1)&&(Builtin.Range.rangeSize 0 ((m.val:Nat):Int) 1==0||if (1:Int)>0 then Builtin.Range.rangeFitsLong (((m.val:Nat):Int)+(1-1)) else Builtin.Range.rangeFitsLong (((m.val:Nat):Int)+(1+1))))=true∧Builtin.Range.rangeSize 0 ((m.val:Nat):Int) 1=((m.val:Nat):Int):=by decide+kernel
  exact key ⟨m,(lM hm)⟩
 refine uu F.slot_range_iter (kG h1 rfl) F.entry_range_iter (F.args_range_iter_1 _) (AutoRange.range___iter___range_1 r 0 m 1 t u v (by rw [hb.1];simp)) _ _ _ _ ⟨h1,?_⟩
 rw [hb.1,hb.2]
 exact hR _ _ [] rfl rfl (ti (n:=s.toks) rfl rfl Z)
noncomputable def VN:jZ:={ids:=List.range 12,na:=0,nt:=0,res:=fun _ _=> .ok (.ret .none),upd:=fun _ _=> [id,id,id,id,id,id,id,id,id,id,id,id],new:=fun _ _=> []}
theorem ye {w:World} {kt:KT} {d:Nat} {r:Addr} {n m:Nat} {t u v:Tok} (e:n+1=m) (hm:m≤20):
  j6 pw w kt (k0 (jz 0 m) 1) d (.call (.builtin "range.__iter__") ⟨[.ref r],[]⟩) [some (r,⟨.type "range",none,.fields #[.int 0 t,.int ((n:Int)+1) u,.int 1 v],#[]⟩)]:=by
 subst e;exact Nu hm
theorem US (W:World) (L:jX) (Es:List Value) (PL:List Value) (B:Bool) (ty bf:Tok) (col:Int):j6 pw W (jB W.params) VN 30 (.call (.ref 21) ⟨[.ref L.aP,.str L.T ty,.int col bf],[]⟩) ((L.aV W.params PL B Es []).map some):=by
 have h:=uM (w:=W) (Nr W.params L Es PL B ty bf col) (.inl (UJ _)) (by
  intro A K
  walk_at "ob"
  exact v9 (by decide) (xs:= []) (ys:= []) rfl rfl rfl (by simp [PyData.eqvAll]))
 exact h.cS fun _ _=>rfl
theorem Nv {w:World} {kt:KT} {d op:Nat} {c:Code} {b:Bool} (h:prim op c=some (.val (.bool b))):j6 pw w kt (j7 0 0 fun _=> .bool b) d c []:=by
 refine .of ?_;intro A R s S Z hR
 exact V6 op c _ h pw w A R s (hR s [] [] rfl rfl (uz (n:=s.toks) rfl Z))
def Nw:=kg [266]
section
variable (P:Params) (L:jF) (ai:Tok) (l:Int) (p:Nat) (tp:Tok) (G:kl)
noncomputable def bX:RD:=⟨[(L.aL,L.lex),(L.aD,(L.bc P l ai)),(L.aS,L.src),(L.aE,(L.b9 P)),(L.aF,L.fn),(L.aT,L.code),(L.bT,L.cT),(L.bU,L.cA),(L.bW,(j0 [vn p tp] L.ay)),(G.aM,(kl.bX L))],[],mA 10 0 0 (fun a t=> .ok .next) (fun a t=>(List.replicate 10 id)) (fun a t=> []),[],[],[],0,fun q qT qS A K=> []⟩
abbrev Nx (P:Params) (L:jF) (ai:Tok) (l:Int) (p:Nat) (tp:Tok) (G:kl):jZ:=(bX P L ai l p tp G).an
abbrev Ny (P:Params) (L:jF) (ai:Tok) (l:Int) (p:Nat) (tp:Tok) (G:kl):List Addr→List Tok→Except Value Fin:=(fun as ts=> .ok (.again (cr 42 [(rf L.aL)])))
theorem Nz:GT P 20 Fin (D (cr G.aM [])) (fun as ts=> .ok (.again (cr 42 [(rf L.aL)]))) (bX P L ai l p tp G) (hk Nw):=Gm
end
theorem NA (W:World) (L:jF) (G:kl) (l:Int) (lt:Tok) (p:Nat) (tp:Tok) (hT:L.T.length≤1000000) (hp:p≤L.T.length):
  j6 pw W (jB W.params) (xC L.T p l L.ay) 21 (.call (.ref G.aM) ⟨[],[]⟩) ((L.vs W.params l lt p tp++ [(G.aM,kl.bX L)]).map some):=by
 have turn:Y9 W 20 (.call (.ref G.aM) ⟨[],[]⟩) (L.vs W.params l lt p tp++ [(G.aM,kl.bX L)]) (Nx W.params L lt l p tp G) (Ny W.params L lt l p tp G):=
  vy (Nz W.params L lt l p tp G) (fun _ _=>mj)
 refine kk (c':= .call (.ref 42) ⟨[.ref L.aL],[]⟩) (bZ:=xC L.T p l L.ay) rfl rfl turn (fun _ _=>rfl) rfl rfl (fun ts _=> ?_) rfl rfl rfl (fun bx as bE _ _ h=>⟨bE,h,rfl,rfl,rfl,rfl⟩)
 exact j6.frame (vs:=L.vs W.params l lt p tp) (ws:= [(G.aM,kl.bX L)]) (j6.mono (U6 W L l lt p tp hT hp) (by decide)) rfl rfl rfl rfl rfl (fun _ _=>rfl) rfl
theorem tm:Slot "callable_iterator" "__next__" "callable_iterator.__next__":=
 .of (owner:= "callable_iterator") (n:= "__next__") (by rw [typeLookup_type,builtinLookup_eq_fast];kernel_rfl) (by decide+kernel) (by decide+kernel) (by decide+kernel)
  (by first|exact .inl (by decide+kernel)|exact .inr (by decide+kernel)) (by rw [isSubtype_type];kernel_rfl)
theorem NB:entryFor table "callable_iterator.__next__"=some Builtin.«callable_iterator.__next__»:=entryFor_of_fast (by kernel_rfl)
theorem NC (a:Value):argsOk "callable_iterator.__next__" ⟨[a],[]⟩:=by unfold argsOk;kernel_rfl
noncomputable def pO (t:Addr):Obj:=⟨.type "StopIteration",none,.fields #[.ref t,.none,.none,.none,.bool false,.none],#[]⟩
theorem B4 {M:Model} {A:Around} {s:Shared} {E:Value→Shared→Prop} {Q:Bool→Shared→Prop} {L:jF} {aM:Addr} {P:Params} (hM:s.heap.get? aM=some (kl.bX L)) (tq:s.heap.get? 42=some (gY P)) (h:Q true s):wpAny M A (borrowsExactly (.ref aM)) Q E s:=by
 unfold borrowsExactly
 refine wpAny_bind (wpAny_load hM ?_)
 show wpAny M A (if (Value.type "method"==Value.type "method")=true then _ else _) Q E s
 rw [if_pos (by decide)]
 refine wpAny_bind (wpAny_load tq ?_)
 exact wpAny_pure h
theorem ND {W:World} {A:Around} {s:Shared} {R:Result→Shared→Prop} {L:jF} {G:kl} {P:Params} (hh:A.handled=none) (hI:s.heap.get? G.aI=some G.cI) (hM:s.heap.get? G.aM=some (kl.bX L)) (tq:s.heap.get? 42=some (gY P))
  (call:codeAny (model pw W) A.in1 (.call (.ref G.aM) ⟨[],[]⟩) (fun r s1=> ∃ch t,r= .ok (.ret (.str ch t))∧s1.heap.get? G.aI=some G.cI∧s1.heap.get? G.aM=some (kl.bX L)∧s1.heap.get? 42=some (gY P)∧
   (ch≠⟨#[]⟩→R (.ok (.ret (.str ch t))) s1)∧(ch=⟨#[]⟩→ ∀s2:Shared,s2.gens=s1.gens→s2.os=s1.os→s2.drawn=s1.drawn→ ∀e t',Heap.ExtBut G.aI s1.heap s2.heap→s2.heap.get? G.aI=some YI→s2.heap.get? e=some (pO t')→s1.heap.get? e=none→R (.error (.ref e)) s2)) s):
  codeAny (model pw W) A (.call (.builtin "callable_iterator.__next__") ⟨[.ref G.aI],[]⟩) R s:=by
 refine codeAny_call_builtin tm.plain NB (tm.check _ _ _ _ _ _ _ _ (kG hI rfl) (NC _) ?_)
 unfold Builtin.«callable_iterator.__next__»
 refine wpAny_bind (m:=slotArgs _ _ _) (wpAny_pure ?_)
 refine wpAny_bind (wpAny_field hI rfl (x:= .bool false) rfl ?_)
 show wpAny _ _ (if (Value.bool false==Value.bool true)=true then _ else _) _ _ s
 rw [if_neg (by decide)]
 refine wpAny_bind (wpAny_field hI rfl (x:= .ref G.aM) rfl ?_)
 refine wpAny_bind (wpAny_attempt ?_)
 unfold callOutOfASlot
 refine wpAny_bind (B4 hM tq ?_)
 show wpAny _ _ (callBorrowed (.ref G.aM) []) _ _ s
 unfold callBorrowed
 refine x_call ?_ (by intro e;cases e)
 refine codeAny_mono call fun r s1 q=> ?_
 obtain ⟨ch,t,rfl,m9,NF,NI,hc,he⟩:=q
 refine wpAny_pure ?_
 show wpAny _ _ _ _ _ s1
 refine wpAny_bind (wpAny_field m9 rfl (x:= .bool false) rfl ?_)
 show wpAny _ _ (if (Value.bool false==Value.bool true)=true then _ else _) _ _ s1
 rw [if_neg (by decide)]
 refine wpAny_bind (wpAny_field m9 rfl (x:= .str ⟨#[]⟩ G.te) rfl ?_)
 refine wpAny_bind (wpAny_holding (eqBool_str ?_))
 by_cases h:ch=⟨#[]⟩
 ·subst h
  show wpAny _ _ (if (!((⟨#[]⟩:Str)==⟨#[]⟩))=true then _ else _) _ _ s1
  rw [if_neg (by decide)]
  refine wpAny_bind (wpAny_rule ?_)
  refine wpAny_bind ?_
  show wpAny _ _ (do
   slotLetsGo "callable_iterator.__next__" (←field (.ref G.aI) 0) (fun| .builtin "callable_iterator.__next__" x=>x.pos.head? ==some (.ref G.aI)|_=>false)
   setField (.ref G.aI) 0 .none;setField (.ref G.aI) 1 .none;setField (.ref G.aI) 2 (.bool true)) _ _ s1
  refine wpAny_bind (wpAny_field m9 rfl (x:= .ref G.aM) rfl ?_)
  refine wpAny_bind ?_
  unfold slotLetsGo
  refine wpAny_bind (B4 NF NI ?_)
  refine wpAny_pure ?_
  refine wpAny_bind (wpAny_setField m9 rfl (show 0<3 by decide) ?_)
  have g1:=Heap.get?_update_self (Obj.mapFields (·.setIfInBounds 0 .none)) m9 rfl
  refine wpAny_bind (wpAny_setField g1 rfl (show 1<3 by decide) ?_)
  have g2:=Heap.get?_update_self (Obj.mapFields (·.setIfInBounds 1 .none)) g1 rfl
  refine wpAny_setField g2 rfl (show 2<3 by decide) ?_
  have g3:=Heap.get?_update_self (Obj.mapFields (·.setIfInBounds 2 (.bool true))) g2 rfl
  have x1:Heap.SameBut G.aI s1.heap (s1.heap.update G.aI (Obj.mapFields (·.setIfInBounds 0 .none))):=Heap.SameBut.update ..
  have x2:=Heap.SameBut.update (a:=G.aI) (h:=s1.heap.update G.aI (Obj.mapFields (·.setIfInBounds 0 .none))) (f:=Obj.mapFields (·.setIfInBounds 1 .none))
  have x3:=Heap.SameBut.update (a:=G.aI) (h:=(s1.heap.update G.aI (Obj.mapFields (·.setIfInBounds 0 .none))).update G.aI (Obj.mapFields (·.setIfInBounds 1 .none))) (f:=Obj.mapFields (·.setIfInBounds 2 (.bool true)))
  have keep: ∀b o,b≠G.aI→s1.heap.get? b=some o→(((s1.heap.update G.aI (Obj.mapFields (·.setIfInBounds 0 .none))).update G.aI (Obj.mapFields (·.setIfInBounds 1 .none))).update G.aI (Obj.mapFields (·.setIfInBounds 2 (.bool true)))).get? b=some o:=fun b o hb e=>by
   rw [x3.2 b hb,x2.2 b hb,x1.2 b hb];exact e
  have sz:(((s1.heap.update G.aI (Obj.mapFields (·.setIfInBounds 0 .none))).update G.aI (Obj.mapFields (·.setIfInBounds 1 .none))).update G.aI (Obj.mapFields (·.setIfInBounds 2 (.bool true)))).objs.size=s1.heap.objs.size:=by
   rw [x3.1,x2.1,x1.1]
  generalize ((s1.heap.update G.aI (Obj.mapFields (·.setIfInBounds 0 .none))).update G.aI (Obj.mapFields (·.setIfInBounds 1 .none))).update G.aI (Obj.mapFields (·.setIfInBounds 2 (.bool true)))=h3 at g3 keep sz⊢
  clear g1 g2 x1 x2 x3
  show wpAny _ _ (newExc (.type "StopIteration") []>>=_) _ _ _
  refine wpAny_bind ?_
  simp only [newExc,newTuple]
  refine wpAny_bind (wpAny_newObj_type ?_ (by size_fits))
  refine wpAny_bind (m:=firstArgMember _ _) (wpAny_of_eq (a:=Value.none) (by first|rfl|(simp only [firstArgMember];rfl)) ?_)
  refine wpAny_newObj_type ?_ (by size_fits)
  simp only [raiseNew]
  refine wpAny_bind (wpAny_handled ?_)
  rw [show A.in1.handled=none from hh]
  refine wpAny_bind (wpAny_pure (wpAny_throw ?_))
  refine he rfl {s1 with heap:=(h3.push {cls:= .type "tuple",data:= .seq #[]}).push (pO h3.objs.size)} rfl rfl rfl _ h3.objs.size ?_ ?_ (Heap.get?_push_size (h3.push {cls:= .type "tuple",data:= .seq #[]}) (o:=pO h3.objs.size) rfl) ?_
  ·exact fun b o hb e=>Heap.get?_push_of_some _ (Heap.get?_push_of_some _ (keep b o hb e))
  ·exact Heap.get?_push_of_some _ (Heap.get?_push_of_some _ g3)
  ·cases q:s1.heap.get? (h3.push {cls:= .type "tuple",data:= .seq #[]}).objs.size with
   |none=>rfl
   |some o=>
    have:=Heap.lt_size q
    have e:(h3.push {cls:= .type "tuple",data:= .seq #[]}).objs.size=h3.objs.size+1:=by
     cases h3
     simp [Heap.push]
    rw [e,sz] at this
    exact absurd this (Nat.not_lt.mpr (Nat.le_succ _))
 ·have hb:((⟨#[]⟩:Str)==ch)=false:=by
   cases hx:((⟨#[]⟩:Str)==ch) with
   |false=>rfl
   |true=>exact absurd (eq_of_beq hx).symm h
  show wpAny _ _ (if (!((⟨#[]⟩:Str)==ch))=true then _ else _) _ _ s1
  rw [hb]
  exact wpAny_pure (hc h)
def JD (T:Str) (p:Nat) (l:Int) (e:Nat):jZ:={ids:=List.range 11,na:=0,nt:=3,res:=fun _ ts=> .ok (.ret (.str (km T p) (ts.getD 0 0))),upd:=fun _ ts=> [id,jO 0 (.int (l+y7 T p) (ts.getD 2 0)),id,id,id,id,id,id,fun _=>vS (jh T p) (ts.getD 1 0) e,id,id],new:=fun _ _=> []}
def Uw (T:Str) (p:Nat) (l:Int) (e:Nat):jZ:={ids:=List.range 11,na:=1,nt:=3,res:=fun as _=> .error (.ref (as.getD 0 0)),upd:=fun _ ts=> [id,jO 0 (.int (l+y7 T p) (ts.getD 2 0)),id,id,id,id,id,id,fun _=>vS (jh T p) (ts.getD 1 0) e,id,fun _=>YI],new:=fun _ ts=> [pO (ts.getD 0 0)]}
theorem NK {A:Around} {d:Nat} (S:kT A (d+1)):kT A.in1 d:=by
 have:=S.under (c:= .builtin "callable_iterator.__next__" ⟨[],[]⟩) rfl
 rwa [Around.under_plainId tm.plain] at this
def pP (L:jF) (G:kl) (P:Params) (l:Int) (lt:Tok) (p:Nat) (tp:Tok):List (Addr×Obj):=L.vs P l lt p tp++ [(G.aM,kl.bX L),(G.aI,G.cI)]
theorem B5 (W:World) (L:jF) (G:kl) (l:Int) (lt:Tok) (p:Nat) (tp:Tok) (hT:L.T.length≤1000000) (hp:p≤L.T.length):
  j6 pw W (jB W.params) (if km L.T p=⟨#[]⟩ then Uw L.T p l L.ay else JD L.T p l L.ay) 22 (.call (.builtin "callable_iterator.__next__") ⟨[.ref G.aI],[]⟩) ((pP L G W.params l lt p tp).map some):=by
 refine .of ?_;intro A R s S Z hR
 have base:j6 pw W (jB W.params) (JD L.T p l L.ay) 21 (.call (.ref G.aM) ⟨[],[]⟩) ((pP L G W.params l lt p tp).map some):=
  j6.frame (vs:=L.vs W.params l lt p tp++ [(G.aM,kl.bX L)]) (ws:= [(G.aI,G.cI)]) (NA W L G l lt p tp hT hp) rfl rfl rfl rfl rfl (fun _ _=>rfl) rfl
 have hI:=Z.own (G.aI,G.cI) (List.mem_of_getElem? (i:=10) rfl)
 have hM:=Z.own (G.aM,kl.bX L) (List.mem_of_getElem? (i:=9) rfl)
 refine ND (L:=L) (P:=W.params) S.handled hI hM (Z.base _ _ (n9 _)) (base.use A.in1 _ s (NK S) Z fun s1 as ts la lt' post=> ?_)
 have Z1:=A5 Z post
 have e0:as= []:=List.eq_nil_of_length_eq_zero la
 subst e0
 refine ⟨km L.T p,ts.getD 0 0,rfl,?_,?_,Z1.base _ _ (n9 _),fun dM=> ?_,fun NM s2 hg ho hd e t' hx NN he hn=> ?_⟩
 ·exact Z1.own (G.aI,G.cI) (List.mem_of_getElem? (i:=10) rfl)
 ·exact Z1.own (G.aM,kl.bX L) (List.mem_of_getElem? (i:=9) rfl)
 ·rw [if_neg dM] at hR
  exact hR s1 [] ts rfl lt' post
 ·rw [if_pos NM] at hR
  refine hR s2 [e] [t',ts.getD 1 0,ts.getD 2 0] rfl rfl ⟨fun b o eb n=>hx b o (fun z=>n (G.aI,G.cI) (List.mem_of_getElem? (i:=10) rfl) z.symm) (post.1 b o eb n),rfl,fun i q f h1 h2=> ?_,rfl,fun i a o h1 h2=> ?_,by simp,hg.trans post.2.2.2.2.2.2.1,ho.trans post.2.2.2.2.2.2.2.1,hd.trans post.2.2.2.2.2.2.2.2⟩
  ·by_cases hi:i=10
   ·subst hi
    cases h1;cases h2
    exact NN
   ·have rF:i<11:=(List.getElem?_eq_some_iff.mp h2).1
    have fV:((JD L.T p l L.ay).upd [] ts)[i]? =some f:=(List.getElem?_set_ne (l:=(JD L.T p l L.ay).upd [] ts) (a:=fun _=>YI) (Ne.symm hi)).symm.trans h2
    refine hx _ _ (fun z=> ?_) (post.2.2.1 i q f h1 fV)
    have:=Z.inj i 10 q (G.aI,G.cI) h1 rfl z
    lia
  ·have hi:i=0:=by
    have:i<1:=(List.getElem?_eq_some_iff.mp h1).1
    lia
   subst hi
   cases h1;cases h2
   refine ⟨he,?_⟩
   cases q:s.heap.get? e with
   |none=>rfl
   |some o'=>
    obtain ⟨Ig,z⟩:=A4 rfl post q
    rw [z] at hn;cases hn
def tr:=kg [17668620]
def NP:=kg [0x10ae5940a0a0a949a0c]
def NQ:=kg [0x1e6940a0a0a949a0c,sL,4463432937]
def NR:=kg [0x10a0a94e90a0ae6940ae6940a0a0a949a0c]
def NS:=kg [VH,68333]
def NT:=kg [VH,494,sL,4463432937]
def NU:=kg [VH,0x10a0a94e90a0ae6940aee]
def NV:=kg [76160503483502860]
def B6:=kg [VH,493]
def pQ:=kg [VH,0x19b0c0c910c0c0ae5940aee]
def pR:=kg [VH,0x19b0c0c910c0c0a0a0a94e90a0ae6940ae6940aee]
def pS:=kg [VH,8163429102,sL,0x19c0c0c910c0c0a0a0a94e9]
def NW:=kg [zO]
def B7:=kg [zO,267]
def ub:List Nat:=(rg 0 9++ [10,11])
abbrev vc (x0:Qa) (x2:Nat) (x3:kl) (x4:jF) (x5:Params) (x6:Int) (x7:Tok) (x8:Nat) (x9:Tok):=x0 0 x2 (cb "callable_iterator.__next__" [(rf x3.aI)]) [(x4.aL,x4.lex),(x4.aD,(x4.bc x5 x6 x7)),(x4.aS,x4.src),(x4.aE,(x4.b9 x5)),(x4.aF,x4.fn),(x4.aT,x4.code),(x4.bT,x4.cT),(x4.bU,x4.cA),(x4.bW,(j0 [(vn x8 x9)] x4.ay)),(x3.aM,(kl.bX x4)),(x3.aI,x3.cI)]
abbrev J6 (x0:jF) (x1:Params) (x2:Int) (x3:Tok) (x4:Nat) (x5:Tok) (x6:kl) (x7:Tok) (x8:Str) (x9:Tok) (aJ:Str) (aB:Tok):= [(x0.aL,x0.lex),(x0.aD,(x0.bc x1 x2 x3)),(x0.aS,x0.src),(x0.aE,(x0.b9 x1)),(x0.aF,x0.fn),(x0.aT,x0.code),(x0.bT,x0.cT),(x0.bU,x0.cA),(x0.bW,(j0 [(vn x4 x5)] x0.ay)),(x6.fr,(x6.cG x0 x1 x7 x8 x9 aJ aB)),(x6.aM,(kl.bX x0)),(x6.aI,x6.cI)]
abbrev YM (x0:jF) (x1:Params) (x2:Int) (x3:Tok) (x4:Nat) (x5:Tok) (x6:kl) (x7:Str) (x8:Tok):= [(x0.aL,x0.lex),(x0.aD,(x0.bc x1 x2 x3)),(x0.aS,x0.src),(x0.aE,(x0.b9 x1)),(x0.aF,x0.fn),(x0.aT,x0.code),(x0.bT,x0.cT),(x0.bU,x0.cA),(x0.bW,(j0 [(vn x4 x5)] x0.ay)),(x6.fr,(x6.xB x0 x1 x7 x8)),(x6.aM,(kl.bX x0)),(x6.aI,x6.cI)]
abbrev tu (x0:Qa) (x3:Nat→Addr) (x6:jF) (x7:Params) (x8:Int) (x9:Tok) (aJ:Nat) (aB:Tok) (bF:Nat→Tok):=x0 0 35 (jd uF (rf (x3 12)) (kA (x3 10))) [(x6.aL,x6.lex),(x6.aD,(x6.bc x7 x8 x9)),(x6.aS,x6.src),(x6.aE,(x6.b9 x7)),(x6.aF,x6.fn),(x6.aT,x6.code),(x6.bT,x6.cT),(x6.bU,x6.cA),(x6.bW,(j0 [(vn aJ aB)] x6.ay)),((x3 10),(dO "frame" [(de x7 [115,101,108,102] (bF 0) (rf x6.aL)),(de x7 [116,111,107,101,110] (bF 5) (vt (sl []) (bF 4))),(de x7 [102,105,116,101,114] (bF 8) (rf (x3 12)))] 3)),((x3 11),(fo "method" [(rf 42),(rf x6.aL)])),((x3 12),(fo "callable_iterator" [(rf (x3 11)),(vt (sl []) (bF 7)),(.bool false)]))]
abbrev ly (x0:Params) (x1:kl) (x2:jF) (x3:Str) (x4:Nat→Tok) (x5:Nat) (x7:Str):=dO "frame" [(de x0 [115,101,108,102] x1.f1 (rf x2.aL)),(de x0 [116,111,107,101,110] x1.f2 (vt x3 (x4 x5))),(de x0 [102,105,116,101,114] x1.f3 (rf x1.aI)),(de x0 [99,104] (x4 3) (vt x7 (x4 4)))] 4
abbrev Y0:=fo "callable_iterator" [.none,.none,(.bool true)]
abbrev tv (x0:jF) (x1:Params) (x2:Int) (x3:Tok) (x4:Nat) (x5:Tok) (x6:Nat):= [(x0.aL,x0.lex),(x0.aD,(x0.bc x1 x2 x3)),(x0.aS,x0.src),(x0.aE,(x0.b9 x1)),(x0.aF,x0.fn),(x0.aT,x0.code),(x0.bT,x0.cT),(x0.bU,x0.cA),(x0.bW,(j0 [(vn x4 x5)] x0.ay)),(x0.bw,(j0 [] x6))]
abbrev UW (x0:kl):=jd UH (rf x0.aI) (kA x0.fr)
abbrev Jp (x0:jF) (x1:Params) (x2:Int) (x3:Nat) (x4:Nat→Tok):=(x0.aD,(x0.bc x1 (x2+y7 x0.T x3) (x4 2)))
abbrev hZ (x0:Params) (x1:kl):=de x0 [102,105,116,101,114] x1.f3 (rf x1.aI)
abbrev UV (x0:kl):=jd uF (rf x0.aI) (kA x0.fr)
abbrev uB (x0:jF) (x1:Nat) (x2:Int):=JD x0.T x1 x2 x0.ay
abbrev VF (x0:Params) (x1:kl) (x2:jF):=de x0 [115,101,108,102] x1.f1 (rf x2.aL)
abbrev VG (x0:kl):=jd UG (rf x0.aI) (kA x0.fr)
abbrev vN (x0:Nat) (x1:Nat→Tok) (x2:Nat) (x3:jF):=j0 [(vn x0 (x1 x2))] x3.ay
section
variable (P:Params) (L:jF) (ai:Tok) (l:Int) (p:Nat) (tp:Tok) (G:kl) (a':Tok) (tk:Str) (bQ:Tok) (ch:Str) (f4:Tok) (aO:Str) (p1:Nat) (l1:Int) (c1:Str) (ae:Nat)
def NX:RD:=⟨(J6 L P l ai p tp G f4 tk a' ch bQ),[wi ub (Uw L.T p l L.ay)],mA 12 0 2 (fun a t=> .ok .next) (fun a t=> [id,fun _=>(L.bc P (l+y7 L.T p) (t 0)),id,id,id,id,id,id,fun _=>(j0 [(vn (jh L.T p) (t 1))] L.ay),id,id,fun _=>(Y0)]) (fun a t=> []),[],[2,1],[],1,fun q qT qS A K=> [vc q 29 G L P l ai p tp]⟩
theorem NY:GC P 30 (jd UG (rf G.aI) (kA G.fr)) (NX P L ai l p tp G a' tk bQ ch f4) (hk tr):=ua
def NZ:RD:=⟨(J6 L P l ai p tp G f4 tk a' ch bQ),[wi ub (uB L p l)],mA 12 0 3 (fun a t=> .ok .next) (fun a t=> [id,fun _=>(L.bc P (l+y7 L.T p) (t 0)),id,id,id,id,id,id,fun _=>(j0 [(vn (jh L.T p) (t 1))] L.ay),fun _=>(G.cG L P f4 tk a' (km L.T p) (t 2)),id,id]) (fun a t=> []),[],[2,1,0],[],2,fun q qT qS A K=> [vc q 30 G L P l ai p tp,((km L.T p).cps.toList==(sl [34]).cps.toList)=true]⟩
theorem N0:GT P 30 Fin (D (jd UG (rf G.aI) (kA G.fr))) (fun as ts=> .ok (.done (.ret (vt tk a')))) (NZ P L ai l p tp G a' tk bQ ch f4) (hk NP):=vq
def B8:RD:=⟨(J6 L P l ai p tp G f4 tk a' ch bQ),[wi ub (uB L p l),wi (rg 0 9) (U0 L.T (jh L.T p) (l+y7 L.T p) L.ay)],mA 12 0 4 (fun a t=> .ok .next) (fun a t=> [id,fun _=>(L.bc P ((l+y7 L.T p)+y7 L.T (jh L.T p)) (t 0)),id,id,id,id,id,id,fun _=>(j0 [(vn (jh L.T (jh L.T p)) (t 1))] L.ay),fun _=>(G.cG L P f4 (tk++(km L.T (jh L.T p))) (t 2) (km L.T (jh L.T p)) (t 3)),id,id]) (fun a t=> []),[],[8,7,10,6],[],5,fun q qT qS A K=> [vc q 30 G L P l ai p tp,((km L.T p).cps.toList==(sl [34]).cps.toList)=false,((km L.T p).cps.toList==(sl [92]).cps.toList)=true,q 1 30 (cr 42 [rf L.aL]) [(L.aL,L.lex),Jp L P l p K,(L.aS,L.src),(L.aE,(L.b9 P)),(L.aF,L.fn),(L.aT,L.code),(L.bT,L.cT),(L.bU,L.cA),(L.bW,(j0 [vn (jh L.T p) (K 1)] L.ay))],(tk++(km L.T (jh L.T p))).length≤sizeLine]⟩
abbrev N1 (P:Params) (L:jF) (ai:Tok) (l:Int) (p:Nat) (tp:Tok) (G:kl) (a':Tok) (tk:Str) (bQ:Tok) (ch:Str) (f4:Tok):jZ:=(B8 P L ai l p tp G a' tk bQ ch f4).an
abbrev N2 (P:Params) (L:jF) (ai:Tok) (l:Int) (p:Nat) (tp:Tok) (G:kl) (a':Tok) (tk:Str) (bQ:Tok) (ch:Str) (f4:Tok):List Addr→List Tok→Except Value Fin:=(fun as ts=> .ok (.again (VG G)))
theorem N3:GT P 30 Fin (D (jd UG (rf G.aI) (kA G.fr))) (fun as ts=> .ok (.again (VG G))) (B8 P L ai l p tp G a' tk bQ ch f4) (hk NQ):=vq
def N4:RD:=⟨(J6 L P l ai p tp G f4 tk a' ch bQ),[wi ub (uB L p l)],mA 12 0 4 (fun a t=> .ok .next) (fun a t=> [id,fun _=>(L.bc P (l+y7 L.T p) (t 0)),id,id,id,id,id,id,fun _=>(j0 [(vn (jh L.T p) (t 1))] L.ay),fun _=>(G.cG L P f4 (tk++(km L.T p)) (t 2) (km L.T p) (t 3)),id,id]) (fun a t=> []),[],[2,1,6,0],[],4,fun q qT qS A K=> [vc q 30 G L P l ai p tp,((km L.T p).cps.toList==(sl [34]).cps.toList)=false,((km L.T p).cps.toList==(sl [92]).cps.toList)=false,(tk++(km L.T p)).length≤sizeLine]⟩
theorem N5:GT P 30 Fin (D (jd UG (rf G.aI) (kA G.fr))) (fun as ts=> .ok (.again (VG G))) (N4 P L ai l p tp G a' tk bQ ch f4) (hk NR):=vq
def N6:RD:=⟨(J6 L P l ai p tp G f4 tk a' ch bQ),[wi ub (Uw L.T p l L.ay)],mA 12 0 2 (fun a t=> .ok .next) (fun a t=> [id,fun _=>(L.bc P (l+y7 L.T p) (t 0)),id,id,id,id,id,id,fun _=>(j0 [(vn (jh L.T p) (t 1))] L.ay),id,id,fun _=>(Y0)]) (fun a t=> []),[],[2,1],[],1,fun q qT qS A K=> [vc q 29 G L P l ai p tp]⟩
theorem N7:GC P 30 (jd UH (rf G.aI) (kA G.fr)) (N6 P L ai l p tp G a' tk bQ ch f4) (hk tr):=ua
def N8:RD:=⟨(J6 L P l ai p tp G f4 tk a' ch bQ),[wi ub (uB L p l)],mA 12 0 3 (fun a t=> .ok .next) (fun a t=> [id,fun _=>(L.bc P (l+y7 L.T p) (t 0)),id,id,id,id,id,id,fun _=>(j0 [(vn (jh L.T p) (t 1))] L.ay),fun _=>(G.cG L P f4 tk a' (km L.T p) (t 2)),id,id]) (fun a t=> []),[],[2,1,0],[],2,fun q qT qS A K=> [vc q 30 G L P l ai p tp,(!(Builtin.Str.occurrences (sl [10,9,13,32]) (km L.T p) 0 (sl [10,9,13,32]).length 1).isEmpty)=true]⟩
theorem N9:GT P 30 Fin (D (jd UH (rf G.aI) (kA G.fr))) (fun as ts=> .ok (.done (.ret (vt tk a')))) (N8 P L ai l p tp G a' tk bQ ch f4) (hk NS):=vq
def B9:RD:=⟨(J6 L P l ai p tp G f4 tk a' ch bQ),[wi ub (uB L p l),wi (rg 0 9) (U0 L.T (jh L.T p) (l+y7 L.T p) L.ay)],mA 12 0 4 (fun a t=> .ok .next) (fun a t=> [id,fun _=>(L.bc P ((l+y7 L.T p)+y7 L.T (jh L.T p)) (t 0)),id,id,id,id,id,id,fun _=>(j0 [(vn (jh L.T (jh L.T p)) (t 1))] L.ay),fun _=>(G.cG L P f4 (tk++(km L.T (jh L.T p))) (t 2) (km L.T (jh L.T p)) (t 3)),id,id]) (fun a t=> []),[],[8,7,10,6],[],5,fun q qT qS A K=> [vc q 30 G L P l ai p tp,(!(Builtin.Str.occurrences (sl [10,9,13,32]) (km L.T p) 0 (sl [10,9,13,32]).length 1).isEmpty)=false,((km L.T p).cps.toList==(sl [92]).cps.toList)=true,q 1 30 (cr 42 [rf L.aL]) [(L.aL,L.lex),Jp L P l p K,(L.aS,L.src),(L.aE,(L.b9 P)),(L.aF,L.fn),(L.aT,L.code),(L.bT,L.cT),(L.bU,L.cA),(L.bW,(j0 [vn (jh L.T p) (K 1)] L.ay))],(tk++(km L.T (jh L.T p))).length≤sizeLine]⟩
abbrev N' (P:Params) (L:jF) (ai:Tok) (l:Int) (p:Nat) (tp:Tok) (G:kl) (a':Tok) (tk:Str) (bQ:Tok) (ch:Str) (f4:Tok):jZ:=(B9 P L ai l p tp G a' tk bQ ch f4).an
abbrev Oa (P:Params) (L:jF) (ai:Tok) (l:Int) (p:Nat) (tp:Tok) (G:kl) (a':Tok) (tk:Str) (bQ:Tok) (ch:Str) (f4:Tok):List Addr→List Tok→Except Value Fin:=(fun as ts=> .ok (.again (UW G)))
theorem Ob:GT P 30 Fin (D (jd UH (rf G.aI) (kA G.fr))) (fun as ts=> .ok (.again (UW G))) (B9 P L ai l p tp G a' tk bQ ch f4) (hk NT):=vq
def Oc:RD:=⟨(J6 L P l ai p tp G f4 tk a' ch bQ),[wi ub (uB L p l)],mA 12 0 4 (fun a t=> .ok .next) (fun a t=> [id,fun _=>(L.bc P (l+y7 L.T p) (t 0)),id,id,id,id,id,id,fun _=>(j0 [(vn (jh L.T p) (t 1))] L.ay),fun _=>(G.cG L P f4 (tk++(km L.T p)) (t 2) (km L.T p) (t 3)),id,id]) (fun a t=> []),[],[2,1,6,0],[],4,fun q qT qS A K=> [vc q 30 G L P l ai p tp,(!(Builtin.Str.occurrences (sl [10,9,13,32]) (km L.T p) 0 (sl [10,9,13,32]).length 1).isEmpty)=false,((km L.T p).cps.toList==(sl [92]).cps.toList)=false,(tk++(km L.T p)).length≤sizeLine]⟩
theorem Od:GT P 30 Fin (D (jd UH (rf G.aI) (kA G.fr))) (fun as ts=> .ok (.again (UW G))) (Oc P L ai l p tp G a' tk bQ ch f4) (hk NU):=vq
def Oe:RD:=⟨(YM L P l ai p tp G tk a'),[wi ub (Uw L.T p l L.ay)],mA 12 0 2 (fun a t=> .ok .next) (fun a t=> [id,fun _=>(L.bc P (l+y7 L.T p) (t 0)),id,id,id,id,id,id,fun _=>(j0 [(vn (jh L.T p) (t 1))] L.ay),id,id,fun _=>(Y0)]) (fun a t=> []),[],[2,1],[],1,fun q qT qS A K=> [vc q 31 G L P l ai p tp]⟩
theorem Of:GC P 32 (jd uF (rf G.aI) (kA G.fr)) (Oe P L ai l p tp G a' tk) (hk tr):=ua
def B':RD:=⟨[(L.aL,L.lex),(L.aD,(L.bc P l ai)),(L.aS,L.src),(L.aE,(L.b9 P)),(L.aF,L.fn),(L.aT,L.code),(L.bT,L.cT),(L.bU,L.cA),(L.bW,(j0 [vn p tp] L.ay)),(G.fr,(G.cG L P f4 tk a' ch bQ)),(G.aM,(kl.bX L)),(G.aI,YI)],[],mA 12 0 0 (fun a t=> .ok .next) (fun a t=>(List.replicate 12 id)) (fun a t=> []),[],[],[],0,fun q qT qS A K=> []⟩
abbrev Vz (P:Params) (L:jF) (ai:Tok) (l:Int) (p:Nat) (tp:Tok) (G:kl) (a':Tok) (tk:Str) (bQ:Tok) (ch:Str) (f4:Tok):jZ:=(B' P L ai l p tp G a' tk bQ ch f4).an
theorem Og:GC P 32 (jd uF (rf G.aI) (kA G.fr)) (B' P L ai l p tp G a' tk bQ ch f4) (hk NV):=ua
def Ca:RD:=⟨(YM L P l ai p tp G tk a'),[wi ub (uB L p l)],mA 12 0 4 (fun a t=> .ok .next) (fun a t=> [id,fun _=>(L.bc P (l+y7 L.T p) (t 0)),id,id,id,id,id,id,fun _=>(j0 [(vn (jh L.T p) (t 1))] L.ay),fun _=>(dO "frame" [(VF P G L),(de P [116,111,107,101,110] G.f2 (vt tk a')),(hZ P G),(de P [99,104] (t 2) (vt (km L.T p) (t 3)))] 4),id,id]) (fun a t=> []),[],[2,1,3,0],[],2,fun q qT qS A K=> [vc q 32 G L P l ai p tp,(!(Builtin.Str.occurrences (sl [10,9,13,32]) (km L.T p) 0 (sl [10,9,13,32]).length 1).isEmpty)=true]⟩
abbrev Oh (P:Params) (L:jF) (ai:Tok) (l:Int) (p:Nat) (tp:Tok) (G:kl) (a':Tok) (tk:Str):jZ:=(Ca P L ai l p tp G a' tk).an
theorem Oi:GT P 32 Fin (D (jd uF (rf G.aI) (kA G.fr))) (fun as ts=> .ok (.again (UV G))) (Ca P L ai l p tp G a' tk) (hk B6):=vq
def jmp:RD:=⟨(YM L P l ai p tp G tk a'),[wi ub (uB L p l),wi (rg 0 12) (Vr aO p1 l1 c1 L.ay)],mA 12 0 5 (fun a t=> .ok .next) (fun a t=> [id,fun _=>(L.bc P l1 (t 1)),id,id,id,id,id,id,fun _=>(vN p1 t 2 L),fun _=>(ly P G L aO t 0 c1),id,id]) (fun a t=> []),[],[6,8,7,3,9],[],4,fun q qT qS A K=> [vc q 32 G L P l ai p tp,(!(Builtin.Str.occurrences (sl [10,9,13,32]) (km L.T p) 0 (sl [10,9,13,32]).length 1).isEmpty)=false,((km L.T p).cps.toList==(sl [34]).cps.toList)=true,q 1 32 (VG G) [(L.aL,L.lex),Jp L P l p K,(L.aS,L.src),(L.aE,(L.b9 P)),(L.aF,L.fn),(L.aT,L.code),(L.bT,L.cT),(L.bU,L.cA),(L.bW,(j0 [vn (jh L.T p) (K 1)] L.ay)),(G.fr,(dO "frame" [VF P G L,de P [116,111,107,101,110] G.f2 (vt tk a'),hZ P G,de P [99,104] (K 3) (vt (km L.T p) (K 0))] 4)),(G.aM,(kl.bX L)),(G.aI,G.cI)]]⟩
theorem Oj:GT P 32 Fin (D (jd uF (rf G.aI) (kA G.fr))) (fun as ts=> .ok (.done (.ret (vt aO (ts.getD 0 0))))) (jmp P L ai l p tp G a' tk aO p1 l1 c1) (hk pQ):=vq
def Ol:RD:=⟨(YM L P l ai p tp G tk a'),[wi ub (uB L p l),wi (rg 0 12) (Vq aO p1 l1 c1 L.ay)],mA 12 0 5 (fun a t=> .ok .next) (fun a t=> [id,fun _=>(L.bc P l1 (t 0)),id,id,id,id,id,id,fun _=>(vN p1 t 1 L),fun _=>(ly P G L aO t 2 c1),id,fun _=>(Y0)]) (fun a t=> []),[],[8,7,6,3,9],[],4,fun q qT qS A K=> [vc q 32 G L P l ai p tp,(!(Builtin.Str.occurrences (sl [10,9,13,32]) (km L.T p) 0 (sl [10,9,13,32]).length 1).isEmpty)=false,((km L.T p).cps.toList==(sl [34]).cps.toList)=true,q 1 32 (VG G) [(L.aL,L.lex),Jp L P l p K,(L.aS,L.src),(L.aE,(L.b9 P)),(L.aF,L.fn),(L.aT,L.code),(L.bT,L.cT),(L.bU,L.cA),(L.bW,(j0 [vn (jh L.T p) (K 1)] L.ay)),(G.fr,(dO "frame" [VF P G L,de P [116,111,107,101,110] G.f2 (vt tk a'),hZ P G,de P [99,104] (K 3) (vt (km L.T p) (K 0))] 4)),(G.aM,(kl.bX L)),(G.aI,G.cI)]]⟩
theorem Om:GT P 32 Fin (D (jd uF (rf G.aI) (kA G.fr))) (fun as ts=> .ok (.again (UV G))) (Ol P L ai l p tp G a' tk aO p1 l1 c1) (hk pQ):=vq
def Oo:RD:=⟨(YM L P l ai p tp G tk a'),[wi ub (uB L p l),wi (rg 0 12) (Vr aO p1 l1 c1 L.ay)],mA 12 0 5 (fun a t=> .ok .next) (fun a t=> [id,fun _=>(L.bc P l1 (t 1)),id,id,id,id,id,id,fun _=>(vN p1 t 2 L),fun _=>(ly P G L aO t 0 c1),id,id]) (fun a t=> []),[],[9,11,10,3,12],[],6,fun q qT qS A K=> [vc q 32 G L P l ai p tp,(!(Builtin.Str.occurrences (sl [10,9,13,32]) (km L.T p) 0 (sl [10,9,13,32]).length 1).isEmpty)=false,((km L.T p).cps.toList==(sl [34]).cps.toList)=false,((km L.T p).cps.toList==(sl [92]).cps.toList)=false,(tk++(km L.T p)).length≤sizeLine,q 1 32 (UW G) [(L.aL,L.lex),Jp L P l p K,(L.aS,L.src),(L.aE,(L.b9 P)),(L.aF,L.fn),(L.aT,L.code),(L.bT,L.cT),(L.bU,L.cA),(L.bW,(j0 [vn (jh L.T p) (K 1)] L.ay)),(G.fr,(dO "frame" [VF P G L,de P [116,111,107,101,110] G.f2 (vt (tk++(km L.T p)) (K 7)),hZ P G,de P [99,104] (K 3) (vt (km L.T p) (K 0))] 4)),(G.aM,(kl.bX L)),(G.aI,G.cI)]]⟩
theorem Oq:GT P 32 Fin (D (jd uF (rf G.aI) (kA G.fr))) (fun as ts=> .ok (.done (.ret (vt aO (ts.getD 0 0))))) (Oo P L ai l p tp G a' tk aO p1 l1 c1) (hk pR):=vq
def Ot:RD:=⟨(YM L P l ai p tp G tk a'),[wi ub (uB L p l),wi (rg 0 12) (Vq aO p1 l1 c1 L.ay)],mA 12 0 5 (fun a t=> .ok .next) (fun a t=> [id,fun _=>(L.bc P l1 (t 0)),id,id,id,id,id,id,fun _=>(vN p1 t 1 L),fun _=>(ly P G L aO t 2 c1),id,fun _=>(Y0)]) (fun a t=> []),[],[11,10,9,3,12],[],6,fun q qT qS A K=> [vc q 32 G L P l ai p tp,(!(Builtin.Str.occurrences (sl [10,9,13,32]) (km L.T p) 0 (sl [10,9,13,32]).length 1).isEmpty)=false,((km L.T p).cps.toList==(sl [34]).cps.toList)=false,((km L.T p).cps.toList==(sl [92]).cps.toList)=false,(tk++(km L.T p)).length≤sizeLine,q 1 32 (UW G) [(L.aL,L.lex),Jp L P l p K,(L.aS,L.src),(L.aE,(L.b9 P)),(L.aF,L.fn),(L.aT,L.code),(L.bT,L.cT),(L.bU,L.cA),(L.bW,(j0 [vn (jh L.T p) (K 1)] L.ay)),(G.fr,(dO "frame" [VF P G L,de P [116,111,107,101,110] G.f2 (vt (tk++(km L.T p)) (K 7)),hZ P G,de P [99,104] (K 3) (vt (km L.T p) (K 0))] 4)),(G.aM,(kl.bX L)),(G.aI,G.cI)]]⟩
theorem Ou:GT P 32 Fin (D (jd uF (rf G.aI) (kA G.fr))) (fun as ts=> .ok (.again (UV G))) (Ot P L ai l p tp G a' tk aO p1 l1 c1) (hk pR):=vq
def Ov:RD:=⟨(YM L P l ai p tp G tk a'),[wi ub (uB L p l),wi (rg 0 9) (U0 L.T (jh L.T p) (l+y7 L.T p) L.ay),wi (rg 0 12) (Vr aO p1 l1 c1 L.ay)],mA 12 0 5 (fun a t=> .ok .next) (fun a t=> [id,fun _=>(L.bc P l1 (t 1)),id,id,id,id,id,id,fun _=>(vN p1 t 2 L),fun _=>(ly P G L aO t 0 c1),id,id]) (fun a t=> []),[],[13,15,14,3,16],[],7,fun q qT qS A K=> [vc q 32 G L P l ai p tp,(!(Builtin.Str.occurrences (sl [10,9,13,32]) (km L.T p) 0 (sl [10,9,13,32]).length 1).isEmpty)=false,((km L.T p).cps.toList==(sl [34]).cps.toList)=false,((km L.T p).cps.toList==(sl [92]).cps.toList)=true,q 1 32 (cr 42 [rf L.aL]) [(L.aL,L.lex),Jp L P l p K,(L.aS,L.src),(L.aE,(L.b9 P)),(L.aF,L.fn),(L.aT,L.code),(L.bT,L.cT),(L.bU,L.cA),(L.bW,(j0 [vn (jh L.T p) (K 1)] L.ay))],(tk++(km L.T (jh L.T p))).length≤sizeLine,q 2 32 (UW G) [(L.aL,L.lex),(L.aD,(L.bc P ((l+y7 L.T p)+y7 L.T (jh L.T p)) (K 9))),(L.aS,L.src),(L.aE,(L.b9 P)),(L.aF,L.fn),(L.aT,L.code),(L.bT,L.cT),(L.bU,L.cA),(L.bW,(j0 [vn (jh L.T (jh L.T p)) (K 8)] L.ay)),(G.fr,(dO "frame" [VF P G L,de P [116,111,107,101,110] G.f2 (vt (tk++(km L.T (jh L.T p))) (K 11)),hZ P G,de P [99,104] (K 3) (vt (km L.T (jh L.T p)) (K 7))] 4)),(G.aM,(kl.bX L)),(G.aI,G.cI)]]⟩
theorem Ow:GT P 32 Fin (D (jd uF (rf G.aI) (kA G.fr))) (fun as ts=> .ok (.done (.ret (vt aO (ts.getD 0 0))))) (Ov P L ai l p tp G a' tk aO p1 l1 c1) (hk pS):=vq
def Ox:RD:=⟨(YM L P l ai p tp G tk a'),[wi ub (uB L p l),wi (rg 0 9) (U0 L.T (jh L.T p) (l+y7 L.T p) L.ay),wi (rg 0 12) (Vq aO p1 l1 c1 L.ay)],mA 12 0 5 (fun a t=> .ok .next) (fun a t=> [id,fun _=>(L.bc P l1 (t 0)),id,id,id,id,id,id,fun _=>(vN p1 t 1 L),fun _=>(ly P G L aO t 2 c1),id,fun _=>(Y0)]) (fun a t=> []),[],[15,14,13,3,16],[],7,fun q qT qS A K=> [vc q 32 G L P l ai p tp,(!(Builtin.Str.occurrences (sl [10,9,13,32]) (km L.T p) 0 (sl [10,9,13,32]).length 1).isEmpty)=false,((km L.T p).cps.toList==(sl [34]).cps.toList)=false,((km L.T p).cps.toList==(sl [92]).cps.toList)=true,q 1 32 (cr 42 [rf L.aL]) [(L.aL,L.lex),Jp L P l p K,(L.aS,L.src),(L.aE,(L.b9 P)),(L.aF,L.fn),(L.aT,L.code),(L.bT,L.cT),(L.bU,L.cA),(L.bW,(j0 [vn (jh L.T p) (K 1)] L.ay))],(tk++(km L.T (jh L.T p))).length≤sizeLine,q 2 32 (UW G) [(L.aL,L.lex),(L.aD,(L.bc P ((l+y7 L.T p)+y7 L.T (jh L.T p)) (K 9))),(L.aS,L.src),(L.aE,(L.b9 P)),(L.aF,L.fn),(L.aT,L.code),(L.bT,L.cT),(L.bU,L.cA),(L.bW,(j0 [vn (jh L.T (jh L.T p)) (K 8)] L.ay)),(G.fr,(dO "frame" [VF P G L,de P [116,111,107,101,110] G.f2 (vt (tk++(km L.T (jh L.T p))) (K 11)),hZ P G,de P [99,104] (K 3) (vt (km L.T (jh L.T p)) (K 7))] 4)),(G.aM,(kl.bX L)),(G.aI,G.cI)]]⟩
theorem Oy:GT P 32 Fin (D (jd uF (rf G.aI) (kA G.fr))) (fun as ts=> .ok (.again (UV G))) (Ox P L ai l p tp G a' tk aO p1 l1 c1) (hk pS):=vq
def Oz:RD:=⟨(J6 L P l ai p tp G f4 tk a' ch bQ),[wi ub (uB L p l)],mA 12 0 3 (fun a t=> .ok .next) (fun a t=> [id,fun _=>(L.bc P (l+y7 L.T p) (t 0)),id,id,id,id,id,id,fun _=>(j0 [(vn (jh L.T p) (t 1))] L.ay),fun _=>(G.cG L P f4 tk a' (km L.T p) (t 2)),id,id]) (fun a t=> []),[],[2,1,0],[],2,fun q qT qS A K=> [vc q 32 G L P l ai p tp,(!(Builtin.Str.occurrences (sl [10,9,13,32]) (km L.T p) 0 (sl [10,9,13,32]).length 1).isEmpty)=true]⟩
theorem OA:GT P 32 Fin (D (jd uF (rf G.aI) (kA G.fr))) (fun as ts=> .ok (.again (UV G))) (Oz P L ai l p tp G a' tk bQ ch f4) (hk B6):=vq
def OB:RD:=⟨(J6 L P l ai p tp G f4 tk a' ch bQ),[wi ub (uB L p l),wi (rg 0 12) (Vr aO p1 l1 c1 L.ay)],mA 12 0 4 (fun a t=> .ok .next) (fun a t=> [id,fun _=>(L.bc P l1 (t 1)),id,id,id,id,id,id,fun _=>(vN p1 t 2 L),fun _=>(G.cG L P f4 aO (t 0) c1 (t 3)),id,id]) (fun a t=> []),[],[6,8,7,9],[],4,fun q qT qS A K=> [vc q 32 G L P l ai p tp,(!(Builtin.Str.occurrences (sl [10,9,13,32]) (km L.T p) 0 (sl [10,9,13,32]).length 1).isEmpty)=false,((km L.T p).cps.toList==(sl [34]).cps.toList)=true,q 1 32 (VG G) [(L.aL,L.lex),Jp L P l p K,(L.aS,L.src),(L.aE,(L.b9 P)),(L.aF,L.fn),(L.aT,L.code),(L.bT,L.cT),(L.bU,L.cA),(L.bW,(j0 [vn (jh L.T p) (K 1)] L.ay)),(G.fr,(G.cG L P f4 tk a' (km L.T p) (K 0))),(G.aM,(kl.bX L)),(G.aI,G.cI)]]⟩
theorem OC:GT P 32 Fin (D (jd uF (rf G.aI) (kA G.fr))) (fun as ts=> .ok (.done (.ret (vt aO (ts.getD 0 0))))) (OB P L ai l p tp G a' tk bQ ch f4 aO p1 l1 c1) (hk pQ):=vq
def OD:RD:=⟨(J6 L P l ai p tp G f4 tk a' ch bQ),[wi ub (uB L p l),wi (rg 0 12) (Vq aO p1 l1 c1 L.ay)],mA 12 0 4 (fun a t=> .ok .next) (fun a t=> [id,fun _=>(L.bc P l1 (t 0)),id,id,id,id,id,id,fun _=>(vN p1 t 1 L),fun _=>(G.cG L P f4 aO (t 2) c1 (t 3)),id,fun _=>(Y0)]) (fun a t=> []),[],[8,7,6,9],[],4,fun q qT qS A K=> [vc q 32 G L P l ai p tp,(!(Builtin.Str.occurrences (sl [10,9,13,32]) (km L.T p) 0 (sl [10,9,13,32]).length 1).isEmpty)=false,((km L.T p).cps.toList==(sl [34]).cps.toList)=true,q 1 32 (VG G) [(L.aL,L.lex),Jp L P l p K,(L.aS,L.src),(L.aE,(L.b9 P)),(L.aF,L.fn),(L.aT,L.code),(L.bT,L.cT),(L.bU,L.cA),(L.bW,(j0 [vn (jh L.T p) (K 1)] L.ay)),(G.fr,(G.cG L P f4 tk a' (km L.T p) (K 0))),(G.aM,(kl.bX L)),(G.aI,G.cI)]]⟩
theorem OG:GT P 32 Fin (D (jd uF (rf G.aI) (kA G.fr))) (fun as ts=> .ok (.again (UV G))) (OD P L ai l p tp G a' tk bQ ch f4 aO p1 l1 c1) (hk pQ):=vq
def OH:RD:=⟨(J6 L P l ai p tp G f4 tk a' ch bQ),[wi ub (uB L p l),wi (rg 0 12) (Vr aO p1 l1 c1 L.ay)],mA 12 0 4 (fun a t=> .ok .next) (fun a t=> [id,fun _=>(L.bc P l1 (t 1)),id,id,id,id,id,id,fun _=>(vN p1 t 2 L),fun _=>(G.cG L P f4 aO (t 0) c1 (t 3)),id,id]) (fun a t=> []),[],[9,11,10,12],[],6,fun q qT qS A K=> [vc q 32 G L P l ai p tp,(!(Builtin.Str.occurrences (sl [10,9,13,32]) (km L.T p) 0 (sl [10,9,13,32]).length 1).isEmpty)=false,((km L.T p).cps.toList==(sl [34]).cps.toList)=false,((km L.T p).cps.toList==(sl [92]).cps.toList)=false,(tk++(km L.T p)).length≤sizeLine,q 1 32 (UW G) [(L.aL,L.lex),Jp L P l p K,(L.aS,L.src),(L.aE,(L.b9 P)),(L.aF,L.fn),(L.aT,L.code),(L.bT,L.cT),(L.bU,L.cA),(L.bW,(j0 [vn (jh L.T p) (K 1)] L.ay)),(G.fr,(G.cG L P f4 (tk++(km L.T p)) (K 7) (km L.T p) (K 0))),(G.aM,(kl.bX L)),(G.aI,G.cI)]]⟩
theorem OI:GT P 32 Fin (D (jd uF (rf G.aI) (kA G.fr))) (fun as ts=> .ok (.done (.ret (vt aO (ts.getD 0 0))))) (OH P L ai l p tp G a' tk bQ ch f4 aO p1 l1 c1) (hk pR):=vq
def OJ:RD:=⟨(J6 L P l ai p tp G f4 tk a' ch bQ),[wi ub (uB L p l),wi (rg 0 12) (Vq aO p1 l1 c1 L.ay)],mA 12 0 4 (fun a t=> .ok .next) (fun a t=> [id,fun _=>(L.bc P l1 (t 0)),id,id,id,id,id,id,fun _=>(vN p1 t 1 L),fun _=>(G.cG L P f4 aO (t 2) c1 (t 3)),id,fun _=>(Y0)]) (fun a t=> []),[],[11,10,9,12],[],6,fun q qT qS A K=> [vc q 32 G L P l ai p tp,(!(Builtin.Str.occurrences (sl [10,9,13,32]) (km L.T p) 0 (sl [10,9,13,32]).length 1).isEmpty)=false,((km L.T p).cps.toList==(sl [34]).cps.toList)=false,((km L.T p).cps.toList==(sl [92]).cps.toList)=false,(tk++(km L.T p)).length≤sizeLine,q 1 32 (UW G) [(L.aL,L.lex),Jp L P l p K,(L.aS,L.src),(L.aE,(L.b9 P)),(L.aF,L.fn),(L.aT,L.code),(L.bT,L.cT),(L.bU,L.cA),(L.bW,(j0 [vn (jh L.T p) (K 1)] L.ay)),(G.fr,(G.cG L P f4 (tk++(km L.T p)) (K 7) (km L.T p) (K 0))),(G.aM,(kl.bX L)),(G.aI,G.cI)]]⟩
theorem OL:GT P 32 Fin (D (jd uF (rf G.aI) (kA G.fr))) (fun as ts=> .ok (.again (UV G))) (OJ P L ai l p tp G a' tk bQ ch f4 aO p1 l1 c1) (hk pR):=vq
def OM:RD:=⟨(J6 L P l ai p tp G f4 tk a' ch bQ),[wi ub (uB L p l),wi (rg 0 9) (U0 L.T (jh L.T p) (l+y7 L.T p) L.ay),wi (rg 0 12) (Vr aO p1 l1 c1 L.ay)],mA 12 0 4 (fun a t=> .ok .next) (fun a t=> [id,fun _=>(L.bc P l1 (t 1)),id,id,id,id,id,id,fun _=>(vN p1 t 2 L),fun _=>(G.cG L P f4 aO (t 0) c1 (t 3)),id,id]) (fun a t=> []),[],[13,15,14,16],[],7,fun q qT qS A K=> [vc q 32 G L P l ai p tp,(!(Builtin.Str.occurrences (sl [10,9,13,32]) (km L.T p) 0 (sl [10,9,13,32]).length 1).isEmpty)=false,((km L.T p).cps.toList==(sl [34]).cps.toList)=false,((km L.T p).cps.toList==(sl [92]).cps.toList)=true,q 1 32 (cr 42 [rf L.aL]) [(L.aL,L.lex),Jp L P l p K,(L.aS,L.src),(L.aE,(L.b9 P)),(L.aF,L.fn),(L.aT,L.code),(L.bT,L.cT),(L.bU,L.cA),(L.bW,(j0 [vn (jh L.T p) (K 1)] L.ay))],(tk++(km L.T (jh L.T p))).length≤sizeLine,q 2 32 (UW G) [(L.aL,L.lex),(L.aD,(L.bc P ((l+y7 L.T p)+y7 L.T (jh L.T p)) (K 9))),(L.aS,L.src),(L.aE,(L.b9 P)),(L.aF,L.fn),(L.aT,L.code),(L.bT,L.cT),(L.bU,L.cA),(L.bW,(j0 [vn (jh L.T (jh L.T p)) (K 8)] L.ay)),(G.fr,(G.cG L P f4 (tk++(km L.T (jh L.T p))) (K 11) (km L.T (jh L.T p)) (K 7))),(G.aM,(kl.bX L)),(G.aI,G.cI)]]⟩
theorem OO:GT P 32 Fin (D (jd uF (rf G.aI) (kA G.fr))) (fun as ts=> .ok (.done (.ret (vt aO (ts.getD 0 0))))) (OM P L ai l p tp G a' tk bQ ch f4 aO p1 l1 c1) (hk pS):=vq
def OQ:RD:=⟨(J6 L P l ai p tp G f4 tk a' ch bQ),[wi ub (uB L p l),wi (rg 0 9) (U0 L.T (jh L.T p) (l+y7 L.T p) L.ay),wi (rg 0 12) (Vq aO p1 l1 c1 L.ay)],mA 12 0 4 (fun a t=> .ok .next) (fun a t=> [id,fun _=>(L.bc P l1 (t 0)),id,id,id,id,id,id,fun _=>(vN p1 t 1 L),fun _=>(G.cG L P f4 aO (t 2) c1 (t 3)),id,fun _=>(Y0)]) (fun a t=> []),[],[15,14,13,16],[],7,fun q qT qS A K=> [vc q 32 G L P l ai p tp,(!(Builtin.Str.occurrences (sl [10,9,13,32]) (km L.T p) 0 (sl [10,9,13,32]).length 1).isEmpty)=false,((km L.T p).cps.toList==(sl [34]).cps.toList)=false,((km L.T p).cps.toList==(sl [92]).cps.toList)=true,q 1 32 (cr 42 [rf L.aL]) [(L.aL,L.lex),Jp L P l p K,(L.aS,L.src),(L.aE,(L.b9 P)),(L.aF,L.fn),(L.aT,L.code),(L.bT,L.cT),(L.bU,L.cA),(L.bW,(j0 [vn (jh L.T p) (K 1)] L.ay))],(tk++(km L.T (jh L.T p))).length≤sizeLine,q 2 32 (UW G) [(L.aL,L.lex),(L.aD,(L.bc P ((l+y7 L.T p)+y7 L.T (jh L.T p)) (K 9))),(L.aS,L.src),(L.aE,(L.b9 P)),(L.aF,L.fn),(L.aT,L.code),(L.bT,L.cT),(L.bU,L.cA),(L.bW,(j0 [vn (jh L.T (jh L.T p)) (K 8)] L.ay)),(G.fr,(G.cG L P f4 (tk++(km L.T (jh L.T p))) (K 11) (km L.T (jh L.T p)) (K 7))),(G.aM,(kl.bX L)),(G.aI,G.cI)]]⟩
theorem OS:GT P 32 Fin (D (jd uF (rf G.aI) (kA G.fr))) (fun as ts=> .ok (.again (UV G))) (OQ P L ai l p tp G a' tk bQ ch f4 aO p1 l1 c1) (hk pS):=vq
def OT:RD:=⟨(tv L P l ai p tp ae),[wi (rg 0 9++ [10,11,12]) (xE P aO p1 l1 c1 L.ay)],mA 10 0 3 (fun a t=> .ok (.ret (vt aO (t 0)))) (fun a t=> [id,fun _=>(L.bc P l1 (t 1)),id,id,id,id,id,id,fun _=>(vN p1 t 2 L),id]) (fun a t=> []),[],[9,11,10],[],1,fun q qT qS A K=> [tu q A L P l ai p tp K]⟩
theorem OU:GF P 35 49 [rf L.aL] (iK P) (OT P L ai l p tp aO p1 l1 c1 ae) (hk NW):=kF
def OV:RD:=⟨(tv L P l ai p tp ae),[wi (rg 0 9++ [10,11,12]) (xF P aO p1 l1 c1 L.ay)],mA 10 0 3 (fun a t=> .ok (.ret (vt aO (t 0)))) (fun a t=> [id,fun _=>(L.bc P l1 (t 1)),id,id,id,id,id,id,fun _=>(vN p1 t 2 L),id]) (fun a t=> []),[],[9,11,10],[],1,fun q qT qS A K=> [tu q A L P l ai p tp K]⟩
theorem OW:GF P 35 49 [rf L.aL] (iK P) (OV P L ai l p tp aO p1 l1 c1 ae) (hk B7):=kF
def OX:RD:=⟨(tv L P l ai p tp ae),[wi (rg 0 9++ [10,11,12]) (xG p1 l1 L.ay)],mA 10 0 3 (fun a t=> .ok (.ret (vt (sl []) (t 0)))) (fun a t=> [id,fun _=>(L.bc P l1 (t 1)),id,id,id,id,id,id,fun _=>(vN p1 t 2 L),id]) (fun a t=> []),[],[4,10,9],[],1,fun q qT qS A K=> [tu q A L P l ai p tp K]⟩
theorem OY:GF P 35 49 [rf L.aL] (iK P) (OX P L ai l p tp p1 l1 ae) (hk B7):=kF
end
def tl (T:Str):List Nat:=T.cps.toList
theorem nc (T:Str):T.length=(tl T).length:=rfl
noncomputable def nl (c:Nat):Int:=if c=10 then 1 else 0
theorem ul {T:Str} {p c:Nat} {u:List Nat} (h:(tl T).drop p=c::u):km T p=⟨#[c]⟩∧jh T p=p+1∧(tl T).drop (p+1)=u∧p+1≤T.length∧y7 T p=nl c:=by
 have hl:p<(tl T).length:=by
  rcases Nat.lt_or_ge p (tl T).length with q|q
  ·exact q
  ·rw [List.drop_eq_nil_of_le q] at h;cases h
 have e1:km T p=⟨#[c]⟩:=by
  unfold km cut
  have e:min (p+1) T.length-p=1:=by rw [nc];lia
  rw [e]
  have h':T.cps.toList.drop p=c::u:=h
  rw [h']
  rfl
 refine ⟨e1,by unfold jh;rw [nc];lia,?_,by rw [nc];exact hl,?_⟩
 ·rw [←List.drop_drop,h];rfl
 ·unfold y7 nl
  rw [e1]
  by_cases hc:c=10
  ·subst hc;rfl
  ·rw [if_neg hc,if_neg]
   intro hh
   have:c=10:=by simpa using hh
   exact hc this
theorem VR {T:Str} {p:Nat} (h:(tl T).drop p= []) (hp:p≤T.length):km T p=⟨#[]⟩∧jh T p=p∧y7 T p=0:=by
 have hl:(tl T).length≤p:=by simpa using h
 have e1:km T p=⟨#[]⟩:=by
  unfold km cut
  have h':T.cps.toList.drop p= []:=h
  rw [h']
  simp
 refine ⟨e1,by unfold jh;rw [nc] at*;lia,?_⟩
 unfold y7
 rw [e1]
 rfl
noncomputable def uQ:List Nat→List Nat→Nat→Int→List Nat→List Nat×Nat×Int×List Nat×Bool
 | [],tk,p,l,ch=>(tk,p,l,ch,false)
 |c::u,tk,p,l,_=>if c=92 then (match u with
   | []=>(tk,p+1,l,[],false)
   |d::v=>uQ v (tk++ [d]) (p+2) (l+nl d) [d])
  else if c=34 then (tk,p+1,l,[34],true) else uQ u (tk++ [c]) (p+1) (l+nl c) [c]
noncomputable def yU (c:Nat):Bool:=c==10||c==9||c==13||c==32
noncomputable def ue:List Nat→List Nat→Nat→Int→List Nat→List Nat×Nat×Int×List Nat×Bool
 | [],tk,p,l,ch=>(tk,p,l,ch,false)
 |c::u,tk,p,l,_=>if yU c then (tk,p+1,l+nl c,[c],true) else if c=92 then (match u with
   | []=>(tk,p+1,l,[],false)
   |d::v=>ue v (tk++ [d]) (p+2) (l+nl d) [d])
  else ue u (tk++ [c]) (p+1) (l+nl c) [c]
theorem Yk {c:Nat} {u tk:List Nat} {p:Nat} {l:Int} {ch:List Nat} (cp:c≠92) (cX:c≠34):uQ (c::u) tk p l ch=uQ u (tk++ [c]) (p+1) (l+nl c) [c]:=by
 rw [uQ.eq_def]
 simp only [if_neg cp,if_neg cX]
theorem OZ {c:Nat} {u tk:List Nat} {p:Nat} {l:Int} {ch:List Nat} (hw:yU c=true):ue (c::u) tk p l ch=(tk,p+1,l+nl c,[c],true):=by
 rw [ue.eq_def]
 simp only [if_pos hw]
theorem O0 {c:Nat} {u tk:List Nat} {p:Nat} {l:Int} {ch:List Nat} (hw:yU c=false) (cp:c≠92):ue (c::u) tk p l ch=ue u (tk++ [c]) (p+1) (l+nl c) [c]:=by
 rw [ue.eq_def]
 simp only [hw,if_neg cp]
 rfl
noncomputable abbrev jk (l:List Nat):Str:=⟨l.toArray⟩
def y3 (L:jF) (G:kl) (P:Params) (f4:Tok) (l:Int) (lt:Tok) (p:Nat) (tp:Tok) (tk:Str) (tt:Tok) (ch:Str) (tc:Tok):List (Addr×Obj):=
 L.vs P l lt p tp++ [(G.fr,G.cG L P f4 tk tt ch tc),(G.aM,kl.bX L),(G.aI,G.cI)]
theorem c9 {W:World} {L:jF} {G:kl} {an aU:jZ} {d:Nat} {c:Code} {f4 lt tp tt tc:Tok} {l l':Int} {p p':Nat} {tk pT ch pU:Str} (el:l'=l) (ep:p'=p) (et:pT=tk) (ec:pU=ch) (h:j6 pw W (jB W.params) an d c ((y3 L G W.params f4 l lt p tp tk tt ch tc).map some)) (ea:aU=an:=by rfl):
  j6 pw W (jB W.params) aU d c ((y3 L G W.params f4 l' lt p' tp pT tt pU tc).map some):=by
 subst el ep et ec ea;exact h
def kX (r:List Nat×Nat×Int×List Nat×Bool) (e:Nat):jZ:=match r with
 |(tk,p,l,ch,true)=>Vr (jk tk) p l (jk ch) e
 |(tk,p,l,ch,false)=>Vq (jk tk) p l (jk ch) e
theorem kq (W:World) (L:jF) (G:kl) (l:Int) (lt:Tok) (p:Nat) (tp:Tok) (hT:L.T.length≤1000000) (hp:p≤L.T.length) (h:km L.T p≠⟨#[]⟩):
  j6 pw W (jB W.params) (JD L.T p l L.ay) 22 (.call (.builtin "callable_iterator.__next__") ⟨[.ref G.aI],[]⟩) ((pP L G W.params l lt p tp).map some):=by
 have:=B5 W L G l lt p tp hT hp
 rwa [if_neg h] at this
theorem tA (W:World) (L:jF) (G:kl) (l:Int) (lt:Tok) (p:Nat) (tp:Tok) (hT:L.T.length≤1000000) (hp:p≤L.T.length) (h:km L.T p=⟨#[]⟩):
  j6 pw W (jB W.params) (Uw L.T p l L.ay) 22 (.call (.builtin "callable_iterator.__next__") ⟨[.ref G.aI],[]⟩) ((pP L G W.params l lt p tp).map some):=by
 have:=B5 W L G l lt p tp hT hp
 rwa [if_pos h] at this
theorem Jc (tk:List Nat) (c:Nat):jk tk++(⟨#[c]⟩:Str)=jk (tk++ [c]):=kn tk [c]
theorem Cb (tk:List Nat):jk tk++(⟨#[]⟩:Str)=jk tk:=by
 have:=kn tk []
 rw [List.append_nil] at this
 exact this
theorem vE {tk:List Nat} {n:Nat} (h:tk.length≤n) (hn:n≤1000000):(jk tk).length≤sizeLine:=by
 have e:sizeLine=16777216:=rfl
 rw [AA]
 lia
theorem uy (c:Nat):(⟨#[c]⟩:Str)≠⟨#[]⟩:=by
 intro h
 have:=congrArg (fun x:Str=>x.cps.size) h
 simp at this
theorem kY (r:List Nat×Nat×Int×List Nat×Bool) (e:Nat):(kX r e).ids.length=12:=by
 obtain ⟨_,_,_,_,_|_⟩:=r<;>rfl
theorem yd (r:List Nat×Nat×Int×List Nat×Bool) (e:Nat) (as:List Addr) (ts:List Tok):((kX r e).upd as ts).length=12:=by
 obtain ⟨_,_,_,_,_|_⟩:=r<;>rfl
theorem vH (r:List Nat×Nat×Int×List Nat×Bool) (e:Nat) (as:List Addr) (ts:List Tok) (L:jF) (G:kl) (P:Params) (f4:Tok) (l l':Int) (lt lt':Tok) (p p':Nat) (tp O1:Tok) (tk pT:Str) (tt O2:Tok) (ch pU:Str) (tc O3:Tok):
  yx ((y3 L G P f4 l lt p tp tk tt ch tc).map some) ((kX r e).upd as ts)=yx ((y3 L G P f4 l' lt' p' O1 pT O2 pU O3).map some) ((kX r e).upd as ts):=by
 obtain ⟨_,_,_,_,_|_⟩:=r<;>rfl
theorem y1 (c d:Nat) (h:c≠d):([c]== [d])=false:=by
 cases hb:([c]== [d]) with
 |false=>rfl
 |true=>exact absurd (by simpa using hb) h
theorem yA (c:Nat):(!(Builtin.Str.occurrences (⟨#[10,9,13,32]⟩:Str) (⟨#[c]⟩:Str) 0 (⟨#[10,9,13,32]⟩:Str).length 1).isEmpty)=yU c:=by
 rw [PySem.StrLaws.found_one]
 unfold yU
 by_cases h1:c=10
 ·subst h1;rfl
 by_cases h2:c=9
 ·subst h2;rfl
 by_cases h3:c=13
 ·subst h3;rfl
 by_cases h4:c=32
 ·subst h4;rfl
 simp [h1,h2,h3,h4]
section
variable (W:World) (L:jF) (G:kl) (hT:L.T.length≤1000000)
include hT
theorem O4 (n:Nat): ∀(u:List Nat) (f4:Tok) (l:Int) (lt:Tok) (p:Nat) (tp:Tok) (tk:List Nat) (tt:Tok) (ch:List Nat) (tc:Tok),u.length<n→(tl L.T).drop p=u→p≤L.T.length→tk.length≤p→
    j6 pw W (jB W.params) (kX (uQ u tk p l ch) L.ay) 31 (jd UG (.ref G.aI) (kA G.fr)) ((y3 L G W.params f4 l lt p tp (jk tk) tt (jk ch) tc).map some):=by
 induction n with
 |zero=>intro u _ _ _ _ _ _ _ _ _ h;exact absurd h (Nat.not_lt_zero _)
 |succ n in1=>
  intro u f4 l lt p tp tk tt ch tc hn hu hp dY
  match u,hn,hu with
  | [],hn,hu=>
    obtain ⟨e1,e2,e3⟩:=VR hu hp
    have h:=jY (w:=W) (NY W.params L lt l p tp G tt (jk tk) tc (jk ch) f4) (by
      intro A K
      walk_at "ob"
      exact fun _ hz=>tA W L G l lt p tp hT hp e1 _ (dl hz))
    refine h.conv (by decide) rfl fun as ts la lt'=>⟨[tt,ts.getD 1 0,ts.getD 0 0,tc],rfl,rfl,rfl,?_,rfl⟩
    show yx _ [_,jO 0 (.int l _),_,_,_,_,_,_,fun _=>vS p _ _,_,_,_]=yx _ [_,fun _=>L.bc W.params (l+y7 L.T p) _,_,_,_,_,_,_,fun _=>⟨_,_,.seq #[.int ((jh L.T p:Nat):Int) _] _,_⟩,_,_,_]
    rw [e2,e3,Int.add_zero]
    rfl
  |c::u,hn,hu=>
    rw [List.length_cons] at hn
    obtain ⟨e1,e2,e3,e4,e5⟩:=ul hu
    by_cases cp:c=92
    · subst cp
      have nf:nl 92=0:=rfl
      have ng: ∀x:List Nat,km L.T (jh L.T p)=jk x→x.length≤1→Y9 W 30 (jd UG (.ref G.aI) (kA G.fr)) (y3 L G W.params f4 l lt p tp (jk tk) tt (jk ch) tc) (N1 W.params L lt l p tp G tt (jk tk) tc (jk ch) f4) (N2 W.params L lt l p tp G tt (jk tk) tc (jk ch) f4):=fun x hx hl=>
        vy (w:=W) (N3 W.params L lt l p tp G tt (jk tk) tc (jk ch) f4) (by
          intro A K
          walk_at "ob"
          · exact fun _ hz=>kq W L G l lt p tp hT hp (by rw [e1];exact uy _) _ (dl hz)
          · rw [e1];rfl
          · rw [e1];rfl
          · exact fun _ hz=>U6 W L _ _ _ _ hT (by rw [e2];exact e4) _ (dl hz)
          · rw [hx,kn]
            exact vE (n:=p+1) (by simp;lia) (uC e4 hT))
      match u,hn,e3 with
      | [],hn,e3=>
        obtain ⟨g1,g2,g3⟩:=VR e3 e4
        refine kk (bZ:=kX (uQ [92] tk p l ch) L.ay) (c':=jd UG (.ref G.aI) (kA G.fr)) rfl rfl (ng [] (by rw [e2];exact g1) (by simp)) (fun _ _=>rfl) rfl rfl (fun ts _=> ?_) (kY _ _) (kY _ _) rfl (fun bx as bE _ _ h=>⟨bE,h,rfl,yd _ _ _ _,vH _ _ _ _ L G W.params f4 _ (l+y7 L.T p+y7 L.T (jh L.T p)) _ (bx.getD 0 0) _ (jh L.T (jh L.T p)) _ (bx.getD 1 0) _ (jk tk++km L.T (jh L.T p)) _ (bx.getD 2 0) _ (km L.T (jh L.T p)) _ (bx.getD 3 0),rfl⟩)
        have ih:=in1 [] f4 l (ts.getD 0 0) (p+1) (ts.getD 1 0) tk (ts.getD 2 0) [] (ts.getD 3 0) (by simp;exact Vi hn) e3 e4 (dx dY)
        exact c9 (by rw [e2,e5,g3,nf,Int.add_zero,Int.add_zero]) (by rw [e2,g2]) (by rw [e2,g1,Cb]) (by rw [e2,g1]) ih
      |d::v,hn,e3=>
        rw [List.length_cons] at hn
        obtain ⟨g1,g2,g3,g4,g5⟩:=ul e3
        refine kk (bZ:=kX (uQ (92::d::v) tk p l ch) L.ay) (c':=jd UG (.ref G.aI) (kA G.fr)) rfl rfl (ng [d] (by rw [e2];exact g1) (by simp)) (fun _ _=>rfl) rfl rfl (fun ts _=> ?_) (kY _ _) (kY _ _) rfl (fun bx as bE _ _ h=>⟨bE,h,rfl,yd _ _ _ _,vH _ _ _ _ L G W.params f4 _ (l+y7 L.T p+y7 L.T (jh L.T p)) _ (bx.getD 0 0) _ (jh L.T (jh L.T p)) _ (bx.getD 1 0) _ (jk tk++km L.T (jh L.T p)) _ (bx.getD 2 0) _ (km L.T (jh L.T p)) _ (bx.getD 3 0),rfl⟩)
        have ih:=in1 v f4 (l+nl d) (ts.getD 0 0) (p+2) (ts.getD 1 0) (tk++ [d]) (ts.getD 2 0) [d] (ts.getD 3 0) (by lia) g3 g4 (by simp;exact dx dY)
        exact c9 (by rw [e2,e5,g5,nf,Int.add_zero]) (by rw [e2,g2]) (by rw [e2,g1,Jc]) (by rw [e2,g1]) ih
    · by_cases cX:c=34
      · subst cX
        have turn:=vy (w:=W) (N0 W.params L lt l p tp G tt (jk tk) tc (jk ch) f4) (by
          intro A K
          walk_at "ob"
          · exact fun _ hz=>kq W L G l lt p tp hT hp (by rw [e1];exact uy _) _ (dl hz)
          · rw [e1];rfl)
        have h:=vX (fl:=fun as ts=> .ret (.str (jk tk) tt)) rfl turn (fun _ _=>rfl)
        have e:uQ (34::u) tk p l ch=(tk,p+1,l,[34],true):=by unfold uQ;rfl
        rw [e]
        refine h.conv (by decide) rfl fun as ts la lt'=>⟨[tt,ts.getD 1 0,ts.getD 0 0,ts.getD 2 0],rfl,rfl,rfl,?_,rfl⟩
        show yx _ [_,jO 0 (.int l _),_,_,_,_,_,_,fun _=>vS (p+1) _ _,_,_,_]=yx _ [_,fun _=>L.bc W.params (l+y7 L.T p) _,_,_,_,_,_,_,fun _=>⟨_,_,.seq #[.int ((jh L.T p:Nat):Int) _] _,_⟩,fun _=>G.cG L W.params f4 (jk tk) _ (km L.T p) _,_,_]
        rw [e1,e2,e5,show nl 34=0 from rfl,Int.add_zero]
        rfl
      · have turn:=vy (w:=W) (N5 W.params L lt l p tp G tt (jk tk) tc (jk ch) f4) (by
          intro A K
          walk_at "ob"
          · exact fun _ hz=>kq W L G l lt p tp hT hp (by rw [e1];exact uy _) _ (dl hz)
          · rw [e1];exact y1 _ _ cX
          · rw [e1];exact y1 _ _ cp
          · rw [e1,Jc]
            exact vE (n:=p+1) (by simp;exact dY) (uC e4 hT))
        have e:uQ (c::u) tk p l ch=uQ u (tk++ [c]) (p+1) (l+nl c) [c]:=Yk cp cX
        rw [e]
        refine kk (bZ:=kX (uQ u (tk++ [c]) (p+1) (l+nl c) [c]) L.ay) (c':=jd UG (.ref G.aI) (kA G.fr)) rfl rfl turn (fun _ _=>rfl) rfl rfl (fun ts _=> ?_) (kY _ _) (kY _ _) rfl (fun bx as bE _ _ h=>⟨bE,h,rfl,yd _ _ _ _,vH _ _ _ _ L G W.params f4 _ (l+y7 L.T p) _ (bx.getD 0 0) _ (jh L.T p) _ (bx.getD 1 0) _ (jk tk++km L.T p) _ (bx.getD 2 0) _ (km L.T p) _ (bx.getD 3 0),rfl⟩)
        have ih:=in1 u f4 (l+nl c) (ts.getD 0 0) (p+1) (ts.getD 1 0) (tk++ [c]) (ts.getD 2 0) [c] (ts.getD 3 0) (Vi hn) e3 e4 (by simp;exact dY)
        exact c9 (by rw [e5]) e2 (by rw [e1,Jc]) e1 ih
theorem pV (u:List Nat) (f4:Tok) (l:Int) (lt:Tok) (p:Nat) (tp:Tok) (tk:List Nat) (tt:Tok) (ch:List Nat) (tc:Tok) (hu:(tl L.T).drop p=u) (hp:p≤L.T.length) (dY:tk.length≤p):
  j6 pw W (jB W.params) (kX (uQ u tk p l ch) L.ay) 31 (jd UG (.ref G.aI) (kA G.fr)) ((y3 L G W.params f4 l lt p tp (jk tk) tt (jk ch) tc).map some):=
 O4 W L G hT (u.length+1) u f4 l lt p tp tk tt ch tc (Nat.lt_succ_self _) hu hp dY
theorem O5 (n:Nat): ∀(u:List Nat) (f4:Tok) (l:Int) (lt:Tok) (p:Nat) (tp:Tok) (tk:List Nat) (tt:Tok) (ch:List Nat) (tc:Tok),u.length<n→(tl L.T).drop p=u→p≤L.T.length→tk.length≤p→
    j6 pw W (jB W.params) (kX (ue u tk p l ch) L.ay) 31 (jd UH (.ref G.aI) (kA G.fr)) ((y3 L G W.params f4 l lt p tp (jk tk) tt (jk ch) tc).map some):=by
 induction n with
 |zero=>intro u _ _ _ _ _ _ _ _ _ h;exact absurd h (Nat.not_lt_zero _)
 |succ n tB=>
  intro u f4 l lt p tp tk tt ch tc hn hu hp dY
  match u,hn,hu with
  | [],hn,hu=>
    obtain ⟨e1,e2,e3⟩:=VR hu hp
    have h:=jY (w:=W) (N7 W.params L lt l p tp G tt (jk tk) tc (jk ch) f4) (by
      intro A K
      walk_at "ob"
      exact fun _ hz=>tA W L G l lt p tp hT hp e1 _ (dl hz))
    refine h.conv (by decide) rfl fun as ts la lt'=>⟨[tt,ts.getD 1 0,ts.getD 0 0,tc],rfl,rfl,rfl,?_,rfl⟩
    show yx _ [_,jO 0 (.int l _),_,_,_,_,_,_,fun _=>vS p _ _,_,_,_]=yx _ [_,fun _=>L.bc W.params (l+y7 L.T p) _,_,_,_,_,_,_,fun _=>⟨_,_,.seq #[.int ((jh L.T p:Nat):Int) _] _,_⟩,_,_,_]
    rw [e2,e3,Int.add_zero]
    rfl
  |c::u,hn,hu=>
    rw [List.length_cons] at hn
    obtain ⟨e1,e2,e3,e4,e5⟩:=ul hu
    by_cases cp:c=92
    · subst cp
      have nf:nl 92=0:=rfl
      have ng: ∀x:List Nat,km L.T (jh L.T p)=jk x→x.length≤1→Y9 W 30 (jd UH (.ref G.aI) (kA G.fr)) (y3 L G W.params f4 l lt p tp (jk tk) tt (jk ch) tc) (N' W.params L lt l p tp G tt (jk tk) tc (jk ch) f4) (Oa W.params L lt l p tp G tt (jk tk) tc (jk ch) f4):=fun x hx hl=>
        vy (w:=W) (Ob W.params L lt l p tp G tt (jk tk) tc (jk ch) f4) (by
          intro A K
          walk_at "ob"
          · exact fun _ hz=>kq W L G l lt p tp hT hp (by rw [e1];exact uy _) _ (dl hz)
          · rw [e1,yA];rfl
          · rw [e1];rfl
          · exact fun _ hz=>U6 W L _ _ _ _ hT (by rw [e2];exact e4) _ (dl hz)
          · rw [hx,kn]
            exact vE (n:=p+1) (by simp;lia) (uC e4 hT))
      match u,hn,e3 with
      | [],hn,e3=>
        obtain ⟨g1,g2,g3⟩:=VR e3 e4
        refine kk (bZ:=kX (ue [92] tk p l ch) L.ay) (c':=jd UH (.ref G.aI) (kA G.fr)) rfl rfl (ng [] (by rw [e2];exact g1) (by simp)) (fun _ _=>rfl) rfl rfl (fun ts _=> ?_) (kY _ _) (kY _ _) rfl (fun bx as bE _ _ h=>⟨bE,h,rfl,yd _ _ _ _,vH _ _ _ _ L G W.params f4 _ (l+y7 L.T p+y7 L.T (jh L.T p)) _ (bx.getD 0 0) _ (jh L.T (jh L.T p)) _ (bx.getD 1 0) _ (jk tk++km L.T (jh L.T p)) _ (bx.getD 2 0) _ (km L.T (jh L.T p)) _ (bx.getD 3 0),rfl⟩)
        have ih:=tB [] f4 l (ts.getD 0 0) (p+1) (ts.getD 1 0) tk (ts.getD 2 0) [] (ts.getD 3 0) (by simp;exact Vi hn) e3 e4 (dx dY)
        exact c9 (by rw [e2,e5,g3,nf,Int.add_zero,Int.add_zero]) (by rw [e2,g2]) (by rw [e2,g1,Cb]) (by rw [e2,g1]) ih
      |d::v,hn,e3=>
        rw [List.length_cons] at hn
        obtain ⟨g1,g2,g3,g4,g5⟩:=ul e3
        refine kk (bZ:=kX (ue (92::d::v) tk p l ch) L.ay) (c':=jd UH (.ref G.aI) (kA G.fr)) rfl rfl (ng [d] (by rw [e2];exact g1) (by simp)) (fun _ _=>rfl) rfl rfl (fun ts _=> ?_) (kY _ _) (kY _ _) rfl (fun bx as bE _ _ h=>⟨bE,h,rfl,yd _ _ _ _,vH _ _ _ _ L G W.params f4 _ (l+y7 L.T p+y7 L.T (jh L.T p)) _ (bx.getD 0 0) _ (jh L.T (jh L.T p)) _ (bx.getD 1 0) _ (jk tk++km L.T (jh L.T p)) _ (bx.getD 2 0) _ (km L.T (jh L.T p)) _ (bx.getD 3 0),rfl⟩)
        have ih:=tB v f4 (l+nl d) (ts.getD 0 0) (p+2) (ts.getD 1 0) (tk++ [d]) (ts.getD 2 0) [d] (ts.getD 3 0) (by lia) g3 g4 (by simp;exact dx dY)
        exact c9 (by rw [e2,e5,g5,nf,Int.add_zero]) (by rw [e2,g2]) (by rw [e2,g1,Jc]) (by rw [e2,g1]) ih
    · by_cases lz:yU c=true
      · have turn:=vy (w:=W) (N9 W.params L lt l p tp G tt (jk tk) tc (jk ch) f4) (by
          intro A K
          walk_at "ob"
          · exact fun _ hz=>kq W L G l lt p tp hT hp (by rw [e1];exact uy _) _ (dl hz)
          · rw [e1,yA];exact lz)
        have h:=vX (fl:=fun as ts=> .ret (.str (jk tk) tt)) rfl turn (fun _ _=>rfl)
        rw [OZ lz]
        refine h.conv (by decide) rfl fun as ts la lt'=>⟨[tt,ts.getD 1 0,ts.getD 0 0,ts.getD 2 0],rfl,rfl,rfl,?_,rfl⟩
        show yx _ [_,jO 0 (.int (l+nl c) _),_,_,_,_,_,_,fun _=>vS (p+1) _ _,_,_,_]=yx _ [_,fun _=>L.bc W.params (l+y7 L.T p) _,_,_,_,_,_,_,fun _=>⟨_,_,.seq #[.int ((jh L.T p:Nat):Int) _] _,_⟩,fun _=>G.cG L W.params f4 (jk tk) _ (km L.T p) _,_,_]
        rw [e1,e2,e5]
        rfl
      · have lz:yU c=false:=Bool.eq_false_iff.mpr lz
        have turn:=vy (w:=W) (Od W.params L lt l p tp G tt (jk tk) tc (jk ch) f4) (by
          intro A K
          walk_at "ob"
          · exact fun _ hz=>kq W L G l lt p tp hT hp (by rw [e1];exact uy _) _ (dl hz)
          · rw [e1,yA];exact lz
          · rw [e1];exact y1 _ _ cp
          · rw [e1,Jc]
            exact vE (n:=p+1) (by simp;exact dY) (uC e4 hT))
        rw [O0 lz cp]
        refine kk (bZ:=kX (ue u (tk++ [c]) (p+1) (l+nl c) [c]) L.ay) (c':=jd UH (.ref G.aI) (kA G.fr)) rfl rfl turn (fun _ _=>rfl) rfl rfl (fun ts _=> ?_) (kY _ _) (kY _ _) rfl (fun bx as bE _ _ h=>⟨bE,h,rfl,yd _ _ _ _,vH _ _ _ _ L G W.params f4 _ (l+y7 L.T p) _ (bx.getD 0 0) _ (jh L.T p) _ (bx.getD 1 0) _ (jk tk++km L.T p) _ (bx.getD 2 0) _ (km L.T p) _ (bx.getD 3 0),rfl⟩)
        have ih:=tB u f4 (l+nl c) (ts.getD 0 0) (p+1) (ts.getD 1 0) (tk++ [c]) (ts.getD 2 0) [c] (ts.getD 3 0) (Vi hn) e3 e4 (by simp;exact dY)
        exact c9 (by rw [e5]) e2 (by rw [e1,Jc]) e1 ih
theorem UI (u:List Nat) (f4:Tok) (l:Int) (lt:Tok) (p:Nat) (tp:Tok) (tk:List Nat) (tt:Tok) (ch:List Nat) (tc:Tok) (hu:(tl L.T).drop p=u) (hp:p≤L.T.length) (dY:tk.length≤p):
  j6 pw W (jB W.params) (kX (ue u tk p l ch) L.ay) 31 (jd UH (.ref G.aI) (kA G.fr)) ((y3 L G W.params f4 l lt p tp (jk tk) tt (jk ch) tc).map some):=
 O5 W L G hT (u.length+1) u f4 l lt p tp tk tt ch tc (Nat.lt_succ_self _) hu hp dY
end
def V3 (L:jF) (G:kl) (P:Params) (l:Int) (lt:Tok) (p:Nat) (tp:Tok) (tk:Str) (tt:Tok):List (Addr×Obj):=
 L.vs P l lt p tp++ [(G.fr,G.xB L P tk tt),(G.aM,kl.bX L),(G.aI,G.cI)]
def pW (P:Params) (r:List Nat×Nat×Int×List Nat×Bool) (e:Nat):jZ:=match r with
 |(tk,p,l,ch,true)=>xE P (jk tk) p l (jk ch) e
 |(tk,p,l,ch,false)=>xF P (jk tk) p l (jk ch) e
section
variable (W:World) (L:jF) (G:kl) (hT:L.T.length≤1000000)
include hT
theorem JI (f4:Tok) (l:Int) (lt:Tok) (p:Nat) (tp:Tok) (tk:Str) (tt:Tok) (ch:Str) (tc:Tok):
  j6 pw W (jB W.params) (Vz W.params L lt l p tp G tt tk tc ch f4) 32 (jd uF (.ref G.aI) (kA G.fr)) ((L.vs W.params l lt p tp++ [(G.fr,G.cG L W.params f4 tk tt ch tc),(G.aM,kl.bX L),(G.aI,YI)]).map some):=
 jY (w:=W) (Og W.params L lt l p tp G tt tk tc ch f4) (fun _ _=>mj)
theorem O6 (v:List Nat) (f4:Tok) (l:Int) (lt:Tok) (p:Nat) (tp:Tok) (tt:Tok) (ch:Str) (tc:Tok) (hu:(tl L.T).drop p=34::v) (hp:p≤L.T.length):
  j6 pw W (jB W.params) (kX (uQ v [] (p+1) l [34]) L.ay) 33 (jd uF (.ref G.aI) (kA G.fr)) ((y3 L G W.params f4 l lt p tp (jk []) tt ch tc).map some):=by
 obtain ⟨e1,e2,e3,e4,e5⟩:=ul hu
 rcases hr:uQ v [] (p+1) l [34] with ⟨aO,p1,l1,c1,_|_⟩
 ·have turn:=vy (w:=W) (OG W.params L lt l p tp G tt (jk []) tc ch f4 (jk aO) p1 l1 (jk c1)) (by
   intro A K
   walk_at "ob"
   ·exact fun _ hz=>kq W L G l lt p tp hT hp (by rw [e1];exact uy _) _ (dl hz)
   ·rw [e1,yA];rfl
   ·rw [e1];rfl
   ·have inner:=pV W L G hT v f4 l (K 2) (p+1) (K 1) [] tt [34] (K 0) e3 e4 (by simp)
    exact fun _ hz=>c9 (by rw [e5];exact Int.add_zero _) e2 rfl e1 inner (congrArg (fun r=>kX r L.ay) hr.symm) _ (dl hz))
  refine kk (bZ:=Vz W.params L 0 l1 p1 0 G 0 (jk aO) 0 (jk c1) f4) (c':=jd uF (.ref G.aI) (kA G.fr)) rfl rfl turn (fun _ _=>rfl) rfl rfl (fun ts _=> ?_) rfl rfl rfl (fun ts as bE _ _ h=>⟨tg ts [2,1,0,3],rfl,rfl,rfl,rfl,rfl⟩)
  exact fun _ hz=>JI W L G hT f4 l1 (ts.getD 0 0) p1 (ts.getD 1 0) (jk aO) (ts.getD 2 0) (jk c1) (ts.getD 3 0) _ (dl hz)
 ·have turn:=vy (w:=W) (OC W.params L lt l p tp G tt (jk []) tc ch f4 (jk aO) p1 l1 (jk c1)) (by
   intro A K
   walk_at "ob"
   ·exact fun _ hz=>kq W L G l lt p tp hT hp (by rw [e1];exact uy _) _ (dl hz)
   ·rw [e1,yA];rfl
   ·rw [e1];rfl
   ·have inner:=pV W L G hT v f4 l (K 2) (p+1) (K 1) [] tt [34] (K 0) e3 e4 (by simp)
    exact fun _ hz=>c9 (by rw [e5];exact Int.add_zero _) e2 rfl e1 inner (congrArg (fun r=>kX r L.ay) hr.symm) _ (dl hz))
  have h:=vX (fl:=fun as ts=> .ret (.str (jk aO) (ts.getD 0 0))) rfl turn (fun _ _=>rfl)
  exact h.conv (by decide) rfl fun as ts la lt'=>⟨tg ts [0,2,1,3],rfl,rfl,rfl,rfl,rfl⟩
theorem O7 (c:Nat) (v:List Nat) (f4:Tok) (l:Int) (lt:Tok) (p:Nat) (tp:Tok) (tt:Tok) (ch:Str) (tc:Tok) (hu:(tl L.T).drop p=c::v) (hp:p≤L.T.length) (hw:yU c=false) (cX:c≠34) (cp:c≠92):
  j6 pw W (jB W.params) (kX (ue v [c] (p+1) (l+nl c) [c]) L.ay) 33 (jd uF (.ref G.aI) (kA G.fr)) ((y3 L G W.params f4 l lt p tp (jk []) tt ch tc).map some):=by
 obtain ⟨e1,e2,e3,e4,e5⟩:=ul hu
 rcases hr:ue v [c] (p+1) (l+nl c) [c] with ⟨aO,p1,l1,c1,_|_⟩
 ·have turn:=vy (w:=W) (OL W.params L lt l p tp G tt (jk []) tc ch f4 (jk aO) p1 l1 (jk c1)) (by
   intro A K
   walk_at "ob"
   ·exact fun _ hz=>kq W L G l lt p tp hT hp (by rw [e1];exact uy _) _ (dl hz)
   ·rw [e1,yA];exact hw
   ·rw [e1];exact y1 _ _ cX
   ·rw [e1];exact y1 _ _ cp
   ·rw [e1,Jc];exact vE (n:=1) (by simp) (by decide)
   ·have inner:=UI W L G hT v f4 (l+nl c) (K 2) (p+1) (K 1) [c] (K 7) [c] (K 0) e3 e4 (by simp)
    exact fun _ hz=>c9 (by rw [e5]) e2 (by rw [e1,Jc];rfl) e1 inner (congrArg (fun r=>kX r L.ay) hr.symm) _ (dl hz))
  refine kk (bZ:=Vz W.params L 0 l1 p1 0 G 0 (jk aO) 0 (jk c1) f4) (c':=jd uF (.ref G.aI) (kA G.fr)) rfl rfl turn (fun _ _=>rfl) rfl rfl (fun ts _=> ?_) rfl rfl rfl (fun ts as bE _ _ h=>⟨tg ts [2,1,0,3],rfl,rfl,rfl,rfl,rfl⟩)
  exact fun _ hz=>JI W L G hT f4 l1 (ts.getD 0 0) p1 (ts.getD 1 0) (jk aO) (ts.getD 2 0) (jk c1) (ts.getD 3 0) _ (dl hz)
 ·have turn:=vy (w:=W) (OI W.params L lt l p tp G tt (jk []) tc ch f4 (jk aO) p1 l1 (jk c1)) (by
   intro A K
   walk_at "ob"
   ·exact fun _ hz=>kq W L G l lt p tp hT hp (by rw [e1];exact uy _) _ (dl hz)
   ·rw [e1,yA];exact hw
   ·rw [e1];exact y1 _ _ cX
   ·rw [e1];exact y1 _ _ cp
   ·rw [e1,Jc];exact vE (n:=1) (by simp) (by decide)
   ·have inner:=UI W L G hT v f4 (l+nl c) (K 2) (p+1) (K 1) [c] (K 7) [c] (K 0) e3 e4 (by simp)
    exact fun _ hz=>c9 (by rw [e5]) e2 (by rw [e1,Jc];rfl) e1 inner (congrArg (fun r=>kX r L.ay) hr.symm) _ (dl hz))
  have h:=vX (fl:=fun as ts=> .ret (.str (jk aO) (ts.getD 0 0))) rfl turn (fun _ _=>rfl)
  exact h.conv (by decide) rfl fun as ts la lt'=>⟨tg ts [0,2,1,3],rfl,rfl,rfl,rfl,rfl⟩
theorem O8 (d:Nat) (v:List Nat) (f4:Tok) (l:Int) (lt:Tok) (p:Nat) (tp:Tok) (tt:Tok) (ch:Str) (tc:Tok) (hu:(tl L.T).drop p=92::d::v) (hp:p≤L.T.length):
  j6 pw W (jB W.params) (kX (ue v [d] (p+2) (l+nl d) [d]) L.ay) 33 (jd uF (.ref G.aI) (kA G.fr)) ((y3 L G W.params f4 l lt p tp (jk []) tt ch tc).map some):=by
 obtain ⟨e1,e2,e3,e4,e5⟩:=ul hu
 obtain ⟨g1,g2,g3,g4,g5⟩:=ul e3
 rcases hr:ue v [d] (p+2) (l+nl d) [d] with ⟨aO,p1,l1,c1,_|_⟩
 ·have turn:=vy (w:=W) (OS W.params L lt l p tp G tt (jk []) tc ch f4 (jk aO) p1 l1 (jk c1)) (by
   intro A K
   walk_at "ob"
   ·exact fun _ hz=>kq W L G l lt p tp hT hp (by rw [e1];exact uy _) _ (dl hz)
   ·rw [e1,yA];rfl
   ·rw [e1];rfl
   ·rw [e1];rfl
   ·exact fun _ hz=>U6 W L _ _ _ _ hT (by rw [e2];omega) _ (dl hz)
   ·rw [e2,g1,Jc];exact vE (n:=1) (by simp) (by decide)
   ·have inner:=UI W L G hT v f4 (l+nl d) (K 9) (p+2) (K 8) [d] (K 11) [d] (K 7) g3 (by omega) (by simp)
    exact fun _ hz=>c9 (by rw [e2,e5,g5,show nl 92=0 from rfl,Int.add_zero]) (by rw [e2,g2]) (by rw [e2,g1,Jc];rfl) (by rw [e2,g1]) inner (congrArg (fun r=>kX r L.ay) hr.symm) _ (dl hz))
  refine kk (bZ:=Vz W.params L 0 l1 p1 0 G 0 (jk aO) 0 (jk c1) f4) (c':=jd uF (.ref G.aI) (kA G.fr)) rfl rfl turn (fun _ _=>rfl) rfl rfl (fun ts _=> ?_) rfl rfl rfl (fun ts as bE _ _ h=>⟨tg ts [2,1,0,3],rfl,rfl,rfl,rfl,rfl⟩)
  exact fun _ hz=>JI W L G hT f4 l1 (ts.getD 0 0) p1 (ts.getD 1 0) (jk aO) (ts.getD 2 0) (jk c1) (ts.getD 3 0) _ (dl hz)
 ·have turn:=vy (w:=W) (OO W.params L lt l p tp G tt (jk []) tc ch f4 (jk aO) p1 l1 (jk c1)) (by
   intro A K
   walk_at "ob"
   ·exact fun _ hz=>kq W L G l lt p tp hT hp (by rw [e1];exact uy _) _ (dl hz)
   ·rw [e1,yA];rfl
   ·rw [e1];rfl
   ·rw [e1];rfl
   ·exact fun _ hz=>U6 W L _ _ _ _ hT (by rw [e2];omega) _ (dl hz)
   ·rw [e2,g1,Jc];exact vE (n:=1) (by simp) (by decide)
   ·have inner:=UI W L G hT v f4 (l+nl d) (K 9) (p+2) (K 8) [d] (K 11) [d] (K 7) g3 (by omega) (by simp)
    exact fun _ hz=>c9 (by rw [e2,e5,g5,show nl 92=0 from rfl,Int.add_zero]) (by rw [e2,g2]) (by rw [e2,g1,Jc];rfl) (by rw [e2,g1]) inner (congrArg (fun r=>kX r L.ay) hr.symm) _ (dl hz))
  have h:=vX (fl:=fun as ts=> .ret (.str (jk aO) (ts.getD 0 0))) rfl turn (fun _ _=>rfl)
  exact h.conv (by decide) rfl fun as ts la lt'=>⟨tg ts [0,2,1,3],rfl,rfl,rfl,rfl,rfl⟩
theorem O9 (v:List Nat) (l:Int) (lt:Tok) (p:Nat) (tp:Tok) (tt:Tok) (hu:(tl L.T).drop p=34::v) (hp:p≤L.T.length):
  j6 pw W (jB W.params) (pW W.params (uQ v [] (p+1) l [34]) L.ay) 33 (jd uF (.ref G.aI) (kA G.fr)) ((V3 L G W.params l lt p tp (jk []) tt).map some):=by
 obtain ⟨e1,e2,e3,e4,e5⟩:=ul hu
 rcases hr:uQ v [] (p+1) l [34] with ⟨aO,p1,l1,c1,_|_⟩
 ·have turn:=vy (w:=W) (Om W.params L lt l p tp G tt (jk []) (jk aO) p1 l1 (jk c1)) (by
   intro A K
   walk_at "ob"
   ·exact fun _ hz=>kq W L G l lt p tp hT hp (by rw [e1];exact uy _) _ (dl hz)
   ·rw [e1,yA];rfl
   ·rw [e1];rfl
   ·have inner:=pV W L G hT v (K 3) l (K 2) (p+1) (K 1) [] tt [34] (K 0) e3 e4 (by simp)
    exact fun _ hz=>c9 (by rw [e5];exact Int.add_zero _) e2 rfl e1 inner (congrArg (fun r=>kX r L.ay) hr.symm) _ (dl hz))
  refine kk (bZ:=Vz W.params L 0 l1 p1 0 G 0 (jk aO) 0 (jk c1) 0) (c':=jd uF (.ref G.aI) (kA G.fr)) rfl rfl turn (fun _ _=>rfl) rfl rfl (fun ts _=> ?_) rfl rfl rfl (fun ts as bE _ _ h=>⟨tg ts [2,1,0,4,3],rfl,rfl,rfl,rfl,rfl⟩)
  exact fun _ hz=>JI W L G hT (ts.getD 3 0) l1 (ts.getD 0 0) p1 (ts.getD 1 0) (jk aO) (ts.getD 2 0) (jk c1) (ts.getD 4 0) _ (dl hz)
 ·have turn:=vy (w:=W) (Oj W.params L lt l p tp G tt (jk []) (jk aO) p1 l1 (jk c1)) (by
   intro A K
   walk_at "ob"
   ·exact fun _ hz=>kq W L G l lt p tp hT hp (by rw [e1];exact uy _) _ (dl hz)
   ·rw [e1,yA];rfl
   ·rw [e1];rfl
   ·have inner:=pV W L G hT v (K 3) l (K 2) (p+1) (K 1) [] tt [34] (K 0) e3 e4 (by simp)
    exact fun _ hz=>c9 (by rw [e5];exact Int.add_zero _) e2 rfl e1 inner (congrArg (fun r=>kX r L.ay) hr.symm) _ (dl hz))
  have h:=vX (fl:=fun as ts=> .ret (.str (jk aO) (ts.getD 0 0))) rfl turn (fun _ _=>rfl)
  exact h.conv (by decide) rfl fun as ts la lt'=>⟨tg ts [0,2,1,4,3],rfl,rfl,rfl,rfl,rfl⟩
theorem O' (c:Nat) (v:List Nat) (l:Int) (lt:Tok) (p:Nat) (tp:Tok) (tt:Tok) (hu:(tl L.T).drop p=c::v) (hp:p≤L.T.length) (hw:yU c=false) (cX:c≠34) (cp:c≠92):
  j6 pw W (jB W.params) (pW W.params (ue v [c] (p+1) (l+nl c) [c]) L.ay) 33 (jd uF (.ref G.aI) (kA G.fr)) ((V3 L G W.params l lt p tp (jk []) tt).map some):=by
 obtain ⟨e1,e2,e3,e4,e5⟩:=ul hu
 rcases hr:ue v [c] (p+1) (l+nl c) [c] with ⟨aO,p1,l1,c1,_|_⟩
 ·have turn:=vy (w:=W) (Ou W.params L lt l p tp G tt (jk []) (jk aO) p1 l1 (jk c1)) (by
   intro A K
   walk_at "ob"
   ·exact fun _ hz=>kq W L G l lt p tp hT hp (by rw [e1];exact uy _) _ (dl hz)
   ·rw [e1,yA];exact hw
   ·rw [e1];exact y1 _ _ cX
   ·rw [e1];exact y1 _ _ cp
   ·rw [e1,Jc];exact vE (n:=1) (by simp) (by decide)
   ·have inner:=UI W L G hT v (K 3) (l+nl c) (K 2) (p+1) (K 1) [c] (K 7) [c] (K 0) e3 e4 (by simp)
    exact fun _ hz=>c9 (by rw [e5]) e2 (by rw [e1,Jc];rfl) e1 inner (congrArg (fun r=>kX r L.ay) hr.symm) _ (dl hz))
  refine kk (bZ:=Vz W.params L 0 l1 p1 0 G 0 (jk aO) 0 (jk c1) 0) (c':=jd uF (.ref G.aI) (kA G.fr)) rfl rfl turn (fun _ _=>rfl) rfl rfl (fun ts _=> ?_) rfl rfl rfl (fun ts as bE _ _ h=>⟨tg ts [2,1,0,4,3],rfl,rfl,rfl,rfl,rfl⟩)
  exact fun _ hz=>JI W L G hT (ts.getD 3 0) l1 (ts.getD 0 0) p1 (ts.getD 1 0) (jk aO) (ts.getD 2 0) (jk c1) (ts.getD 4 0) _ (dl hz)
 ·have turn:=vy (w:=W) (Oq W.params L lt l p tp G tt (jk []) (jk aO) p1 l1 (jk c1)) (by
   intro A K
   walk_at "ob"
   ·exact fun _ hz=>kq W L G l lt p tp hT hp (by rw [e1];exact uy _) _ (dl hz)
   ·rw [e1,yA];exact hw
   ·rw [e1];exact y1 _ _ cX
   ·rw [e1];exact y1 _ _ cp
   ·rw [e1,Jc];exact vE (n:=1) (by simp) (by decide)
   ·have inner:=UI W L G hT v (K 3) (l+nl c) (K 2) (p+1) (K 1) [c] (K 7) [c] (K 0) e3 e4 (by simp)
    exact fun _ hz=>c9 (by rw [e5]) e2 (by rw [e1,Jc];rfl) e1 inner (congrArg (fun r=>kX r L.ay) hr.symm) _ (dl hz))
  have h:=vX (fl:=fun as ts=> .ret (.str (jk aO) (ts.getD 0 0))) rfl turn (fun _ _=>rfl)
  exact h.conv (by decide) rfl fun as ts la lt'=>⟨tg ts [0,2,1,4,3],rfl,rfl,rfl,rfl,rfl⟩
theorem Pa (d:Nat) (v:List Nat) (l:Int) (lt:Tok) (p:Nat) (tp:Tok) (tt:Tok) (hu:(tl L.T).drop p=92::d::v) (hp:p≤L.T.length):
  j6 pw W (jB W.params) (pW W.params (ue v [d] (p+2) (l+nl d) [d]) L.ay) 33 (jd uF (.ref G.aI) (kA G.fr)) ((V3 L G W.params l lt p tp (jk []) tt).map some):=by
 obtain ⟨e1,e2,e3,e4,e5⟩:=ul hu
 obtain ⟨g1,g2,g3,g4,g5⟩:=ul e3
 rcases hr:ue v [d] (p+2) (l+nl d) [d] with ⟨aO,p1,l1,c1,_|_⟩
 ·have turn:=vy (w:=W) (Oy W.params L lt l p tp G tt (jk []) (jk aO) p1 l1 (jk c1)) (by
   intro A K
   walk_at "ob"
   ·exact fun _ hz=>kq W L G l lt p tp hT hp (by rw [e1];exact uy _) _ (dl hz)
   ·rw [e1,yA];rfl
   ·rw [e1];rfl
   ·rw [e1];rfl
   ·exact fun _ hz=>U6 W L _ _ _ _ hT (by rw [e2];omega) _ (dl hz)
   ·rw [e2,g1,Jc];exact vE (n:=1) (by simp) (by decide)
   ·have inner:=UI W L G hT v (K 3) (l+nl d) (K 9) (p+2) (K 8) [d] (K 11) [d] (K 7) g3 (by omega) (by simp)
    exact fun _ hz=>c9 (by rw [e2,e5,g5,show nl 92=0 from rfl,Int.add_zero]) (by rw [e2,g2]) (by rw [e2,g1,Jc];rfl) (by rw [e2,g1]) inner (congrArg (fun r=>kX r L.ay) hr.symm) _ (dl hz))
  refine kk (bZ:=Vz W.params L 0 l1 p1 0 G 0 (jk aO) 0 (jk c1) 0) (c':=jd uF (.ref G.aI) (kA G.fr)) rfl rfl turn (fun _ _=>rfl) rfl rfl (fun ts _=> ?_) rfl rfl rfl (fun ts as bE _ _ h=>⟨tg ts [2,1,0,4,3],rfl,rfl,rfl,rfl,rfl⟩)
  exact fun _ hz=>JI W L G hT (ts.getD 3 0) l1 (ts.getD 0 0) p1 (ts.getD 1 0) (jk aO) (ts.getD 2 0) (jk c1) (ts.getD 4 0) _ (dl hz)
 ·have turn:=vy (w:=W) (Ow W.params L lt l p tp G tt (jk []) (jk aO) p1 l1 (jk c1)) (by
   intro A K
   walk_at "ob"
   ·exact fun _ hz=>kq W L G l lt p tp hT hp (by rw [e1];exact uy _) _ (dl hz)
   ·rw [e1,yA];rfl
   ·rw [e1];rfl
   ·rw [e1];rfl
   ·exact fun _ hz=>U6 W L _ _ _ _ hT (by rw [e2];omega) _ (dl hz)
   ·rw [e2,g1,Jc];exact vE (n:=1) (by simp) (by decide)
   ·have inner:=UI W L G hT v (K 3) (l+nl d) (K 9) (p+2) (K 8) [d] (K 11) [d] (K 7) g3 (by omega) (by simp)
    exact fun _ hz=>c9 (by rw [e2,e5,g5,show nl 92=0 from rfl,Int.add_zero]) (by rw [e2,g2]) (by rw [e2,g1,Jc];rfl) (by rw [e2,g1]) inner (congrArg (fun r=>kX r L.ay) hr.symm) _ (dl hz))
  have h:=vX (fl:=fun as ts=> .ret (.str (jk aO) (ts.getD 0 0))) rfl turn (fun _ _=>rfl)
  exact h.conv (by decide) rfl fun as ts la lt'=>⟨tg ts [0,2,1,4,3],rfl,rfl,rfl,rfl,rfl⟩
end
noncomputable def ut:List Nat→Nat→Int→List Nat×Nat×Int×List Nat×Bool
 | [],p,l=>([],p,l,[],false)
 |c::u,p,l=>if yU c then ut u (p+1) (l+nl c) else if c=34 then uQ u [] (p+1) l [34] else if c=92 then (match u with
   | []=>([],p,l,[],false)
   |d::v=>ue v [d] (p+2) (l+nl d) [d])
  else ue u [c] (p+1) (l+nl c) [c]
noncomputable def vo:List Nat→Bool
 | []=>false
 |c::u=>if yU c then vo u else if c=92 then !u.isEmpty else true
theorem Vy {c:Nat} {u:List Nat} {p:Nat} {l:Int} (h:yU c=true):ut (c::u) p l=ut u (p+1) (l+nl c):=by
 rw [ut.eq_def];simp only [if_pos h]
theorem Cd {u:List Nat} {p:Nat} {l:Int}:ut (34::u) p l=uQ u [] (p+1) l [34]:=by
 rw [ut.eq_def];rfl
theorem Ce {d:Nat} {v:List Nat} {p:Nat} {l:Int}:ut (92::d::v) p l=ue v [d] (p+2) (l+nl d) [d]:=by
 rw [ut.eq_def];rfl
theorem Cg {c:Nat} {u:List Nat} {p:Nat} {l:Int} (h:yU c=false) (cX:c≠34) (cp:c≠92):ut (c::u) p l=ue u [c] (p+1) (l+nl c) [c]:=by
 rw [ut.eq_def];simp only [h,if_neg cX,if_neg cp];rfl
theorem Ci {c:Nat} {u:List Nat} (h:yU c=true):vo (c::u)=vo u:=by
 rw [vo.eq_def];simp only [if_pos h]
section
variable (W:World) (L:jF) (G:kl) (hT:L.T.length≤1000000)
include hT
theorem Cj: ∀(u:List Nat) (f4:Tok) (l:Int) (lt:Tok) (p:Nat) (tp:Tok) (tt:Tok) (ch:Str) (tc:Tok),(tl L.T).drop p=u→p≤L.T.length→vo u=true→
  j6 pw W (jB W.params) (kX (ut u p l) L.ay) 33 (jd uF (.ref G.aI) (kA G.fr)) ((y3 L G W.params f4 l lt p tp (jk []) tt ch tc).map some)
 | [],_,_,_,_,_,_,_,_,_,_,h=>nomatch h
 |c::u,f4,l,lt,p,tp,tt,ch,tc,hu,hp,ht=>by
  obtain ⟨e1,e2,e3,e4,e5⟩:=ul hu
  by_cases hw:yU c=true
  ·rw [Vy hw]
   rw [Ci hw] at ht
   have turn:=vy (w:=W) (OA W.params L lt l p tp G tt (jk []) tc ch f4) (by
    intro A K
    walk_at "ob"
    ·exact fun _ hz=>kq W L G l lt p tp hT hp (by rw [e1];exact uy _) _ (dl hz)
    ·rw [e1,yA];exact hw)
   refine kk (bZ:=kX (ut u (p+1) (l+nl c)) L.ay) (c':=jd uF (.ref G.aI) (kA G.fr)) rfl rfl turn (fun _ _=>rfl) rfl rfl (fun ts _=> ?_) (kY _ _) (kY _ _) rfl (fun bx as bE _ _ h=>⟨bE,h,rfl,yd _ _ _ _,vH _ _ _ _ L G W.params f4 _ (l+y7 L.T p) _ (bx.getD 0 0) _ (jh L.T p) _ (bx.getD 1 0) _ (jk []) _ tt _ (km L.T p) _ (bx.getD 2 0),rfl⟩)
   have ih:=Cj u f4 (l+nl c) (ts.getD 0 0) (p+1) (ts.getD 1 0) tt (km L.T p) (ts.getD 2 0) e3 e4 ht
   exact c9 (by rw [e5]) e2 rfl rfl ih
  ·have hw:yU c=false:=Bool.eq_false_iff.mpr hw
   by_cases cX:c=34
   ·subst cX
    rw [Cd]
    exact O6 W L G hT u f4 l lt p tp tt ch tc hu hp
   ·by_cases cp:c=92
    ·subst cp
     match u,hu,ht with
     | [],_,ht=>exact nomatch ht
     |d::v,hu,_=>
      rw [Ce]
      exact O8 W L G hT d v f4 l lt p tp tt ch tc hu hp
    ·rw [Cg hw cX cp]
     exact O7 W L G hT c u f4 l lt p tp tt ch tc hu hp hw cX cp
theorem Pb (u:List Nat) (l:Int) (lt:Tok) (p:Nat) (tp:Tok) (tt:Tok) (hu:(tl L.T).drop p=u) (hp:p≤L.T.length) (ht:vo u=true):
  j6 pw W (jB W.params) (pW W.params (ut u p l) L.ay) 33 (jd uF (.ref G.aI) (kA G.fr)) ((V3 L G W.params l lt p tp (jk []) tt).map some):=by
 match u,hu,ht with
 | [],_,h=>exact nomatch h
 |c::u,hu,ht=>
  obtain ⟨e1,e2,e3,e4,e5⟩:=ul hu
  by_cases hw:yU c=true
  ·rw [Vy hw]
   rw [Ci hw] at ht
   have turn:=vy (w:=W) (Oi W.params L lt l p tp G tt (jk [])) (by
    intro A K
    walk_at "ob"
    ·exact fun _ hz=>kq W L G l lt p tp hT hp (by rw [e1];exact uy _) _ (dl hz)
    ·rw [e1,yA];exact hw)
   have next: ∀ts:List Tok,j6 pw W (jB W.params) (kX (ut u (p+1) (l+nl c)) L.ay) 33 (jd uF (.ref G.aI) (kA G.fr)) ((Un (V3 L G W.params l lt p tp (jk []) tt) ((Oh W.params L lt l p tp G tt (jk [])).upd [] ts)).map some):=fun ts=>by
    have ih:=Cj W L G hT u (ts.getD 2 0) (l+nl c) (ts.getD 0 0) (p+1) (ts.getD 1 0) tt (km L.T p) (ts.getD 3 0) e3 e4 ht
    exact c9 (by rw [e5]) e2 rfl rfl ih
   rcases hr:ut u (p+1) (l+nl c) with ⟨aO,p1,l1,c1,_|_⟩
   all_goals rw [hr] at next
   ·exact kk (bZ:=kX (aO,p1,l1,c1,false) L.ay) (c':=jd uF (.ref G.aI) (kA G.fr)) rfl rfl turn (fun _ _=>rfl) rfl rfl (fun ts _=>next ts) rfl rfl rfl (fun bx as bE _ _ h=>⟨[bE.getD 0 0,bE.getD 1 0,bE.getD 2 0,bE.getD 3 0,bx.getD 2 0],rfl,rfl,rfl,rfl,rfl⟩)
   ·exact kk (bZ:=kX (aO,p1,l1,c1,true) L.ay) (c':=jd uF (.ref G.aI) (kA G.fr)) rfl rfl turn (fun _ _=>rfl) rfl rfl (fun ts _=>next ts) rfl rfl rfl (fun bx as bE _ _ h=>⟨[bE.getD 0 0,bE.getD 1 0,bE.getD 2 0,bE.getD 3 0,bx.getD 2 0],rfl,rfl,rfl,rfl,rfl⟩)
  ·have hw:yU c=false:=Bool.eq_false_iff.mpr hw
   by_cases cX:c=34
   ·subst cX
    rw [Cd]
    exact O9 W L G hT u l lt p tp tt hu hp
   ·by_cases cp:c=92
    ·subst cp
     match u,hu,ht with
     | [],_,ht=>exact nomatch ht
     |d::v,hu,_=>
      rw [Ce]
      exact Pa W L G hT d v l lt p tp tt hu hp
    ·rw [Cg hw cX cp]
     exact O' W L G hT c u l lt p tp tt hu hp hw cX cp
theorem Pg (l:Int) (lt:Tok) (p:Nat) (tp:Tok) (tt:Tok) (hp:p=L.T.length):
  j6 pw W (jB W.params) (xG p l L.ay) 33 (jd uF (.ref G.aI) (kA G.fr)) ((V3 L G W.params l lt p tp (jk []) tt).map some):=by
 obtain ⟨e1,e2,e3⟩:=VR (T:=L.T) (p:=p) (by rw [hp,nc];exact List.drop_length) (Nat.le_of_eq hp)
 have h:=jY (w:=W) (Of W.params L lt l p tp G tt (jk [])) (by
  intro A K
  walk_at "ob"
  exact fun _ hz=>tA W L G l lt p tp hT (Nat.le_of_eq hp) e1 _ (dl hz))
 refine h.conv (by decide) rfl fun as ts la lt'=>⟨[ts.getD 1 0,ts.getD 0 0],rfl,rfl,rfl,?_,rfl⟩
 show yx _ [_,jO 0 (.int l _),_,_,_,_,_,_,fun _=>vS p _ _,_,_,_]=yx _ [_,fun _=>L.bc W.params (l+y7 L.T p) _,_,_,_,_,_,_,fun _=>⟨_,_,.seq #[.int ((jh L.T p:Nat):Int) _] _,_⟩,_,_,_]
 rw [e2,e3,Int.add_zero]
 rfl
end
def ka (L:jF) (P:Params) (l:Int) (lt:Tok) (p:Nat) (tp:Tok) (e:Nat):List (Addr×Obj):=L.vs P l lt p tp++ [(L.bw,jA #[] e)]
theorem Ph (W:World) (L:jF) (hT:L.T.length≤1000000) (l:Int) (lt:Tok) (p:Nat) (tp:Tok) (e:Nat) (hp:p≤L.T.length) (ht:vo ((tl L.T).drop p)=true):
  j6 pw W (jB W.params) (Yc (jk (ut ((tl L.T).drop p) p l).1) (ut ((tl L.T).drop p) p l).2.1 (ut ((tl L.T).drop p) p l).2.2.1 L.ay) 36 (.call (.ref 49) ⟨[.ref L.aL],[]⟩) ((ka L W.params l lt p tp e).map some):=by
 have out:=fun (G:kl) (tt:Tok)=>Pb W L G hT _ l lt p tp tt rfl hp ht
 rcases hr:ut ((tl L.T).drop p) p l with ⟨aO,p1,l1,c1,_|_⟩
 all_goals rw [hr] at out
 ·have h:=uM (w:=W) (OW W.params L lt l p tp (jk aO) p1 l1 (jk c1) e) (.inl (n' _)) (by
   intro A K
   walk_at "ob"
   exact fun _ hz=>out ⟨A 10,A 11,A 12,K 0,K 5,K 8,K 7⟩ (K 4) _ (dl hz))
  exact h.conv (by decide) rfl fun as ts la lt'=>⟨tg ts [0,2,1],rfl,rfl,rfl,rfl,rfl⟩
 ·have h:=uM (w:=W) (OU W.params L lt l p tp (jk aO) p1 l1 (jk c1) e) (.inl (n' _)) (by
   intro A K
   walk_at "ob"
   exact fun _ hz=>out ⟨A 10,A 11,A 12,K 0,K 5,K 8,K 7⟩ (K 4) _ (dl hz))
  exact h.conv (by decide) rfl fun as ts la lt'=>⟨tg ts [0,2,1],rfl,rfl,rfl,rfl,rfl⟩
theorem Pj (W:World) (L:jF) (hT:L.T.length≤1000000) (l:Int) (lt:Tok) (p:Nat) (tp:Tok) (e:Nat) (hp:p=L.T.length):
  j6 pw W (jB W.params) (Yc (jk []) p l L.ay) 36 (.call (.ref 49) ⟨[.ref L.aL],[]⟩) ((ka L W.params l lt p tp e).map some):=by
 have h:=uM (w:=W) (OY W.params L lt l p tp p l e) (.inl (n' _)) (by
  intro A K
  walk_at "ob"
  exact fun _ hz=>Pg W L ⟨A 10,A 11,A 12,K 0,K 5,K 8,K 7⟩ hT l lt p tp (K 4) hp _ (dl hz))
 exact h.conv (by decide) rfl fun as ts la lt'=>⟨tg ts [0,2,1],rfl,rfl,rfl,rfl,rfl⟩
def pX:List Stmt:=Vu (top 9)
def Pk:Stmt:=pX.getD 22 default
def lA:Stmt:=pX.getD 23 default
def fj:Stmt:=(rV Pk).getD 1 default
def Jz:List Stmt:=(pX.drop 19).take 5
noncomputable def Ck:Str:=⟨#[95,108,97,119,95,116,117,114,110,46,60,108,111,99,97,108,115,62,46]⟩
structure YE where
 f0:Tok
 f1:Tok
 f2:Tok
 f3:Tok
 f4:Tok
 f5:Tok
 f6:Tok
 f7:Tok
 f8:Tok
 f9:Tok
 Pl:Tok
 Pm:Tok
 Pn:Value
 turn:Value
 read:Value
 source:Value
 words:Value
 places:Value
 ln:Int
 tl:Tok
structure YC where
 cT:Addr
 cA:Addr
 dm:Addr
 dP:Addr
 dn:Addr
 cU:Addr
def kD (fr:Addr) (c:YC):Env:={scope:=rW (top 9),locals:=fr,globals:=3,cells:= [(⟨#[116,101,120,116]⟩,c.cT),(⟨#[97,116]⟩,c.cA),(⟨#[108,111,119]⟩,c.dm),(⟨#[108,101,120,101,114]⟩,c.dP),(⟨#[115,105,122,101]⟩,c.dn),(⟨#[114,111,119]⟩,c.cU)],qual:=Ck,func:=some 96,code:= .ref 95,frame:=some fr,builtins:=0}
def Pp (F:YE) (P:Params) (B:Bool) (lE aP:Addr) (kv bG:Value):List DictEntry:= [⟨uf P ⟨#[119,97,121,115]⟩,.str ⟨#[119,97,121,115]⟩ F.f0,F.Pn⟩,⟨uf P ⟨#[116,117,114,110]⟩,.str ⟨#[116,117,114,110]⟩ F.f1,F.turn⟩,⟨uf P ⟨#[98,97,114,115]⟩,.str ⟨#[98,97,114,115]⟩ F.f2,.bool B⟩,⟨uf P ⟨#[101,110,100,115]⟩,.str ⟨#[101,110,100,115]⟩ F.f3,.ref lE⟩,⟨uf P ⟨#[114,101,97,100]⟩,.str ⟨#[114,101,97,100]⟩ F.f4,F.read⟩,⟨uf P ⟨#[115,111,117,114,99,101]⟩,.str ⟨#[115,111,117,114,99,101]⟩ F.f5,F.source⟩,⟨uf P ⟨#[119,111,114,100,115]⟩,.str ⟨#[119,111,114,100,115]⟩ F.f6,F.words⟩,⟨uf P ⟨#[112,108,97,99,101,115]⟩,.str ⟨#[112,108,97,99,101,115]⟩ F.f7,F.places⟩,⟨uf P ⟨#[107]⟩,.str ⟨#[107]⟩ F.f8,kv⟩,⟨uf P ⟨#[108,105,110,101,115]⟩,.str ⟨#[108,105,110,101,115]⟩ F.f9,.int F.ln F.tl⟩,⟨uf P ⟨#[99,111,108]⟩,.str ⟨#[99,111,108]⟩ F.Pl,bG⟩,⟨uf P ⟨#[112,114,111,103,114,97,109]⟩,.str ⟨#[112,114,111,103,114,97,109]⟩ F.Pm,.ref aP⟩]
noncomputable def Cm:List Str:= [⟨#[98,108,111,99,107,115]⟩,⟨#[104,105,116]⟩,⟨#[98,101,103,105,110]⟩,⟨#[101,110,100]⟩,⟨#[114,101,115,116]⟩,⟨#[102,105,114,115,116]⟩,⟨#[108,97,115,116]⟩,⟨#[116,117,114,110,101,100]⟩,⟨#[119,111,114,100]⟩]
def tC (P:Params):List Str→List Tok→List Value→List DictEntry
 |n::ns,t::ts,v::vs=>⟨uf P n,.str n t,v⟩::tC P ns ts vs
 |_,_,_=> []
def uv (F:YE) (P:Params) (B:Bool) (lE aP:Addr) (kv bG:Value) (Cp:List Tok) (vs:List Value):Obj:=⟨.type "frame",none,.dict (Pp F P B lE aP kv bG++tC P Cm Cp vs).toArray (12+vs.length),#[]⟩
noncomputable def sV:List (Str×Tok)→List Value
 | []=> []
 |(x,t)::l=> .str x t::sV l
noncomputable def j9:List (Str×Tok)→Value→Value
 | [],v=>v
 |(x,t)::l,_=>j9 l (.str x t)
noncomputable def k7 (l:List (Str×Tok)) (a b:Nat):List (Str×Tok):=(l.drop a).take (b-a)
def YR (l:List (Str×Tok)) (a b c d:Nat):List (Str×Tok):=k7 l a b++k7 l c d
abbrev cF (l:List (Str×Tok)) (w p:Nat):List (Str×Tok):=YR l ((w+1)-1) (w+1) p ((w+1)-1)
abbrev cT (l:List (Str×Tok)) (w c:Nat):List (Str×Tok):=YR l (w+1) c w (w+1)
def Cq (v:Value) (XS:List Value) (e:Nat):jZ:={ids:=List.range 1,na:=0,nt:=0,res:=fun _ _=> .ok (.ret v),upd:=fun _ _=> [fun _=>j0 XS (e+1)],new:=fun _ _=> []}
noncomputable def pY:Expr→Nat→Expr
 | .Call _ args _ _,i=>args.getD i default
 |_,_=>default
def lF:Expr:=pY (hS (pX.getD 17 default)) 2
def nh (d dn cU dm fr:Addr):Env:=mR (oQ [[108,111,119],[114,111,119],[115,105,122,101]] (mQ lF)) d [(⟨#[115,105,122,101]⟩,dn),(⟨#[114,111,119]⟩,cU),(⟨#[108,111,119]⟩,dm)] Ck (.ref 95) (some fr)
def dc (a b:Nat):Bool:= !(decide ((jb b).cps.toList<(jb a).cps.toList))
def jR (R:Nat→Nat) (ah:Bool) (size k:Nat):Bool:=dc (R k) (R (size-1))==ah
def Ve (P:Params) (R:Nat→Nat) (ah:Bool) (size n:Nat) (wv:Value):jZ:={ids:=List.range 7,na:=0,nt:=1,res:=fun _ _=> .ok .next,upd:=fun _ ts=> [fun _=>ki n,fun _=>j0 ((List.range n).map fun k=> .bool (jR R ah size k)) n,fun _=>⟨.type "dict",none,.dict #[⟨uf P ⟨#[119,111,114,100]⟩,.str ⟨#[119,111,114,100]⟩ (ts.getD 0 0),wv⟩] 1,#[]⟩,id,id,id,id],new:=fun _ _=> []}
def Pq (v:Value):Obj→Obj
 |⟨c,d,.dict es n,s⟩=>⟨c,d,.dict ⟨mm es.toList 20 v⟩ n,s⟩
 |o=>o
def Pr (P:Params) (t:Tok) (v:Value):Obj→Obj
 |⟨c,d,.dict es n,s⟩=>⟨c,d,.dict (es.toList++ [DictEntry.mk (uf P ⟨#[119,111,114,100]⟩) (.str ⟨#[119,111,114,100]⟩ t) v]).toArray (n+1),s⟩
 |o=>o
def pZ (P:Params) (M:Nat) (PB:List Value) (e:Nat) (wv:Value):jZ:={ids:=List.range 7,na:=0,nt:=1,res:=fun _ _=> .ok .next,upd:=fun _ ts=> [Pr P (ts.getD 0 0) wv,id,id,id,fun _=>j0 PB e,fun _=>ki M,id],new:=fun _ _=> []}
def uj (M:Nat) (PB:List Value) (e:Nat) (wv:Value):jZ:={ids:=List.range 7,na:=0,nt:=0,res:=fun _ _=> .ok .next,upd:=fun _ _=> [Pq wv,id,id,id,fun _=>j0 PB e,fun _=>ki M,id],new:=fun _ _=> []}
def Cr:=kg [zP,17011714,sr,6928390657]
def Ct:=kg [17340934]
def Pt:=kg [zP,105718]
abbrev ni (x0:Qa) (x3 x4:Addr) (x5:Nat) (x6:List Value) (x7:Nat):=x0 0 19 (cb "list_iterator.__next__" [(rf x3)]) [(x3,(kc x4 x5)),(x4,(j0 x6 x7))]
section
variable (P:Params) (kv bG r0 r1 r2 r3 r4 r5 r6 r7:Value) (lE aP:Addr) (PB:List Value) (ae:Nat) (F:YE) (Z:YC) (fr:Addr) (L:jF) (B:Bool) (dy dz dA dB dC dD dF dG ai:Tok) (l:Int) (i:Nat) (TL:List Value) (eT:Nat) (aI lT:Addr) (dp:Tok) (x:Str) (M:Nat) (fK:List Value) (e2:Nat) (fL wv:Value) (er:Tok)
def Pu:RD:=⟨[(fr,(uv F P B lE aP kv bG [dy,dz,dA,dB,dC,dD,dF,dG] [r0,r1,r2,r3,r4,r5,r6,r7])),(Z.dP,(j8 (rf L.aL))),(L.aL,L.lex),(L.aD,(L.bc P l ai)),(L.bw,(j0 PB ae)),(aI,(kc lT i)),(lT,(j0 TL eT))],[wi [5,6] (yr lT i (vt x dp)),wi [4] (vm (vt x dp)),wi (rg 0 7) (uj M fK e2 fL)],mA 7 0 1 (fun a t=> .ok .next) (fun a t=> [fun _=>(uv F P B lE aP kv bG [dy,dz,dA,dB,dC,dD,dF,dG,(t 0)] [r0,r1,r2,r3,r4,r5,r6,r7,fL]),id,id,id,fun _=>(j0 fK e2),fun _=>(ki M),id]) (fun a t=> []),[],[0],[],4,fun q qT qS A K=> [ni q aI lT i TL eT,q 1 18 (cb "list.append" [rf L.bw,vt x dp]) [(L.bw,(j0 PB ae))],(l !=F.ln)=false,q 2 20 (jd fj (rf aI) (kD fr Z)) [(fr,(uv F P B lE aP kv bG [dy,dz,dA,dB,dC,dD,dF,dG,K 0] [r0,r1,r2,r3,r4,r5,r6,r7,vt x dp])),(Z.dP,(j8 (rf L.aL))),(L.aL,L.lex),(L.aD,(L.bc P l ai)),(L.bw,(kd (vt x dp) (j0 PB ae))),(aI,(kc lT (i+1))),(lT,(j0 TL eT))]]⟩
theorem Pw:GC P 20 (jd fj (rf aI) (kD fr Z)) (Pu P kv bG r0 r1 r2 r3 r4 r5 r6 r7 lE aP PB ae F Z fr L B dy dz dA dB dC dD dF dG ai l i TL eT aI lT dp x M fK e2 fL) (hk Cr):=ua
def Px:RD:=⟨[(fr,(uv F P B lE aP kv bG [dy,dz,dA,dB,dC,dD,dF,dG,er] [r0,r1,r2,r3,r4,r5,r6,r7,wv])),(Z.dP,(j8 (rf L.aL))),(L.aL,L.lex),(L.aD,(L.bc P l ai)),(L.bw,(j0 PB ae)),(aI,(kc lT i)),(lT,(j0 TL eT))],[wi [5,6] (yr lT i (vt x dp)),wi [4] (vm (vt x dp)),wi (rg 0 7) (uj M fK e2 fL)],mA 7 0 0 (fun a t=> .ok .next) (fun a t=> [fun _=>(uv F P B lE aP kv bG [dy,dz,dA,dB,dC,dD,dF,dG,er] [r0,r1,r2,r3,r4,r5,r6,r7,fL]),id,id,id,fun _=>(j0 fK e2),fun _=>(ki M),id]) (fun a t=> []),[],[],[],4,fun q qT qS A K=> [ni q aI lT i TL eT,q 1 18 (cb "list.append" [rf L.bw,vt x dp]) [(L.bw,(j0 PB ae))],(l !=F.ln)=false,q 2 20 (jd fj (rf aI) (kD fr Z)) [(fr,(uv F P B lE aP kv bG [dy,dz,dA,dB,dC,dD,dF,dG,er] [r0,r1,r2,r3,r4,r5,r6,r7,vt x dp])),(Z.dP,(j8 (rf L.aL))),(L.aL,L.lex),(L.aD,(L.bc P l ai)),(L.bw,(kd (vt x dp) (j0 PB ae))),(aI,(kc lT (i+1))),(lT,(j0 TL eT))]]⟩
theorem Py:GC P 20 (jd fj (rf aI) (kD fr Z)) (Px P kv bG r0 r1 r2 r3 r4 r5 r6 r7 lE aP PB ae F Z fr L B dy dz dA dB dC dD dF dG ai l i TL eT aI lT dp x M fK e2 fL wv er) (hk Cr):=ua
def Pz:RD:=⟨[(fr,(uv F P B lE aP kv bG [dy,dz,dA,dB,dC,dD,dF,dG,er] [r0,r1,r2,r3,r4,r5,r6,r7,wv])),(Z.dP,(j8 (rf L.aL))),(L.aL,L.lex),(L.aD,(L.bc P l ai)),(L.bw,(j0 PB ae)),(aI,(kc lT i)),(lT,(j0 TL eT))],[wi [5,6] (Jh i)],mA 7 0 0 (fun a t=> .ok .next) (fun a t=> [id,id,id,id,id,fun _=>(ki i),id]) (fun a t=> []),[],[],[],1,fun q qT qS A K=> [ni q aI lT i TL eT]⟩
theorem PA:GC P 20 (jd fj (rf aI) (kD fr Z)) (Pz P kv bG r0 r1 r2 r3 r4 r5 r6 r7 lE aP PB ae F Z fr L B dy dz dA dB dC dD dF dG ai l i TL eT aI lT wv er) (hk Ct):=ua
def PC:RD:=⟨[(fr,(uv F P B lE aP kv bG [dy,dz,dA,dB,dC,dD,dF,dG,er] [r0,r1,r2,r3,r4,r5,r6,r7,wv])),(Z.dP,(j8 (rf L.aL))),(L.aL,L.lex),(L.aD,(L.bc P l ai)),(L.bw,(j0 PB ae)),(aI,(kc lT i)),(lT,(j0 TL eT))],[wi [5,6] (yr lT i (vt x dp)),wi [4] (vm (vt x dp)),wi (rg 0 7) (uj M fK e2 fL)],mA 7 0 0 (fun a t=> .ok .next) (fun a t=> [fun _=>(uv F P B lE aP kv bG [dy,dz,dA,dB,dC,dD,dF,dG,er] [r0,r1,r2,r3,r4,r5,r6,r7,fL]),id,id,id,fun _=>(j0 fK e2),fun _=>(ki M),id]) (fun a t=> []),[],[],[],3,fun q qT qS A K=> [ni q aI lT i TL eT,q 1 18 (cb "list.append" [rf L.bw,vt x dp]) [(L.bw,(j0 PB ae))],q 2 20 (jd lA (rf aI) (kD fr Z)) [(fr,(uv F P B lE aP kv bG [dy,dz,dA,dB,dC,dD,dF,dG,er] [r0,r1,r2,r3,r4,r5,r6,r7,vt x dp])),(Z.dP,(j8 (rf L.aL))),(L.aL,L.lex),(L.aD,(L.bc P l ai)),(L.bw,(kd (vt x dp) (j0 PB ae))),(aI,(kc lT (i+1))),(lT,(j0 TL eT))]]⟩
theorem PD:GC P 20 (jd lA (rf aI) (kD fr Z)) (PC P kv bG r0 r1 r2 r3 r4 r5 r6 r7 lE aP PB ae F Z fr L B dy dz dA dB dC dD dF dG ai l i TL eT aI lT dp x M fK e2 fL wv er) (hk Pt):=ua
def PE:RD:=⟨[(fr,(uv F P B lE aP kv bG [dy,dz,dA,dB,dC,dD,dF,dG,er] [r0,r1,r2,r3,r4,r5,r6,r7,wv])),(Z.dP,(j8 (rf L.aL))),(L.aL,L.lex),(L.aD,(L.bc P l ai)),(L.bw,(j0 PB ae)),(aI,(kc lT i)),(lT,(j0 TL eT))],[wi [5,6] (Jh i)],mA 7 0 0 (fun a t=> .ok .next) (fun a t=> [id,id,id,id,id,fun _=>(ki i),id]) (fun a t=> []),[],[],[],1,fun q qT qS A K=> [ni q aI lT i TL eT]⟩
theorem PF:GC P 20 (jd lA (rf aI) (kD fr Z)) (PE P kv bG r0 r1 r2 r3 r4 r5 r6 r7 lE aP PB ae F Z fr L B dy dz dA dB dC dD dF dG ai l i TL eT aI lT wv er) (hk Ct):=ua
end
theorem Cu: ∀(l:List (Str×Tok)) (i:Nat),(sV l)[i]? =(l[i]?).map fun x=> .str x.1 x.2
 | [],i=>by simp [sV]
 |(k,t)::l,0=>by simp [sV]
 |(k,t)::l,i+1=>by simpa [sV] using Cu l i
theorem jW: ∀l:List (Str×Tok),(sV l).length=l.length
 | []=>rfl
 |_::l=>by simp [sV,jW l]
section
variable (W:World) (F:YE) (Z:YC) (fr lE aP:Addr) (L:jF) (B:Bool) (kv bG:Value) (Cp:List Tok) (rs:List Value) (q0 q1 q2 q3 q4 q5 q6 q7:Tok) (v0 v1 v2 v3 v4 v5 v6 v7:Value) (lt:Tok) (ln:Int) (aI lT:Addr) (eT:Nat) (items:List (Str×Tok)) (hM:items.length≤100)
def lG (P:Params) (PG:Obj) (i:Nat) (PB:List Value) (ae:Nat):List (Addr×Obj):= [(fr,PG),(Z.dP,j8 (.ref L.aL)),(L.aL,L.lex),(L.aD,L.bc P ln lt),(L.bw,j0 PB ae),(aI,kc lT i),(lT,j0 (sV items) eT)]
theorem tD {i:Nat} {x:Str} {t:Tok} {u:List (Str×Tok)} (h:items.drop i=(x,t)::u):((sV items).toArray)[i]? =some (.str x t):=by
 obtain ⟨h1,_,_⟩:=up h
 simp [Cu,h1]
include hM
theorem tF (hl:(ln !=F.ln)=false): ∀(l:List (Str×Tok)) (i:Nat) (PB:List Value) (ae:Nat) (wv:Value) (q8:Tok),items.drop i=l→i≤items.length→PB.length+items.length≤900+i→
  j6 pw W (jB W.params) (uj items.length (PB++sV l) (ae+l.length) (j9 l wv)) 20 (jd fj (.ref aI) (kD fr Z)) ((lG Z fr L lt ln aI lT eT items W.params (uv F W.params B lE aP kv bG [q0,q1,q2,q3,q4,q5,q6,q7,q8] [v0,v1,v2,v3,v4,v5,v6,v7,wv]) i PB ae).map some)
 | [],i,PB,ae,wv,q8,hu,hi,hx=>by
  have fZ:=U9 hu hi
  have h:=jY (w:=W) (PA W.params kv bG v0 v1 v2 v3 v4 v5 v6 v7 lE aP PB ae F Z fr L B q0 q1 q2 q3 q4 q5 q6 q7 lt ln i (sV items) eT aI lT wv q8) (by
   intro A K
   walk_at "ob"
   exact Uy (by simp [jW,fZ]))
  refine h.conv (Nat.le_refl _) rfl fun as ts la lt'=>⟨[],rfl,rfl,rfl,?_,rfl⟩
  rw [←fZ]
  have e:PB++sV []=PB:=by simp [sV]
  rw [e]
  rfl
 |(x,t)::u,i,PB,ae,wv,q8,hu,hi,hx=>by
  obtain ⟨h1,h2,h3⟩:=up hu
  have ih:=tF hl u (i+1) (PB++ [.str x t]) (ae+1) (.str x t) q8 h2 h3 (by simp;lia)
  have e1:PB++sV ((x,t)::u)=(PB++ [.str x t])++sV u:=by simp [sV]
  have e2:ae+((x,t)::u).length=ae+1+u.length:=by simp;lia
  rw [e1,e2]
  have h:=jY (w:=W) (Py W.params kv bG v0 v1 v2 v3 v4 v5 v6 v7 lE aP PB ae F Z fr L B q0 q1 q2 q3 q4 q5 q6 q7 lt ln i (sV items) eT aI lT t x items.length ((PB++ [.str x t])++sV u) (ae+1+u.length) (j9 u (.str x t)) wv q8) (by
   intro A K
   walk_at "ob"
   ·exact vR (tD items hu)
   ·exact uH (by simp;lia)
   ·exact hl
   ·rw [jy]
    exact tU ih)
  exact h.cv (fun ts=> []) fun _ _=>rfl
theorem Cv: ∀(l:List (Str×Tok)) (i:Nat) (PB:List Value) (ae:Nat) (wv:Value) (q8:Tok),items.drop i=l→i≤items.length→PB.length+items.length≤900+i→
  j6 pw W (jB W.params) (uj items.length (PB++sV l) (ae+l.length) (j9 l wv)) 20 (jd lA (.ref aI) (kD fr Z)) ((lG Z fr L lt ln aI lT eT items W.params (uv F W.params B lE aP kv bG [q0,q1,q2,q3,q4,q5,q6,q7,q8] [v0,v1,v2,v3,v4,v5,v6,v7,wv]) i PB ae).map some)
 | [],i,PB,ae,wv,q8,hu,hi,hx=>by
  have fZ:=U9 hu hi
  have h:=jY (w:=W) (PF W.params kv bG v0 v1 v2 v3 v4 v5 v6 v7 lE aP PB ae F Z fr L B q0 q1 q2 q3 q4 q5 q6 q7 lt ln i (sV items) eT aI lT wv q8) (by
   intro A K
   walk_at "ob"
   exact Uy (by simp [jW,fZ]))
  refine h.conv (Nat.le_refl _) rfl fun as ts la lt'=>⟨[],rfl,rfl,rfl,?_,rfl⟩
  rw [←fZ]
  have e:PB++sV []=PB:=by simp [sV]
  rw [e]
  rfl
 |(x,t)::u,i,PB,ae,wv,q8,hu,hi,hx=>by
  obtain ⟨h1,h2,h3⟩:=up hu
  have ih:=Cv u (i+1) (PB++ [.str x t]) (ae+1) (.str x t) q8 h2 h3 (by simp;lia)
  have e1:PB++sV ((x,t)::u)=(PB++ [.str x t])++sV u:=by simp [sV]
  have e2:ae+((x,t)::u).length=ae+1+u.length:=by simp;lia
  rw [e1,e2]
  have h:=jY (w:=W) (PD W.params kv bG v0 v1 v2 v3 v4 v5 v6 v7 lE aP PB ae F Z fr L B q0 q1 q2 q3 q4 q5 q6 q7 lt ln i (sV items) eT aI lT t x items.length ((PB++ [.str x t])++sV u) (ae+1+u.length) (j9 u (.str x t)) wv q8) (by
   intro A K
   walk_at "ob"
   ·exact vR (tD items hu)
   ·exact uH (by simp;lia)
   ·rw [jy]
    exact tU ih)
  exact h.cv (fun ts=> []) fun _ _=>rfl
theorem PH (hl:(ln !=F.ln)=false) (x:Str) (t:Tok) (u:List (Str×Tok)) (hu:items=(x,t)::u) (PB:List Value) (ae:Nat) (hx:PB.length+items.length≤900):
  j6 pw W (jB W.params) (pZ W.params items.length (PB++sV items) (ae+items.length) (j9 items .none)) 20 (jd fj (.ref aI) (kD fr Z)) ((lG Z fr L lt ln aI lT eT items W.params (uv F W.params B lE aP kv bG [q0,q1,q2,q3,q4,q5,q6,q7] [v0,v1,v2,v3,v4,v5,v6,v7]) 0 PB ae).map some):=by
 have j':items.drop 0=(x,t)::u:=hu
 obtain ⟨h1,h2,h3⟩:=up j'
 have ih:=fun q8=>tF W F Z fr lE aP L B kv bG q0 q1 q2 q3 q4 q5 q6 q7 v0 v1 v2 v3 v4 v5 v6 v7 lt ln aI lT eT items hM hl u 1 (PB++ [.str x t]) (ae+1) (.str x t) q8 h2 h3 (by simp;lia)
 have e1:PB++sV items=(PB++ [.str x t])++sV u:=by rw [hu];simp [sV]
 have e2:ae+items.length=ae+1+u.length:=by rw [hu];simp;lia
 have e3:j9 items .none=j9 u (.str x t):=by rw [hu];rfl
 rw [e1,e2,e3]
 have h:=jY (w:=W) (Pw W.params kv bG v0 v1 v2 v3 v4 v5 v6 v7 lE aP PB ae F Z fr L B q0 q1 q2 q3 q4 q5 q6 q7 lt ln 0 (sV items) eT aI lT t x items.length ((PB++ [.str x t])++sV u) (ae+1+u.length) (j9 u (.str x t))) (by
  intro A K
  walk_at "ob"
  ·exact vR (tD items j')
  ·exact uH (by simp;lia)
  ·exact hl
  ·rw [jy]
   exact ih _)
 exact h.cS fun _ _=>rfl
end
theorem jG {w:World} {kt:KT} {d:Nat} {l:Addr} {xs:List Value} {e:Nat} (hx:xs.length≤1000000) {m:Nat} (hm:xs.length=m):
  j6 pw w kt (j7 1 1 fun ts=> .int ((m:Nat):Int) (ts.getD 0 0)) d (.call (.builtin "len") ⟨[.ref l],[]⟩) [some (l,j0 xs e)]:=by
 subst hm
 refine .of ?_;intro A R s S Z hR
 have hl:=Z.own _ (.head _)
 have fi:xs.toArray.size=xs.length:=by simp
 refine Yh kind_len plain_len entry_len (args_len1 _) ?_
 unfold Builtin.«len»
 refine wpAny_bind (m:=oneArg "len" _) (wpAny_pure ?_)
 refine wpAny_bind (m:=callSpecial? (.ref l) (Str.ofString "__len__")) (wpAny_callSpecial?_slot (name:=Str.ofString "__len__") (kG hl rfl) F.slot_list_len
  (wpAny_call_entry F.slot_list_len (kG hl rfl) F.entry_list_len ?_ (F.args_list_len_1 _)))
 show wpAny _ _ (do retInt (←seqSize l)) _ _ s
 unfold seqSize
 refine wpAny_bind (wpAny_bind (wpAny_load hl ?_))
 refine wpAny_pure (wpAny_bind (wpAny_mkInt (wpAny_pure ⟨_,rfl,?_⟩)))
 refine wpAny_bind (wpAny_holding (wpAny_pure ?_))
 refine wpAny_bind (wpAny_letGo ?_)
 show wpAny _ _ (if ((xs.toArray.size:Nat):Int)<0 then _ else _) _ _ _
 rw [if_neg (by lia)]
 show wpAny _ _ (if ((xs.toArray.size:Nat):Int)≥2^63 then _ else _) _ _ _
 rw [if_neg (by lia)]
 rw [fi]
 exact wpAny_bind (wpAny_mkInt (wpAny_pure ⟨_,rfl,hR _ [] [s.toks+1] rfl rfl (uz (n:=s.toks+1+1) rfl Z)⟩))
theorem jm {W:World} {kt:KT} {d:Nat} {l:Addr} {e:Nat} {t:Tok} (E:Nat→Int) (et:Nat→Tok) (n:Nat) (hn:n≤5) (hE: ∀i j,i<j→j≤n→E i<E j) (j:Nat) (hj:j≤n) (x:Int) (hx:x=E j):
  j6 pw W kt (j7 1 1 fun ts=> .int ((j:Nat):Int) (ts.getD 0 0)) d (.call (.builtin "list.index") ⟨[.ref l,.int x t],[]⟩) [some (l,j0 (uP E et n) e)]:=by
 subst hx
 have hs:((uP E et n).toArray).size=n+1:=by simp [uP]
 have hg: ∀m (hm:m<((uP E et n).toArray).size),((uP E et n).toArray)[m]= .int (E m) (et m):=fun m hm=>by simp [uP]
 refine xm (xs:=(uP E et n).toArray) (n:=e) (mP (E j)) (fun y hy=> ?_) j (by lia) (by lia) ?_ (fun m hm Cw=> ?_)
 ·have m8: ∃k,k<n+1∧ .int (E k) (et k)=y:=by simpa [uP] using hy
  obtain ⟨k,hk,rfl⟩:=m8
  exact MeetsSeq.EqGives.int _ _ _ _
 ·rw [hg]
  simp [mP]
 ·rw [hg]
  have:=hE m j Cw hj
  have:(E m==E j)=false:=beq_false_of_ne (by lia)
  simpa [mP] using this
theorem V7: ∀(a b:List (Str×Tok)),sV (a++b)=sV a++sV b
 | [],b=>rfl
 |(x,t)::a,b=>by simp [sV,V7 a b]
theorem Cx: ∀l:List (Str×Tok),sV l=l.map fun x=> .str x.1 x.2
 | []=>rfl
 |(x,t)::l=>by simp [sV,Cx l]
theorem Cy (l:List (Str×Tok)) (a b:Nat):sV (k7 l a b)=((sV l).drop a).take (b-a):=by
 unfold k7
 simp [Cx,List.map_take,List.map_drop]
theorem Cz (xs:List Value) (a b:Nat) (ha:a≤xs.length) (hb:b≤xs.length) (hi:Option Int) (hh:hi=some (b:Int)∨(hi=none∧b=xs.length)):slicePick xs.toArray (some (a:Int)) hi none=((xs.drop a).take (b-a)).toArray:=by
 unfold slicePick
 have e:sliceBounds (some (a:Int)) hi none xs.toArray.size=((a:Int),(b:Int),1):=by
  unfold sliceBounds
  have hs:xs.toArray.size=xs.length:=by simp
  rcases hh with rfl|⟨rfl,L8⟩
  ·simp only [Option.getD_none,show (1:Int)>0 from by decide,if_true,hs]
   have h1: ¬((a:Int)<0):=by lia
   have h2: ¬((b:Int)<0):=by lia
   rw [if_neg h1,if_neg h2]
   congr 1
   ·lia
   ·congr 1;lia
  ·simp only [Option.getD_none,show (1:Int)>0 from by decide,if_true,hs]
   have h1: ¬((a:Int)<0):=by lia
   rw [if_neg h1]
   congr 1
   ·lia
   ·congr 1;lia
 rw [e]
 show (List.filterMap (fun x=>xs.toArray[x]?) (sliceRange (a:Int) (b:Int) 1)).toArray=_
 rw [xn,tG]
where
 tG (xs:List Value): ∀(m p:Nat),(List.range' p m).filterMap (fun i=>xs.toArray[i]?)=(xs.drop p).take m
 |0,p=>by simp
 |m+1,p=>by
  rw [List.range'_succ,List.filterMap_cons]
  cases h:xs.toArray[p]? with
  |none=>
   have hp:xs.length≤p:=by simpa using h
   simp only
   rw [tG xs m (p+1),List.drop_eq_nil_of_le hp,List.drop_eq_nil_of_le (dx hp)]
   simp
  |some c=>
   have hp:xs[p]? =some c:=by simpa using h
   obtain ⟨hl,hc⟩:=List.getElem?_eq_some_iff.mp hp
   simp only
   rw [tG xs m (p+1),List.drop_eq_getElem_cons hl,List.take_succ_cons,hc]
theorem jl {W:World} {kt:KT} {d:Nat} {l sl:Addr} {row:List (Str×Tok)} {e:Nat} {x y:Int} {t u:Tok} (a b:Nat) (hx:x=(a:Int)) (hy:y=(b:Int)) (hr:row.length≤900) (ha:a≤row.length) (hb:b≤row.length):
  j6 pw W kt (k0 (j0 (sV (k7 row a b)) 0) 2) d (.call (.builtin "list.__getitem__") ⟨[.ref l,.ref sl],[]⟩) [some (l,j0 (sV row) e),some (sl,⟨.type "slice",none,.fields #[.int x t,.int y u,.none],#[]⟩)]:=by
 subst hx hy
 exact U4 (lo:=some ((a:Int),t)) (hi:=some ((b:Int),u)) (st:=none) (by simp) (by rw [jW];lia) (by
  rw [Cy]
  exact Cz (sV row) a b (by rw [jW];exact ha) (by rw [jW];exact hb) _ (.inl rfl))
theorem vj {W:World} {kt:KT} {d:Nat} {l sl:Addr} {row:List (Str×Tok)} {e:Nat} {x:Int} {t:Tok} (a:Nat) (hx:x=(a:Int)) (hr:row.length≤900) (ha:a≤row.length):
  j6 pw W kt (k0 (j0 (sV (k7 row a row.length)) 0) 2) d (.call (.builtin "list.__getitem__") ⟨[.ref l,.ref sl],[]⟩) [some (l,j0 (sV row) e),some (sl,⟨.type "slice",none,.fields #[.int x t,.none,.none],#[]⟩)]:=by
 subst hx
 exact U4 (lo:=some ((a:Int),t)) (hi:=none) (st:=none) (by simp) (by rw [jW];lia) (by
  rw [Cy]
  exact Cz (sV row) a row.length (by rw [jW];exact ha) (by rw [jW];exact Nat.le_refl _) _ (.inr ⟨rfl,by rw [jW]⟩))
theorem u7 (row:List (Str×Tok)) (a b:Nat):(k7 row a b).length≤row.length:=by
 unfold k7
 exact jc (List.length_take_le' _ _) (by rw [List.length_drop];exact Nat.sub_le _ _)
theorem kf {W:World} {kt:KT} {d:Nat} {x y:Addr} {row:List (Str×Tok)} {e1 e2:Nat} (a b c d':Nat) (hr:row.length≤400):
  j6 pw W kt (k0 (j0 (sV (YR row a b c d')) 0) 2) d (.call (.builtin "list.__add__") ⟨[.ref x,.ref y],[]⟩) [some (x,j0 (sV (k7 row a b)) e1),some (y,j0 (sV (k7 row c d')) e2)]:=by
 unfold YR
 rw [V7]
 exact B2 (by rw [jW,jW];have:=u7 row a b;have:=u7 row c d';lia)
theorem ke.uniq {C:Nat→Bool} {c p w p' w':Nat} (a:ke C c p w) (b:ke C c p' w'):p=p'∧w=w':=by
 obtain ⟨⟨a1,a2,a3⟩,a4,a5,a6⟩:=a
 obtain ⟨⟨b1,b2,b3⟩,b4,b5,b6⟩:=b
 have e:w=w':=by
  rcases Nat.lt_trichotomy w w' with q|q|q
  ·have:=a6 w' q b4;rw [b2] at this;cases this
  ·exact q
  ·have:=b6 w q a4;rw [a2] at this;cases this
 subst e
 refine ⟨?_,rfl⟩
 rcases Nat.lt_trichotomy p p' with q|q|q
 ·rcases b5 with z|⟨z1,z2⟩
  ·lia
  ·have:=a3 (p'-1) (by lia) (by lia);rw [z2] at this;cases this
 ·exact q
 ·rcases a5 with z|⟨z1,z2⟩
  ·lia
  ·have:=b3 (p-1) (by lia) (by lia);rw [z2] at this;cases this
section
variable (W:World) (L:jX) (E:Nat→Int) (et:Nat→Tok) (C:Nat→Bool) (n:Nat) (hn:n=4∨n=5) (hE: ∀i j,i<j→j≤n→E i<E j) (h0:E 0=0)
include hn hE h0
theorem vK (lc:List Tok) (ty bf:Tok) (c p w:Nat) (hc:c≤n) (h:ke C c p w) (x:Int) (hx:x=E c):j6 pw W (jB W.params) (yu W.params L C n p) 30 (.call (.ref 21) ⟨[.ref L.aP,.str L.T ty,.int x bf],[]⟩) ((L.aV W.params (jL L.af) false (uP E et n) (vl C n)++ [(L.af,jD 100 lc)]).map some):=by
 subst hx
 obtain ⟨p',w',h',k⟩:=Nh W L E et C n hn hE h0 lc ty bf c hc ⟨w,h.2.1,h.1.2.1⟩
 obtain ⟨rfl,rfl⟩:=h.uniq h'
 exact k
theorem vr (bb: ∀k,E k=(k:Int)) (lc:List Tok) (ty bf:Tok) (c p w:Nat) (hc:c≤n) (cq:c≤4) (h:ke C c p w) (x:Int) (hx:x=E c):j6 pw W (jB W.params) (ya W.params L C n p) 30 (.call (.ref 21) ⟨[.ref L.aP,.str L.T ty,.int x bf],[]⟩) ((L.aV W.params (ku L.af L.aA) true (uP E et n) (vl C n)++ [(L.aA,jD 98 lc)]).map some):=by
 subst hx
 obtain ⟨p',w',h',k⟩:=Ni W L E et C n hn hE h0 bb lc ty bf c hc cq ⟨w,h.2.1,h.1.2.1⟩
 obtain ⟨rfl,rfl⟩:=h.uniq h'
 exact k
theorem qb (bb: ∀k,E k=(k:Int)) (ty bf:Tok) (c p w:Nat) (hc:c≤n) (cq:c≤4) (h:ke C c p w) (x:Int) (hx:x=E c):j6 pw W (jB W.params) (lx W.params L C n p) 30 (.call (.ref 21) ⟨[.ref L.aP,.str L.T ty,.int x bf],[]⟩) ((L.aV W.params (jL L.af) true (uP E et n) (vl C n)).map some):=by
 subst hx
 obtain ⟨p',w',h',k⟩:=Nk W L E et C n hn hE h0 bb ty bf c hc cq ⟨w,h.2.1,h.1.2.1⟩
 obtain ⟨rfl,rfl⟩:=h.uniq h'
 exact k
theorem VW (lc:List Tok) (ty bf:Tok) (bo: ∃k,k<n∧C k=true) (x:Int) (hx:x=0):j6 pw W (jB W.params) v8 30 (.call (.ref 21) ⟨[.ref L.aP,.str L.T ty,.int x bf],[]⟩) ((L.aV W.params (jL L.af) false (uP E et n) (vl C n)++ [(L.af,jD 100 lc)]).map some):=by
 subst hx
 exact Nm W L E et C n hn hE h0 lc ty bf bo
theorem Jo (bb: ∀k,E k=(k:Int)) (lc:List Tok) (ty bf:Tok) (bo: ∃k,k<n∧C k=true) (x:Int) (hx:x=0):j6 pw W (jB W.params) v8 30 (.call (.ref 21) ⟨[.ref L.aP,.str L.T ty,.int x bf],[]⟩) ((L.aV W.params (ku L.af L.aA) true (uP E et n) (vl C n)++ [(L.aA,jD 98 lc)]).map some):=by
 subst hx
 exact Nn W L E et C n hn hE h0 bb lc ty bf bo
end
section
variable (W:World) (F:YE) (Z:YC) (fr lE aP:Addr) (L:jF) (B:Bool) (kv bG:Value) (q0 q1 q2 q3 q4 q5 q6 q7:Tok) (v0 v1 v2 v3 v4 v5 v6 v7:Value) (lt:Tok) (ln:Int) (aI lT:Addr) (eT:Nat) (X:List (Str×Tok)) (hX:X.length≤50) (ae:Nat)
include hX
theorem yj (hl:ln=F.ln) (dM:X≠ []):j6 pw W (jB W.params) (pZ W.params X.length (sV X) (ae+X.length) (j9 X .none)) 20 (jd fj (.ref aI) (kD fr Z)) ((lG Z fr L lt ln aI lT eT X W.params (uv F W.params B lE aP kv bG [q0,q1,q2,q3,q4,q5,q6,q7] [v0,v1,v2,v3,v4,v5,v6,v7]) 0 [] ae).map some):=by
 obtain ⟨⟨x,t⟩,u,hu⟩:=List.exists_cons_of_ne_nil dM
 exact PH W F Z fr lE aP L B kv bG q0 q1 q2 q3 q4 q5 q6 q7 v0 v1 v2 v3 v4 v5 v6 v7 lt ln aI lT eT X (by lia) (by rw [hl];simp) x t u hu [] ae (by simp;lia)
theorem uh (hl:ln=F.ln) (Y:List (Str×Tok)) (hY:Y.length≤500) (q8:Tok) (wv:Value):j6 pw W (jB W.params) (uj X.length (sV (Y++X)) (ae+(Y++X).length) (j9 X wv)) 20 (jd fj (.ref aI) (kD fr Z)) ((lG Z fr L lt ln aI lT eT X W.params (uv F W.params B lE aP kv bG [q0,q1,q2,q3,q4,q5,q6,q7,q8] [v0,v1,v2,v3,v4,v5,v6,v7,wv]) 0 (sV Y) (ae+Y.length)).map some):=by
 have h:=tF W F Z fr lE aP L B kv bG q0 q1 q2 q3 q4 q5 q6 q7 v0 v1 v2 v3 v4 v5 v6 v7 lt ln aI lT eT X (by lia) (by rw [hl];simp) X 0 (sV Y) (ae+Y.length) wv q8 rfl (Nat.zero_le _) (by rw [jW];lia)
 rw [V7,List.length_append,←Nat.add_assoc]
 exact h
theorem yi (Y:List (Str×Tok)) (hY:Y.length≤500) (q8:Tok) (wv:Value):j6 pw W (jB W.params) (uj X.length (sV (Y++X)) (ae+(Y++X).length) (j9 X wv)) 20 (jd lA (.ref aI) (kD fr Z)) ((lG Z fr L lt ln aI lT eT X W.params (uv F W.params B lE aP kv bG [q0,q1,q2,q3,q4,q5,q6,q7,q8] [v0,v1,v2,v3,v4,v5,v6,v7,wv]) 0 (sV Y) (ae+Y.length)).map some):=by
 have h:=Cv W F Z fr lE aP L B kv bG q0 q1 q2 q3 q4 q5 q6 q7 v0 v1 v2 v3 v4 v5 v6 v7 lt ln aI lT eT X (by lia) X 0 (sV Y) (ae+Y.length) wv q8 rfl (Nat.zero_le _) (by rw [jW];lia)
 rw [V7,List.length_append,←Nat.add_assoc]
 exact h
end
theorem yh {w:World} {d:Nat} {ss:List Stmt} {env:Env} {X:RD} {H:Bool→Nat×Nat} {res:List Addr→List Tok→Except Value Flow} (run:GT w.params d Flow (uq ss env) res X H) (dg: ∀A K,YQ (X.ob (qa w X) (qt w X) (qs w X) A K)) (fW: ∀as ts,res as ts=X.an.res as ts)
  (hf:X.eg:=by exact fun _ _=>rfl):jx pw w (jB w.params) X.an d ss env (X.vs.map some):=by
 intro A R s S Z hR
 rw [yg]
 refine wpAny_mono (xk run dg S Z hf) (fun f s' q=> ?_) (fun e s' q=> ?_)
 ·obtain ⟨as,ts,e,la,lt,p⟩:=q
  have:=hR s' as ts la lt p
  rw [←fW,←e] at this
  exact this
 ·obtain ⟨as,ts,e',la,lt,p⟩:=q
  have:=hR s' as ts la lt p
  rw [←fW,←e'] at this
  exact this
theorem jx.conv {pr:Program} {w:World} {kt:KT} {an aU:jZ} {d:Nat} {ss:List Stmt} {env:Env} {vs:List (Option (Addr×Obj))} (h:jx pr w kt an d ss env vs) (eh:aU.na=an.na)
  (f: ∀as ts,as.length=an.na→ts.length=an.nt→ ∃cf,cf.length=aU.nt∧aU.res as cf=an.res as ts∧(aU.upd as cf).length=(an.upd as ts).length∧yx vs (aU.upd as cf)=yx vs (an.upd as ts)∧aU.new as cf=an.new as ts):jx pr w kt aU d ss env vs:=by
 intro A R s S Z hR
 refine h A R s S Z fun s' as ts la lt p=> ?_
 obtain ⟨cf,l',e1,e2,e3,e4⟩:=f as ts la lt
 rw [←e1]
 refine hR s' as cf (la.trans eh.symm) l' ?_
 obtain ⟨p1,p2,p3,p4,p5,p6,p7,p8,p9⟩:=p
 refine ⟨p1,e2.trans p2,fun i q g h1 h2=> ?_,by rw [e4,eh];exact p4,by rw [e4];exact p5,p6,p7,p8,p9⟩
 have hi:i<(aU.upd as cf).length:=(List.getElem?_eq_some_iff.mp h2).1
 obtain ⟨g0,hg⟩: ∃g0,(an.upd as ts)[i]? =some g0:=⟨_,List.getElem?_eq_getElem (by lia)⟩
 have:=congrArg (·[i]?) e3
 simp only [yx,List.getElem?_zipWith,h1,h2,hg,Option.map_some,Option.some.injEq] at this
 rw [this]
 exact p3 i q g0 h1 hg
theorem jx.cv {pr:Program} {w:World} {kt:KT} {an aU:jZ} {d:Nat} {ss:List Stmt} {env:Env} {vs:List (Option (Addr×Obj))} (h:jx pr w kt an d ss env vs) (g:List Tok→List Tok) (e: ∀as ts,((g ts).length,aU.key vs as (g ts))=(aU.nt,an.key vs as ts)):jx pr w kt aU d ss env vs:=
 h.conv (congrArg (·.2.1) (e [] [])) fun as ts _ _=>⟨g ts,congrArg (·.1) (e as ts),oO (congrArg (·.2) (e as ts))⟩
theorem jx.cS {pr:Program} {w:World} {kt:KT} {an aU:jZ} {d:Nat} {ss:List Stmt} {env:Env} {vs:List (Option (Addr×Obj))} (h:jx pr w kt an d ss env vs) (e: ∀as ts,(aU.nt,aU.key vs as ts)=(an.nt,an.key vs as ts)):jx pr w kt aU d ss env vs:=
 h.conv (congrArg (·.2.1) (e [] [])) fun as ts _ lt=>⟨ts,lt.trans (congrArg (·.1) (e as ts)).symm,oO (congrArg (·.2) (e as ts))⟩
def PJ:=kg [xZ,om,Y6,0x12a9393282824282828912828282428282891282828242828289128289324912424242727272627272791279127932691262693162525252525,Ja,419,Jb,1808922455204,vu,0x132939327272627272791270e0e940ea630932f912f2f,Y7,0x1a8359334913434a7]
def PK:=kg [r9,sa,i3,om,Y6,0x193162323232323,zQ,Vl,419,Vm,1808888769188,vu,0x130939325252425252591250e0e940ea62e932d912d2d,Y7,0x1a8339332913232a7]
def PN:=kg [za,oz,0x193152323232323,zQ,Vn,419,Vo,0x1a8339332913232a7131313930d1230939325252425252591250d0d940da62e932d912d2d0d0d0d94a52a2c2aa4]
def PO:=kg [zb,mM,Y6,0x1339133933291323293163131313131,oj,0x136939334343034343491343434303434349134343430343434913434933091303030,Ja,424,Jb,1830599407785,vu,0x1330e0e940eab3c933b913b3b,oj,0x13f93933d3d243d3d3d913d3d3d243d3d3d913d3d3d243d3d3d913d3d932491242424,Ja,428,Jb,1847930864045,vu,0x147939333333233333391330e0e940eaf459344914444,Y7,0x1b14a9349914949b0]
def PQ:=kg [sM,mM,Y6,0x193162d2d2d2d2d,zR,Vl,424,Vm,1830532035753,vu,0x10e0e940eab389337913737,zS,Vl,428,Vm,1847863492013,vu,0x14393932f2f2e2f2f2f912f0e0e940eaf419340914040,Y7,0x1b1469345914545b0]
def PS:=kg [zB,oz,0x193152d2d2d2d2d,zR,Vn,424,Vo,0x10d0d940dab3893379137370d0d0d94aa343634a9,zS,Vn,428,Vo,0x1b1469345914545b0131313930d124393932f2f2e2f2f2f912f0d0d940daf4193409140400d0d0d94ae3d3f3dad]
def PT:=kg [zC,Y6,0x142939340403c404040914040403c404040914040403c404040914040933c913c3c3c3f3f3f3e3f3f3f913f913f933e913e3e93163d3d3d3d3d,Ja,429,Jb,1852276360366,vu,0x14b9393494930494949914949493049494991494949304949499149499330913030303f3f3f3e3f3f3f913f0e0e940eb0489347914747,Ja,433,Jb,1869607816626,vu,0x1549393525224525252915252522452525291525252245252529152529324912424243f3f3f3e3f3f3f913f0e0e940eb4519350915050,Ja,437,Jb,1886939272886,vu,0x15c93933f3f3e3f3f3f913f0e0e940eb85a9359915959,Y7,0x1ba5f935e915e5eb9]
def PU:=kg [sM,mM,eM,sy,i3,sx,Y6,0x193163737373737,zT,Vl,429,Vm,1852175302318,vu,0x10e0e940eb0429341914141,zU,Vl,433,Vm,1869506758578,vu,0x10e0e940eb44b934a914a4a,zV,Vl,437,Vm,1886838214838,vu,0x156939339393839393991390e0e940eb8549353915353,Y7,0x1ba599358915858b9]
def PV:=kg [zW,oz,0x193153737373737,zT,Vn,429,Vo,0x10d0d940db04293419141410d0d0d94af3e403eae,zU,Vn,433,Vo,0x10d0d940db44b934a914a4a0d0d0d94b3474947b2,zV,Vn,437,Vo,0x1ba599358915858b9131313930d1256939339393839393991390d0d940db85493539153530d0d0d94b7505250b6]
def PW:=kg [zX,Y6,0x14e93934c4c484c4c4c914c4c4c484c4c4c914c4c4c484c4c4c914c4c9348914848484b4b4b4a4b4b4b914b914b934a914a4a93164949494949,Ja,434,Jb,1873953312947,vu,0x1b5549353915353,sN,0x157939355553c555555915555553c555555915555553c555555915555933c913c3c3c,Ja,438,Jb,1891284769207,vu,0x1b95d935c915c5c,sN,0x16093935e5e305e5e5e915e5e5e305e5e5e915e5e5e305e5e5e915e5e933091303030,Ja,442,Jb,1908616225467,vu,0x1bd669365916565,sN,0x169939367672467676791676767246767679167676724676767916767932491242424,Ja,446,Jb,1925947681727,vu,0x17193934b4b4a4b4b4b914b0e0e940ec16f936e916e6e,Y7,0x1c3749373917373c2]
def PX:=kg [sM,mM,eM,sy,i3,sx,eM,zY,i3,zD,Y6,0x193164141414141,zZ,Vl,434,Vm,1873818568883,vu,0x10e0e940eb54c934b914b4b,hO,z0,Vl,438,Vm,1891150025143,vu,0x10e0e940eb9559354915454,hO,z6,Vl,442,Vm,1908481481403,vu,0x10e0e940ebd5e935d915d5d,hO,z7,Vl,446,Vm,1925812937663,vu,0x169939343434243434391430e0e940ec1679366916666,Y7,0x1c36c936b916b6bc2]
def PY:=kg [zW,1155565161876,zY,oh,0x1af0d0b0b0b0b0dae,oi,432,mE,433,oz,0x193154141414141,zZ,Vn,434,Vo,0x10d0d940db54c934b914b4b0d0d0d94b4484a48b3,hO,z0,Vn,438,Vo,0x10d0d940db95593549154540d0d0d94b8515351b7,hO,z6,Vn,442,Vo,0x10d0d940dbd5e935d915d5d0d0d0d94bc5a5c5abb,hO,z7,Vn,446,Vo,0x1c36c936b916b6bc2131313930d1269939343434243434391430d0d940dc16793669166660d0d0d94c0636563bf]
def PZ:=kg [zX,eM,0x14994000000490000004900000049,vB,0x153939351515051515191515151505151519151515150515151915151935091505050b24b4a00494900000049,mD,0x1b40e0b0b0b0b0eb3,mx,437,iP,438,Y6,0x15a9393585854585858915858585458585891585858545858589158589354915454545757575657575791579157935691565693165555555555,Ja,439,Jb,1895630265528,vu,0x1ba60935f915f5f,oA,0x163939361614861616191616161486161619161616148616161916161934891484848,Ja,443,Jb,1912961721788,vu,0x1be699368916868,oA,0x16c93936a6a3c6a6a6a916a6a6a3c6a6a6a916a6a6a3c6a6a6a916a6a933c913c3c3c,Ja,447,Jb,1930293178048,vu,0x1c2729371917171,oA,0x175939373733073737391737373307373739173737330737373917373933091303030,Ja,451,Jb,1947624634308,vu,0x1c67b937a917a7a,oA,0x17e93937c7c247c7c7c917c7c7c247c7c7c917c7c7c247c7c7c917c7c932491242424,Ja,455,Jb,1964956090568,vu,0x186939357575657575791570e0e940eca849383918383,Y7,0x1cc899388918888cb]
def vk:List Nat:=(rg 0 13)
def fk:List Nat:=(rg 0 12++ [24])
noncomputable def nj:List Nat:= [26,12,27,6,28,29,10,30]
noncomputable def qc:List Nat:= [26,12,27,6,28,10]
noncomputable def qd:List Nat:= [26,24,27,6,28,10]
noncomputable def qe:List Nat:= [38,12,39,6,40,41,10,42]
noncomputable def tH:List Nat:= [50,12,51,6,52,53,10,54]
abbrev jT (x0:List (Str×Tok)) (x1 x2:Nat):=YR x0 (x1+1) x2 x1 (x1+1)
abbrev jU (x0:List (Str×Tok)) (x1 x2:Nat):=YR x0 (x1-1) x1 x2 (x1-1)
abbrev vf (x0:Qa) (x1:Nat) (x3:jX) (x4:Int) (x5:Tok) (x6:List Value):=x0 x1 33 (cb "list.index" [(rf x3.lE),(vi x4 x5)]) [(x3.lE,(j0 x6 x3.eE))]
abbrev uA (x0:Addr) (x1:Nat→Addr) (x2:Nat):=cb "list.__getitem__" [(rf x0),(rf (x1 x2))]
abbrev dd (x0:Qa) (x1:Nat) (x3:Nat→Addr) (x4:Nat) (x7:List (Str×Tok)) (x8 x9:Nat):=x0 x1 33 (cb "list.__add__" [(rf (x3 x4)),(rf (x3 (x4+2)))]) [((x3 x4),(j0 (sV (k7 x7 (x8+1) x9)) 0)),((x3 (x4+2)),(j0 (sV (k7 x7 x8 (x8+1))) 0))]
abbrev dQ (x0:Qa) (x1:Nat) (x3:Nat→Addr) (x4:Nat) (aJ:jX) (aB:Nat→Tok) (bO:Nat) (bF:List Tok) (bP:Nat→Bool) (aK bS:Nat) (du:List Value):=x0 x1 33 (cr (x3 x4) []) (uD.ll ⟨0,0,(x3 x4),(x3 (x4+1)),(x3 (x4+2)),(x3 (x4+3)),(x3 (x4+4)),aJ.af,0,0,0,0,0,0,0,0,(aB bO)⟩ aJ.cE aJ.lE bF (JZ bP aK bS (kr aB (bO+1) 5)) (UU bP aK bS) (dX aK bS (kr aB (bO+6) 5)) (aK-bS) du aJ.eE)
noncomputable abbrev yQ (x0:Nat→Tok) (x1 x2 x3 x5 x6 x8:Nat):= [(x0 x1),(x0 x2),(x0 x3),(x0 (x3+1)),(x0 x5),(x0 x6),(x0 (x5+4)),(x0 x8),(x0 (x8+1))]
abbrev vg (x2:Nat):=j7 1 1 (fI ((x2:Nat):Int))
abbrev yR (x0:Nat→Addr) (x1 x2:Nat):=((x0 x1),(fo "list_iterator" [(rf (x0 x2)),(vi 0 0)]))
abbrev dS (x0:Qa) (x1:Nat) (x3:Nat→Addr) (x4:Nat) (x7:List (Str×Tok)) (x8 aJ:Nat):=x0 x1 33 (cb "list.__add__" [(rf (x3 x4)),(rf (x3 (x4+2)))]) [((x3 x4),(j0 (sV (k7 x7 (x8-1) x8)) 0)),((x3 (x4+2)),(j0 (sV (k7 x7 aJ (x8-1))) 0))]
abbrev jK (x0:List (Str×Tok)) (x1:Nat):=k7 x0 x1 (x0).length
abbrev nk (x0:jX) (x1:Params) (x2 x3:List Value) (x4:List Tok) (x5:Addr) (x6:YE) (x7:Value) (x8:Int) (x9:Tok) (aJ:YC) (aB:jF) (bO:Int) (bF:Tok) (bP:Nat) (aK:Addr) (bS:List (Str×Tok)) (bV:Nat) (bB:Tok):= [(x0.aP,x0.prog),(x0.d2,(x0.ei x1)),(x0.aF,x0.fn),(x0.aN,x0.bq),(x0.bD,(fN (jL x0.af))),(x0.cT,(j8 (vt x0.T x0.tx))),(x0.cE,(j8 (rf x0.lE))),(x0.cC,(j8 (rf x0.lC))),(x0.cB,(j8 (.bool false))),(x0.b',x0.cg),(x0.lE,(j0 x2 x0.eE)),(x0.lC,(j0 x3 x0.eC)),(x0.af,(jD 100 x4)),(x5,(uv x6 x1 false x0.lE x0.aP x7 (vi x8 x9) [] [])),(aJ.dP,(j8 (rf aB.aL))),(aB.aL,aB.lex),(aB.aD,(aB.bc x1 bO bF)),(aB.bw,(j0 [] bP)),(aJ.cU,(j8 (rf aK))),(aK,(j0 (sV bS) bV)),(aJ.cT,(j8 (vt x0.T bB)))]
abbrev yB (x0:Nat→Addr) (x1:Nat):=cb "range_iterator.__next__" [(rf (x0 x1))]
abbrev Yr (x0:Qa) (x3:Nat→Addr) (x4:Nat) (x6:Nat→Tok) (x8:List (Str×Tok)):=x0 1 34 (cb "range.__iter__" [(rf (x3 x4))]) [((x3 x4),(fo "range" [(vi 0 (x6 4)),(vi ((((x8).length:Nat):Int)+1) (x6 3)),(vi 1 (x6 5))]))]
abbrev JP (x0:Qa) (x1:Nat) (x3:jX) (x4:Tok) (x5:Int) (x6:Tok) (x7:Params) (x8 x9:List Value) (aJ:List Tok):=x0 x1 33 (cr 21 [(rf x3.aP),(vt x3.T x4),(vi x5 x6)]) (x3.aV x7 (jL x3.af) false x8 x9++ [(x3.af,jD 100 aJ)])
abbrev JQ (x0:Addr) (x1:List (Str×Tok)) (x2:Nat) (x3:Nat→Addr) (x4 x5:Nat) (x6:Nat→Tok) (x7 x8:Nat):= [(x0,(j0 (sV x1) x2)),((x3 x4),(fo "slice" [(vn x5 (x6 x7)),(vi (((x5:Nat):Int)+1) (x6 x8)),.none]))]
abbrev JR (x0:Addr) (x1:List (Str×Tok)) (x2:Nat) (x3:Nat→Addr) (x4 x5:Nat) (x6:Nat→Tok) (x7 x8 x9:Nat):= [(x0,(j0 (sV x1) x2)),((x3 x4),(fo "slice" [(vi (((x5:Nat):Int)+1) (x6 x7)),(vn x8 (x6 x9)),.none]))]
abbrev fm (x0:Qa) (x1:Nat) (x3:Nat→Addr) (x4:Nat) (x9:Nat→Tok) (aJ:Nat) (aB:jX) (bP:Nat→Bool) (aK bS:Nat) (bI:List Value):=x0 x1 33 (cr (x3 x4) []) (uD.gj ⟨0,0,(x3 x4),(x3 (x4+1)),0,(x3 (x4+2)),0,(x3 24),0,0,0,0,0,0,0,0,(x9 aJ)⟩ aB.cE aB.lE (kr x9 22 10) (JZ bP aK bS (kr x9 (aJ+1) 5)) (UU bP aK bS) bI aB.eE)
abbrev qf (x0:jX) (x1:Params) (x2 x3:List Value) (x4:List Tok) (x5:Addr) (x6:YE) (x7:Value) (x8:Int) (x9:Tok) (aJ:YC) (aB:jF) (bO:Int) (bF:Tok) (bP:Nat) (aK:Addr) (bS:List (Str×Tok)) (bV:Nat) (bB:Tok):= [(x0.aP,x0.prog),(x0.d2,(x0.ei x1)),(x0.aF,x0.fn),(x0.aN,x0.bq),(x0.bD,(fN (ku x0.af x0.aA))),(x0.cT,(j8 (vt x0.T x0.tx))),(x0.cE,(j8 (rf x0.lE))),(x0.cC,(j8 (rf x0.lC))),(x0.cB,(j8 (.bool true))),(x0.b',x0.cg),(x0.lE,(j0 x2 x0.eE)),(x0.lC,(j0 x3 x0.eC)),(x0.aA,(jD 98 x4)),(x5,(uv x6 x1 true x0.lE x0.aP x7 (vi x8 x9) [] [])),(aJ.dP,(j8 (rf aB.aL))),(aB.aL,aB.lex),(aB.aD,(aB.bc x1 bO bF)),(aB.bw,(j0 [] bP)),(aJ.cU,(j8 (rf aK))),(aK,(j0 (sV bS) bV)),(aJ.cT,(j8 (vt x0.T bB)))]
abbrev qg (x0:jX) (x1:Params) (x2 x3:List Value) (x4:Addr) (x5:YE) (x6:Value) (x7:Int) (x8:Tok) (x9:YC) (aJ:jF) (aB:Int) (bO:Tok) (bF:Nat) (bP:Addr) (aK:List (Str×Tok)) (bS:Nat) (bV:Tok):= [(x0.aP,x0.prog),(x0.d2,(x0.ei x1)),(x0.aF,x0.fn),(x0.aN,x0.bq),(x0.bD,(fN (jL x0.af))),(x0.cT,(j8 (vt x0.T x0.tx))),(x0.cE,(j8 (rf x0.lE))),(x0.cC,(j8 (rf x0.lC))),(x0.cB,(j8 (.bool true))),(x0.b',x0.cg),(x0.lE,(j0 x2 x0.eE)),(x0.lC,(j0 x3 x0.eC)),(x4,(uv x5 x1 true x0.lE x0.aP x6 (vi x7 x8) [] [])),(x9.dP,(j8 (rf aJ.aL))),(aJ.aL,aJ.lex),(aJ.aD,(aJ.bc x1 aB bO)),(aJ.bw,(j0 [] bF)),(x9.cU,(j8 (rf bP))),(bP,(j0 (sV aK) bS)),(x9.cT,(j8 (vt x0.T bV)))]
abbrev fq (x0:Qa) (x1:Nat) (x3:Nat→Addr) (x4:Nat) (x8:jX) (x9:Nat→Tok) (aJ:Nat) (aB:List Tok) (bO:Nat→Bool) (bF bP:Nat) (bV:List Value):=x0 x1 33 (cr (x3 x4) []) (uD.gj ⟨0,0,(x3 x4),(x3 (x4+1)),0,(x3 (x4+2)),0,x8.aA,0,0,0,0,0,0,0,0,(x9 aJ)⟩ x8.cE x8.lE aB (JZ bO bF bP (kr x9 (aJ+1) 5)) (UU bO bF bP) bV x8.eE)
abbrev Ys (x0:List (Str×Tok)) (x1 x2 x3 x4:Nat):=j9 (jT x0 x1 x2) (j9 (jT x0 x3 x4) .none)
abbrev VA (x0:Addr) (x1:List (Str×Tok)) (x2:Nat) (x3:Nat→Addr) (x4 x5:Nat) (x6:Nat→Tok) (x7 x8:Nat):= [(x0,(j0 (sV x1) x2)),((x3 x4),(fo "slice" [(vi (((x5:Nat):Int)-1) (x6 x7)),(vn x5 (x6 x8)),.none]))]
abbrev VX (x0:Qa) (x1:Nat) (x3:jX) (x4:Tok) (x5:Int) (x6:Tok) (x7:Params) (x8 x9:List Value) (aJ:List Tok):=x0 x1 33 (cr 21 [(rf x3.aP),(vt x3.T x4),(vi x5 x6)]) (x3.aV x7 (ku x3.af x3.aA) true x8 x9++ [(x3.aA,jD 98 aJ)])
abbrev VB (x0:Addr) (x1:List (Str×Tok)) (x2:Nat) (x3:Nat→Addr) (x4 x5:Nat) (x6:Nat→Tok) (x7 x8 x9:Nat):= [(x0,(j0 (sV x1) x2)),((x3 x4),(fo "slice" [(vn x5 (x6 x7)),(vi (((x8:Nat):Int)-1) (x6 x9)),.none]))]
abbrev VY (x0:List (Str×Tok)) (x1 x2 x3 x4:Nat):=j9 (jU x0 x1 x2) (j9 (jU x0 x3 x4) .none)
abbrev u5 (x0:YC) (x1:jF):=(x0.dP,(j8 (rf x1.aL)))
abbrev ft (x0:Qa) (x1:Nat) (x3:jX) (x4:Tok) (x5:Int) (x6:Tok) (x7:Params) (x8:Nat→Addr) (aJ aB:List Value) (bF:Nat→Tok):=x0 x1 33 (cr 21 [(rf x3.aP),(vt x3.T x4),(vi x5 x6)]) (x3.aV x7 (ku x3.af (x8 24)) true aJ aB++ [((x8 24),jD 98 (kr bF 22 10))])
abbrev vb (x0:Nat→Addr) (x1:Nat) (x2:Addr) (x3:YC):=jd fj (rf (x0 x1)) (kD x2 x3)
abbrev JS (x0:List (Str×Tok)) (x1:Nat):=k0 (j0 (sV (k7 x0 x1 (x1+1))) 0) 2
abbrev gk (x0:Params) (x1:List (Str×Tok)) (x2 x3 x4:Nat):=pZ x0 ((jT x1 x2 x3)).length (sV (jT x1 x2 x3)) (x4+((jT x1 x2 x3)).length) (j9 (jT x1 x2 x3) .none)
abbrev JT (x0:List (Str×Tok)) (x1 x2:Nat):=k0 (j0 (sV (k7 x0 (x1+1) x2)) 0) 2
noncomputable abbrev Yt (x0:Nat→Tok) (x2 x5:Nat):= [(x0 0),(x0 x2),(x0 (x2+2)),(x0 (x2+3)),(x0 x5),(x0 (x5+3)),(x0 (x5+4)),(x0 (x5+9))]
abbrev lH (x0:List (Str×Tok)) (x1 x2 x3 x4 x5:Nat):=uj ((jT x0 x1 x2)).length (sV ((jT x0 x3 x4)++(jT x0 x1 x2))) (x5+(((jT x0 x3 x4)++(jT x0 x1 x2))).length) (Ys x0 x1 x2 x3 x4)
abbrev Yu (x0:Addr) (x1:List (Str×Tok)) (x2:Nat) (x3:Nat→Addr) (x4 x5:Nat) (x6:Nat→Tok) (x7:Nat):= [(x0,(j0 (sV x1) x2)),((x3 x4),(fo "slice" [(vn x5 (x6 x7)),.none,.none]))]
abbrev JB (x0:List (Str×Tok)) (x1 x2:Nat):=j0 (sV (jT x0 x1 x2)) 0
abbrev VC (x0:List (Str×Tok)) (x1:Nat):=k0 (j0 (sV (k7 x0 (x1-1) x1)) 0) 2
abbrev qh (x0:List (Str×Tok)) (x1 x2 x3 x4 x5 x6 x7:Nat):=uj ((jT x0 x1 x2)).length (sV (((jT x0 x3 x4)++(jT x0 x5 x6))++(jT x0 x1 x2))) (x7+((((jT x0 x3 x4)++(jT x0 x5 x6))++(jT x0 x1 x2))).length) (j9 (jT x0 x1 x2) (Ys x0 x5 x6 x3 x4))
abbrev VD (x0:List (Str×Tok)) (x1 x2:Nat):=k0 (j0 (sV (k7 x0 x1 (x2-1))) 0) 2
abbrev Yv (x2:List (Str×Tok)):=j7 1 1 (fI (((x2).length:Nat):Int))
abbrev Yw (x0:Qa) (x3:Addr) (x4:List (Str×Tok)) (x5:Nat):=x0 0 34 (cb "len" [(rf x3)]) [(x3,(j0 (sV x4) x5))]
abbrev V9 (x0:List (Str×Tok)) (x1 x2:Nat):=j0 (sV (jU x0 x1 x2)) 0
abbrev VZ (x0:List (Str×Tok)) (x1:Nat):=j0 (sV (jK x0 x1)) 0
abbrev lI (x0:jF) (x1:List (Str×Tok)) (x2 x3 x4 x5 x6:Nat):=(x0.bw,(j0 (sV ((jT x1 x2 x3)++(jT x1 x4 x5))) (x6+(((jT x1 x2 x3)++(jT x1 x4 x5))).length)))
abbrev u6 (x0:jF) (x1:Params) (x2:Int) (x3:Tok):=(x0.aD,(x0.bc x1 x2 x3))
abbrev nq (x0:Params) (x1:List (Str×Tok)) (x2 x3 x4:Nat):=pZ x0 ((jU x1 x2 x3)).length (sV (jU x1 x2 x3)) (x4+((jU x1 x2 x3)).length) (j9 (jU x1 x2 x3) .none)
abbrev qi (x0:List (Str×Tok)) (x1 x2 x3 x4 x5:Nat):=uj ((jU x0 x1 x2)).length (sV ((jU x0 x3 x4)++(jU x0 x1 x2))) (x5+(((jU x0 x3 x4)++(jU x0 x1 x2))).length) (VY x0 x1 x2 x3 x4)
abbrev tI (x0:List (Str×Tok)) (x1 x2 x3 x4 x5 x6 x7:Nat):=uj ((jU x0 x1 x2)).length (sV (((jU x0 x3 x4)++(jU x0 x5 x6))++(jU x0 x1 x2))) (x7+((((jU x0 x3 x4)++(jU x0 x5 x6))++(jU x0 x1 x2))).length) (j9 (jU x0 x1 x2) (VY x0 x5 x6 x3 x4))
abbrev gm (x0:jF) (x1:List (Str×Tok)) (x2 x3 x4:Nat):=(x0.bw,(j0 (sV (jT x1 x2 x3)) (x4+((jT x1 x2 x3)).length)))
abbrev qj (x0:jF) (x1:List (Str×Tok)) (x2 x3 x4 x5 x6 x7 x8:Nat):=(x0.bw,(j0 (sV (((jT x1 x2 x3)++(jT x1 x4 x5))++(jT x1 x6 x7))) (x8+((((jT x1 x2 x3)++(jT x1 x4 x5))++(jT x1 x6 x7))).length)))
abbrev Yx (x0:Nat→Addr) (x1:Nat) (x2:Addr) (x3:YC):=jd lA (rf (x0 x1)) (kD x2 x3)
abbrev fu (x0:List (Str×Tok)) (x1 x2 x3 x4 x5 x6 x7 x8:Nat):=j9 (jU x0 x1 x2) (j9 (jU x0 x3 x4) (VY x0 x5 x6 x7 x8))
abbrev fM (x0:Qa) (x1:Nat) (x3:Nat→Addr) (x5 x6:Nat):=x0 x1 33 (yB x3 23) [((x3 23),(jz x5 (x6+2)))]
abbrev fO (x0:Qa) (x1:Nat) (x3:Nat→Addr) (x5 x6:Nat):=x0 x1 33 (yB x3 23) [((x3 23),(jz x5 (x6+1)))]
abbrev JU (x0:Int) (x1:Tok):=kL 6 x0 x1 x0 x1
abbrev Va (x0:List (Str×Tok)) (x1 x2 x3 x4 x5 x6:Nat):=j9 (jT x0 x1 x2) (Ys x0 x3 x4 x5 x6)
abbrev JV (x0:List (Str×Tok)) (x1 x2:Nat):=k0 (JB x0 x1 x2) 2
abbrev qk (x0:jF) (x1:List (Str×Tok)) (x2 x3 x4 x5 x6:Nat):=(x0.bw,(j0 (sV ((jU x1 x2 x3)++(jU x1 x4 x5))) (x6+(((jU x1 x2 x3)++(jU x1 x4 x5))).length)))
abbrev ia (x0:Qa) (x1:Nat) (x3:Nat→Addr) (x5 x6:Nat):=x0 x1 33 (yB x3 23) [((x3 23),(jz x5 (x6+3)))]
abbrev VE (x0:List (Str×Tok)) (x1 x2:Nat):=k0 (V9 x0 x1 x2) 2
abbrev nr (x0:jF) (x1:List (Str×Tok)) (x2 x3 x4:Nat):=(x0.bw,(j0 (sV (jU x1 x2 x3)) (x4+((jU x1 x2 x3)).length)))
abbrev tJ (x0:List (Str×Tok)) (x1 x2 x3 x4 x5 x6 x7:Nat):=j0 (sV (((jU x0 x1 x2)++(jU x0 x3 x4))++(jU x0 x5 x6))) (x7+((((jU x0 x1 x2)++(jU x0 x3 x4))++(jU x0 x5 x6))).length)
abbrev Yy (x0:List (Str×Tok)) (x1:Nat):=k0 (VZ x0 x1) 2
section
variable (P:Params) (kv:Value) (bz:Tok) (X0:Int) (ae:Nat) (S:jX) (n:Nat) (C:Nat→Bool) (Es Cs:List Value) (lc:List Tok) (ty:Tok) (F:YE) (Z:YC) (fr:Addr) (L:jF) (ai:Tok) (l:Int) (lR:Addr) (aa:List (Str×Tok)) (eR m p1:Nat) (I1:Int) (ax:Tok) (J1:Int) (bL:Tok) (F1 G1 p2:Nat) (I2:Int) (aX:Tok) (J2:Int) (dH:Tok) (F2 G2 p3:Nat) (I3:Int) (a8:Tok) (J3:Int) (dZ:Tok) (F3 G3 p4:Nat) (I4:Int) (bA:Tok) (J4:Int) (eu:Tok) (F4 G4 p5:Nat) (I5:Int) (dq:Tok) (J5:Int) (fw:Tok) (F5 G5:Nat)
def P0:RD:=⟨(nk S P Es Cs lc fr F kv X0 bz Z L l ai ae lR aa eR ty),[wi [19] (Yv aa),wi [22] (k0 (jz 0 (m+2)) 1),wi [23] (jj 0 (m+1)),wi vk (yu P S C n p1),wi nj (kL 8 I1 ax J1 bL),wi [10] (vg F1),wi [10] (vg G1),wi [23] (jj 1 (m+0)),wi vk v8,wi [19,42] (VC aa G1),wi [19,44] (VD aa F1 G1),wi [43,45] (VE aa G1 F1),wi (rg 13 5++ [47,46]) (nq P aa G1 F1 ae),wi [19,50] (Yy aa G1),wi (rg 13 5++ [52,51]) (uj ((jK aa G1)).length (sV ((jU aa G1 F1)++(jK aa G1))) (ae+(((jU aa G1 F1)++(jK aa G1))).length) (j9 (jK aa G1) (j9 (jU aa G1 F1) .none)))],mA 21 0 14 (fun a t=> .ok .next) (fun a t=> [id,id,id,id,id,id,id,id,id,id,id,id,id,fun _=>(uv F P false S.lE S.aP (vn 1 (t 0)) (vi I1 ax) (yQ t 1 2 3 5 7 10) [(rf (t 12)),.none,(vi I1 ax),(vi J1 bL),(vn G1 (t 6)),(vn F1 (t 8)),(vn G1 (t 6)),(rf (t 13)),(j9 (jK aa G1) (j9 (jU aa G1 F1) .none))]),id,id,id,fun _=>(j0 (sV ((jU aa G1 F1)++(jK aa G1))) (ae+(((jU aa G1 F1)++(jK aa G1))).length)),id,id,id]) (fun a t=> []),[],[34,0,27,29,30,38,32,41,31,42,47,48],[21,46],15,fun q qT qS A K=> [Yw q lR aa eR,Yr q A 22 K aa,fM q 2 A 0 m,JP q 3 S ty X0 bz P Es Cs lc,dQ q 4 A 26 S K 16 lc C n p1 Es,vf q 5 S I1 ax Es,vf q 6 S J1 bL Es,fO q 7 A 1 m,JP q 8 S ty I1 ax P Es Cs lc,q 9 33 (uA lR A 42) (VA lR aa eR A 42 G1 K 44 32),q 10 33 (uA lR A 44) (VB lR aa eR A 44 F1 K 31 G1 46),dS q 11 A 43 aa G1 F1,q 12 33 (vb A 47 fr Z) [(fr,(uv F P false S.lE S.aP (vn 1 (K 34)) (vi I1 ax) (Yt K 27 38) [rf (A 21),.none,vi I1 ax,vi J1 bL,vi 0 (K 37),vn F1 (K 31),vn G1 (K 32),rf (A 46)])),u5 Z L,(L.aL,L.lex),u6 L P l ai,(L.bw,(j0 [] ae)),yR A 47 46,((A 46),(V9 aa G1 F1))],q 13 34 (uA lR A 50) (Yu lR aa eR A 50 G1 K 32),q 14 34 (Yx A 52 fr Z) [(fr,(uv F P false S.lE S.aP (vn 1 (K 34)) (vi I1 ax) (yQ K 0 27 29 38 41 47) [rf (A 21),.none,vi I1 ax,vi J1 bL,vn G1 (K 32),vn F1 (K 31),vn G1 (K 32),rf (A 46),j9 (jU aa G1 F1) .none])),u5 Z L,(L.aL,L.lex),u6 L P l ai,nr L aa G1 F1 ae,yR A 52 51,((A 51),(VZ aa G1))]]⟩
theorem P1:GT P 34 Flow (uq Jz (kD fr Z)) (fun as ts=> .ok .next) (P0 P kv bz X0 ae S n C Es Cs lc ty F Z fr L ai l lR aa eR m p1 I1 ax J1 bL F1 G1) (hk PJ):=vq
def P2:RD:=⟨(qf S P Es Cs lc fr F kv X0 bz Z L l ai ae lR aa eR ty),[wi [19] (Yv aa),wi [22] (k0 (jz 0 (m+2)) 1),wi [23] (jj 0 (m+1)),wi vk (ya P S C n p1),wi qc (JU I1 ax),wi [10] (vg F1),wi [10] (vg G1),wi [23] (jj 1 (m+0)),wi vk v8,wi [19,40] (JT aa F1 G1),wi [19,42] (JS aa F1),wi [41,43] (JV aa F1 G1),wi (rg 13 5++ [45,44]) (gk P aa F1 G1 ae),wi [19,48] (Yy aa G1),wi (rg 13 5++ [50,49]) (uj ((jK aa G1)).length (sV ((jT aa F1 G1)++(jK aa G1))) (ae+(((jT aa F1 G1)++(jK aa G1))).length) (j9 (jK aa G1) (j9 (jT aa F1 G1) .none)))],mA 21 0 14 (fun a t=> .ok .next) (fun a t=> [id,id,id,id,id,id,id,id,id,id,id,id,id,fun _=>(uv F P true S.lE S.aP (vn 1 (t 0)) (vi I1 ax) (yQ t 1 2 3 5 7 10) [(rf (t 12)),.none,(vi I1 ax),(vi X0 bz),(vn G1 (t 6)),(vn F1 (t 8)),(vn G1 (t 6)),(rf (t 13)),(j9 (jK aa G1) (j9 (jT aa F1 G1) .none))]),id,id,id,fun _=>(j0 (sV ((jT aa F1 G1)++(jK aa G1))) (ae+(((jT aa F1 G1)++(jK aa G1))).length)),id,id,id]) (fun a t=> []),[],[30,0,22,24,25,34,28,37,27,38,43,44],[21,44],15,fun q qT qS A K=> [Yw q lR aa eR,Yr q A 22 K aa,fM q 2 A 0 m,VX q 3 S ty X0 bz P Es Cs lc,fq q 4 A 26 S K 16 lc C n p1 Es,vf q 5 S I1 ax Es,vf q 6 S X0 bz Es,fO q 7 A 1 m,VX q 8 S ty I1 ax P Es Cs lc,q 9 33 (uA lR A 40) (JR lR aa eR A 40 F1 K 40 G1 28),q 10 33 (uA lR A 42) (JQ lR aa eR A 42 F1 K 27 42),dd q 11 A 41 aa F1 G1,q 12 33 (vb A 45 fr Z) [(fr,(uv F P true S.lE S.aP (vn 1 (K 30)) (vi I1 ax) (Yt K 22 34) [rf (A 21),.none,vi I1 ax,vi X0 bz,vi 0 (K 33),vn F1 (K 27),vn G1 (K 28),rf (A 44)])),u5 Z L,(L.aL,L.lex),u6 L P l ai,(L.bw,(j0 [] ae)),yR A 45 44,((A 44),(JB aa F1 G1))],q 13 34 (uA lR A 48) (Yu lR aa eR A 48 G1 K 28),q 14 34 (Yx A 50 fr Z) [(fr,(uv F P true S.lE S.aP (vn 1 (K 30)) (vi I1 ax) (yQ K 0 22 24 34 37 43) [rf (A 21),.none,vi I1 ax,vi X0 bz,vn G1 (K 28),vn F1 (K 27),vn G1 (K 28),rf (A 44),j9 (jT aa F1 G1) .none])),u5 Z L,(L.aL,L.lex),u6 L P l ai,gm L aa F1 G1 ae,yR A 50 49,((A 49),(VZ aa G1))]]⟩
theorem P4:GT P 34 Flow (uq Jz (kD fr Z)) (fun as ts=> .ok .next) (P2 P kv bz X0 ae S n C Es Cs lc ty F Z fr L ai l lR aa eR m p1 I1 ax F1 G1) (hk PK):=vq
def P5:RD:=⟨(qg S P Es Cs fr F kv X0 bz Z L l ai ae lR aa eR ty),[wi [18] (Yv aa),wi [21] (k0 (jz 0 (m+2)) 1),wi [22] (jj 0 (m+1)),wi (rg 0 12) (lx P S C n p1),wi qd (JU I1 ax),wi [10] (vg F1),wi [10] (vg G1),wi [22] (jj 1 (m+0)),wi fk v8,wi [18,40] (JT aa F1 G1),wi [18,42] (JS aa F1),wi [41,43] (JV aa F1 G1),wi (rg 12 5++ [45,44]) (gk P aa F1 G1 ae),wi [18,48] (Yy aa G1),wi (rg 12 5++ [50,49]) (uj ((jK aa G1)).length (sV ((jT aa F1 G1)++(jK aa G1))) (ae+(((jT aa F1 G1)++(jK aa G1))).length) (j9 (jK aa G1) (j9 (jT aa F1 G1) .none)))],mA 20 1 24 (fun a t=> .ok .next) (fun a t=> [id,id,id,id,fun _=>(fN (ku S.af (a 0))),id,id,id,id,id,id,id,fun _=>(uv F P true S.lE S.aP (vn 1 (t 0)) (vi I1 ax) (yQ t 1 2 3 5 7 10) [(rf (t 22)),.none,(vi I1 ax),(vi X0 bz),(vn G1 (t 6)),(vn F1 (t 8)),(vn G1 (t 6)),(rf (t 23)),(j9 (jK aa G1) (j9 (jT aa F1 G1) .none))]),id,id,id,fun _=>(j0 (sV ((jT aa F1 G1)++(jK aa G1))) (ae+(((jT aa F1 G1)++(jK aa G1))).length)),id,id,id]) (fun a t=> [(jD 98 (kr t 12 10))]),[24],([40,0,32,34,35,44,38,47,37,48,53,54]++rg 22 10),[20,44],15,fun q qT qS A K=> [Yw q lR aa eR,Yr q A 21 K aa,q 2 33 (yB A 22) [((A 22),(jz 0 (m+2)))],q 3 33 (cr 21 [rf S.aP,vt S.T ty,vi X0 bz]) (S.aV P (jL S.af) true Es Cs),fm q 4 A 26 K 16 S C n p1 Es,vf q 5 S I1 ax Es,vf q 6 S X0 bz Es,q 7 33 (yB A 22) [((A 22),(jz 1 (m+1)))],ft q 8 S ty I1 ax P A Es Cs K,q 9 33 (uA lR A 40) (JR lR aa eR A 40 F1 K 50 G1 38),q 10 33 (uA lR A 42) (JQ lR aa eR A 42 F1 K 37 52),dd q 11 A 41 aa F1 G1,q 12 33 (vb A 45 fr Z) [(fr,(uv F P true S.lE S.aP (vn 1 (K 40)) (vi I1 ax) (Yt K 32 44) [rf (A 20),.none,vi I1 ax,vi X0 bz,vi 0 (K 43),vn F1 (K 37),vn G1 (K 38),rf (A 44)])),u5 Z L,(L.aL,L.lex),u6 L P l ai,(L.bw,(j0 [] ae)),yR A 45 44,((A 44),(JB aa F1 G1))],q 13 34 (uA lR A 48) (Yu lR aa eR A 48 G1 K 38),q 14 34 (Yx A 50 fr Z) [(fr,(uv F P true S.lE S.aP (vn 1 (K 40)) (vi I1 ax) (yQ K 0 32 34 44 47 53) [rf (A 20),.none,vi I1 ax,vi X0 bz,vn G1 (K 38),vn F1 (K 37),vn G1 (K 38),rf (A 44),j9 (jT aa F1 G1) .none])),u5 Z L,(L.aL,L.lex),u6 L P l ai,gm L aa F1 G1 ae,yR A 50 49,((A 49),(VZ aa G1))]]⟩
theorem P6:GT P 34 Flow (uq Jz (kD fr Z)) (fun as ts=> .ok .next) (P5 P kv bz X0 ae S n C Es Cs ty F Z fr L ai l lR aa eR m p1 I1 ax F1 G1) (hk PN):=vq
def P7:RD:=⟨(nk S P Es Cs lc fr F kv X0 bz Z L l ai ae lR aa eR ty),[wi [19] (Yv aa),wi [22] (k0 (jz 0 (m+3)) 1),wi [23] (jj 0 (m+2)),wi vk (yu P S C n p1),wi nj (kL 8 I1 ax J1 bL),wi [10] (vg F1),wi [10] (vg G1),wi [23] (jj 1 (m+1)),wi vk (yu P S C n p2),wi qe (kL 8 I2 aX J2 dH),wi [10] (vg F2),wi [10] (vg G2),wi [23] (jj 2 (m+0)),wi vk v8,wi [19,54] (VC aa G2),wi [19,56] (VD aa F2 G2),wi [55,57] (VE aa G2 F2),wi (rg 13 5++ [59,58]) (nq P aa G2 F2 ae),wi [19,63] (VC aa G1),wi [19,65] (VD aa F1 G1),wi [64,66] (VE aa G1 F1),wi (rg 13 5++ [68,67]) (qi aa G1 F1 G2 F2 ae),wi [19,71] (Yy aa G1),wi (rg 13 5++ [73,72]) (uj ((jK aa G1)).length (sV (((jU aa G2 F2)++(jU aa G1 F1))++(jK aa G1))) (ae+((((jU aa G2 F2)++(jU aa G1 F1))++(jK aa G1))).length) (j9 (jK aa G1) (VY aa G1 F1 G2 F2)))],mA 21 0 14 (fun a t=> .ok .next) (fun a t=> [id,id,id,id,id,id,id,id,id,id,id,id,id,fun _=>(uv F P false S.lE S.aP (vn 2 (t 0)) (vi I2 aX) (yQ t 1 2 3 5 7 10) [(rf (t 12)),.none,(vi I2 aX),(vi J2 dH),(vn G1 (t 6)),(vn F1 (t 8)),(vn G1 (t 6)),(rf (t 13)),(j9 (jK aa G1) (VY aa G1 F1 G2 F2))]),id,id,id,fun _=>(j0 (sV (((jU aa G2 F2)++(jU aa G1 F1))++(jK aa G1))) (ae+((((jU aa G2 F2)++(jU aa G1 F1))++(jK aa G1))).length)),id,id,id]) (fun a t=> []),[],[62,0,27,29,30,66,32,69,31,70,75,76],[21,67],24,fun q qT qS A K=> [Yw q lR aa eR,Yr q A 22 K aa,ia q 2 A 0 m,JP q 3 S ty X0 bz P Es Cs lc,dQ q 4 A 26 S K 16 lc C n p1 Es,vf q 5 S I1 ax Es,vf q 6 S J1 bL Es,fM q 7 A 1 m,JP q 8 S ty I1 ax P Es Cs lc,dQ q 9 A 38 S K 44 lc C n p2 Es,vf q 10 S I2 aX Es,vf q 11 S J2 dH Es,fO q 12 A 2 m,JP q 13 S ty I2 aX P Es Cs lc,q 14 33 (uA lR A 54) (VA lR aa eR A 54 G2 K 72 60),q 15 33 (uA lR A 56) (VB lR aa eR A 56 F2 K 59 G2 74),dS q 16 A 55 aa G2 F2,q 17 33 (vb A 59 fr Z) [(fr,(uv F P false S.lE S.aP (vn 2 (K 62)) (vi I2 aX) (Yt K 27 66) [rf (A 21),.none,vi I2 aX,vi J2 dH,vi 0 (K 65),vn F2 (K 59),vn G2 (K 60),rf (A 58)])),u5 Z L,(L.aL,L.lex),u6 L P l ai,(L.bw,(j0 [] ae)),yR A 59 58,((A 58),(V9 aa G2 F2))],q 18 33 (uA lR A 63) (VA lR aa eR A 63 G1 K 81 32),q 19 33 (uA lR A 65) (VB lR aa eR A 65 F1 K 31 G1 83),dS q 20 A 64 aa G1 F1,q 21 33 (vb A 68 fr Z) [(fr,(uv F P false S.lE S.aP (vn 2 (K 62)) (vi I2 aX) (yQ K 0 27 29 66 69 75) [rf (A 21),.none,vi I2 aX,vi J2 dH,vn G2 (K 60),vn F1 (K 31),vn G1 (K 32),rf (A 67),j9 (jU aa G2 F2) .none])),u5 Z L,(L.aL,L.lex),u6 L P l ai,nr L aa G2 F2 ae,yR A 68 67,((A 67),(V9 aa G1 F1))],q 22 34 (uA lR A 71) (Yu lR aa eR A 71 G1 K 32),q 23 34 (Yx A 73 fr Z) [(fr,(uv F P false S.lE S.aP (vn 2 (K 62)) (vi I2 aX) (yQ K 0 27 29 66 69 75) [rf (A 21),.none,vi I2 aX,vi J2 dH,vn G1 (K 32),vn F1 (K 31),vn G1 (K 32),rf (A 67),VY aa G1 F1 G2 F2])),u5 Z L,(L.aL,L.lex),u6 L P l ai,qk L aa G2 F2 G1 F1 ae,yR A 73 72,((A 72),(VZ aa G1))]]⟩
theorem P8:GT P 34 Flow (uq Jz (kD fr Z)) (fun as ts=> .ok .next) (P7 P kv bz X0 ae S n C Es Cs lc ty F Z fr L ai l lR aa eR m p1 I1 ax J1 bL F1 G1 p2 I2 aX J2 dH F2 G2) (hk PO):=vq
def P9:RD:=⟨(qf S P Es Cs lc fr F kv X0 bz Z L l ai ae lR aa eR ty),[wi [19] (Yv aa),wi [22] (k0 (jz 0 (m+3)) 1),wi [23] (jj 0 (m+2)),wi vk (ya P S C n p1),wi qc (JU I1 ax),wi [10] (vg F1),wi [10] (vg G1),wi [23] (jj 1 (m+1)),wi vk (ya P S C n p2),wi [36,12,37,6,38,10] (JU I2 aX),wi [10] (vg F2),wi [10] (vg G2),wi [23] (jj 2 (m+0)),wi vk v8,wi [19,50] (JT aa F2 G2),wi [19,52] (JS aa F2),wi [51,53] (JV aa F2 G2),wi (rg 13 5++ [55,54]) (gk P aa F2 G2 ae),wi [19,59] (JT aa F1 G1),wi [19,61] (JS aa F1),wi [60,62] (JV aa F1 G1),wi (rg 13 5++ [64,63]) (lH aa F1 G1 F2 G2 ae),wi [19,67] (Yy aa G1),wi (rg 13 5++ [69,68]) (uj ((jK aa G1)).length (sV (((jT aa F2 G2)++(jT aa F1 G1))++(jK aa G1))) (ae+((((jT aa F2 G2)++(jT aa F1 G1))++(jK aa G1))).length) (j9 (jK aa G1) (Ys aa F1 G1 F2 G2)))],mA 21 0 14 (fun a t=> .ok .next) (fun a t=> [id,id,id,id,id,id,id,id,id,id,id,id,id,fun _=>(uv F P true S.lE S.aP (vn 2 (t 0)) (vi I2 aX) (yQ t 1 2 3 5 7 10) [(rf (t 12)),.none,(vi I2 aX),(vi I1 ax),(vn G1 (t 6)),(vn F1 (t 8)),(vn G1 (t 6)),(rf (t 13)),(j9 (jK aa G1) (Ys aa F1 G1 F2 G2))]),id,id,id,fun _=>(j0 (sV (((jT aa F2 G2)++(jT aa F1 G1))++(jK aa G1))) (ae+((((jT aa F2 G2)++(jT aa F1 G1))++(jK aa G1))).length)),id,id,id]) (fun a t=> []),[],[54,0,22,24,25,58,28,61,27,62,67,68],[21,63],24,fun q qT qS A K=> [Yw q lR aa eR,Yr q A 22 K aa,ia q 2 A 0 m,VX q 3 S ty X0 bz P Es Cs lc,fq q 4 A 26 S K 16 lc C n p1 Es,vf q 5 S I1 ax Es,vf q 6 S X0 bz Es,fM q 7 A 1 m,VX q 8 S ty I1 ax P Es Cs lc,fq q 9 A 36 S K 40 lc C n p2 Es,vf q 10 S I2 aX Es,vf q 11 S I1 ax Es,fO q 12 A 2 m,VX q 13 S ty I2 aX P Es Cs lc,q 14 33 (uA lR A 50) (JR lR aa eR A 50 F2 K 64 G2 52),q 15 33 (uA lR A 52) (JQ lR aa eR A 52 F2 K 51 66),dd q 16 A 51 aa F2 G2,q 17 33 (vb A 55 fr Z) [(fr,(uv F P true S.lE S.aP (vn 2 (K 54)) (vi I2 aX) (Yt K 22 58) [rf (A 21),.none,vi I2 aX,vi I1 ax,vi 0 (K 57),vn F2 (K 51),vn G2 (K 52),rf (A 54)])),u5 Z L,(L.aL,L.lex),u6 L P l ai,(L.bw,(j0 [] ae)),yR A 55 54,((A 54),(JB aa F2 G2))],q 18 33 (uA lR A 59) (JR lR aa eR A 59 F1 K 73 G1 28),q 19 33 (uA lR A 61) (JQ lR aa eR A 61 F1 K 27 75),dd q 20 A 60 aa F1 G1,q 21 33 (vb A 64 fr Z) [(fr,(uv F P true S.lE S.aP (vn 2 (K 54)) (vi I2 aX) (yQ K 0 22 24 58 61 67) [rf (A 21),.none,vi I2 aX,vi I1 ax,vn G2 (K 52),vn F1 (K 27),vn G1 (K 28),rf (A 63),j9 (jT aa F2 G2) .none])),u5 Z L,(L.aL,L.lex),u6 L P l ai,gm L aa F2 G2 ae,yR A 64 63,((A 63),(JB aa F1 G1))],q 22 34 (uA lR A 67) (Yu lR aa eR A 67 G1 K 28),q 23 34 (Yx A 69 fr Z) [(fr,(uv F P true S.lE S.aP (vn 2 (K 54)) (vi I2 aX) (yQ K 0 22 24 58 61 67) [rf (A 21),.none,vi I2 aX,vi I1 ax,vn G1 (K 28),vn F1 (K 27),vn G1 (K 28),rf (A 63),Ys aa F1 G1 F2 G2])),u5 Z L,(L.aL,L.lex),u6 L P l ai,lI L aa F2 G2 F1 G1 ae,yR A 69 68,((A 68),(VZ aa G1))]]⟩
theorem P':GT P 34 Flow (uq Jz (kD fr Z)) (fun as ts=> .ok .next) (P9 P kv bz X0 ae S n C Es Cs lc ty F Z fr L ai l lR aa eR m p1 I1 ax F1 G1 p2 I2 aX F2 G2) (hk PQ):=vq
def Qb:RD:=⟨(qg S P Es Cs fr F kv X0 bz Z L l ai ae lR aa eR ty),[wi [18] (Yv aa),wi [21] (k0 (jz 0 (m+3)) 1),wi [22] (jj 0 (m+2)),wi (rg 0 12) (lx P S C n p1),wi qd (JU I1 ax),wi [10] (vg F1),wi [10] (vg G1),wi [22] (jj 1 (m+1)),(fk,fun c=>ya P {S with aA:=Ux c 10} C n p2),wi [36,24,37,6,38,10] (JU I2 aX),wi [10] (vg F2),wi [10] (vg G2),wi [22] (jj 2 (m+0)),wi fk v8,wi [18,50] (JT aa F2 G2),wi [18,52] (JS aa F2),wi [51,53] (JV aa F2 G2),wi (rg 12 5++ [55,54]) (gk P aa F2 G2 ae),wi [18,59] (JT aa F1 G1),wi [18,61] (JS aa F1),wi [60,62] (JV aa F1 G1),wi (rg 12 5++ [64,63]) (lH aa F1 G1 F2 G2 ae),wi [18,67] (Yy aa G1),wi (rg 12 5++ [69,68]) (uj ((jK aa G1)).length (sV (((jT aa F2 G2)++(jT aa F1 G1))++(jK aa G1))) (ae+((((jT aa F2 G2)++(jT aa F1 G1))++(jK aa G1))).length) (j9 (jK aa G1) (Ys aa F1 G1 F2 G2)))],mA 20 1 24 (fun a t=> .ok .next) (fun a t=> [id,id,id,id,fun _=>(fN (ku S.af (a 0))),id,id,id,id,id,id,id,fun _=>(uv F P true S.lE S.aP (vn 2 (t 0)) (vi I2 aX) (yQ t 1 2 3 5 7 10) [(rf (t 22)),.none,(vi I2 aX),(vi I1 ax),(vn G1 (t 6)),(vn F1 (t 8)),(vn G1 (t 6)),(rf (t 23)),(j9 (jK aa G1) (Ys aa F1 G1 F2 G2))]),id,id,id,fun _=>(j0 (sV (((jT aa F2 G2)++(jT aa F1 G1))++(jK aa G1))) (ae+((((jT aa F2 G2)++(jT aa F1 G1))++(jK aa G1))).length)),id,id,id]) (fun a t=> [(jD 98 (kr t 12 10))]),[24],([64,0,32,34,35,68,38,71,37,72,77,78]++rg 22 10),[20,63],24,fun q qT qS A K=> [Yw q lR aa eR,Yr q A 21 K aa,q 2 33 (yB A 22) [((A 22),(jz 0 (m+3)))],q 3 33 (cr 21 [rf S.aP,vt S.T ty,vi X0 bz]) (S.aV P (jL S.af) true Es Cs),fm q 4 A 26 K 16 S C n p1 Es,vf q 5 S I1 ax Es,vf q 6 S X0 bz Es,q 7 33 (yB A 22) [((A 22),(jz 1 (m+2)))],ft q 8 S ty I1 ax P A Es Cs K,fm q 9 A 36 K 50 S C n p2 Es,vf q 10 S I2 aX Es,vf q 11 S I1 ax Es,q 12 33 (yB A 22) [((A 22),(jz 2 (m+1)))],ft q 13 S ty I2 aX P A Es Cs K,q 14 33 (uA lR A 50) (JR lR aa eR A 50 F2 K 74 G2 62),q 15 33 (uA lR A 52) (JQ lR aa eR A 52 F2 K 61 76),dd q 16 A 51 aa F2 G2,q 17 33 (vb A 55 fr Z) [(fr,(uv F P true S.lE S.aP (vn 2 (K 64)) (vi I2 aX) (Yt K 32 68) [rf (A 20),.none,vi I2 aX,vi I1 ax,vi 0 (K 67),vn F2 (K 61),vn G2 (K 62),rf (A 54)])),u5 Z L,(L.aL,L.lex),u6 L P l ai,(L.bw,(j0 [] ae)),yR A 55 54,((A 54),(JB aa F2 G2))],q 18 33 (uA lR A 59) (JR lR aa eR A 59 F1 K 83 G1 38),q 19 33 (uA lR A 61) (JQ lR aa eR A 61 F1 K 37 85),dd q 20 A 60 aa F1 G1,q 21 33 (vb A 64 fr Z) [(fr,(uv F P true S.lE S.aP (vn 2 (K 64)) (vi I2 aX) (yQ K 0 32 34 68 71 77) [rf (A 20),.none,vi I2 aX,vi I1 ax,vn G2 (K 62),vn F1 (K 37),vn G1 (K 38),rf (A 63),j9 (jT aa F2 G2) .none])),u5 Z L,(L.aL,L.lex),u6 L P l ai,gm L aa F2 G2 ae,yR A 64 63,((A 63),(JB aa F1 G1))],q 22 34 (uA lR A 67) (Yu lR aa eR A 67 G1 K 38),q 23 34 (Yx A 69 fr Z) [(fr,(uv F P true S.lE S.aP (vn 2 (K 64)) (vi I2 aX) (yQ K 0 32 34 68 71 77) [rf (A 20),.none,vi I2 aX,vi I1 ax,vn G1 (K 38),vn F1 (K 37),vn G1 (K 38),rf (A 63),Ys aa F1 G1 F2 G2])),u5 Z L,(L.aL,L.lex),u6 L P l ai,lI L aa F2 G2 F1 G1 ae,yR A 69 68,((A 68),(VZ aa G1))]]⟩
theorem Qc:GT P 34 Flow (uq Jz (kD fr Z)) (fun as ts=> .ok .next) (Qb P kv bz X0 ae S n C Es Cs ty F Z fr L ai l lR aa eR m p1 I1 ax F1 G1 p2 I2 aX F2 G2) (hk PS):=vq
def Qd:RD:=⟨(nk S P Es Cs lc fr F kv X0 bz Z L l ai ae lR aa eR ty),[wi [19] (Yv aa),wi [22] (k0 (jz 0 (m+4)) 1),wi [23] (jj 0 (m+3)),wi vk (yu P S C n p1),wi nj (kL 8 I1 ax J1 bL),wi [10] (vg F1),wi [10] (vg G1),wi [23] (jj 1 (m+2)),wi vk (yu P S C n p2),wi qe (kL 8 I2 aX J2 dH),wi [10] (vg F2),wi [10] (vg G2),wi [23] (jj 2 (m+1)),wi vk (yu P S C n p3),wi tH (kL 8 I3 a8 J3 dZ),wi [10] (vg F3),wi [10] (vg G3),wi [23] (jj 3 (m+0)),wi vk v8,wi [19,66] (VC aa G3),wi [19,68] (VD aa F3 G3),wi [67,69] (VE aa G3 F3),wi (rg 13 5++ [71,70]) (nq P aa G3 F3 ae),wi [19,75] (VC aa G2),wi [19,77] (VD aa F2 G2),wi [76,78] (VE aa G2 F2),wi (rg 13 5++ [80,79]) (qi aa G2 F2 G3 F3 ae),wi [19,84] (VC aa G1),wi [19,86] (VD aa F1 G1),wi [85,87] (VE aa G1 F1),wi (rg 13 5++ [89,88]) (tI aa G1 F1 G3 F3 G2 F2 ae),wi [19,92] (Yy aa G1),wi (rg 13 5++ [94,93]) (uj ((jK aa G1)).length (sV ((((jU aa G3 F3)++(jU aa G2 F2))++(jU aa G1 F1))++(jK aa G1))) (ae+(((((jU aa G3 F3)++(jU aa G2 F2))++(jU aa G1 F1))++(jK aa G1))).length) (j9 (jK aa G1) (j9 (jU aa G1 F1) (VY aa G2 F2 G3 F3))))],mA 21 0 14 (fun a t=> .ok .next) (fun a t=> [id,id,id,id,id,id,id,id,id,id,id,id,id,fun _=>(uv F P false S.lE S.aP (vn 3 (t 0)) (vi I3 a8) (yQ t 1 2 3 5 7 10) [(rf (t 12)),.none,(vi I3 a8),(vi J3 dZ),(vn G1 (t 6)),(vn F1 (t 8)),(vn G1 (t 6)),(rf (t 13)),(j9 (jK aa G1) (j9 (jU aa G1 F1) (VY aa G2 F2 G3 F3)))]),id,id,id,fun _=>(j0 (sV ((((jU aa G3 F3)++(jU aa G2 F2))++(jU aa G1 F1))++(jK aa G1))) (ae+(((((jU aa G3 F3)++(jU aa G2 F2))++(jU aa G1 F1))++(jK aa G1))).length)),id,id,id]) (fun a t=> []),[],[90,0,27,29,30,94,32,97,31,98,103,104],[21,88],33,fun q qT qS A K=> [Yw q lR aa eR,Yr q A 22 K aa,q 2 33 (yB A 23) [((A 23),(jz 0 (m+4)))],JP q 3 S ty X0 bz P Es Cs lc,dQ q 4 A 26 S K 16 lc C n p1 Es,vf q 5 S I1 ax Es,vf q 6 S J1 bL Es,ia q 7 A 1 m,JP q 8 S ty I1 ax P Es Cs lc,dQ q 9 A 38 S K 44 lc C n p2 Es,vf q 10 S I2 aX Es,vf q 11 S J2 dH Es,fM q 12 A 2 m,JP q 13 S ty I2 aX P Es Cs lc,dQ q 14 A 50 S K 72 lc C n p3 Es,vf q 15 S I3 a8 Es,vf q 16 S J3 dZ Es,fO q 17 A 3 m,JP q 18 S ty I3 a8 P Es Cs lc,q 19 33 (uA lR A 66) (VA lR aa eR A 66 G3 K 100 88),q 20 33 (uA lR A 68) (VB lR aa eR A 68 F3 K 87 G3 102),dS q 21 A 67 aa G3 F3,q 22 33 (vb A 71 fr Z) [(fr,(uv F P false S.lE S.aP (vn 3 (K 90)) (vi I3 a8) (Yt K 27 94) [rf (A 21),.none,vi I3 a8,vi J3 dZ,vi 0 (K 93),vn F3 (K 87),vn G3 (K 88),rf (A 70)])),u5 Z L,(L.aL,L.lex),u6 L P l ai,(L.bw,(j0 [] ae)),yR A 71 70,((A 70),(V9 aa G3 F3))],q 23 33 (uA lR A 75) (VA lR aa eR A 75 G2 K 109 60),q 24 33 (uA lR A 77) (VB lR aa eR A 77 F2 K 59 G2 111),dS q 25 A 76 aa G2 F2,q 26 33 (vb A 80 fr Z) [(fr,(uv F P false S.lE S.aP (vn 3 (K 90)) (vi I3 a8) (yQ K 0 27 29 94 97 103) [rf (A 21),.none,vi I3 a8,vi J3 dZ,vn G3 (K 88),vn F2 (K 59),vn G2 (K 60),rf (A 79),j9 (jU aa G3 F3) .none])),u5 Z L,(L.aL,L.lex),u6 L P l ai,nr L aa G3 F3 ae,yR A 80 79,((A 79),(V9 aa G2 F2))],q 27 33 (uA lR A 84) (VA lR aa eR A 84 G1 K 117 32),q 28 33 (uA lR A 86) (VB lR aa eR A 86 F1 K 31 G1 119),dS q 29 A 85 aa G1 F1,q 30 33 (vb A 89 fr Z) [(fr,(uv F P false S.lE S.aP (vn 3 (K 90)) (vi I3 a8) (yQ K 0 27 29 94 97 103) [rf (A 21),.none,vi I3 a8,vi J3 dZ,vn G2 (K 60),vn F1 (K 31),vn G1 (K 32),rf (A 88),VY aa G2 F2 G3 F3])),u5 Z L,(L.aL,L.lex),u6 L P l ai,qk L aa G3 F3 G2 F2 ae,yR A 89 88,((A 88),(V9 aa G1 F1))],q 31 34 (uA lR A 92) (Yu lR aa eR A 92 G1 K 32),q 32 34 (Yx A 94 fr Z) [(fr,(uv F P false S.lE S.aP (vn 3 (K 90)) (vi I3 a8) (yQ K 0 27 29 94 97 103) [rf (A 21),.none,vi I3 a8,vi J3 dZ,vn G1 (K 32),vn F1 (K 31),vn G1 (K 32),rf (A 88),j9 (jU aa G1 F1) (VY aa G2 F2 G3 F3)])),u5 Z L,(L.aL,L.lex),u6 L P l ai,(L.bw,(tJ aa G3 F3 G2 F2 G1 F1 ae)),yR A 94 93,((A 93),(VZ aa G1))]]⟩
theorem Qe:GT P 34 Flow (uq Jz (kD fr Z)) (fun as ts=> .ok .next) (Qd P kv bz X0 ae S n C Es Cs lc ty F Z fr L ai l lR aa eR m p1 I1 ax J1 bL F1 G1 p2 I2 aX J2 dH F2 G2 p3 I3 a8 J3 dZ F3 G3) (hk PT):=vq
def Qf:RD:=⟨(qf S P Es Cs lc fr F kv X0 bz Z L l ai ae lR aa eR ty),[wi [19] (Yv aa),wi [22] (k0 (jz 0 (m+4)) 1),wi [23] (jj 0 (m+3)),wi vk (ya P S C n p1),wi qc (JU I1 ax),wi [10] (vg F1),wi [10] (vg G1),wi [23] (jj 1 (m+2)),wi vk (ya P S C n p2),wi [36,12,37,6,38,10] (JU I2 aX),wi [10] (vg F2),wi [10] (vg G2),wi [23] (jj 2 (m+1)),wi vk (ya P S C n p3),wi [46,12,47,6,48,10] (JU I3 a8),wi [10] (vg F3),wi [10] (vg G3),wi [23] (jj 3 (m+0)),wi vk v8,wi [19,60] (JT aa F3 G3),wi [19,62] (JS aa F3),wi [61,63] (JV aa F3 G3),wi (rg 13 5++ [65,64]) (gk P aa F3 G3 ae),wi [19,69] (JT aa F2 G2),wi [19,71] (JS aa F2),wi [70,72] (JV aa F2 G2),wi (rg 13 5++ [74,73]) (lH aa F2 G2 F3 G3 ae),wi [19,78] (JT aa F1 G1),wi [19,80] (JS aa F1),wi [79,81] (JV aa F1 G1),wi (rg 13 5++ [83,82]) (qh aa F1 G1 F3 G3 F2 G2 ae),wi [19,86] (Yy aa G1),wi (rg 13 5++ [88,87]) (uj ((jK aa G1)).length (sV ((((jT aa F3 G3)++(jT aa F2 G2))++(jT aa F1 G1))++(jK aa G1))) (ae+(((((jT aa F3 G3)++(jT aa F2 G2))++(jT aa F1 G1))++(jK aa G1))).length) (j9 (jK aa G1) (Va aa F1 G1 F2 G2 F3 G3)))],mA 21 0 14 (fun a t=> .ok .next) (fun a t=> [id,id,id,id,id,id,id,id,id,id,id,id,id,fun _=>(uv F P true S.lE S.aP (vn 3 (t 0)) (vi I3 a8) (yQ t 1 2 3 5 7 10) [(rf (t 12)),.none,(vi I3 a8),(vi I2 aX),(vn G1 (t 6)),(vn F1 (t 8)),(vn G1 (t 6)),(rf (t 13)),(j9 (jK aa G1) (Va aa F1 G1 F2 G2 F3 G3))]),id,id,id,fun _=>(j0 (sV ((((jT aa F3 G3)++(jT aa F2 G2))++(jT aa F1 G1))++(jK aa G1))) (ae+(((((jT aa F3 G3)++(jT aa F2 G2))++(jT aa F1 G1))++(jK aa G1))).length)),id,id,id]) (fun a t=> []),[],[78,0,22,24,25,82,28,85,27,86,91,92],[21,82],33,fun q qT qS A K=> [Yw q lR aa eR,Yr q A 22 K aa,q 2 33 (yB A 23) [((A 23),(jz 0 (m+4)))],VX q 3 S ty X0 bz P Es Cs lc,fq q 4 A 26 S K 16 lc C n p1 Es,vf q 5 S I1 ax Es,vf q 6 S X0 bz Es,ia q 7 A 1 m,VX q 8 S ty I1 ax P Es Cs lc,fq q 9 A 36 S K 40 lc C n p2 Es,vf q 10 S I2 aX Es,vf q 11 S I1 ax Es,fM q 12 A 2 m,VX q 13 S ty I2 aX P Es Cs lc,fq q 14 A 46 S K 64 lc C n p3 Es,vf q 15 S I3 a8 Es,vf q 16 S I2 aX Es,fO q 17 A 3 m,VX q 18 S ty I3 a8 P Es Cs lc,q 19 33 (uA lR A 60) (JR lR aa eR A 60 F3 K 88 G3 76),q 20 33 (uA lR A 62) (JQ lR aa eR A 62 F3 K 75 90),dd q 21 A 61 aa F3 G3,q 22 33 (vb A 65 fr Z) [(fr,(uv F P true S.lE S.aP (vn 3 (K 78)) (vi I3 a8) (Yt K 22 82) [rf (A 21),.none,vi I3 a8,vi I2 aX,vi 0 (K 81),vn F3 (K 75),vn G3 (K 76),rf (A 64)])),u5 Z L,(L.aL,L.lex),u6 L P l ai,(L.bw,(j0 [] ae)),yR A 65 64,((A 64),(JB aa F3 G3))],q 23 33 (uA lR A 69) (JR lR aa eR A 69 F2 K 97 G2 52),q 24 33 (uA lR A 71) (JQ lR aa eR A 71 F2 K 51 99),dd q 25 A 70 aa F2 G2,q 26 33 (vb A 74 fr Z) [(fr,(uv F P true S.lE S.aP (vn 3 (K 78)) (vi I3 a8) (yQ K 0 22 24 82 85 91) [rf (A 21),.none,vi I3 a8,vi I2 aX,vn G3 (K 76),vn F2 (K 51),vn G2 (K 52),rf (A 73),j9 (jT aa F3 G3) .none])),u5 Z L,(L.aL,L.lex),u6 L P l ai,gm L aa F3 G3 ae,yR A 74 73,((A 73),(JB aa F2 G2))],q 27 33 (uA lR A 78) (JR lR aa eR A 78 F1 K 105 G1 28),q 28 33 (uA lR A 80) (JQ lR aa eR A 80 F1 K 27 107),dd q 29 A 79 aa F1 G1,q 30 33 (vb A 83 fr Z) [(fr,(uv F P true S.lE S.aP (vn 3 (K 78)) (vi I3 a8) (yQ K 0 22 24 82 85 91) [rf (A 21),.none,vi I3 a8,vi I2 aX,vn G2 (K 52),vn F1 (K 27),vn G1 (K 28),rf (A 82),Ys aa F2 G2 F3 G3])),u5 Z L,(L.aL,L.lex),u6 L P l ai,lI L aa F3 G3 F2 G2 ae,yR A 83 82,((A 82),(JB aa F1 G1))],q 31 34 (uA lR A 86) (Yu lR aa eR A 86 G1 K 28),q 32 34 (Yx A 88 fr Z) [(fr,(uv F P true S.lE S.aP (vn 3 (K 78)) (vi I3 a8) (yQ K 0 22 24 82 85 91) [rf (A 21),.none,vi I3 a8,vi I2 aX,vn G1 (K 28),vn F1 (K 27),vn G1 (K 28),rf (A 82),Va aa F1 G1 F2 G2 F3 G3])),u5 Z L,(L.aL,L.lex),u6 L P l ai,qj L aa F3 G3 F2 G2 F1 G1 ae,yR A 88 87,((A 87),(VZ aa G1))]]⟩
theorem Qg:GT P 34 Flow (uq Jz (kD fr Z)) (fun as ts=> .ok .next) (Qf P kv bz X0 ae S n C Es Cs lc ty F Z fr L ai l lR aa eR m p1 I1 ax F1 G1 p2 I2 aX F2 G2 p3 I3 a8 F3 G3) (hk PU):=vq
def Qh:RD:=⟨(qg S P Es Cs fr F kv X0 bz Z L l ai ae lR aa eR ty),[wi [18] (Yv aa),wi [21] (k0 (jz 0 (m+4)) 1),wi [22] (jj 0 (m+3)),wi (rg 0 12) (lx P S C n p1),wi qd (JU I1 ax),wi [10] (vg F1),wi [10] (vg G1),wi [22] (jj 1 (m+2)),(fk,fun c=>ya P {S with aA:=Ux c 10} C n p2),wi [36,24,37,6,38,10] (JU I2 aX),wi [10] (vg F2),wi [10] (vg G2),wi [22] (jj 2 (m+1)),(fk,fun c=>ya P {S with aA:=Ux c 10} C n p3),wi [46,24,47,6,48,10] (JU I3 a8),wi [10] (vg F3),wi [10] (vg G3),wi [22] (jj 3 (m+0)),wi fk v8,wi [18,60] (JT aa F3 G3),wi [18,62] (JS aa F3),wi [61,63] (JV aa F3 G3),wi (rg 12 5++ [65,64]) (gk P aa F3 G3 ae),wi [18,69] (JT aa F2 G2),wi [18,71] (JS aa F2),wi [70,72] (JV aa F2 G2),wi (rg 12 5++ [74,73]) (lH aa F2 G2 F3 G3 ae),wi [18,78] (JT aa F1 G1),wi [18,80] (JS aa F1),wi [79,81] (JV aa F1 G1),wi (rg 12 5++ [83,82]) (qh aa F1 G1 F3 G3 F2 G2 ae),wi [18,86] (Yy aa G1),wi (rg 12 5++ [88,87]) (uj ((jK aa G1)).length (sV ((((jT aa F3 G3)++(jT aa F2 G2))++(jT aa F1 G1))++(jK aa G1))) (ae+(((((jT aa F3 G3)++(jT aa F2 G2))++(jT aa F1 G1))++(jK aa G1))).length) (j9 (jK aa G1) (Va aa F1 G1 F2 G2 F3 G3)))],mA 20 1 24 (fun a t=> .ok .next) (fun a t=> [id,id,id,id,fun _=>(fN (ku S.af (a 0))),id,id,id,id,id,id,id,fun _=>(uv F P true S.lE S.aP (vn 3 (t 0)) (vi I3 a8) (yQ t 1 2 3 5 7 10) [(rf (t 22)),.none,(vi I3 a8),(vi I2 aX),(vn G1 (t 6)),(vn F1 (t 8)),(vn G1 (t 6)),(rf (t 23)),(j9 (jK aa G1) (Va aa F1 G1 F2 G2 F3 G3))]),id,id,id,fun _=>(j0 (sV ((((jT aa F3 G3)++(jT aa F2 G2))++(jT aa F1 G1))++(jK aa G1))) (ae+(((((jT aa F3 G3)++(jT aa F2 G2))++(jT aa F1 G1))++(jK aa G1))).length)),id,id,id]) (fun a t=> [(jD 98 (kr t 12 10))]),[24],([88,0,32,34,35,92,38,95,37,96,101,102]++rg 22 10),[20,82],33,fun q qT qS A K=> [Yw q lR aa eR,Yr q A 21 K aa,q 2 33 (yB A 22) [((A 22),(jz 0 (m+4)))],q 3 33 (cr 21 [rf S.aP,vt S.T ty,vi X0 bz]) (S.aV P (jL S.af) true Es Cs),fm q 4 A 26 K 16 S C n p1 Es,vf q 5 S I1 ax Es,vf q 6 S X0 bz Es,q 7 33 (yB A 22) [((A 22),(jz 1 (m+3)))],ft q 8 S ty I1 ax P A Es Cs K,fm q 9 A 36 K 50 S C n p2 Es,vf q 10 S I2 aX Es,vf q 11 S I1 ax Es,q 12 33 (yB A 22) [((A 22),(jz 2 (m+2)))],ft q 13 S ty I2 aX P A Es Cs K,fm q 14 A 46 K 74 S C n p3 Es,vf q 15 S I3 a8 Es,vf q 16 S I2 aX Es,q 17 33 (yB A 22) [((A 22),(jz 3 (m+1)))],ft q 18 S ty I3 a8 P A Es Cs K,q 19 33 (uA lR A 60) (JR lR aa eR A 60 F3 K 98 G3 86),q 20 33 (uA lR A 62) (JQ lR aa eR A 62 F3 K 85 100),dd q 21 A 61 aa F3 G3,q 22 33 (vb A 65 fr Z) [(fr,(uv F P true S.lE S.aP (vn 3 (K 88)) (vi I3 a8) (Yt K 32 92) [rf (A 20),.none,vi I3 a8,vi I2 aX,vi 0 (K 91),vn F3 (K 85),vn G3 (K 86),rf (A 64)])),u5 Z L,(L.aL,L.lex),u6 L P l ai,(L.bw,(j0 [] ae)),yR A 65 64,((A 64),(JB aa F3 G3))],q 23 33 (uA lR A 69) (JR lR aa eR A 69 F2 K 107 G2 62),q 24 33 (uA lR A 71) (JQ lR aa eR A 71 F2 K 61 109),dd q 25 A 70 aa F2 G2,q 26 33 (vb A 74 fr Z) [(fr,(uv F P true S.lE S.aP (vn 3 (K 88)) (vi I3 a8) (yQ K 0 32 34 92 95 101) [rf (A 20),.none,vi I3 a8,vi I2 aX,vn G3 (K 86),vn F2 (K 61),vn G2 (K 62),rf (A 73),j9 (jT aa F3 G3) .none])),u5 Z L,(L.aL,L.lex),u6 L P l ai,gm L aa F3 G3 ae,yR A 74 73,((A 73),(JB aa F2 G2))],q 27 33 (uA lR A 78) (JR lR aa eR A 78 F1 K 115 G1 38),q 28 33 (uA lR A 80) (JQ lR aa eR A 80 F1 K 37 117),dd q 29 A 79 aa F1 G1,q 30 33 (vb A 83 fr Z) [(fr,(uv F P true S.lE S.aP (vn 3 (K 88)) (vi I3 a8) (yQ K 0 32 34 92 95 101) [rf (A 20),.none,vi I3 a8,vi I2 aX,vn G2 (K 62),vn F1 (K 37),vn G1 (K 38),rf (A 82),Ys aa F2 G2 F3 G3])),u5 Z L,(L.aL,L.lex),u6 L P l ai,lI L aa F3 G3 F2 G2 ae,yR A 83 82,((A 82),(JB aa F1 G1))],q 31 34 (uA lR A 86) (Yu lR aa eR A 86 G1 K 38),q 32 34 (Yx A 88 fr Z) [(fr,(uv F P true S.lE S.aP (vn 3 (K 88)) (vi I3 a8) (yQ K 0 32 34 92 95 101) [rf (A 20),.none,vi I3 a8,vi I2 aX,vn G1 (K 38),vn F1 (K 37),vn G1 (K 38),rf (A 82),Va aa F1 G1 F2 G2 F3 G3])),u5 Z L,(L.aL,L.lex),u6 L P l ai,qj L aa F3 G3 F2 G2 F1 G1 ae,yR A 88 87,((A 87),(VZ aa G1))]]⟩
theorem Qi:GT P 34 Flow (uq Jz (kD fr Z)) (fun as ts=> .ok .next) (Qh P kv bz X0 ae S n C Es Cs ty F Z fr L ai l lR aa eR m p1 I1 ax F1 G1 p2 I2 aX F2 G2 p3 I3 a8 F3 G3) (hk PV):=vq
def Qj:RD:=⟨(nk S P Es Cs lc fr F kv X0 bz Z L l ai ae lR aa eR ty),[wi [19] (Yv aa),wi [22] (k0 (jz 0 (m+5)) 1),wi [23] (jj 0 (m+4)),wi vk (yu P S C n p1),wi nj (kL 8 I1 ax J1 bL),wi [10] (vg F1),wi [10] (vg G1),wi [23] (jj 1 (m+3)),wi vk (yu P S C n p2),wi qe (kL 8 I2 aX J2 dH),wi [10] (vg F2),wi [10] (vg G2),wi [23] (jj 2 (m+2)),wi vk (yu P S C n p3),wi tH (kL 8 I3 a8 J3 dZ),wi [10] (vg F3),wi [10] (vg G3),wi [23] (jj 3 (m+1)),wi vk (yu P S C n p4),wi [62,12,63,6,64,65,10,66] (kL 8 I4 bA J4 eu),wi [10] (vg F4),wi [10] (vg G4),wi [23] (jj 4 (m+0)),wi vk v8,wi [19,78] (VC aa G4),wi [19,80] (VD aa F4 G4),wi [79,81] (VE aa G4 F4),wi (rg 13 5++ [83,82]) (nq P aa G4 F4 ae),wi [19,87] (VC aa G3),wi [19,89] (VD aa F3 G3),wi [88,90] (VE aa G3 F3),wi (rg 13 5++ [92,91]) (qi aa G3 F3 G4 F4 ae),wi [19,96] (VC aa G2),wi [19,98] (VD aa F2 G2),wi [97,99] (VE aa G2 F2),wi (rg 13 5++ [101,100]) (tI aa G2 F2 G4 F4 G3 F3 ae),wi [19,105] (VC aa G1),wi [19,107] (VD aa F1 G1),wi [106,108] (VE aa G1 F1),wi (rg 13 5++ [110,109]) (uj ((jU aa G1 F1)).length (sV ((((jU aa G4 F4)++(jU aa G3 F3))++(jU aa G2 F2))++(jU aa G1 F1))) (ae+(((((jU aa G4 F4)++(jU aa G3 F3))++(jU aa G2 F2))++(jU aa G1 F1))).length) (fu aa G1 F1 G2 F2 G3 F3 G4 F4)),wi [19,113] (Yy aa G1),wi (rg 13 5++ [115,114]) (uj ((jK aa G1)).length (sV (((((jU aa G4 F4)++(jU aa G3 F3))++(jU aa G2 F2))++(jU aa G1 F1))++(jK aa G1))) (ae+((((((jU aa G4 F4)++(jU aa G3 F3))++(jU aa G2 F2))++(jU aa G1 F1))++(jK aa G1))).length) (j9 (jK aa G1) (fu aa G1 F1 G2 F2 G3 F3 G4 F4)))],mA 21 0 14 (fun a t=> .ok .next) (fun a t=> [id,id,id,id,id,id,id,id,id,id,id,id,id,fun _=>(uv F P false S.lE S.aP (vn 4 (t 0)) (vi I4 bA) (yQ t 1 2 3 5 7 10) [(rf (t 12)),.none,(vi I4 bA),(vi J4 eu),(vn G1 (t 6)),(vn F1 (t 8)),(vn G1 (t 6)),(rf (t 13)),(j9 (jK aa G1) (fu aa G1 F1 G2 F2 G3 F3 G4 F4))]),id,id,id,fun _=>(j0 (sV (((((jU aa G4 F4)++(jU aa G3 F3))++(jU aa G2 F2))++(jU aa G1 F1))++(jK aa G1))) (ae+((((((jU aa G4 F4)++(jU aa G3 F3))++(jU aa G2 F2))++(jU aa G1 F1))++(jK aa G1))).length)),id,id,id]) (fun a t=> []),[],[118,0,27,29,30,122,32,125,31,126,131,132],[21,109],42,fun q qT qS A K=> [Yw q lR aa eR,Yr q A 22 K aa,q 2 33 (yB A 23) [((A 23),(jz 0 (m+5)))],JP q 3 S ty X0 bz P Es Cs lc,dQ q 4 A 26 S K 16 lc C n p1 Es,vf q 5 S I1 ax Es,vf q 6 S J1 bL Es,q 7 33 (yB A 23) [((A 23),(jz 1 (m+4)))],JP q 8 S ty I1 ax P Es Cs lc,dQ q 9 A 38 S K 44 lc C n p2 Es,vf q 10 S I2 aX Es,vf q 11 S J2 dH Es,ia q 12 A 2 m,JP q 13 S ty I2 aX P Es Cs lc,dQ q 14 A 50 S K 72 lc C n p3 Es,vf q 15 S I3 a8 Es,vf q 16 S J3 dZ Es,fM q 17 A 3 m,JP q 18 S ty I3 a8 P Es Cs lc,dQ q 19 A 62 S K 100 lc C n p4 Es,vf q 20 S I4 bA Es,vf q 21 S J4 eu Es,fO q 22 A 4 m,JP q 23 S ty I4 bA P Es Cs lc,q 24 33 (uA lR A 78) (VA lR aa eR A 78 G4 K 128 116),q 25 33 (uA lR A 80) (VB lR aa eR A 80 F4 K 115 G4 130),dS q 26 A 79 aa G4 F4,q 27 33 (vb A 83 fr Z) [(fr,(uv F P false S.lE S.aP (vn 4 (K 118)) (vi I4 bA) (Yt K 27 122) [rf (A 21),.none,vi I4 bA,vi J4 eu,vi 0 (K 121),vn F4 (K 115),vn G4 (K 116),rf (A 82)])),u5 Z L,(L.aL,L.lex),u6 L P l ai,(L.bw,(j0 [] ae)),yR A 83 82,((A 82),(V9 aa G4 F4))],q 28 33 (uA lR A 87) (VA lR aa eR A 87 G3 K 137 88),q 29 33 (uA lR A 89) (VB lR aa eR A 89 F3 K 87 G3 139),dS q 30 A 88 aa G3 F3,q 31 33 (vb A 92 fr Z) [(fr,(uv F P false S.lE S.aP (vn 4 (K 118)) (vi I4 bA) (yQ K 0 27 29 122 125 131) [rf (A 21),.none,vi I4 bA,vi J4 eu,vn G4 (K 116),vn F3 (K 87),vn G3 (K 88),rf (A 91),j9 (jU aa G4 F4) .none])),u5 Z L,(L.aL,L.lex),u6 L P l ai,nr L aa G4 F4 ae,yR A 92 91,((A 91),(V9 aa G3 F3))],q 32 33 (uA lR A 96) (VA lR aa eR A 96 G2 K 145 60),q 33 33 (uA lR A 98) (VB lR aa eR A 98 F2 K 59 G2 147),dS q 34 A 97 aa G2 F2,q 35 33 (vb A 101 fr Z) [(fr,(uv F P false S.lE S.aP (vn 4 (K 118)) (vi I4 bA) (yQ K 0 27 29 122 125 131) [rf (A 21),.none,vi I4 bA,vi J4 eu,vn G3 (K 88),vn F2 (K 59),vn G2 (K 60),rf (A 100),VY aa G3 F3 G4 F4])),u5 Z L,(L.aL,L.lex),u6 L P l ai,qk L aa G4 F4 G3 F3 ae,yR A 101 100,((A 100),(V9 aa G2 F2))],q 36 33 (uA lR A 105) (VA lR aa eR A 105 G1 K 153 32),q 37 33 (uA lR A 107) (VB lR aa eR A 107 F1 K 31 G1 155),dS q 38 A 106 aa G1 F1,q 39 33 (vb A 110 fr Z) [(fr,(uv F P false S.lE S.aP (vn 4 (K 118)) (vi I4 bA) (yQ K 0 27 29 122 125 131) [rf (A 21),.none,vi I4 bA,vi J4 eu,vn G2 (K 60),vn F1 (K 31),vn G1 (K 32),rf (A 109),j9 (jU aa G2 F2) (VY aa G3 F3 G4 F4)])),u5 Z L,(L.aL,L.lex),u6 L P l ai,(L.bw,(tJ aa G4 F4 G3 F3 G2 F2 ae)),yR A 110 109,((A 109),(V9 aa G1 F1))],q 40 34 (uA lR A 113) (Yu lR aa eR A 113 G1 K 32),q 41 34 (Yx A 115 fr Z) [(fr,(uv F P false S.lE S.aP (vn 4 (K 118)) (vi I4 bA) (yQ K 0 27 29 122 125 131) [rf (A 21),.none,vi I4 bA,vi J4 eu,vn G1 (K 32),vn F1 (K 31),vn G1 (K 32),rf (A 109),fu aa G1 F1 G2 F2 G3 F3 G4 F4])),u5 Z L,(L.aL,L.lex),u6 L P l ai,(L.bw,(j0 (sV ((((jU aa G4 F4)++(jU aa G3 F3))++(jU aa G2 F2))++(jU aa G1 F1))) (ae+(((((jU aa G4 F4)++(jU aa G3 F3))++(jU aa G2 F2))++(jU aa G1 F1))).length))),yR A 115 114,((A 114),(VZ aa G1))]]⟩
theorem Qk:GT P 34 Flow (uq Jz (kD fr Z)) (fun as ts=> .ok .next) (Qj P kv bz X0 ae S n C Es Cs lc ty F Z fr L ai l lR aa eR m p1 I1 ax J1 bL F1 G1 p2 I2 aX J2 dH F2 G2 p3 I3 a8 J3 dZ F3 G3 p4 I4 bA J4 eu F4 G4) (hk PW):=vq
def Ql:RD:=⟨(qf S P Es Cs lc fr F kv X0 bz Z L l ai ae lR aa eR ty),[wi [19] (Yv aa),wi [22] (k0 (jz 0 (m+5)) 1),wi [23] (jj 0 (m+4)),wi vk (ya P S C n p1),wi qc (JU I1 ax),wi [10] (vg F1),wi [10] (vg G1),wi [23] (jj 1 (m+3)),wi vk (ya P S C n p2),wi [36,12,37,6,38,10] (JU I2 aX),wi [10] (vg F2),wi [10] (vg G2),wi [23] (jj 2 (m+2)),wi vk (ya P S C n p3),wi [46,12,47,6,48,10] (JU I3 a8),wi [10] (vg F3),wi [10] (vg G3),wi [23] (jj 3 (m+1)),wi vk (ya P S C n p4),wi [56,12,57,6,58,10] (JU I4 bA),wi [10] (vg F4),wi [10] (vg G4),wi [23] (jj 4 (m+0)),wi vk v8,wi [19,70] (JT aa F4 G4),wi [19,72] (JS aa F4),wi [71,73] (JV aa F4 G4),wi (rg 13 5++ [75,74]) (gk P aa F4 G4 ae),wi [19,79] (JT aa F3 G3),wi [19,81] (JS aa F3),wi [80,82] (JV aa F3 G3),wi (rg 13 5++ [84,83]) (lH aa F3 G3 F4 G4 ae),wi [19,88] (JT aa F2 G2),wi [19,90] (JS aa F2),wi [89,91] (JV aa F2 G2),wi (rg 13 5++ [93,92]) (qh aa F2 G2 F4 G4 F3 G3 ae),wi [19,97] (JT aa F1 G1),wi [19,99] (JS aa F1),wi [98,100] (JV aa F1 G1),wi (rg 13 5++ [102,101]) (uj ((jT aa F1 G1)).length (sV ((((jT aa F4 G4)++(jT aa F3 G3))++(jT aa F2 G2))++(jT aa F1 G1))) (ae+(((((jT aa F4 G4)++(jT aa F3 G3))++(jT aa F2 G2))++(jT aa F1 G1))).length) (j9 (jT aa F1 G1) (Va aa F2 G2 F3 G3 F4 G4))),wi [19,105] (Yy aa G1),wi (rg 13 5++ [107,106]) (uj ((jK aa G1)).length (sV (((((jT aa F4 G4)++(jT aa F3 G3))++(jT aa F2 G2))++(jT aa F1 G1))++(jK aa G1))) (ae+((((((jT aa F4 G4)++(jT aa F3 G3))++(jT aa F2 G2))++(jT aa F1 G1))++(jK aa G1))).length) (j9 (jK aa G1) (j9 (jT aa F1 G1) (Va aa F2 G2 F3 G3 F4 G4))))],mA 21 0 14 (fun a t=> .ok .next) (fun a t=> [id,id,id,id,id,id,id,id,id,id,id,id,id,fun _=>(uv F P true S.lE S.aP (vn 4 (t 0)) (vi I4 bA) (yQ t 1 2 3 5 7 10) [(rf (t 12)),.none,(vi I4 bA),(vi I3 a8),(vn G1 (t 6)),(vn F1 (t 8)),(vn G1 (t 6)),(rf (t 13)),(j9 (jK aa G1) (j9 (jT aa F1 G1) (Va aa F2 G2 F3 G3 F4 G4)))]),id,id,id,fun _=>(j0 (sV (((((jT aa F4 G4)++(jT aa F3 G3))++(jT aa F2 G2))++(jT aa F1 G1))++(jK aa G1))) (ae+((((((jT aa F4 G4)++(jT aa F3 G3))++(jT aa F2 G2))++(jT aa F1 G1))++(jK aa G1))).length)),id,id,id]) (fun a t=> []),[],[102,0,22,24,25,106,28,109,27,110,115,116],[21,101],42,fun q qT qS A K=> [Yw q lR aa eR,Yr q A 22 K aa,q 2 33 (yB A 23) [((A 23),(jz 0 (m+5)))],VX q 3 S ty X0 bz P Es Cs lc,fq q 4 A 26 S K 16 lc C n p1 Es,vf q 5 S I1 ax Es,vf q 6 S X0 bz Es,q 7 33 (yB A 23) [((A 23),(jz 1 (m+4)))],VX q 8 S ty I1 ax P Es Cs lc,fq q 9 A 36 S K 40 lc C n p2 Es,vf q 10 S I2 aX Es,vf q 11 S I1 ax Es,ia q 12 A 2 m,VX q 13 S ty I2 aX P Es Cs lc,fq q 14 A 46 S K 64 lc C n p3 Es,vf q 15 S I3 a8 Es,vf q 16 S I2 aX Es,fM q 17 A 3 m,VX q 18 S ty I3 a8 P Es Cs lc,fq q 19 A 56 S K 88 lc C n p4 Es,vf q 20 S I4 bA Es,vf q 21 S I3 a8 Es,fO q 22 A 4 m,VX q 23 S ty I4 bA P Es Cs lc,q 24 33 (uA lR A 70) (JR lR aa eR A 70 F4 K 112 G4 100),q 25 33 (uA lR A 72) (JQ lR aa eR A 72 F4 K 99 114),dd q 26 A 71 aa F4 G4,q 27 33 (vb A 75 fr Z) [(fr,(uv F P true S.lE S.aP (vn 4 (K 102)) (vi I4 bA) (Yt K 22 106) [rf (A 21),.none,vi I4 bA,vi I3 a8,vi 0 (K 105),vn F4 (K 99),vn G4 (K 100),rf (A 74)])),u5 Z L,(L.aL,L.lex),u6 L P l ai,(L.bw,(j0 [] ae)),yR A 75 74,((A 74),(JB aa F4 G4))],q 28 33 (uA lR A 79) (JR lR aa eR A 79 F3 K 121 G3 76),q 29 33 (uA lR A 81) (JQ lR aa eR A 81 F3 K 75 123),dd q 30 A 80 aa F3 G3,q 31 33 (vb A 84 fr Z) [(fr,(uv F P true S.lE S.aP (vn 4 (K 102)) (vi I4 bA) (yQ K 0 22 24 106 109 115) [rf (A 21),.none,vi I4 bA,vi I3 a8,vn G4 (K 100),vn F3 (K 75),vn G3 (K 76),rf (A 83),j9 (jT aa F4 G4) .none])),u5 Z L,(L.aL,L.lex),u6 L P l ai,gm L aa F4 G4 ae,yR A 84 83,((A 83),(JB aa F3 G3))],q 32 33 (uA lR A 88) (JR lR aa eR A 88 F2 K 129 G2 52),q 33 33 (uA lR A 90) (JQ lR aa eR A 90 F2 K 51 131),dd q 34 A 89 aa F2 G2,q 35 33 (vb A 93 fr Z) [(fr,(uv F P true S.lE S.aP (vn 4 (K 102)) (vi I4 bA) (yQ K 0 22 24 106 109 115) [rf (A 21),.none,vi I4 bA,vi I3 a8,vn G3 (K 76),vn F2 (K 51),vn G2 (K 52),rf (A 92),Ys aa F3 G3 F4 G4])),u5 Z L,(L.aL,L.lex),u6 L P l ai,lI L aa F4 G4 F3 G3 ae,yR A 93 92,((A 92),(JB aa F2 G2))],q 36 33 (uA lR A 97) (JR lR aa eR A 97 F1 K 137 G1 28),q 37 33 (uA lR A 99) (JQ lR aa eR A 99 F1 K 27 139),dd q 38 A 98 aa F1 G1,q 39 33 (vb A 102 fr Z) [(fr,(uv F P true S.lE S.aP (vn 4 (K 102)) (vi I4 bA) (yQ K 0 22 24 106 109 115) [rf (A 21),.none,vi I4 bA,vi I3 a8,vn G2 (K 52),vn F1 (K 27),vn G1 (K 28),rf (A 101),Va aa F2 G2 F3 G3 F4 G4])),u5 Z L,(L.aL,L.lex),u6 L P l ai,qj L aa F4 G4 F3 G3 F2 G2 ae,yR A 102 101,((A 101),(JB aa F1 G1))],q 40 34 (uA lR A 105) (Yu lR aa eR A 105 G1 K 28),q 41 34 (Yx A 107 fr Z) [(fr,(uv F P true S.lE S.aP (vn 4 (K 102)) (vi I4 bA) (yQ K 0 22 24 106 109 115) [rf (A 21),.none,vi I4 bA,vi I3 a8,vn G1 (K 28),vn F1 (K 27),vn G1 (K 28),rf (A 101),j9 (jT aa F1 G1) (Va aa F2 G2 F3 G3 F4 G4)])),u5 Z L,(L.aL,L.lex),u6 L P l ai,(L.bw,(j0 (sV ((((jT aa F4 G4)++(jT aa F3 G3))++(jT aa F2 G2))++(jT aa F1 G1))) (ae+(((((jT aa F4 G4)++(jT aa F3 G3))++(jT aa F2 G2))++(jT aa F1 G1))).length))),yR A 107 106,((A 106),(VZ aa G1))]]⟩
theorem Qm:GT P 34 Flow (uq Jz (kD fr Z)) (fun as ts=> .ok .next) (Ql P kv bz X0 ae S n C Es Cs lc ty F Z fr L ai l lR aa eR m p1 I1 ax F1 G1 p2 I2 aX F2 G2 p3 I3 a8 F3 G3 p4 I4 bA F4 G4) (hk PX):=vq
def Qn:RD:=⟨(qg S P Es Cs fr F kv X0 bz Z L l ai ae lR aa eR ty),[wi [18] (Yv aa),wi [21] (k0 (jz 0 (m+5)) 1),wi [22] (jj 0 (m+4)),wi (rg 0 12) (lx P S C n p1),wi qd (JU I1 ax),wi [10] (vg F1),wi [10] (vg G1),wi [22] (jj 1 (m+3)),(fk,fun c=>ya P {S with aA:=Ux c 10} C n p2),wi [36,24,37,6,38,10] (JU I2 aX),wi [10] (vg F2),wi [10] (vg G2),wi [22] (jj 2 (m+2)),(fk,fun c=>ya P {S with aA:=Ux c 10} C n p3),wi [46,24,47,6,48,10] (JU I3 a8),wi [10] (vg F3),wi [10] (vg G3),wi [22] (jj 3 (m+1)),(fk,fun c=>ya P {S with aA:=Ux c 10} C n p4),wi [56,24,57,6,58,10] (JU I4 bA),wi [10] (vg F4),wi [10] (vg G4),wi [22] (jj 4 (m+0)),wi fk v8,wi [18,70] (JT aa F4 G4),wi [18,72] (JS aa F4),wi [71,73] (JV aa F4 G4),wi (rg 12 5++ [75,74]) (gk P aa F4 G4 ae),wi [18,79] (JT aa F3 G3),wi [18,81] (JS aa F3),wi [80,82] (JV aa F3 G3),wi (rg 12 5++ [84,83]) (lH aa F3 G3 F4 G4 ae),wi [18,88] (JT aa F2 G2),wi [18,90] (JS aa F2),wi [89,91] (JV aa F2 G2),wi (rg 12 5++ [93,92]) (qh aa F2 G2 F4 G4 F3 G3 ae),wi [18,97] (JT aa F1 G1),wi [18,99] (JS aa F1),wi [98,100] (JV aa F1 G1),wi (rg 12 5++ [102,101]) (uj ((jT aa F1 G1)).length (sV ((((jT aa F4 G4)++(jT aa F3 G3))++(jT aa F2 G2))++(jT aa F1 G1))) (ae+(((((jT aa F4 G4)++(jT aa F3 G3))++(jT aa F2 G2))++(jT aa F1 G1))).length) (j9 (jT aa F1 G1) (Va aa F2 G2 F3 G3 F4 G4))),wi [18,105] (Yy aa G1),wi (rg 12 5++ [107,106]) (uj ((jK aa G1)).length (sV (((((jT aa F4 G4)++(jT aa F3 G3))++(jT aa F2 G2))++(jT aa F1 G1))++(jK aa G1))) (ae+((((((jT aa F4 G4)++(jT aa F3 G3))++(jT aa F2 G2))++(jT aa F1 G1))++(jK aa G1))).length) (j9 (jK aa G1) (j9 (jT aa F1 G1) (Va aa F2 G2 F3 G3 F4 G4))))],mA 20 1 24 (fun a t=> .ok .next) (fun a t=> [id,id,id,id,fun _=>(fN (ku S.af (a 0))),id,id,id,id,id,id,id,fun _=>(uv F P true S.lE S.aP (vn 4 (t 0)) (vi I4 bA) (yQ t 1 2 3 5 7 10) [(rf (t 22)),.none,(vi I4 bA),(vi I3 a8),(vn G1 (t 6)),(vn F1 (t 8)),(vn G1 (t 6)),(rf (t 23)),(j9 (jK aa G1) (j9 (jT aa F1 G1) (Va aa F2 G2 F3 G3 F4 G4)))]),id,id,id,fun _=>(j0 (sV (((((jT aa F4 G4)++(jT aa F3 G3))++(jT aa F2 G2))++(jT aa F1 G1))++(jK aa G1))) (ae+((((((jT aa F4 G4)++(jT aa F3 G3))++(jT aa F2 G2))++(jT aa F1 G1))++(jK aa G1))).length)),id,id,id]) (fun a t=> [(jD 98 (kr t 12 10))]),[24],([112,0,32,34,35,116,38,119,37,120,125,126]++rg 22 10),[20,101],42,fun q qT qS A K=> [Yw q lR aa eR,Yr q A 21 K aa,q 2 33 (yB A 22) [((A 22),(jz 0 (m+5)))],q 3 33 (cr 21 [rf S.aP,vt S.T ty,vi X0 bz]) (S.aV P (jL S.af) true Es Cs),fm q 4 A 26 K 16 S C n p1 Es,vf q 5 S I1 ax Es,vf q 6 S X0 bz Es,q 7 33 (yB A 22) [((A 22),(jz 1 (m+4)))],ft q 8 S ty I1 ax P A Es Cs K,fm q 9 A 36 K 50 S C n p2 Es,vf q 10 S I2 aX Es,vf q 11 S I1 ax Es,q 12 33 (yB A 22) [((A 22),(jz 2 (m+3)))],ft q 13 S ty I2 aX P A Es Cs K,fm q 14 A 46 K 74 S C n p3 Es,vf q 15 S I3 a8 Es,vf q 16 S I2 aX Es,q 17 33 (yB A 22) [((A 22),(jz 3 (m+2)))],ft q 18 S ty I3 a8 P A Es Cs K,fm q 19 A 56 K 98 S C n p4 Es,vf q 20 S I4 bA Es,vf q 21 S I3 a8 Es,q 22 33 (yB A 22) [((A 22),(jz 4 (m+1)))],ft q 23 S ty I4 bA P A Es Cs K,q 24 33 (uA lR A 70) (JR lR aa eR A 70 F4 K 122 G4 110),q 25 33 (uA lR A 72) (JQ lR aa eR A 72 F4 K 109 124),dd q 26 A 71 aa F4 G4,q 27 33 (vb A 75 fr Z) [(fr,(uv F P true S.lE S.aP (vn 4 (K 112)) (vi I4 bA) (Yt K 32 116) [rf (A 20),.none,vi I4 bA,vi I3 a8,vi 0 (K 115),vn F4 (K 109),vn G4 (K 110),rf (A 74)])),u5 Z L,(L.aL,L.lex),u6 L P l ai,(L.bw,(j0 [] ae)),yR A 75 74,((A 74),(JB aa F4 G4))],q 28 33 (uA lR A 79) (JR lR aa eR A 79 F3 K 131 G3 86),q 29 33 (uA lR A 81) (JQ lR aa eR A 81 F3 K 85 133),dd q 30 A 80 aa F3 G3,q 31 33 (vb A 84 fr Z) [(fr,(uv F P true S.lE S.aP (vn 4 (K 112)) (vi I4 bA) (yQ K 0 32 34 116 119 125) [rf (A 20),.none,vi I4 bA,vi I3 a8,vn G4 (K 110),vn F3 (K 85),vn G3 (K 86),rf (A 83),j9 (jT aa F4 G4) .none])),u5 Z L,(L.aL,L.lex),u6 L P l ai,gm L aa F4 G4 ae,yR A 84 83,((A 83),(JB aa F3 G3))],q 32 33 (uA lR A 88) (JR lR aa eR A 88 F2 K 139 G2 62),q 33 33 (uA lR A 90) (JQ lR aa eR A 90 F2 K 61 141),dd q 34 A 89 aa F2 G2,q 35 33 (vb A 93 fr Z) [(fr,(uv F P true S.lE S.aP (vn 4 (K 112)) (vi I4 bA) (yQ K 0 32 34 116 119 125) [rf (A 20),.none,vi I4 bA,vi I3 a8,vn G3 (K 86),vn F2 (K 61),vn G2 (K 62),rf (A 92),Ys aa F3 G3 F4 G4])),u5 Z L,(L.aL,L.lex),u6 L P l ai,lI L aa F4 G4 F3 G3 ae,yR A 93 92,((A 92),(JB aa F2 G2))],q 36 33 (uA lR A 97) (JR lR aa eR A 97 F1 K 147 G1 38),q 37 33 (uA lR A 99) (JQ lR aa eR A 99 F1 K 37 149),dd q 38 A 98 aa F1 G1,q 39 33 (vb A 102 fr Z) [(fr,(uv F P true S.lE S.aP (vn 4 (K 112)) (vi I4 bA) (yQ K 0 32 34 116 119 125) [rf (A 20),.none,vi I4 bA,vi I3 a8,vn G2 (K 62),vn F1 (K 37),vn G1 (K 38),rf (A 101),Va aa F2 G2 F3 G3 F4 G4])),u5 Z L,(L.aL,L.lex),u6 L P l ai,qj L aa F4 G4 F3 G3 F2 G2 ae,yR A 102 101,((A 101),(JB aa F1 G1))],q 40 34 (uA lR A 105) (Yu lR aa eR A 105 G1 K 38),q 41 34 (Yx A 107 fr Z) [(fr,(uv F P true S.lE S.aP (vn 4 (K 112)) (vi I4 bA) (yQ K 0 32 34 116 119 125) [rf (A 20),.none,vi I4 bA,vi I3 a8,vn G1 (K 38),vn F1 (K 37),vn G1 (K 38),rf (A 101),j9 (jT aa F1 G1) (Va aa F2 G2 F3 G3 F4 G4)])),u5 Z L,(L.aL,L.lex),u6 L P l ai,(L.bw,(j0 (sV ((((jT aa F4 G4)++(jT aa F3 G3))++(jT aa F2 G2))++(jT aa F1 G1))) (ae+(((((jT aa F4 G4)++(jT aa F3 G3))++(jT aa F2 G2))++(jT aa F1 G1))).length))),yR A 107 106,((A 106),(VZ aa G1))]]⟩
theorem Qo:GT P 34 Flow (uq Jz (kD fr Z)) (fun as ts=> .ok .next) (Qn P kv bz X0 ae S n C Es Cs ty F Z fr L ai l lR aa eR m p1 I1 ax F1 G1 p2 I2 aX F2 G2 p3 I3 a8 F3 G3 p4 I4 bA F4 G4) (hk PY):=vq
def Qp:RD:=⟨(nk S P Es Cs lc fr F kv X0 bz Z L l ai ae lR aa eR ty),[wi [19] (Yv aa),wi [22] (k0 (jz 0 (m+6)) 1),wi [23] (jj 0 (m+5)),wi vk (yu P S C n p1),wi nj (kL 8 I1 ax J1 bL),wi [10] (vg F1),wi [10] (vg G1),wi [23] (jj 1 (m+4)),wi vk (yu P S C n p2),wi qe (kL 8 I2 aX J2 dH),wi [10] (vg F2),wi [10] (vg G2),wi [23] (jj 2 (m+3)),wi vk (yu P S C n p3),wi tH (kL 8 I3 a8 J3 dZ),wi [10] (vg F3),wi [10] (vg G3),wi [23] (jj 3 (m+2)),wi vk (yu P S C n p4),wi [62,12,63,6,64,65,10,66] (kL 8 I4 bA J4 eu),wi [10] (vg F4),wi [10] (vg G4),wi [23] (jj 4 (m+1)),wi vk (yu P S C n p5),wi [74,12,75,6,76,77,10,78] (kL 8 I5 dq J5 fw),wi [10] (vg F5),wi [10] (vg G5),wi [23] (jj 5 (m+0)),wi vk v8,wi [19,90] (VC aa G5),wi [19,92] (VD aa F5 G5),wi [91,93] (VE aa G5 F5),wi (rg 13 5++ [95,94]) (nq P aa G5 F5 ae),wi [19,99] (VC aa G4),wi [19,101] (VD aa F4 G4),wi [100,102] (VE aa G4 F4),wi (rg 13 5++ [104,103]) (qi aa G4 F4 G5 F5 ae),wi [19,108] (VC aa G3),wi [19,110] (VD aa F3 G3),wi [109,111] (VE aa G3 F3),wi (rg 13 5++ [113,112]) (tI aa G3 F3 G5 F5 G4 F4 ae),wi [19,117] (VC aa G2),wi [19,119] (VD aa F2 G2),wi [118,120] (VE aa G2 F2),wi (rg 13 5++ [122,121]) (uj ((jU aa G2 F2)).length (sV ((((jU aa G5 F5)++(jU aa G4 F4))++(jU aa G3 F3))++(jU aa G2 F2))) (ae+(((((jU aa G5 F5)++(jU aa G4 F4))++(jU aa G3 F3))++(jU aa G2 F2))).length) (fu aa G2 F2 G3 F3 G4 F4 G5 F5)),wi [19,126] (VC aa G1),wi [19,128] (VD aa F1 G1),wi [127,129] (VE aa G1 F1),wi (rg 13 5++ [131,130]) (uj ((jU aa G1 F1)).length (sV (((((jU aa G5 F5)++(jU aa G4 F4))++(jU aa G3 F3))++(jU aa G2 F2))++(jU aa G1 F1))) (ae+((((((jU aa G5 F5)++(jU aa G4 F4))++(jU aa G3 F3))++(jU aa G2 F2))++(jU aa G1 F1))).length) (j9 (jU aa G1 F1) (fu aa G2 F2 G3 F3 G4 F4 G5 F5))),wi [19,134] (Yy aa G1),wi (rg 13 5++ [136,135]) (uj ((jK aa G1)).length (sV ((((((jU aa G5 F5)++(jU aa G4 F4))++(jU aa G3 F3))++(jU aa G2 F2))++(jU aa G1 F1))++(jK aa G1))) (ae+(((((((jU aa G5 F5)++(jU aa G4 F4))++(jU aa G3 F3))++(jU aa G2 F2))++(jU aa G1 F1))++(jK aa G1))).length) (j9 (jK aa G1) (j9 (jU aa G1 F1) (fu aa G2 F2 G3 F3 G4 F4 G5 F5))))],mA 21 0 14 (fun a t=> .ok .next) (fun a t=> [id,id,id,id,id,id,id,id,id,id,id,id,id,fun _=>(uv F P false S.lE S.aP (vn 5 (t 0)) (vi I5 dq) (yQ t 1 2 3 5 7 10) [(rf (t 12)),.none,(vi I5 dq),(vi J5 fw),(vn G1 (t 6)),(vn F1 (t 8)),(vn G1 (t 6)),(rf (t 13)),(j9 (jK aa G1) (j9 (jU aa G1 F1) (fu aa G2 F2 G3 F3 G4 F4 G5 F5)))]),id,id,id,fun _=>(j0 (sV ((((((jU aa G5 F5)++(jU aa G4 F4))++(jU aa G3 F3))++(jU aa G2 F2))++(jU aa G1 F1))++(jK aa G1))) (ae+(((((((jU aa G5 F5)++(jU aa G4 F4))++(jU aa G3 F3))++(jU aa G2 F2))++(jU aa G1 F1))++(jK aa G1))).length)),id,id,id]) (fun a t=> []),[],[146,0,27,29,30,150,32,153,31,154,159,160],[21,130],51,fun q qT qS A K=> [Yw q lR aa eR,Yr q A 22 K aa,q 2 33 (yB A 23) [((A 23),(jz 0 (m+6)))],JP q 3 S ty X0 bz P Es Cs lc,dQ q 4 A 26 S K 16 lc C n p1 Es,vf q 5 S I1 ax Es,vf q 6 S J1 bL Es,q 7 33 (yB A 23) [((A 23),(jz 1 (m+5)))],JP q 8 S ty I1 ax P Es Cs lc,dQ q 9 A 38 S K 44 lc C n p2 Es,vf q 10 S I2 aX Es,vf q 11 S J2 dH Es,q 12 33 (yB A 23) [((A 23),(jz 2 (m+4)))],JP q 13 S ty I2 aX P Es Cs lc,dQ q 14 A 50 S K 72 lc C n p3 Es,vf q 15 S I3 a8 Es,vf q 16 S J3 dZ Es,ia q 17 A 3 m,JP q 18 S ty I3 a8 P Es Cs lc,dQ q 19 A 62 S K 100 lc C n p4 Es,vf q 20 S I4 bA Es,vf q 21 S J4 eu Es,fM q 22 A 4 m,JP q 23 S ty I4 bA P Es Cs lc,dQ q 24 A 74 S K 128 lc C n p5 Es,vf q 25 S I5 dq Es,vf q 26 S J5 fw Es,fO q 27 A 5 m,JP q 28 S ty I5 dq P Es Cs lc,q 29 33 (uA lR A 90) (VA lR aa eR A 90 G5 K 156 144),q 30 33 (uA lR A 92) (VB lR aa eR A 92 F5 K 143 G5 158),dS q 31 A 91 aa G5 F5,q 32 33 (vb A 95 fr Z) [(fr,(uv F P false S.lE S.aP (vn 5 (K 146)) (vi I5 dq) (Yt K 27 150) [rf (A 21),.none,vi I5 dq,vi J5 fw,vi 0 (K 149),vn F5 (K 143),vn G5 (K 144),rf (A 94)])),u5 Z L,(L.aL,L.lex),u6 L P l ai,(L.bw,(j0 [] ae)),yR A 95 94,((A 94),(V9 aa G5 F5))],q 33 33 (uA lR A 99) (VA lR aa eR A 99 G4 K 165 116),q 34 33 (uA lR A 101) (VB lR aa eR A 101 F4 K 115 G4 167),dS q 35 A 100 aa G4 F4,q 36 33 (vb A 104 fr Z) [(fr,(uv F P false S.lE S.aP (vn 5 (K 146)) (vi I5 dq) (yQ K 0 27 29 150 153 159) [rf (A 21),.none,vi I5 dq,vi J5 fw,vn G5 (K 144),vn F4 (K 115),vn G4 (K 116),rf (A 103),j9 (jU aa G5 F5) .none])),u5 Z L,(L.aL,L.lex),u6 L P l ai,nr L aa G5 F5 ae,yR A 104 103,((A 103),(V9 aa G4 F4))],q 37 33 (uA lR A 108) (VA lR aa eR A 108 G3 K 173 88),q 38 33 (uA lR A 110) (VB lR aa eR A 110 F3 K 87 G3 175),dS q 39 A 109 aa G3 F3,q 40 33 (vb A 113 fr Z) [(fr,(uv F P false S.lE S.aP (vn 5 (K 146)) (vi I5 dq) (yQ K 0 27 29 150 153 159) [rf (A 21),.none,vi I5 dq,vi J5 fw,vn G4 (K 116),vn F3 (K 87),vn G3 (K 88),rf (A 112),VY aa G4 F4 G5 F5])),u5 Z L,(L.aL,L.lex),u6 L P l ai,qk L aa G5 F5 G4 F4 ae,yR A 113 112,((A 112),(V9 aa G3 F3))],q 41 33 (uA lR A 117) (VA lR aa eR A 117 G2 K 181 60),q 42 33 (uA lR A 119) (VB lR aa eR A 119 F2 K 59 G2 183),dS q 43 A 118 aa G2 F2,q 44 33 (vb A 122 fr Z) [(fr,(uv F P false S.lE S.aP (vn 5 (K 146)) (vi I5 dq) (yQ K 0 27 29 150 153 159) [rf (A 21),.none,vi I5 dq,vi J5 fw,vn G3 (K 88),vn F2 (K 59),vn G2 (K 60),rf (A 121),j9 (jU aa G3 F3) (VY aa G4 F4 G5 F5)])),u5 Z L,(L.aL,L.lex),u6 L P l ai,(L.bw,(tJ aa G5 F5 G4 F4 G3 F3 ae)),yR A 122 121,((A 121),(V9 aa G2 F2))],q 45 33 (uA lR A 126) (VA lR aa eR A 126 G1 K 189 32),q 46 33 (uA lR A 128) (VB lR aa eR A 128 F1 K 31 G1 191),dS q 47 A 127 aa G1 F1,q 48 33 (vb A 131 fr Z) [(fr,(uv F P false S.lE S.aP (vn 5 (K 146)) (vi I5 dq) (yQ K 0 27 29 150 153 159) [rf (A 21),.none,vi I5 dq,vi J5 fw,vn G2 (K 60),vn F1 (K 31),vn G1 (K 32),rf (A 130),fu aa G2 F2 G3 F3 G4 F4 G5 F5])),u5 Z L,(L.aL,L.lex),u6 L P l ai,(L.bw,(j0 (sV ((((jU aa G5 F5)++(jU aa G4 F4))++(jU aa G3 F3))++(jU aa G2 F2))) (ae+(((((jU aa G5 F5)++(jU aa G4 F4))++(jU aa G3 F3))++(jU aa G2 F2))).length))),yR A 131 130,((A 130),(V9 aa G1 F1))],q 49 34 (uA lR A 134) (Yu lR aa eR A 134 G1 K 32),q 50 34 (Yx A 136 fr Z) [(fr,(uv F P false S.lE S.aP (vn 5 (K 146)) (vi I5 dq) (yQ K 0 27 29 150 153 159) [rf (A 21),.none,vi I5 dq,vi J5 fw,vn G1 (K 32),vn F1 (K 31),vn G1 (K 32),rf (A 130),j9 (jU aa G1 F1) (fu aa G2 F2 G3 F3 G4 F4 G5 F5)])),u5 Z L,(L.aL,L.lex),u6 L P l ai,(L.bw,(j0 (sV (((((jU aa G5 F5)++(jU aa G4 F4))++(jU aa G3 F3))++(jU aa G2 F2))++(jU aa G1 F1))) (ae+((((((jU aa G5 F5)++(jU aa G4 F4))++(jU aa G3 F3))++(jU aa G2 F2))++(jU aa G1 F1))).length))),yR A 136 135,((A 135),(VZ aa G1))]]⟩
theorem Qq:GT P 34 Flow (uq Jz (kD fr Z)) (fun as ts=> .ok .next) (Qp P kv bz X0 ae S n C Es Cs lc ty F Z fr L ai l lR aa eR m p1 I1 ax J1 bL F1 G1 p2 I2 aX J2 dH F2 G2 p3 I3 a8 J3 dZ F3 G3 p4 I4 bA J4 eu F4 G4 p5 I5 dq J5 fw F5 G5) (hk PZ):=vq
end
def eY (P:Params) (F:YE) (B:Bool) (lE aP:Addr) (kI:Nat) (col bg en:Value) (g f:Nat) (wv:Value) (cw:List (Str×Tok)) (ae:Nat):jZ:={ids:=List.range 21,na:=0,nt:=14,res:=fun _ _=> .ok .next,upd:=fun _ ts=> [id,id,id,id,id,id,id,id,id,id,id,id,id,fun _=>uv F P B lE aP (.int ((kI:Nat):Int) (ts.getD 0 0)) col [ts.getD 1 0,ts.getD 2 0,ts.getD 3 0,ts.getD 4 0,ts.getD 5 0,ts.getD 7 0,ts.getD 9 0,ts.getD 10 0,ts.getD 11 0] [.ref (ts.getD 12 0),.none,bg,en,.int ((g:Nat):Int) (ts.getD 6 0),.int ((f:Nat):Int) (ts.getD 8 0),.int ((g:Nat):Int) (ts.getD 6 0),.ref (ts.getD 13 0),wv],id,id,id,fun _=>j0 (sV cw) (ae+cw.length),id,id,id],new:=fun _ _=> []}
def nu (P:Params) (F:YE) (B:Bool) (lE aP af:Addr) (kI:Nat) (col bg en:Value) (g f:Nat) (wv:Value) (cw:List (Str×Tok)) (ae:Nat):jZ:={ids:=List.range 20,na:=1,nt:=24,res:=fun _ _=> .ok .next,upd:=fun as ts=> [id,id,id,id,fun _=>⟨.none,none,.fields (ku af (as.getD 0 0)).toArray,#[]⟩,id,id,id,id,id,id,id,fun _=>uv F P B lE aP (.int ((kI:Nat):Int) (ts.getD 0 0)) col [ts.getD 1 0,ts.getD 2 0,ts.getD 3 0,ts.getD 4 0,ts.getD 5 0,ts.getD 7 0,ts.getD 9 0,ts.getD 10 0,ts.getD 11 0] [.ref (ts.getD 22 0),.none,bg,en,.int ((g:Nat):Int) (ts.getD 6 0),.int ((f:Nat):Int) (ts.getD 8 0),.int ((g:Nat):Int) (ts.getD 6 0),.ref (ts.getD 23 0),wv],id,id,id,fun _=>j0 (sV cw) (ae+cw.length),id,id,id],new:=fun _ ts=> [jD 98 [ts.getD 12 0,ts.getD 13 0,ts.getD 14 0,ts.getD 15 0,ts.getD 16 0,ts.getD 17 0,ts.getD 18 0,ts.getD 19 0,ts.getD 20 0,ts.getD 21 0]]}
theorem YG (row:List (Str×Tok)) (a b:Nat):(k7 row a b).length=min (b-a) (row.length-a):=by
 unfold k7;simp
theorem tK (row:List (Str×Tok)) (a b c d:Nat):(YR row a b c d).length=min (b-a) (row.length-a)+min (d-c) (row.length-c):=by
 unfold YR;rw [List.length_append,YG,YG]
theorem Qr (row:List (Str×Tok)) (a b c d:Nat):(YR row a b c d).length≤row.length+row.length:=by
 rw [tK];exact Nat.add_le_add (jc (Nat.min_le_right _ _) (Nat.sub_le _ _)) (jc (Nat.min_le_right _ _) (Nat.sub_le _ _))
theorem vw {row:List (Str×Tok)} {a b c d:Nat} (h:a<b) (h2:a<row.length):YR row a b c d≠ []:=by
 intro e
 have:=congrArg List.length e
 rw [tK] at this
 simp at this
 lia
theorem u0 {row:List (Str×Tok)} {a b c d:Nat} (h:c<d) (h2:c<row.length):YR row a b c d≠ []:=by
 intro e
 have:=congrArg List.length e
 rw [tK] at this
 simp at this
 lia
theorem kz {a b:Nat} {X Y:List (Str×Tok)} (h1:X.length≤a) (h2:Y.length≤b):(X++Y).length≤a+b:=by
 rw [List.length_append];lia
theorem ji {row:List (Str×Tok)} {a b c d:Nat} (h:row.length≤5):(YR row a b c d).length≤10:=jc (Qr row a b c d) (Nat.add_le_add h h)
theorem vY (w:Nat):(((w+1:Nat):Int)-1)=(((w+1)-1:Nat):Int):=by lia
theorem uE (w:Nat):(((w:Nat):Int)+1)=((w+1:Nat):Int):=rfl
section
variable (W:World) (S:jX) (F:YE) (Z:YC) (fr:Addr) (L:jF) (kv:Value) (bh:Tok) (ae:Nat) (lc:List Tok) (ty lt:Tok) (l:Int) (lR:Addr) (aa:List (Str×Tok)) (eR:Nat)
def ks (P:Params) (B:Bool) (col:Value):List (Addr×Obj):= [(fr,uv F P B S.lE S.aP kv col [] []),(Z.dP,j8 (.ref L.aL)),(L.aL,L.lex),(L.aD,L.bc P l lt),(L.bw,j0 [] ae),(Z.cU,j8 (.ref lR)),(lR,j0 (sV aa) eR),(Z.cT,j8 (.str S.T ty))]
variable (E:Nat→Int) (et:Nat→Tok) (C:Nat→Bool) (n:Nat) (hn:n=4∨n=5) (hE: ∀i j,i<j→j≤n→E i<E j) (h0:E 0=0) (hl:l=F.ln) (a7:aa.length=n)
include hn hE h0 hl a7
theorem Qu (c0:Nat) (hc:c0≤n) (p1 w1:Nat) (a1:ke C c0 p1 w1) (hz:p1=0):jx pw W (jB W.params) (eY W.params F false S.lE S.aP 1 (.int (E p1) (et p1)) (.int (E p1) (et p1)) (.int (E (w1+1)) (et (w1+1))) (w1+1) p1 (j9 (k7 aa (w1+1) aa.length) (j9 (cF aa w1 p1) .none)) ((cF aa w1 p1)++k7 aa (w1+1) aa.length) ae) 34 Jz (kD fr Z) ((S.aV W.params (jL S.af) false (uP E et n) (vl C n)++ [(S.af,jD 100 lc)]++ks S F Z fr L kv ae ty lt l lR aa eR W.params false (.int (E c0) bh)).map some):=by
 have aj:=n5 hn
 have r5:=jc (Nat.le_of_eq a7) aj
 have n1:w1<n:=uC a1.2.1 hc
 have q1:p1≤n:=jc a1.1.1 (jH n1)
 have s1:w1<aa.length:=JC n1 a7.symm
 have bH:p1≤n:=q1
 have ck:c0≤aa.length:=a7.symm▸hc
 obtain ⟨m,hm⟩:=Nat.exists_eq_add_of_le' (jc (yL (Nat.zero_le w1) a1.2.1) hc)
 have bo: ∃k,k<n∧C k=true:=⟨w1,n1,a1.1.2.1⟩
 have h:=yh (w:=W) (P1 W.params kv bh (E c0) ae S n C (uP E et n) (vl C n) lc ty F Z fr L lt l lR aa eR m p1 (E p1) (et p1) (E (w1+1)) (et (w1+1)) p1 (w1+1)) (by
  intro A K
  walk_at "ob"
  ·exact jG (by rw [jW];exact jc r5 (by decide)) (jW _)
  ·exact ye (m:=m+(1+1)) (congrArg (fun x=>x+1) (a7.trans hm)) (jc (Nat.succ_le_succ (hm▸aj)) (by decide))
  ·exact je 0 (m+1)
  ·exact fun _ hz=>vK W S E et C n hn hE h0 lc ty _ c0 p1 w1 hc a1 _ rfl _ (dl hz)
  ·exact fun _ hz=>u3 W S E et C n a1.1 n1 aj _ (dl hz)
  ·exact jm E et n aj hE p1 q1 _ rfl
  ·exact jm E et n aj hE (w1+1) n1 _ rfl
  ·exact je 1 (m+0)
  ·exact tT (VW W S E et C n hn hE h0 lc ty _ bo _ (by rw [hz];exact h0))
  ·exact jl ((w1+1)-1) (w1+1) (vY _) rfl (jc r5 (by decide)) (jH s1) s1
  ·exact jl p1 ((w1+1)-1) rfl (vY _) (jc r5 (by decide)) (jc a1.1.1 (jH s1)) (jH s1)
  ·exact kf _ _ _ _ (jc r5 (by decide))
  ·exact fun _ hz=>yj W F Z fr _ _ L _ _ _ _ _ _ _ _ _ _ _ _ _ _ _ _ _ _ _ _ _ _ _ _ _ (jc (ji r5) (by decide)) ae hl (vw (Nat.lt_succ_self _) s1) _ (dl hz)
  ·exact vj (w1+1) rfl (jc r5 (by decide)) s1
  ·exact fun _ hz=>yi W F Z fr _ _ L _ _ _ _ _ _ _ _ _ _ _ _ _ _ _ _ _ _ _ _ _ _ _ _ _ (jc (u7 _ _ _) (jc r5 (by decide))) ae (cF aa w1 p1) (jc (ji r5) (by decide)) _ _ _ (dl hz)
  ) (fun _ _=>rfl)
 exact h.cS fun _ _=>rfl
theorem Qv (bb: ∀k,E k=(k:Int)) (c0:Nat) (hc:c0≤n) (cq:c0≤4) (p1 w1:Nat) (a1:ke C c0 p1 w1) (hz:w1=0):jx pw W (jB W.params) (eY W.params F true S.lE S.aP 1 (.int (E w1) (et w1)) (.int (E w1) (et w1)) (.int (E c0) bh) c0 w1 (j9 (k7 aa c0 aa.length) (j9 (cT aa w1 c0) .none)) ((cT aa w1 c0)++k7 aa c0 aa.length) ae) 34 Jz (kD fr Z) ((S.aV W.params (ku S.af S.aA) true (uP E et n) (vl C n)++ [(S.aA,jD 98 lc)]++ks S F Z fr L kv ae ty lt l lR aa eR W.params true (.int (E c0) bh)).map some):=by
 have aj:=n5 hn
 have r5:=jc (Nat.le_of_eq a7) aj
 have n1:w1<n:=uC a1.2.1 hc
 have q1:p1≤n:=jc a1.1.1 (jH n1)
 have s1:w1<aa.length:=JC n1 a7.symm
 have bH:w1≤n:=jH n1
 have f1:w1≤4:=jc (jH a1.2.1) cq
 have ck:c0≤aa.length:=a7.symm▸hc
 obtain ⟨m,hm⟩:=Nat.exists_eq_add_of_le' (jc (yL (Nat.zero_le w1) a1.2.1) hc)
 have bo: ∃k,k<n∧C k=true:=⟨w1,n1,a1.1.2.1⟩
 have h:=yh (w:=W) (P4 W.params kv bh (E c0) ae S n C (uP E et n) (vl C n) lc ty F Z fr L lt l lR aa eR m p1 (E w1) (et w1) w1 c0) (by
  intro A K
  walk_at "ob"
  ·exact jG (by rw [jW];exact jc r5 (by decide)) (jW _)
  ·exact ye (m:=m+(1+1)) (congrArg (fun x=>x+1) (a7.trans hm)) (jc (Nat.succ_le_succ (hm▸aj)) (by decide))
  ·exact je 0 (m+1)
  ·exact fun _ hz=>vr W S E et C n hn hE h0 bb lc ty _ c0 p1 w1 hc cq a1 _ rfl _ (dl hz)
  ·exact fun _ hz=>kJ W S E et C n a1.1 n1 aj _ (dl hz)
  ·exact jm E et n aj hE w1 bH _ rfl
  ·exact jm E et n aj hE c0 hc _ rfl
  ·exact je 1 (m+0)
  ·exact tT (Jo W S E et C n hn hE h0 bb lc ty _ bo _ (by rw [hz];exact h0))
  ·exact jl (w1+1) c0 (uE _) rfl (jc r5 (by decide)) s1 ck
  ·exact jl w1 (w1+1) rfl (uE _) (jc r5 (by decide)) (jH s1) s1
  ·exact kf _ _ _ _ (jc r5 (by decide))
  ·exact fun _ hz=>yj W F Z fr _ _ L _ _ _ _ _ _ _ _ _ _ _ _ _ _ _ _ _ _ _ _ _ _ _ _ _ (jc (ji r5) (by decide)) ae hl (u0 (Nat.lt_succ_self _) s1) _ (dl hz)
  ·exact vj c0 rfl (jc r5 (by decide)) ck
  ·exact fun _ hz=>yi W F Z fr _ _ L _ _ _ _ _ _ _ _ _ _ _ _ _ _ _ _ _ _ _ _ _ _ _ _ _ (jc (u7 _ _ _) (jc r5 (by decide))) ae (cT aa w1 c0) (jc (ji r5) (by decide)) _ _ _ (dl hz)
  ) (fun _ _=>rfl)
 exact h.cS fun _ _=>rfl
theorem Qw (bb: ∀k,E k=(k:Int)) (c0:Nat) (hc:c0≤n) (cq:c0≤4) (p1 w1:Nat) (a1:ke C c0 p1 w1) (hz:w1=0):jx pw W (jB W.params) (nu W.params F true S.lE S.aP S.af 1 (.int (E w1) (et w1)) (.int (E w1) (et w1)) (.int (E c0) bh) c0 w1 (j9 (k7 aa c0 aa.length) (j9 (cT aa w1 c0) .none)) ((cT aa w1 c0)++k7 aa c0 aa.length) ae) 34 Jz (kD fr Z) ((S.aV W.params (jL S.af) true (uP E et n) (vl C n)++ks S F Z fr L kv ae ty lt l lR aa eR W.params true (.int (E c0) bh)).map some):=by
 have aj:=n5 hn
 have r5:=jc (Nat.le_of_eq a7) aj
 have n1:w1<n:=uC a1.2.1 hc
 have q1:p1≤n:=jc a1.1.1 (jH n1)
 have s1:w1<aa.length:=JC n1 a7.symm
 have bH:w1≤n:=jH n1
 have f1:w1≤4:=jc (jH a1.2.1) cq
 have ck:c0≤aa.length:=a7.symm▸hc
 obtain ⟨m,hm⟩:=Nat.exists_eq_add_of_le' (jc (yL (Nat.zero_le w1) a1.2.1) hc)
 have bo: ∃k,k<n∧C k=true:=⟨w1,n1,a1.1.2.1⟩
 have h:=yh (w:=W) (P6 W.params kv bh (E c0) ae S n C (uP E et n) (vl C n) ty F Z fr L lt l lR aa eR m p1 (E w1) (et w1) w1 c0) (by
  intro A K
  walk_at "ob"
  ·exact jG (by rw [jW];exact jc r5 (by decide)) (jW _)
  ·exact ye (m:=m+(1+1)) (congrArg (fun x=>x+1) (a7.trans hm)) (jc (Nat.succ_le_succ (hm▸aj)) (by decide))
  ·exact je 0 (m+1)
  ·exact fun _ hz=>qb W S E et C n hn hE h0 bb ty _ c0 p1 w1 hc cq a1 _ rfl _ (dl hz)
  ·exact fun _ hz=>kJ W S E et C n a1.1 n1 aj _ (dl hz)
  ·exact jm E et n aj hE w1 bH _ rfl
  ·exact jm E et n aj hE c0 hc _ rfl
  ·exact je 1 (m+0)
  ·exact tT (Jo W {S with aA:=A 24} E et C n hn hE h0 bb _ ty _ bo _ (by rw [hz];exact h0))
  ·exact jl (w1+1) c0 (uE _) rfl (jc r5 (by decide)) s1 ck
  ·exact jl w1 (w1+1) rfl (uE _) (jc r5 (by decide)) (jH s1) s1
  ·exact kf _ _ _ _ (jc r5 (by decide))
  ·exact fun _ hz=>yj W F Z fr _ _ L _ _ _ _ _ _ _ _ _ _ _ _ _ _ _ _ _ _ _ _ _ _ _ _ _ (jc (ji r5) (by decide)) ae hl (u0 (Nat.lt_succ_self _) s1) _ (dl hz)
  ·exact vj c0 rfl (jc r5 (by decide)) ck
  ·exact fun _ hz=>yi W F Z fr _ _ L _ _ _ _ _ _ _ _ _ _ _ _ _ _ _ _ _ _ _ _ _ _ _ _ _ (jc (u7 _ _ _) (jc r5 (by decide))) ae (cT aa w1 c0) (jc (ji r5) (by decide)) _ _ _ (dl hz)
  ) (fun _ _=>rfl)
 exact h.cS fun _ _=>rfl
theorem Qx (c0:Nat) (hc:c0≤n) (p1 w1:Nat) (a1:ke C c0 p1 w1) (p2 w2:Nat) (a2:ke C p1 p2 w2) (hz:p2=0):jx pw W (jB W.params) (eY W.params F false S.lE S.aP 2 (.int (E p2) (et p2)) (.int (E p2) (et p2)) (.int (E (w2+1)) (et (w2+1))) (w1+1) p1 (j9 (k7 aa (w1+1) aa.length) (j9 (cF aa w1 p1) (j9 (cF aa w2 p2) .none))) (((cF aa w2 p2)++(cF aa w1 p1))++k7 aa (w1+1) aa.length) ae) 34 Jz (kD fr Z) ((S.aV W.params (jL S.af) false (uP E et n) (vl C n)++ [(S.af,jD 100 lc)]++ks S F Z fr L kv ae ty lt l lR aa eR W.params false (.int (E c0) bh)).map some):=by
 have aj:=n5 hn
 have r5:=jc (Nat.le_of_eq a7) aj
 have n1:w1<n:=uC a1.2.1 hc
 have q1:p1≤n:=jc a1.1.1 (jH n1)
 have s1:w1<aa.length:=JC n1 a7.symm
 have bH:p1≤n:=q1
 have n2:w2<n:=uC a2.2.1 bH
 have q2:p2≤n:=jc a2.1.1 (jH n2)
 have s2:w2<aa.length:=JC n2 a7.symm
 have bY:p2≤n:=q2
 have ck:c0≤aa.length:=a7.symm▸hc
 obtain ⟨m,hm⟩:=Nat.exists_eq_add_of_le' (jc (yL (jc (yL (Nat.zero_le w2) a2.2.1) a1.1.1) a1.2.1) hc)
 have bo: ∃k,k<n∧C k=true:=⟨w1,n1,a1.1.2.1⟩
 have h:=yh (w:=W) (P8 W.params kv bh (E c0) ae S n C (uP E et n) (vl C n) lc ty F Z fr L lt l lR aa eR m p1 (E p1) (et p1) (E (w1+1)) (et (w1+1)) p1 (w1+1) p2 (E p2) (et p2) (E (w2+1)) (et (w2+1)) p2 (w2+1)) (by
  intro A K
  walk_at "ob"
  ·exact jG (by rw [jW];exact jc r5 (by decide)) (jW _)
  ·exact ye (m:=m+(2+1)) (congrArg (fun x=>x+1) (a7.trans hm)) (jc (Nat.succ_le_succ (hm▸aj)) (by decide))
  ·exact je 0 (m+2)
  ·exact fun _ hz=>vK W S E et C n hn hE h0 lc ty _ c0 p1 w1 hc a1 _ rfl _ (dl hz)
  ·exact fun _ hz=>u3 W S E et C n a1.1 n1 aj _ (dl hz)
  ·exact jm E et n aj hE p1 q1 _ rfl
  ·exact jm E et n aj hE (w1+1) n1 _ rfl
  ·exact je 1 (m+1)
  ·exact fun _ hz=>vK W S E et C n hn hE h0 lc ty _ p1 p2 w2 bH a2 _ rfl _ (dl hz)
  ·exact fun _ hz=>u3 W S E et C n a2.1 n2 aj _ (dl hz)
  ·exact jm E et n aj hE p2 q2 _ rfl
  ·exact jm E et n aj hE (w2+1) n2 _ rfl
  ·exact je 2 (m+0)
  ·exact tT (VW W S E et C n hn hE h0 lc ty _ bo _ (by rw [hz];exact h0))
  ·exact jl ((w2+1)-1) (w2+1) (vY _) rfl (jc r5 (by decide)) (jH s2) s2
  ·exact jl p2 ((w2+1)-1) rfl (vY _) (jc r5 (by decide)) (jc a2.1.1 (jH s2)) (jH s2)
  ·exact kf _ _ _ _ (jc r5 (by decide))
  ·exact fun _ hz=>yj W F Z fr _ _ L _ _ _ _ _ _ _ _ _ _ _ _ _ _ _ _ _ _ _ _ _ _ _ _ _ (jc (ji r5) (by decide)) ae hl (vw (Nat.lt_succ_self _) s2) _ (dl hz)
  ·exact jl ((w1+1)-1) (w1+1) (vY _) rfl (jc r5 (by decide)) (jH s1) s1
  ·exact jl p1 ((w1+1)-1) rfl (vY _) (jc r5 (by decide)) (jc a1.1.1 (jH s1)) (jH s1)
  ·exact kf _ _ _ _ (jc r5 (by decide))
  ·exact fun _ hz=>uh W F Z fr _ _ L _ _ _ _ _ _ _ _ _ _ _ _ _ _ _ _ _ _ _ _ _ _ _ _ _ (jc (ji r5) (by decide)) ae hl (cF aa w2 p2) (jc (ji r5) (by decide)) _ _ _ (dl hz)
  ·exact vj (w1+1) rfl (jc r5 (by decide)) s1
  ·exact fun _ hz=>yi W F Z fr _ _ L _ _ _ _ _ _ _ _ _ _ _ _ _ _ _ _ _ _ _ _ _ _ _ _ _ (jc (u7 _ _ _) (jc r5 (by decide))) ae ((cF aa w2 p2)++(cF aa w1 p1)) (jc (kz (ji r5) (ji r5)) (by decide)) _ _ _ (dl hz)
  ) (fun _ _=>rfl)
 exact h.cS fun _ _=>rfl
theorem Qy (bb: ∀k,E k=(k:Int)) (c0:Nat) (hc:c0≤n) (cq:c0≤4) (p1 w1:Nat) (a1:ke C c0 p1 w1) (p2 w2:Nat) (a2:ke C w1 p2 w2) (hz:w2=0):jx pw W (jB W.params) (eY W.params F true S.lE S.aP 2 (.int (E w2) (et w2)) (.int (E w2) (et w2)) (.int (E w1) (et w1)) c0 w1 (j9 (k7 aa c0 aa.length) (j9 (cT aa w1 c0) (j9 (cT aa w2 w1) .none))) (((cT aa w2 w1)++(cT aa w1 c0))++k7 aa c0 aa.length) ae) 34 Jz (kD fr Z) ((S.aV W.params (ku S.af S.aA) true (uP E et n) (vl C n)++ [(S.aA,jD 98 lc)]++ks S F Z fr L kv ae ty lt l lR aa eR W.params true (.int (E c0) bh)).map some):=by
 have aj:=n5 hn
 have r5:=jc (Nat.le_of_eq a7) aj
 have n1:w1<n:=uC a1.2.1 hc
 have q1:p1≤n:=jc a1.1.1 (jH n1)
 have s1:w1<aa.length:=JC n1 a7.symm
 have bH:w1≤n:=jH n1
 have f1:w1≤4:=jc (jH a1.2.1) cq
 have n2:w2<n:=uC a2.2.1 bH
 have q2:p2≤n:=jc a2.1.1 (jH n2)
 have s2:w2<aa.length:=JC n2 a7.symm
 have bY:w2≤n:=jH n2
 have f2:w2≤4:=jc (jH a2.2.1) f1
 have ck:c0≤aa.length:=a7.symm▸hc
 obtain ⟨m,hm⟩:=Nat.exists_eq_add_of_le' (jc (yL (yL (Nat.zero_le w2) a2.2.1) a1.2.1) hc)
 have bo: ∃k,k<n∧C k=true:=⟨w1,n1,a1.1.2.1⟩
 have h:=yh (w:=W) (P' W.params kv bh (E c0) ae S n C (uP E et n) (vl C n) lc ty F Z fr L lt l lR aa eR m p1 (E w1) (et w1) w1 c0 p2 (E w2) (et w2) w2 w1) (by
  intro A K
  walk_at "ob"
  ·exact jG (by rw [jW];exact jc r5 (by decide)) (jW _)
  ·exact ye (m:=m+(2+1)) (congrArg (fun x=>x+1) (a7.trans hm)) (jc (Nat.succ_le_succ (hm▸aj)) (by decide))
  ·exact je 0 (m+2)
  ·exact fun _ hz=>vr W S E et C n hn hE h0 bb lc ty _ c0 p1 w1 hc cq a1 _ rfl _ (dl hz)
  ·exact fun _ hz=>kJ W S E et C n a1.1 n1 aj _ (dl hz)
  ·exact jm E et n aj hE w1 bH _ rfl
  ·exact jm E et n aj hE c0 hc _ rfl
  ·exact je 1 (m+1)
  ·exact fun _ hz=>vr W S E et C n hn hE h0 bb lc ty _ w1 p2 w2 bH f1 a2 _ rfl _ (dl hz)
  ·exact fun _ hz=>kJ W S E et C n a2.1 n2 aj _ (dl hz)
  ·exact jm E et n aj hE w2 bY _ rfl
  ·exact jm E et n aj hE w1 bH _ rfl
  ·exact je 2 (m+0)
  ·exact tT (Jo W S E et C n hn hE h0 bb lc ty _ bo _ (by rw [hz];exact h0))
  ·exact jl (w2+1) w1 (uE _) rfl (jc r5 (by decide)) s2 (jH s1)
  ·exact jl w2 (w2+1) rfl (uE _) (jc r5 (by decide)) (jH s2) s2
  ·exact kf _ _ _ _ (jc r5 (by decide))
  ·exact fun _ hz=>yj W F Z fr _ _ L _ _ _ _ _ _ _ _ _ _ _ _ _ _ _ _ _ _ _ _ _ _ _ _ _ (jc (ji r5) (by decide)) ae hl (u0 (Nat.lt_succ_self _) s2) _ (dl hz)
  ·exact jl (w1+1) c0 (uE _) rfl (jc r5 (by decide)) s1 ck
  ·exact jl w1 (w1+1) rfl (uE _) (jc r5 (by decide)) (jH s1) s1
  ·exact kf _ _ _ _ (jc r5 (by decide))
  ·exact fun _ hz=>uh W F Z fr _ _ L _ _ _ _ _ _ _ _ _ _ _ _ _ _ _ _ _ _ _ _ _ _ _ _ _ (jc (ji r5) (by decide)) ae hl (cT aa w2 w1) (jc (ji r5) (by decide)) _ _ _ (dl hz)
  ·exact vj c0 rfl (jc r5 (by decide)) ck
  ·exact fun _ hz=>yi W F Z fr _ _ L _ _ _ _ _ _ _ _ _ _ _ _ _ _ _ _ _ _ _ _ _ _ _ _ _ (jc (u7 _ _ _) (jc r5 (by decide))) ae ((cT aa w2 w1)++(cT aa w1 c0)) (jc (kz (ji r5) (ji r5)) (by decide)) _ _ _ (dl hz)
  ) (fun _ _=>rfl)
 exact h.cS fun _ _=>rfl
theorem Qz (bb: ∀k,E k=(k:Int)) (c0:Nat) (hc:c0≤n) (cq:c0≤4) (p1 w1:Nat) (a1:ke C c0 p1 w1) (p2 w2:Nat) (a2:ke C w1 p2 w2) (hz:w2=0):jx pw W (jB W.params) (nu W.params F true S.lE S.aP S.af 2 (.int (E w2) (et w2)) (.int (E w2) (et w2)) (.int (E w1) (et w1)) c0 w1 (j9 (k7 aa c0 aa.length) (j9 (cT aa w1 c0) (j9 (cT aa w2 w1) .none))) (((cT aa w2 w1)++(cT aa w1 c0))++k7 aa c0 aa.length) ae) 34 Jz (kD fr Z) ((S.aV W.params (jL S.af) true (uP E et n) (vl C n)++ks S F Z fr L kv ae ty lt l lR aa eR W.params true (.int (E c0) bh)).map some):=by
 have aj:=n5 hn
 have r5:=jc (Nat.le_of_eq a7) aj
 have n1:w1<n:=uC a1.2.1 hc
 have q1:p1≤n:=jc a1.1.1 (jH n1)
 have s1:w1<aa.length:=JC n1 a7.symm
 have bH:w1≤n:=jH n1
 have f1:w1≤4:=jc (jH a1.2.1) cq
 have n2:w2<n:=uC a2.2.1 bH
 have q2:p2≤n:=jc a2.1.1 (jH n2)
 have s2:w2<aa.length:=JC n2 a7.symm
 have bY:w2≤n:=jH n2
 have f2:w2≤4:=jc (jH a2.2.1) f1
 have ck:c0≤aa.length:=a7.symm▸hc
 obtain ⟨m,hm⟩:=Nat.exists_eq_add_of_le' (jc (yL (yL (Nat.zero_le w2) a2.2.1) a1.2.1) hc)
 have bo: ∃k,k<n∧C k=true:=⟨w1,n1,a1.1.2.1⟩
 have h:=yh (w:=W) (Qc W.params kv bh (E c0) ae S n C (uP E et n) (vl C n) ty F Z fr L lt l lR aa eR m p1 (E w1) (et w1) w1 c0 p2 (E w2) (et w2) w2 w1) (by
  intro A K
  walk_at "ob"
  ·exact jG (by rw [jW];exact jc r5 (by decide)) (jW _)
  ·exact ye (m:=m+(2+1)) (congrArg (fun x=>x+1) (a7.trans hm)) (jc (Nat.succ_le_succ (hm▸aj)) (by decide))
  ·exact je 0 (m+2)
  ·exact fun _ hz=>qb W S E et C n hn hE h0 bb ty _ c0 p1 w1 hc cq a1 _ rfl _ (dl hz)
  ·exact fun _ hz=>kJ W S E et C n a1.1 n1 aj _ (dl hz)
  ·exact jm E et n aj hE w1 bH _ rfl
  ·exact jm E et n aj hE c0 hc _ rfl
  ·exact je 1 (m+1)
  ·exact fun _ hz=>vr W {S with aA:=A 24} E et C n hn hE h0 bb _ ty _ w1 p2 w2 bH f1 a2 _ rfl _ (dl hz)
  ·exact fun _ hz=>kJ W S E et C n a2.1 n2 aj _ (dl hz)
  ·exact jm E et n aj hE w2 bY _ rfl
  ·exact jm E et n aj hE w1 bH _ rfl
  ·exact je 2 (m+0)
  ·exact tT (Jo W {S with aA:=A 24} E et C n hn hE h0 bb _ ty _ bo _ (by rw [hz];exact h0))
  ·exact jl (w2+1) w1 (uE _) rfl (jc r5 (by decide)) s2 (jH s1)
  ·exact jl w2 (w2+1) rfl (uE _) (jc r5 (by decide)) (jH s2) s2
  ·exact kf _ _ _ _ (jc r5 (by decide))
  ·exact fun _ hz=>yj W F Z fr _ _ L _ _ _ _ _ _ _ _ _ _ _ _ _ _ _ _ _ _ _ _ _ _ _ _ _ (jc (ji r5) (by decide)) ae hl (u0 (Nat.lt_succ_self _) s2) _ (dl hz)
  ·exact jl (w1+1) c0 (uE _) rfl (jc r5 (by decide)) s1 ck
  ·exact jl w1 (w1+1) rfl (uE _) (jc r5 (by decide)) (jH s1) s1
  ·exact kf _ _ _ _ (jc r5 (by decide))
  ·exact fun _ hz=>uh W F Z fr _ _ L _ _ _ _ _ _ _ _ _ _ _ _ _ _ _ _ _ _ _ _ _ _ _ _ _ (jc (ji r5) (by decide)) ae hl (cT aa w2 w1) (jc (ji r5) (by decide)) _ _ _ (dl hz)
  ·exact vj c0 rfl (jc r5 (by decide)) ck
  ·exact fun _ hz=>yi W F Z fr _ _ L _ _ _ _ _ _ _ _ _ _ _ _ _ _ _ _ _ _ _ _ _ _ _ _ _ (jc (u7 _ _ _) (jc r5 (by decide))) ae ((cT aa w2 w1)++(cT aa w1 c0)) (jc (kz (ji r5) (ji r5)) (by decide)) _ _ _ (dl hz)
  ) (fun _ _=>rfl)
 exact h.cS fun _ _=>rfl
theorem QA (c0:Nat) (hc:c0≤n) (p1 w1:Nat) (a1:ke C c0 p1 w1) (p2 w2:Nat) (a2:ke C p1 p2 w2) (p3 w3:Nat) (a3:ke C p2 p3 w3) (hz:p3=0):jx pw W (jB W.params) (eY W.params F false S.lE S.aP 3 (.int (E p3) (et p3)) (.int (E p3) (et p3)) (.int (E (w3+1)) (et (w3+1))) (w1+1) p1 (j9 (k7 aa (w1+1) aa.length) (j9 (cF aa w1 p1) (j9 (cF aa w2 p2) (j9 (cF aa w3 p3) .none)))) ((((cF aa w3 p3)++(cF aa w2 p2))++(cF aa w1 p1))++k7 aa (w1+1) aa.length) ae) 34 Jz (kD fr Z) ((S.aV W.params (jL S.af) false (uP E et n) (vl C n)++ [(S.af,jD 100 lc)]++ks S F Z fr L kv ae ty lt l lR aa eR W.params false (.int (E c0) bh)).map some):=by
 have aj:=n5 hn
 have r5:=jc (Nat.le_of_eq a7) aj
 have n1:w1<n:=uC a1.2.1 hc
 have q1:p1≤n:=jc a1.1.1 (jH n1)
 have s1:w1<aa.length:=JC n1 a7.symm
 have bH:p1≤n:=q1
 have n2:w2<n:=uC a2.2.1 bH
 have q2:p2≤n:=jc a2.1.1 (jH n2)
 have s2:w2<aa.length:=JC n2 a7.symm
 have bY:p2≤n:=q2
 have n3:w3<n:=uC a3.2.1 bY
 have q3:p3≤n:=jc a3.1.1 (jH n3)
 have s3:w3<aa.length:=JC n3 a7.symm
 have df:p3≤n:=q3
 have ck:c0≤aa.length:=a7.symm▸hc
 obtain ⟨m,hm⟩:=Nat.exists_eq_add_of_le' (jc (yL (jc (yL (jc (yL (Nat.zero_le w3) a3.2.1) a2.1.1) a2.2.1) a1.1.1) a1.2.1) hc)
 have bo: ∃k,k<n∧C k=true:=⟨w1,n1,a1.1.2.1⟩
 have h:=yh (w:=W) (Qe W.params kv bh (E c0) ae S n C (uP E et n) (vl C n) lc ty F Z fr L lt l lR aa eR m p1 (E p1) (et p1) (E (w1+1)) (et (w1+1)) p1 (w1+1) p2 (E p2) (et p2) (E (w2+1)) (et (w2+1)) p2 (w2+1) p3 (E p3) (et p3) (E (w3+1)) (et (w3+1)) p3 (w3+1)) (by
  intro A K
  walk_at "ob"
  ·exact jG (by rw [jW];exact jc r5 (by decide)) (jW _)
  ·exact ye (m:=m+(3+1)) (congrArg (fun x=>x+1) (a7.trans hm)) (jc (Nat.succ_le_succ (hm▸aj)) (by decide))
  ·exact je 0 (m+3)
  ·exact fun _ hz=>vK W S E et C n hn hE h0 lc ty _ c0 p1 w1 hc a1 _ rfl _ (dl hz)
  ·exact fun _ hz=>u3 W S E et C n a1.1 n1 aj _ (dl hz)
  ·exact jm E et n aj hE p1 q1 _ rfl
  ·exact jm E et n aj hE (w1+1) n1 _ rfl
  ·exact je 1 (m+2)
  ·exact fun _ hz=>vK W S E et C n hn hE h0 lc ty _ p1 p2 w2 bH a2 _ rfl _ (dl hz)
  ·exact fun _ hz=>u3 W S E et C n a2.1 n2 aj _ (dl hz)
  ·exact jm E et n aj hE p2 q2 _ rfl
  ·exact jm E et n aj hE (w2+1) n2 _ rfl
  ·exact je 2 (m+1)
  ·exact fun _ hz=>vK W S E et C n hn hE h0 lc ty _ p2 p3 w3 bY a3 _ rfl _ (dl hz)
  ·exact fun _ hz=>u3 W S E et C n a3.1 n3 aj _ (dl hz)
  ·exact jm E et n aj hE p3 q3 _ rfl
  ·exact jm E et n aj hE (w3+1) n3 _ rfl
  ·exact je 3 (m+0)
  ·exact tT (VW W S E et C n hn hE h0 lc ty _ bo _ (by rw [hz];exact h0))
  ·exact jl ((w3+1)-1) (w3+1) (vY _) rfl (jc r5 (by decide)) (jH s3) s3
  ·exact jl p3 ((w3+1)-1) rfl (vY _) (jc r5 (by decide)) (jc a3.1.1 (jH s3)) (jH s3)
  ·exact kf _ _ _ _ (jc r5 (by decide))
  ·exact fun _ hz=>yj W F Z fr _ _ L _ _ _ _ _ _ _ _ _ _ _ _ _ _ _ _ _ _ _ _ _ _ _ _ _ (jc (ji r5) (by decide)) ae hl (vw (Nat.lt_succ_self _) s3) _ (dl hz)
  ·exact jl ((w2+1)-1) (w2+1) (vY _) rfl (jc r5 (by decide)) (jH s2) s2
  ·exact jl p2 ((w2+1)-1) rfl (vY _) (jc r5 (by decide)) (jc a2.1.1 (jH s2)) (jH s2)
  ·exact kf _ _ _ _ (jc r5 (by decide))
  ·exact fun _ hz=>uh W F Z fr _ _ L _ _ _ _ _ _ _ _ _ _ _ _ _ _ _ _ _ _ _ _ _ _ _ _ _ (jc (ji r5) (by decide)) ae hl (cF aa w3 p3) (jc (ji r5) (by decide)) _ _ _ (dl hz)
  ·exact jl ((w1+1)-1) (w1+1) (vY _) rfl (jc r5 (by decide)) (jH s1) s1
  ·exact jl p1 ((w1+1)-1) rfl (vY _) (jc r5 (by decide)) (jc a1.1.1 (jH s1)) (jH s1)
  ·exact kf _ _ _ _ (jc r5 (by decide))
  ·exact fun _ hz=>uh W F Z fr _ _ L _ _ _ _ _ _ _ _ _ _ _ _ _ _ _ _ _ _ _ _ _ _ _ _ _ (jc (ji r5) (by decide)) ae hl ((cF aa w3 p3)++(cF aa w2 p2)) (jc (kz (ji r5) (ji r5)) (by decide)) _ _ _ (dl hz)
  ·exact vj (w1+1) rfl (jc r5 (by decide)) s1
  ·exact fun _ hz=>yi W F Z fr _ _ L _ _ _ _ _ _ _ _ _ _ _ _ _ _ _ _ _ _ _ _ _ _ _ _ _ (jc (u7 _ _ _) (jc r5 (by decide))) ae (((cF aa w3 p3)++(cF aa w2 p2))++(cF aa w1 p1)) (jc (kz (kz (ji r5) (ji r5)) (ji r5)) (by decide)) _ _ _ (dl hz)
  ) (fun _ _=>rfl)
 exact h.cS fun _ _=>rfl
theorem QB (bb: ∀k,E k=(k:Int)) (c0:Nat) (hc:c0≤n) (cq:c0≤4) (p1 w1:Nat) (a1:ke C c0 p1 w1) (p2 w2:Nat) (a2:ke C w1 p2 w2) (p3 w3:Nat) (a3:ke C w2 p3 w3) (hz:w3=0):jx pw W (jB W.params) (eY W.params F true S.lE S.aP 3 (.int (E w3) (et w3)) (.int (E w3) (et w3)) (.int (E w2) (et w2)) c0 w1 (j9 (k7 aa c0 aa.length) (j9 (cT aa w1 c0) (j9 (cT aa w2 w1) (j9 (cT aa w3 w2) .none)))) ((((cT aa w3 w2)++(cT aa w2 w1))++(cT aa w1 c0))++k7 aa c0 aa.length) ae) 34 Jz (kD fr Z) ((S.aV W.params (ku S.af S.aA) true (uP E et n) (vl C n)++ [(S.aA,jD 98 lc)]++ks S F Z fr L kv ae ty lt l lR aa eR W.params true (.int (E c0) bh)).map some):=by
 have aj:=n5 hn
 have r5:=jc (Nat.le_of_eq a7) aj
 have n1:w1<n:=uC a1.2.1 hc
 have q1:p1≤n:=jc a1.1.1 (jH n1)
 have s1:w1<aa.length:=JC n1 a7.symm
 have bH:w1≤n:=jH n1
 have f1:w1≤4:=jc (jH a1.2.1) cq
 have n2:w2<n:=uC a2.2.1 bH
 have q2:p2≤n:=jc a2.1.1 (jH n2)
 have s2:w2<aa.length:=JC n2 a7.symm
 have bY:w2≤n:=jH n2
 have f2:w2≤4:=jc (jH a2.2.1) f1
 have n3:w3<n:=uC a3.2.1 bY
 have q3:p3≤n:=jc a3.1.1 (jH n3)
 have s3:w3<aa.length:=JC n3 a7.symm
 have df:w3≤n:=jH n3
 have f3:w3≤4:=jc (jH a3.2.1) f2
 have ck:c0≤aa.length:=a7.symm▸hc
 obtain ⟨m,hm⟩:=Nat.exists_eq_add_of_le' (jc (yL (yL (yL (Nat.zero_le w3) a3.2.1) a2.2.1) a1.2.1) hc)
 have bo: ∃k,k<n∧C k=true:=⟨w1,n1,a1.1.2.1⟩
 have h:=yh (w:=W) (Qg W.params kv bh (E c0) ae S n C (uP E et n) (vl C n) lc ty F Z fr L lt l lR aa eR m p1 (E w1) (et w1) w1 c0 p2 (E w2) (et w2) w2 w1 p3 (E w3) (et w3) w3 w2) (by
  intro A K
  walk_at "ob"
  ·exact jG (by rw [jW];exact jc r5 (by decide)) (jW _)
  ·exact ye (m:=m+(3+1)) (congrArg (fun x=>x+1) (a7.trans hm)) (jc (Nat.succ_le_succ (hm▸aj)) (by decide))
  ·exact je 0 (m+3)
  ·exact fun _ hz=>vr W S E et C n hn hE h0 bb lc ty _ c0 p1 w1 hc cq a1 _ rfl _ (dl hz)
  ·exact fun _ hz=>kJ W S E et C n a1.1 n1 aj _ (dl hz)
  ·exact jm E et n aj hE w1 bH _ rfl
  ·exact jm E et n aj hE c0 hc _ rfl
  ·exact je 1 (m+2)
  ·exact fun _ hz=>vr W S E et C n hn hE h0 bb lc ty _ w1 p2 w2 bH f1 a2 _ rfl _ (dl hz)
  ·exact fun _ hz=>kJ W S E et C n a2.1 n2 aj _ (dl hz)
  ·exact jm E et n aj hE w2 bY _ rfl
  ·exact jm E et n aj hE w1 bH _ rfl
  ·exact je 2 (m+1)
  ·exact fun _ hz=>vr W S E et C n hn hE h0 bb lc ty _ w2 p3 w3 bY f2 a3 _ rfl _ (dl hz)
  ·exact fun _ hz=>kJ W S E et C n a3.1 n3 aj _ (dl hz)
  ·exact jm E et n aj hE w3 df _ rfl
  ·exact jm E et n aj hE w2 bY _ rfl
  ·exact je 3 (m+0)
  ·exact tT (Jo W S E et C n hn hE h0 bb lc ty _ bo _ (by rw [hz];exact h0))
  ·exact jl (w3+1) w2 (uE _) rfl (jc r5 (by decide)) s3 (jH s2)
  ·exact jl w3 (w3+1) rfl (uE _) (jc r5 (by decide)) (jH s3) s3
  ·exact kf _ _ _ _ (jc r5 (by decide))
  ·exact fun _ hz=>yj W F Z fr _ _ L _ _ _ _ _ _ _ _ _ _ _ _ _ _ _ _ _ _ _ _ _ _ _ _ _ (jc (ji r5) (by decide)) ae hl (u0 (Nat.lt_succ_self _) s3) _ (dl hz)
  ·exact jl (w2+1) w1 (uE _) rfl (jc r5 (by decide)) s2 (jH s1)
  ·exact jl w2 (w2+1) rfl (uE _) (jc r5 (by decide)) (jH s2) s2
  ·exact kf _ _ _ _ (jc r5 (by decide))
  ·exact fun _ hz=>uh W F Z fr _ _ L _ _ _ _ _ _ _ _ _ _ _ _ _ _ _ _ _ _ _ _ _ _ _ _ _ (jc (ji r5) (by decide)) ae hl (cT aa w3 w2) (jc (ji r5) (by decide)) _ _ _ (dl hz)
  ·exact jl (w1+1) c0 (uE _) rfl (jc r5 (by decide)) s1 ck
  ·exact jl w1 (w1+1) rfl (uE _) (jc r5 (by decide)) (jH s1) s1
  ·exact kf _ _ _ _ (jc r5 (by decide))
  ·exact fun _ hz=>uh W F Z fr _ _ L _ _ _ _ _ _ _ _ _ _ _ _ _ _ _ _ _ _ _ _ _ _ _ _ _ (jc (ji r5) (by decide)) ae hl ((cT aa w3 w2)++(cT aa w2 w1)) (jc (kz (ji r5) (ji r5)) (by decide)) _ _ _ (dl hz)
  ·exact vj c0 rfl (jc r5 (by decide)) ck
  ·exact fun _ hz=>yi W F Z fr _ _ L _ _ _ _ _ _ _ _ _ _ _ _ _ _ _ _ _ _ _ _ _ _ _ _ _ (jc (u7 _ _ _) (jc r5 (by decide))) ae (((cT aa w3 w2)++(cT aa w2 w1))++(cT aa w1 c0)) (jc (kz (kz (ji r5) (ji r5)) (ji r5)) (by decide)) _ _ _ (dl hz)
  ) (fun _ _=>rfl)
 exact h.cS fun _ _=>rfl
theorem QC (bb: ∀k,E k=(k:Int)) (c0:Nat) (hc:c0≤n) (cq:c0≤4) (p1 w1:Nat) (a1:ke C c0 p1 w1) (p2 w2:Nat) (a2:ke C w1 p2 w2) (p3 w3:Nat) (a3:ke C w2 p3 w3) (hz:w3=0):jx pw W (jB W.params) (nu W.params F true S.lE S.aP S.af 3 (.int (E w3) (et w3)) (.int (E w3) (et w3)) (.int (E w2) (et w2)) c0 w1 (j9 (k7 aa c0 aa.length) (j9 (cT aa w1 c0) (j9 (cT aa w2 w1) (j9 (cT aa w3 w2) .none)))) ((((cT aa w3 w2)++(cT aa w2 w1))++(cT aa w1 c0))++k7 aa c0 aa.length) ae) 34 Jz (kD fr Z) ((S.aV W.params (jL S.af) true (uP E et n) (vl C n)++ks S F Z fr L kv ae ty lt l lR aa eR W.params true (.int (E c0) bh)).map some):=by
 have aj:=n5 hn
 have r5:=jc (Nat.le_of_eq a7) aj
 have n1:w1<n:=uC a1.2.1 hc
 have q1:p1≤n:=jc a1.1.1 (jH n1)
 have s1:w1<aa.length:=JC n1 a7.symm
 have bH:w1≤n:=jH n1
 have f1:w1≤4:=jc (jH a1.2.1) cq
 have n2:w2<n:=uC a2.2.1 bH
 have q2:p2≤n:=jc a2.1.1 (jH n2)
 have s2:w2<aa.length:=JC n2 a7.symm
 have bY:w2≤n:=jH n2
 have f2:w2≤4:=jc (jH a2.2.1) f1
 have n3:w3<n:=uC a3.2.1 bY
 have q3:p3≤n:=jc a3.1.1 (jH n3)
 have s3:w3<aa.length:=JC n3 a7.symm
 have df:w3≤n:=jH n3
 have f3:w3≤4:=jc (jH a3.2.1) f2
 have ck:c0≤aa.length:=a7.symm▸hc
 obtain ⟨m,hm⟩:=Nat.exists_eq_add_of_le' (jc (yL (yL (yL (Nat.zero_le w3) a3.2.1) a2.2.1) a1.2.1) hc)
 have bo: ∃k,k<n∧C k=true:=⟨w1,n1,a1.1.2.1⟩
 have h:=yh (w:=W) (Qi W.params kv bh (E c0) ae S n C (uP E et n) (vl C n) ty F Z fr L lt l lR aa eR m p1 (E w1) (et w1) w1 c0 p2 (E w2) (et w2) w2 w1 p3 (E w3) (et w3) w3 w2) (by
  intro A K
  walk_at "ob"
  ·exact jG (by rw [jW];exact jc r5 (by decide)) (jW _)
  ·exact ye (m:=m+(3+1)) (congrArg (fun x=>x+1) (a7.trans hm)) (jc (Nat.succ_le_succ (hm▸aj)) (by decide))
  ·exact je 0 (m+3)
  ·exact fun _ hz=>qb W S E et C n hn hE h0 bb ty _ c0 p1 w1 hc cq a1 _ rfl _ (dl hz)
  ·exact fun _ hz=>kJ W S E et C n a1.1 n1 aj _ (dl hz)
  ·exact jm E et n aj hE w1 bH _ rfl
  ·exact jm E et n aj hE c0 hc _ rfl
  ·exact je 1 (m+2)
  ·exact fun _ hz=>vr W {S with aA:=A 24} E et C n hn hE h0 bb _ ty _ w1 p2 w2 bH f1 a2 _ rfl _ (dl hz)
  ·exact fun _ hz=>kJ W S E et C n a2.1 n2 aj _ (dl hz)
  ·exact jm E et n aj hE w2 bY _ rfl
  ·exact jm E et n aj hE w1 bH _ rfl
  ·exact je 2 (m+1)
  ·exact fun _ hz=>vr W {S with aA:=A 24} E et C n hn hE h0 bb _ ty _ w2 p3 w3 bY f2 a3 _ rfl _ (dl hz)
  ·exact fun _ hz=>kJ W S E et C n a3.1 n3 aj _ (dl hz)
  ·exact jm E et n aj hE w3 df _ rfl
  ·exact jm E et n aj hE w2 bY _ rfl
  ·exact je 3 (m+0)
  ·exact tT (Jo W {S with aA:=A 24} E et C n hn hE h0 bb _ ty _ bo _ (by rw [hz];exact h0))
  ·exact jl (w3+1) w2 (uE _) rfl (jc r5 (by decide)) s3 (jH s2)
  ·exact jl w3 (w3+1) rfl (uE _) (jc r5 (by decide)) (jH s3) s3
  ·exact kf _ _ _ _ (jc r5 (by decide))
  ·exact fun _ hz=>yj W F Z fr _ _ L _ _ _ _ _ _ _ _ _ _ _ _ _ _ _ _ _ _ _ _ _ _ _ _ _ (jc (ji r5) (by decide)) ae hl (u0 (Nat.lt_succ_self _) s3) _ (dl hz)
  ·exact jl (w2+1) w1 (uE _) rfl (jc r5 (by decide)) s2 (jH s1)
  ·exact jl w2 (w2+1) rfl (uE _) (jc r5 (by decide)) (jH s2) s2
  ·exact kf _ _ _ _ (jc r5 (by decide))
  ·exact fun _ hz=>uh W F Z fr _ _ L _ _ _ _ _ _ _ _ _ _ _ _ _ _ _ _ _ _ _ _ _ _ _ _ _ (jc (ji r5) (by decide)) ae hl (cT aa w3 w2) (jc (ji r5) (by decide)) _ _ _ (dl hz)
  ·exact jl (w1+1) c0 (uE _) rfl (jc r5 (by decide)) s1 ck
  ·exact jl w1 (w1+1) rfl (uE _) (jc r5 (by decide)) (jH s1) s1
  ·exact kf _ _ _ _ (jc r5 (by decide))
  ·exact fun _ hz=>uh W F Z fr _ _ L _ _ _ _ _ _ _ _ _ _ _ _ _ _ _ _ _ _ _ _ _ _ _ _ _ (jc (ji r5) (by decide)) ae hl ((cT aa w3 w2)++(cT aa w2 w1)) (jc (kz (ji r5) (ji r5)) (by decide)) _ _ _ (dl hz)
  ·exact vj c0 rfl (jc r5 (by decide)) ck
  ·exact fun _ hz=>yi W F Z fr _ _ L _ _ _ _ _ _ _ _ _ _ _ _ _ _ _ _ _ _ _ _ _ _ _ _ _ (jc (u7 _ _ _) (jc r5 (by decide))) ae (((cT aa w3 w2)++(cT aa w2 w1))++(cT aa w1 c0)) (jc (kz (kz (ji r5) (ji r5)) (ji r5)) (by decide)) _ _ _ (dl hz)
  ) (fun _ _=>rfl)
 exact h.cS fun _ _=>rfl
theorem QD (c0:Nat) (hc:c0≤n) (p1 w1:Nat) (a1:ke C c0 p1 w1) (p2 w2:Nat) (a2:ke C p1 p2 w2) (p3 w3:Nat) (a3:ke C p2 p3 w3) (p4 w4:Nat) (a4:ke C p3 p4 w4) (hz:p4=0):jx pw W (jB W.params) (eY W.params F false S.lE S.aP 4 (.int (E p4) (et p4)) (.int (E p4) (et p4)) (.int (E (w4+1)) (et (w4+1))) (w1+1) p1 (j9 (k7 aa (w1+1) aa.length) (j9 (cF aa w1 p1) (j9 (cF aa w2 p2) (j9 (cF aa w3 p3) (j9 (cF aa w4 p4) .none))))) (((((cF aa w4 p4)++(cF aa w3 p3))++(cF aa w2 p2))++(cF aa w1 p1))++k7 aa (w1+1) aa.length) ae) 34 Jz (kD fr Z) ((S.aV W.params (jL S.af) false (uP E et n) (vl C n)++ [(S.af,jD 100 lc)]++ks S F Z fr L kv ae ty lt l lR aa eR W.params false (.int (E c0) bh)).map some):=by
 have aj:=n5 hn
 have r5:=jc (Nat.le_of_eq a7) aj
 have n1:w1<n:=uC a1.2.1 hc
 have q1:p1≤n:=jc a1.1.1 (jH n1)
 have s1:w1<aa.length:=JC n1 a7.symm
 have bH:p1≤n:=q1
 have n2:w2<n:=uC a2.2.1 bH
 have q2:p2≤n:=jc a2.1.1 (jH n2)
 have s2:w2<aa.length:=JC n2 a7.symm
 have bY:p2≤n:=q2
 have n3:w3<n:=uC a3.2.1 bY
 have q3:p3≤n:=jc a3.1.1 (jH n3)
 have s3:w3<aa.length:=JC n3 a7.symm
 have df:p3≤n:=q3
 have n4:w4<n:=uC a4.2.1 df
 have q4:p4≤n:=jc a4.1.1 (jH n4)
 have s4:w4<aa.length:=JC n4 a7.symm
 have ib:p4≤n:=q4
 have ck:c0≤aa.length:=a7.symm▸hc
 obtain ⟨m,hm⟩:=Nat.exists_eq_add_of_le' (jc (yL (jc (yL (jc (yL (jc (yL (Nat.zero_le w4) a4.2.1) a3.1.1) a3.2.1) a2.1.1) a2.2.1) a1.1.1) a1.2.1) hc)
 have bo: ∃k,k<n∧C k=true:=⟨w1,n1,a1.1.2.1⟩
 have h:=yh (w:=W) (Qk W.params kv bh (E c0) ae S n C (uP E et n) (vl C n) lc ty F Z fr L lt l lR aa eR m p1 (E p1) (et p1) (E (w1+1)) (et (w1+1)) p1 (w1+1) p2 (E p2) (et p2) (E (w2+1)) (et (w2+1)) p2 (w2+1) p3 (E p3) (et p3) (E (w3+1)) (et (w3+1)) p3 (w3+1) p4 (E p4) (et p4) (E (w4+1)) (et (w4+1)) p4 (w4+1)) (by
  intro A K
  walk_at "ob"
  ·exact jG (by rw [jW];exact jc r5 (by decide)) (jW _)
  ·exact ye (m:=m+(4+1)) (congrArg (fun x=>x+1) (a7.trans hm)) (jc (Nat.succ_le_succ (hm▸aj)) (by decide))
  ·exact je 0 (m+4)
  ·exact fun _ hz=>vK W S E et C n hn hE h0 lc ty _ c0 p1 w1 hc a1 _ rfl _ (dl hz)
  ·exact fun _ hz=>u3 W S E et C n a1.1 n1 aj _ (dl hz)
  ·exact jm E et n aj hE p1 q1 _ rfl
  ·exact jm E et n aj hE (w1+1) n1 _ rfl
  ·exact je 1 (m+3)
  ·exact fun _ hz=>vK W S E et C n hn hE h0 lc ty _ p1 p2 w2 bH a2 _ rfl _ (dl hz)
  ·exact fun _ hz=>u3 W S E et C n a2.1 n2 aj _ (dl hz)
  ·exact jm E et n aj hE p2 q2 _ rfl
  ·exact jm E et n aj hE (w2+1) n2 _ rfl
  ·exact je 2 (m+2)
  ·exact fun _ hz=>vK W S E et C n hn hE h0 lc ty _ p2 p3 w3 bY a3 _ rfl _ (dl hz)
  ·exact fun _ hz=>u3 W S E et C n a3.1 n3 aj _ (dl hz)
  ·exact jm E et n aj hE p3 q3 _ rfl
  ·exact jm E et n aj hE (w3+1) n3 _ rfl
  ·exact je 3 (m+1)
  ·exact fun _ hz=>vK W S E et C n hn hE h0 lc ty _ p3 p4 w4 df a4 _ rfl _ (dl hz)
  ·exact fun _ hz=>u3 W S E et C n a4.1 n4 aj _ (dl hz)
  ·exact jm E et n aj hE p4 q4 _ rfl
  ·exact jm E et n aj hE (w4+1) n4 _ rfl
  ·exact je 4 (m+0)
  ·exact tT (VW W S E et C n hn hE h0 lc ty _ bo _ (by rw [hz];exact h0))
  ·exact jl ((w4+1)-1) (w4+1) (vY _) rfl (jc r5 (by decide)) (jH s4) s4
  ·exact jl p4 ((w4+1)-1) rfl (vY _) (jc r5 (by decide)) (jc a4.1.1 (jH s4)) (jH s4)
  ·exact kf _ _ _ _ (jc r5 (by decide))
  ·exact fun _ hz=>yj W F Z fr _ _ L _ _ _ _ _ _ _ _ _ _ _ _ _ _ _ _ _ _ _ _ _ _ _ _ _ (jc (ji r5) (by decide)) ae hl (vw (Nat.lt_succ_self _) s4) _ (dl hz)
  ·exact jl ((w3+1)-1) (w3+1) (vY _) rfl (jc r5 (by decide)) (jH s3) s3
  ·exact jl p3 ((w3+1)-1) rfl (vY _) (jc r5 (by decide)) (jc a3.1.1 (jH s3)) (jH s3)
  ·exact kf _ _ _ _ (jc r5 (by decide))
  ·exact fun _ hz=>uh W F Z fr _ _ L _ _ _ _ _ _ _ _ _ _ _ _ _ _ _ _ _ _ _ _ _ _ _ _ _ (jc (ji r5) (by decide)) ae hl (cF aa w4 p4) (jc (ji r5) (by decide)) _ _ _ (dl hz)
  ·exact jl ((w2+1)-1) (w2+1) (vY _) rfl (jc r5 (by decide)) (jH s2) s2
  ·exact jl p2 ((w2+1)-1) rfl (vY _) (jc r5 (by decide)) (jc a2.1.1 (jH s2)) (jH s2)
  ·exact kf _ _ _ _ (jc r5 (by decide))
  ·exact fun _ hz=>uh W F Z fr _ _ L _ _ _ _ _ _ _ _ _ _ _ _ _ _ _ _ _ _ _ _ _ _ _ _ _ (jc (ji r5) (by decide)) ae hl ((cF aa w4 p4)++(cF aa w3 p3)) (jc (kz (ji r5) (ji r5)) (by decide)) _ _ _ (dl hz)
  ·exact jl ((w1+1)-1) (w1+1) (vY _) rfl (jc r5 (by decide)) (jH s1) s1
  ·exact jl p1 ((w1+1)-1) rfl (vY _) (jc r5 (by decide)) (jc a1.1.1 (jH s1)) (jH s1)
  ·exact kf _ _ _ _ (jc r5 (by decide))
  ·exact fun _ hz=>uh W F Z fr _ _ L _ _ _ _ _ _ _ _ _ _ _ _ _ _ _ _ _ _ _ _ _ _ _ _ _ (jc (ji r5) (by decide)) ae hl (((cF aa w4 p4)++(cF aa w3 p3))++(cF aa w2 p2)) (jc (kz (kz (ji r5) (ji r5)) (ji r5)) (by decide)) _ _ _ (dl hz)
  ·exact vj (w1+1) rfl (jc r5 (by decide)) s1
  ·exact fun _ hz=>yi W F Z fr _ _ L _ _ _ _ _ _ _ _ _ _ _ _ _ _ _ _ _ _ _ _ _ _ _ _ _ (jc (u7 _ _ _) (jc r5 (by decide))) ae ((((cF aa w4 p4)++(cF aa w3 p3))++(cF aa w2 p2))++(cF aa w1 p1)) (jc (kz (kz (kz (ji r5) (ji r5)) (ji r5)) (ji r5)) (by decide)) _ _ _ (dl hz)
  ) (fun _ _=>rfl)
 exact h.cS fun _ _=>rfl
theorem QE (bb: ∀k,E k=(k:Int)) (c0:Nat) (hc:c0≤n) (cq:c0≤4) (p1 w1:Nat) (a1:ke C c0 p1 w1) (p2 w2:Nat) (a2:ke C w1 p2 w2) (p3 w3:Nat) (a3:ke C w2 p3 w3) (p4 w4:Nat) (a4:ke C w3 p4 w4) (hz:w4=0):jx pw W (jB W.params) (eY W.params F true S.lE S.aP 4 (.int (E w4) (et w4)) (.int (E w4) (et w4)) (.int (E w3) (et w3)) c0 w1 (j9 (k7 aa c0 aa.length) (j9 (cT aa w1 c0) (j9 (cT aa w2 w1) (j9 (cT aa w3 w2) (j9 (cT aa w4 w3) .none))))) (((((cT aa w4 w3)++(cT aa w3 w2))++(cT aa w2 w1))++(cT aa w1 c0))++k7 aa c0 aa.length) ae) 34 Jz (kD fr Z) ((S.aV W.params (ku S.af S.aA) true (uP E et n) (vl C n)++ [(S.aA,jD 98 lc)]++ks S F Z fr L kv ae ty lt l lR aa eR W.params true (.int (E c0) bh)).map some):=by
 have aj:=n5 hn
 have r5:=jc (Nat.le_of_eq a7) aj
 have n1:w1<n:=uC a1.2.1 hc
 have q1:p1≤n:=jc a1.1.1 (jH n1)
 have s1:w1<aa.length:=JC n1 a7.symm
 have bH:w1≤n:=jH n1
 have f1:w1≤4:=jc (jH a1.2.1) cq
 have n2:w2<n:=uC a2.2.1 bH
 have q2:p2≤n:=jc a2.1.1 (jH n2)
 have s2:w2<aa.length:=JC n2 a7.symm
 have bY:w2≤n:=jH n2
 have f2:w2≤4:=jc (jH a2.2.1) f1
 have n3:w3<n:=uC a3.2.1 bY
 have q3:p3≤n:=jc a3.1.1 (jH n3)
 have s3:w3<aa.length:=JC n3 a7.symm
 have df:w3≤n:=jH n3
 have f3:w3≤4:=jc (jH a3.2.1) f2
 have n4:w4<n:=uC a4.2.1 df
 have q4:p4≤n:=jc a4.1.1 (jH n4)
 have s4:w4<aa.length:=JC n4 a7.symm
 have ib:w4≤n:=jH n4
 have f4:w4≤4:=jc (jH a4.2.1) f3
 have ck:c0≤aa.length:=a7.symm▸hc
 obtain ⟨m,hm⟩:=Nat.exists_eq_add_of_le' (jc (yL (yL (yL (yL (Nat.zero_le w4) a4.2.1) a3.2.1) a2.2.1) a1.2.1) hc)
 have bo: ∃k,k<n∧C k=true:=⟨w1,n1,a1.1.2.1⟩
 have h:=yh (w:=W) (Qm W.params kv bh (E c0) ae S n C (uP E et n) (vl C n) lc ty F Z fr L lt l lR aa eR m p1 (E w1) (et w1) w1 c0 p2 (E w2) (et w2) w2 w1 p3 (E w3) (et w3) w3 w2 p4 (E w4) (et w4) w4 w3) (by
  intro A K
  walk_at "ob"
  ·exact jG (by rw [jW];exact jc r5 (by decide)) (jW _)
  ·exact ye (m:=m+(4+1)) (congrArg (fun x=>x+1) (a7.trans hm)) (jc (Nat.succ_le_succ (hm▸aj)) (by decide))
  ·exact je 0 (m+4)
  ·exact fun _ hz=>vr W S E et C n hn hE h0 bb lc ty _ c0 p1 w1 hc cq a1 _ rfl _ (dl hz)
  ·exact fun _ hz=>kJ W S E et C n a1.1 n1 aj _ (dl hz)
  ·exact jm E et n aj hE w1 bH _ rfl
  ·exact jm E et n aj hE c0 hc _ rfl
  ·exact je 1 (m+3)
  ·exact fun _ hz=>vr W S E et C n hn hE h0 bb lc ty _ w1 p2 w2 bH f1 a2 _ rfl _ (dl hz)
  ·exact fun _ hz=>kJ W S E et C n a2.1 n2 aj _ (dl hz)
  ·exact jm E et n aj hE w2 bY _ rfl
  ·exact jm E et n aj hE w1 bH _ rfl
  ·exact je 2 (m+2)
  ·exact fun _ hz=>vr W S E et C n hn hE h0 bb lc ty _ w2 p3 w3 bY f2 a3 _ rfl _ (dl hz)
  ·exact fun _ hz=>kJ W S E et C n a3.1 n3 aj _ (dl hz)
  ·exact jm E et n aj hE w3 df _ rfl
  ·exact jm E et n aj hE w2 bY _ rfl
  ·exact je 3 (m+1)
  ·exact fun _ hz=>vr W S E et C n hn hE h0 bb lc ty _ w3 p4 w4 df f3 a4 _ rfl _ (dl hz)
  ·exact fun _ hz=>kJ W S E et C n a4.1 n4 aj _ (dl hz)
  ·exact jm E et n aj hE w4 ib _ rfl
  ·exact jm E et n aj hE w3 df _ rfl
  ·exact je 4 (m+0)
  ·exact tT (Jo W S E et C n hn hE h0 bb lc ty _ bo _ (by rw [hz];exact h0))
  ·exact jl (w4+1) w3 (uE _) rfl (jc r5 (by decide)) s4 (jH s3)
  ·exact jl w4 (w4+1) rfl (uE _) (jc r5 (by decide)) (jH s4) s4
  ·exact kf _ _ _ _ (jc r5 (by decide))
  ·exact fun _ hz=>yj W F Z fr _ _ L _ _ _ _ _ _ _ _ _ _ _ _ _ _ _ _ _ _ _ _ _ _ _ _ _ (jc (ji r5) (by decide)) ae hl (u0 (Nat.lt_succ_self _) s4) _ (dl hz)
  ·exact jl (w3+1) w2 (uE _) rfl (jc r5 (by decide)) s3 (jH s2)
  ·exact jl w3 (w3+1) rfl (uE _) (jc r5 (by decide)) (jH s3) s3
  ·exact kf _ _ _ _ (jc r5 (by decide))
  ·exact fun _ hz=>uh W F Z fr _ _ L _ _ _ _ _ _ _ _ _ _ _ _ _ _ _ _ _ _ _ _ _ _ _ _ _ (jc (ji r5) (by decide)) ae hl (cT aa w4 w3) (jc (ji r5) (by decide)) _ _ _ (dl hz)
  ·exact jl (w2+1) w1 (uE _) rfl (jc r5 (by decide)) s2 (jH s1)
  ·exact jl w2 (w2+1) rfl (uE _) (jc r5 (by decide)) (jH s2) s2
  ·exact kf _ _ _ _ (jc r5 (by decide))
  ·exact fun _ hz=>uh W F Z fr _ _ L _ _ _ _ _ _ _ _ _ _ _ _ _ _ _ _ _ _ _ _ _ _ _ _ _ (jc (ji r5) (by decide)) ae hl ((cT aa w4 w3)++(cT aa w3 w2)) (jc (kz (ji r5) (ji r5)) (by decide)) _ _ _ (dl hz)
  ·exact jl (w1+1) c0 (uE _) rfl (jc r5 (by decide)) s1 ck
  ·exact jl w1 (w1+1) rfl (uE _) (jc r5 (by decide)) (jH s1) s1
  ·exact kf _ _ _ _ (jc r5 (by decide))
  ·exact fun _ hz=>uh W F Z fr _ _ L _ _ _ _ _ _ _ _ _ _ _ _ _ _ _ _ _ _ _ _ _ _ _ _ _ (jc (ji r5) (by decide)) ae hl (((cT aa w4 w3)++(cT aa w3 w2))++(cT aa w2 w1)) (jc (kz (kz (ji r5) (ji r5)) (ji r5)) (by decide)) _ _ _ (dl hz)
  ·exact vj c0 rfl (jc r5 (by decide)) ck
  ·exact fun _ hz=>yi W F Z fr _ _ L _ _ _ _ _ _ _ _ _ _ _ _ _ _ _ _ _ _ _ _ _ _ _ _ _ (jc (u7 _ _ _) (jc r5 (by decide))) ae ((((cT aa w4 w3)++(cT aa w3 w2))++(cT aa w2 w1))++(cT aa w1 c0)) (jc (kz (kz (kz (ji r5) (ji r5)) (ji r5)) (ji r5)) (by decide)) _ _ _ (dl hz)
  ) (fun _ _=>rfl)
 exact h.cS fun _ _=>rfl
theorem QF (bb: ∀k,E k=(k:Int)) (c0:Nat) (hc:c0≤n) (cq:c0≤4) (p1 w1:Nat) (a1:ke C c0 p1 w1) (p2 w2:Nat) (a2:ke C w1 p2 w2) (p3 w3:Nat) (a3:ke C w2 p3 w3) (p4 w4:Nat) (a4:ke C w3 p4 w4) (hz:w4=0):jx pw W (jB W.params) (nu W.params F true S.lE S.aP S.af 4 (.int (E w4) (et w4)) (.int (E w4) (et w4)) (.int (E w3) (et w3)) c0 w1 (j9 (k7 aa c0 aa.length) (j9 (cT aa w1 c0) (j9 (cT aa w2 w1) (j9 (cT aa w3 w2) (j9 (cT aa w4 w3) .none))))) (((((cT aa w4 w3)++(cT aa w3 w2))++(cT aa w2 w1))++(cT aa w1 c0))++k7 aa c0 aa.length) ae) 34 Jz (kD fr Z) ((S.aV W.params (jL S.af) true (uP E et n) (vl C n)++ks S F Z fr L kv ae ty lt l lR aa eR W.params true (.int (E c0) bh)).map some):=by
 have aj:=n5 hn
 have r5:=jc (Nat.le_of_eq a7) aj
 have n1:w1<n:=uC a1.2.1 hc
 have q1:p1≤n:=jc a1.1.1 (jH n1)
 have s1:w1<aa.length:=JC n1 a7.symm
 have bH:w1≤n:=jH n1
 have f1:w1≤4:=jc (jH a1.2.1) cq
 have n2:w2<n:=uC a2.2.1 bH
 have q2:p2≤n:=jc a2.1.1 (jH n2)
 have s2:w2<aa.length:=JC n2 a7.symm
 have bY:w2≤n:=jH n2
 have f2:w2≤4:=jc (jH a2.2.1) f1
 have n3:w3<n:=uC a3.2.1 bY
 have q3:p3≤n:=jc a3.1.1 (jH n3)
 have s3:w3<aa.length:=JC n3 a7.symm
 have df:w3≤n:=jH n3
 have f3:w3≤4:=jc (jH a3.2.1) f2
 have n4:w4<n:=uC a4.2.1 df
 have q4:p4≤n:=jc a4.1.1 (jH n4)
 have s4:w4<aa.length:=JC n4 a7.symm
 have ib:w4≤n:=jH n4
 have f4:w4≤4:=jc (jH a4.2.1) f3
 have ck:c0≤aa.length:=a7.symm▸hc
 obtain ⟨m,hm⟩:=Nat.exists_eq_add_of_le' (jc (yL (yL (yL (yL (Nat.zero_le w4) a4.2.1) a3.2.1) a2.2.1) a1.2.1) hc)
 have bo: ∃k,k<n∧C k=true:=⟨w1,n1,a1.1.2.1⟩
 have h:=yh (w:=W) (Qo W.params kv bh (E c0) ae S n C (uP E et n) (vl C n) ty F Z fr L lt l lR aa eR m p1 (E w1) (et w1) w1 c0 p2 (E w2) (et w2) w2 w1 p3 (E w3) (et w3) w3 w2 p4 (E w4) (et w4) w4 w3) (by
  intro A K
  walk_at "ob"
  ·exact jG (by rw [jW];exact jc r5 (by decide)) (jW _)
  ·exact ye (m:=m+(4+1)) (congrArg (fun x=>x+1) (a7.trans hm)) (jc (Nat.succ_le_succ (hm▸aj)) (by decide))
  ·exact je 0 (m+4)
  ·exact fun _ hz=>qb W S E et C n hn hE h0 bb ty _ c0 p1 w1 hc cq a1 _ rfl _ (dl hz)
  ·exact fun _ hz=>kJ W S E et C n a1.1 n1 aj _ (dl hz)
  ·exact jm E et n aj hE w1 bH _ rfl
  ·exact jm E et n aj hE c0 hc _ rfl
  ·exact je 1 (m+3)
  ·exact fun _ hz=>vr W {S with aA:=A 24} E et C n hn hE h0 bb _ ty _ w1 p2 w2 bH f1 a2 _ rfl _ (dl hz)
  ·exact fun _ hz=>kJ W S E et C n a2.1 n2 aj _ (dl hz)
  ·exact jm E et n aj hE w2 bY _ rfl
  ·exact jm E et n aj hE w1 bH _ rfl
  ·exact je 2 (m+2)
  ·exact fun _ hz=>vr W {S with aA:=A 24} E et C n hn hE h0 bb _ ty _ w2 p3 w3 bY f2 a3 _ rfl _ (dl hz)
  ·exact fun _ hz=>kJ W S E et C n a3.1 n3 aj _ (dl hz)
  ·exact jm E et n aj hE w3 df _ rfl
  ·exact jm E et n aj hE w2 bY _ rfl
  ·exact je 3 (m+1)
  ·exact fun _ hz=>vr W {S with aA:=A 24} E et C n hn hE h0 bb _ ty _ w3 p4 w4 df f3 a4 _ rfl _ (dl hz)
  ·exact fun _ hz=>kJ W S E et C n a4.1 n4 aj _ (dl hz)
  ·exact jm E et n aj hE w4 ib _ rfl
  ·exact jm E et n aj hE w3 df _ rfl
  ·exact je 4 (m+0)
  ·exact tT (Jo W {S with aA:=A 24} E et C n hn hE h0 bb _ ty _ bo _ (by rw [hz];exact h0))
  ·exact jl (w4+1) w3 (uE _) rfl (jc r5 (by decide)) s4 (jH s3)
  ·exact jl w4 (w4+1) rfl (uE _) (jc r5 (by decide)) (jH s4) s4
  ·exact kf _ _ _ _ (jc r5 (by decide))
  ·exact fun _ hz=>yj W F Z fr _ _ L _ _ _ _ _ _ _ _ _ _ _ _ _ _ _ _ _ _ _ _ _ _ _ _ _ (jc (ji r5) (by decide)) ae hl (u0 (Nat.lt_succ_self _) s4) _ (dl hz)
  ·exact jl (w3+1) w2 (uE _) rfl (jc r5 (by decide)) s3 (jH s2)
  ·exact jl w3 (w3+1) rfl (uE _) (jc r5 (by decide)) (jH s3) s3
  ·exact kf _ _ _ _ (jc r5 (by decide))
  ·exact fun _ hz=>uh W F Z fr _ _ L _ _ _ _ _ _ _ _ _ _ _ _ _ _ _ _ _ _ _ _ _ _ _ _ _ (jc (ji r5) (by decide)) ae hl (cT aa w4 w3) (jc (ji r5) (by decide)) _ _ _ (dl hz)
  ·exact jl (w2+1) w1 (uE _) rfl (jc r5 (by decide)) s2 (jH s1)
  ·exact jl w2 (w2+1) rfl (uE _) (jc r5 (by decide)) (jH s2) s2
  ·exact kf _ _ _ _ (jc r5 (by decide))
  ·exact fun _ hz=>uh W F Z fr _ _ L _ _ _ _ _ _ _ _ _ _ _ _ _ _ _ _ _ _ _ _ _ _ _ _ _ (jc (ji r5) (by decide)) ae hl ((cT aa w4 w3)++(cT aa w3 w2)) (jc (kz (ji r5) (ji r5)) (by decide)) _ _ _ (dl hz)
  ·exact jl (w1+1) c0 (uE _) rfl (jc r5 (by decide)) s1 ck
  ·exact jl w1 (w1+1) rfl (uE _) (jc r5 (by decide)) (jH s1) s1
  ·exact kf _ _ _ _ (jc r5 (by decide))
  ·exact fun _ hz=>uh W F Z fr _ _ L _ _ _ _ _ _ _ _ _ _ _ _ _ _ _ _ _ _ _ _ _ _ _ _ _ (jc (ji r5) (by decide)) ae hl (((cT aa w4 w3)++(cT aa w3 w2))++(cT aa w2 w1)) (jc (kz (kz (ji r5) (ji r5)) (ji r5)) (by decide)) _ _ _ (dl hz)
  ·exact vj c0 rfl (jc r5 (by decide)) ck
  ·exact fun _ hz=>yi W F Z fr _ _ L _ _ _ _ _ _ _ _ _ _ _ _ _ _ _ _ _ _ _ _ _ _ _ _ _ (jc (u7 _ _ _) (jc r5 (by decide))) ae ((((cT aa w4 w3)++(cT aa w3 w2))++(cT aa w2 w1))++(cT aa w1 c0)) (jc (kz (kz (kz (ji r5) (ji r5)) (ji r5)) (ji r5)) (by decide)) _ _ _ (dl hz)
  ) (fun _ _=>rfl)
 exact h.cS fun _ _=>rfl
theorem QG (c0:Nat) (hc:c0≤n) (p1 w1:Nat) (a1:ke C c0 p1 w1) (p2 w2:Nat) (a2:ke C p1 p2 w2) (p3 w3:Nat) (a3:ke C p2 p3 w3) (p4 w4:Nat) (a4:ke C p3 p4 w4) (p5 w5:Nat) (a5:ke C p4 p5 w5) (hz:p5=0):jx pw W (jB W.params) (eY W.params F false S.lE S.aP 5 (.int (E p5) (et p5)) (.int (E p5) (et p5)) (.int (E (w5+1)) (et (w5+1))) (w1+1) p1 (j9 (k7 aa (w1+1) aa.length) (j9 (cF aa w1 p1) (j9 (cF aa w2 p2) (j9 (cF aa w3 p3) (j9 (cF aa w4 p4) (j9 (cF aa w5 p5) .none)))))) ((((((cF aa w5 p5)++(cF aa w4 p4))++(cF aa w3 p3))++(cF aa w2 p2))++(cF aa w1 p1))++k7 aa (w1+1) aa.length) ae) 34 Jz (kD fr Z) ((S.aV W.params (jL S.af) false (uP E et n) (vl C n)++ [(S.af,jD 100 lc)]++ks S F Z fr L kv ae ty lt l lR aa eR W.params false (.int (E c0) bh)).map some):=by
 have aj:=n5 hn
 have r5:=jc (Nat.le_of_eq a7) aj
 have n1:w1<n:=uC a1.2.1 hc
 have q1:p1≤n:=jc a1.1.1 (jH n1)
 have s1:w1<aa.length:=JC n1 a7.symm
 have bH:p1≤n:=q1
 have n2:w2<n:=uC a2.2.1 bH
 have q2:p2≤n:=jc a2.1.1 (jH n2)
 have s2:w2<aa.length:=JC n2 a7.symm
 have bY:p2≤n:=q2
 have n3:w3<n:=uC a3.2.1 bY
 have q3:p3≤n:=jc a3.1.1 (jH n3)
 have s3:w3<aa.length:=JC n3 a7.symm
 have df:p3≤n:=q3
 have n4:w4<n:=uC a4.2.1 df
 have q4:p4≤n:=jc a4.1.1 (jH n4)
 have s4:w4<aa.length:=JC n4 a7.symm
 have ib:p4≤n:=q4
 have n5:w5<n:=uC a5.2.1 ib
 have q5:p5≤n:=jc a5.1.1 (jH n5)
 have s5:w5<aa.length:=JC n5 a7.symm
 have Xg:p5≤n:=q5
 have ck:c0≤aa.length:=a7.symm▸hc
 obtain ⟨m,hm⟩:=Nat.exists_eq_add_of_le' (jc (yL (jc (yL (jc (yL (jc (yL (jc (yL (Nat.zero_le w5) a5.2.1) a4.1.1) a4.2.1) a3.1.1) a3.2.1) a2.1.1) a2.2.1) a1.1.1) a1.2.1) hc)
 have bo: ∃k,k<n∧C k=true:=⟨w1,n1,a1.1.2.1⟩
 have h:=yh (w:=W) (Qq W.params kv bh (E c0) ae S n C (uP E et n) (vl C n) lc ty F Z fr L lt l lR aa eR m p1 (E p1) (et p1) (E (w1+1)) (et (w1+1)) p1 (w1+1) p2 (E p2) (et p2) (E (w2+1)) (et (w2+1)) p2 (w2+1) p3 (E p3) (et p3) (E (w3+1)) (et (w3+1)) p3 (w3+1) p4 (E p4) (et p4) (E (w4+1)) (et (w4+1)) p4 (w4+1) p5 (E p5) (et p5) (E (w5+1)) (et (w5+1)) p5 (w5+1)) (by
  intro A K
  walk_at "ob"
  ·exact jG (by rw [jW];exact jc r5 (by decide)) (jW _)
  ·exact ye (m:=m+(5+1)) (congrArg (fun x=>x+1) (a7.trans hm)) (jc (Nat.succ_le_succ (hm▸aj)) (by decide))
  ·exact je 0 (m+5)
  ·exact fun _ hz=>vK W S E et C n hn hE h0 lc ty _ c0 p1 w1 hc a1 _ rfl _ (dl hz)
  ·exact fun _ hz=>u3 W S E et C n a1.1 n1 aj _ (dl hz)
  ·exact jm E et n aj hE p1 q1 _ rfl
  ·exact jm E et n aj hE (w1+1) n1 _ rfl
  ·exact je 1 (m+4)
  ·exact fun _ hz=>vK W S E et C n hn hE h0 lc ty _ p1 p2 w2 bH a2 _ rfl _ (dl hz)
  ·exact fun _ hz=>u3 W S E et C n a2.1 n2 aj _ (dl hz)
  ·exact jm E et n aj hE p2 q2 _ rfl
  ·exact jm E et n aj hE (w2+1) n2 _ rfl
  ·exact je 2 (m+3)
  ·exact fun _ hz=>vK W S E et C n hn hE h0 lc ty _ p2 p3 w3 bY a3 _ rfl _ (dl hz)
  ·exact fun _ hz=>u3 W S E et C n a3.1 n3 aj _ (dl hz)
  ·exact jm E et n aj hE p3 q3 _ rfl
  ·exact jm E et n aj hE (w3+1) n3 _ rfl
  ·exact je 3 (m+2)
  ·exact fun _ hz=>vK W S E et C n hn hE h0 lc ty _ p3 p4 w4 df a4 _ rfl _ (dl hz)
  ·exact fun _ hz=>u3 W S E et C n a4.1 n4 aj _ (dl hz)
  ·exact jm E et n aj hE p4 q4 _ rfl
  ·exact jm E et n aj hE (w4+1) n4 _ rfl
  ·exact je 4 (m+1)
  ·exact fun _ hz=>vK W S E et C n hn hE h0 lc ty _ p4 p5 w5 ib a5 _ rfl _ (dl hz)
  ·exact fun _ hz=>u3 W S E et C n a5.1 n5 aj _ (dl hz)
  ·exact jm E et n aj hE p5 q5 _ rfl
  ·exact jm E et n aj hE (w5+1) n5 _ rfl
  ·exact je 5 (m+0)
  ·exact tT (VW W S E et C n hn hE h0 lc ty _ bo _ (by rw [hz];exact h0))
  ·exact jl ((w5+1)-1) (w5+1) (vY _) rfl (jc r5 (by decide)) (jH s5) s5
  ·exact jl p5 ((w5+1)-1) rfl (vY _) (jc r5 (by decide)) (jc a5.1.1 (jH s5)) (jH s5)
  ·exact kf _ _ _ _ (jc r5 (by decide))
  ·exact fun _ hz=>yj W F Z fr _ _ L _ _ _ _ _ _ _ _ _ _ _ _ _ _ _ _ _ _ _ _ _ _ _ _ _ (jc (ji r5) (by decide)) ae hl (vw (Nat.lt_succ_self _) s5) _ (dl hz)
  ·exact jl ((w4+1)-1) (w4+1) (vY _) rfl (jc r5 (by decide)) (jH s4) s4
  ·exact jl p4 ((w4+1)-1) rfl (vY _) (jc r5 (by decide)) (jc a4.1.1 (jH s4)) (jH s4)
  ·exact kf _ _ _ _ (jc r5 (by decide))
  ·exact fun _ hz=>uh W F Z fr _ _ L _ _ _ _ _ _ _ _ _ _ _ _ _ _ _ _ _ _ _ _ _ _ _ _ _ (jc (ji r5) (by decide)) ae hl (cF aa w5 p5) (jc (ji r5) (by decide)) _ _ _ (dl hz)
  ·exact jl ((w3+1)-1) (w3+1) (vY _) rfl (jc r5 (by decide)) (jH s3) s3
  ·exact jl p3 ((w3+1)-1) rfl (vY _) (jc r5 (by decide)) (jc a3.1.1 (jH s3)) (jH s3)
  ·exact kf _ _ _ _ (jc r5 (by decide))
  ·exact fun _ hz=>uh W F Z fr _ _ L _ _ _ _ _ _ _ _ _ _ _ _ _ _ _ _ _ _ _ _ _ _ _ _ _ (jc (ji r5) (by decide)) ae hl ((cF aa w5 p5)++(cF aa w4 p4)) (jc (kz (ji r5) (ji r5)) (by decide)) _ _ _ (dl hz)
  ·exact jl ((w2+1)-1) (w2+1) (vY _) rfl (jc r5 (by decide)) (jH s2) s2
  ·exact jl p2 ((w2+1)-1) rfl (vY _) (jc r5 (by decide)) (jc a2.1.1 (jH s2)) (jH s2)
  ·exact kf _ _ _ _ (jc r5 (by decide))
  ·exact fun _ hz=>uh W F Z fr _ _ L _ _ _ _ _ _ _ _ _ _ _ _ _ _ _ _ _ _ _ _ _ _ _ _ _ (jc (ji r5) (by decide)) ae hl (((cF aa w5 p5)++(cF aa w4 p4))++(cF aa w3 p3)) (jc (kz (kz (ji r5) (ji r5)) (ji r5)) (by decide)) _ _ _ (dl hz)
  ·exact jl ((w1+1)-1) (w1+1) (vY _) rfl (jc r5 (by decide)) (jH s1) s1
  ·exact jl p1 ((w1+1)-1) rfl (vY _) (jc r5 (by decide)) (jc a1.1.1 (jH s1)) (jH s1)
  ·exact kf _ _ _ _ (jc r5 (by decide))
  ·exact fun _ hz=>uh W F Z fr _ _ L _ _ _ _ _ _ _ _ _ _ _ _ _ _ _ _ _ _ _ _ _ _ _ _ _ (jc (ji r5) (by decide)) ae hl ((((cF aa w5 p5)++(cF aa w4 p4))++(cF aa w3 p3))++(cF aa w2 p2)) (jc (kz (kz (kz (ji r5) (ji r5)) (ji r5)) (ji r5)) (by decide)) _ _ _ (dl hz)
  ·exact vj (w1+1) rfl (jc r5 (by decide)) s1
  ·exact fun _ hz=>yi W F Z fr _ _ L _ _ _ _ _ _ _ _ _ _ _ _ _ _ _ _ _ _ _ _ _ _ _ _ _ (jc (u7 _ _ _) (jc r5 (by decide))) ae (((((cF aa w5 p5)++(cF aa w4 p4))++(cF aa w3 p3))++(cF aa w2 p2))++(cF aa w1 p1)) (jc (kz (kz (kz (kz (ji r5) (ji r5)) (ji r5)) (ji r5)) (ji r5)) (by decide)) _ _ _ (dl hz)
  ) (fun _ _=>rfl)
 exact h.cS fun _ _=>rfl
end
def QH:=kg [0x1940b0b0b949300,YN,1735361432074,YN,452535102605834]
section
variable (P:Params) (L:jF) (ai:Tok) (l:Int) (p:Nat) (tp:Tok) (x:Str) (xt:Tok) (XS:List Value) (eX:Nat)
def gp:RD:=⟨[(L.aL,L.lex),(L.aD,(L.bc P l ai)),(L.aS,L.src),(L.aE,(L.b9 P)),(L.aF,L.fn),(L.aT,L.code),(L.bT,L.cT),(L.bU,L.cA),(L.bW,(j0 [vn p tp] L.ay)),(L.bw,(j0 (.str x xt::XS) eX))],[wi [9] (j7 1 1 (fI ((XS.length+1:Nat):Int))),wi [9] (Cq (vt x xt) XS eX)],mA 10 0 0 (fun a t=> .ok (.ret (vt x xt))) (fun a t=> [id,id,id,id,id,id,id,id,id,fun _=>(j0 XS (eX+1))]) (fun a t=> []),[],[],[],2,fun q qT qS A K=> [q 0 11 (.builtin "len" ⟨[.ref L.bw],[]⟩) [(L.bw,(j0 (.str x xt::XS) eX))],q 1 11 (cb "list.pop" [rf L.bw,vi 0 (K 4)]) [(L.bw,(j0 (.str x xt::XS) eX))]]⟩
theorem QI:GF P 11 49 [rf L.aL] (iK P) (gp P L ai l p tp x xt XS eX) (hk QH):=kF
end
theorem QJ (a:Args):denote table (.builtin "len" a)=Builtin.«len» a:=by
 rw [YH,entry_len]
set_option maxHeartbeats 1000000 in
theorem QK {w:World} {kt:KT} {d:Nat} {l:Addr} {xs:List Value} {e:Nat} (hx:xs.length≤1000000) {m:Nat} (hm:xs.length=m):
  j6 pw w kt (j7 1 1 fun ts=> .int ((m:Nat):Int) (ts.getD 0 0)) d (.builtin "len" ⟨[.ref l],[]⟩) [some (l,j0 xs e)]:=by
 subst hm
 refine .of ?_;intro A R s S Z hR
 have hl:=Z.own _ (.head _)
 have fi:xs.toArray.size=xs.length:=by simp
 refine Yf ?_
 rw [←nP,QJ]
 unfold Builtin.«len»
 refine wpAny_bind (m:=oneArg "len" _) (wpAny_pure ?_)
 refine wpAny_bind (m:=callSpecial? (.ref l) (Str.ofString "__len__")) (wpAny_callSpecial?_slot (name:=Str.ofString "__len__") (kG hl rfl) F.slot_list_len
  (wpAny_call_entry F.slot_list_len (kG hl rfl) F.entry_list_len ?_ (F.args_list_len_1 _)))
 show wpAny _ _ (do retInt (←seqSize l)) _ _ s
 unfold seqSize
 refine wpAny_bind (wpAny_bind (wpAny_load hl ?_))
 refine wpAny_pure (wpAny_bind (wpAny_mkInt (wpAny_pure ⟨_,rfl,?_⟩)))
 refine wpAny_bind (wpAny_holding (wpAny_pure ?_))
 refine wpAny_bind (wpAny_letGo ?_)
 show wpAny _ _ (if ((xs.toArray.size:Nat):Int)<0 then _ else _) _ _ _
 rw [if_neg (by lia)]
 show wpAny _ _ (if ((xs.toArray.size:Nat):Int)≥2^63 then _ else _) _ _ _
 rw [if_neg (by lia)]
 rw [fi]
 exact wpAny_bind (wpAny_mkInt (wpAny_pure (hR _ [] [s.toks+1] rfl rfl (uz (n:=s.toks+1+1) rfl Z))))
theorem QL {w:World} {kt:KT} {d:Nat} {l:Addr} {v:Value} {XS:List Value} {e:Nat} {t:Tok} (hx:XS.length≤1000):
  j6 pw w kt (Cq v XS e) d (.call (.builtin "list.pop") ⟨[.ref l,.int 0 t],[]⟩) [some (l,j0 (v::XS) e)]:=by
 refine .of ?_;intro A R s S Z hR
 have hl:=Z.own _ (.head _)
 refine uu F.slot_list_pop (kG hl rfl) F.entry_list_pop (F.args_list_pop_2 _ _) (MeetsSeq.list_pop_at l (v::XS).toArray e 0 t 0 v (by decide+kernel) (by rw [YL (i:=0) (by decide) (by simp)];rfl) (by simp) (by have e:sizeLine=16777216:=rfl;simp;lia)) _ _ _ _ ⟨hl,?_⟩
 have g1:=Heap.get?_update_self (Obj.mapSeq fun xs=>xs.eraseIdxIfInBounds 0) hl rfl
 refine hR _ [] [] rfl rfl (VV (n:=s.toks) (o':=j0 XS (e+1)) Z (Heap.SameBut.update ..) ?_ rfl rfl rfl rfl)
 rw [g1]
 have e1:((v::XS).toArray.eraseIdxIfInBounds 0)=XS.toArray:=by simp [Array.eraseIdxIfInBounds]
 show some (⟨_,_,.seq ((v::XS).toArray.eraseIdxIfInBounds 0) (if ((v::XS).toArray.eraseIdxIfInBounds 0).size==(v::XS).toArray.size then e else e+1),_⟩:Obj)=some ⟨_,_,.seq XS.toArray (e+1),_⟩
 rw [e1,if_neg (by simp)]
def kh (L:jF) (P:Params) (l:Int) (lt:Tok) (p:Nat) (tp:Tok) (XS:List Value) (e:Nat):List (Addr×Obj):=L.vs P l lt p tp++ [(L.bw,j0 XS e)]
def kK (v:Value) (XS:List Value) (e:Nat):jZ:={ids:=List.range 10,na:=0,nt:=0,res:=fun _ _=> .ok (.ret v),upd:=fun _ _=> [id,id,id,id,id,id,id,id,id,fun _=>j0 XS (e+1)],new:=fun _ _=> []}
theorem kM (W:World) (L:jF) (l:Int) (lt:Tok) (p:Nat) (tp:Tok) (x:Str) (xt:Tok) (XS:List Value) (e:Nat) (hx:XS.length≤1000):
  j6 pw W (jB W.params) (kK (.str x xt) XS e) 12 (.call (.ref 49) ⟨[.ref L.aL],[]⟩) ((kh L W.params l lt p tp (.str x xt::XS) e).map some):=by
 have h:=uM (w:=W) (QI W.params L lt l p tp x xt XS e) (.inl (n' _)) (by
  intro A K
  walk_at "ob"
  ·exact j6.at (QK (by simp;lia) (by simp)) (Nat.le_refl _) rfl rfl
  ·exact QL hx)
 exact h.cv (fun ts=> []) fun _ _=>rfl
def QM:=kg [g',sA,oB]
def QN:=kg [z8,oB]
def QO:=kg [g',sA,g',1803198851234,oB]
def QP:=kg [z8,g',1803198851234,oB]
abbrev nv (x0:Qa) (x1:Nat) (x3:Addr) (x4:Nat) (x5:Nat→Tok) (x6:Nat) (x7:Nat→Nat) (x9 aB bF aK bV:Tok) (bB:Nat):=x0 x1 13 (cb "list.__getitem__" [(rf x3),(vi (((x4:Nat):Int)-1) (x5 x6))]) [(x3,(j0 [(vt (jb (x7 0)) x9),(vt (jb (x7 1)) aB),(vt (jb (x7 2)) bF),(vt (jb (x7 3)) aK),(vt (jb (x7 4)) bV)] bB))]
abbrev ql (x0:Qa) (x1:Nat) (x3:Addr) (x4:Nat) (x5:Nat→Tok) (x6:Nat) (x7:Nat→Nat) (x9 aB bF aK:Tok) (bS:Nat):=x0 x1 13 (cb "list.__getitem__" [(rf x3),(vi (((x4:Nat):Int)-1) (x5 x6))]) [(x3,(j0 [(vt (jb (x7 0)) x9),(vt (jb (x7 1)) aB),(vt (jb (x7 2)) bF),(vt (jb (x7 3)) aK)] bS))]
abbrev fP (x0:Addr) (x1:Nat→Nat) (x2:Bool) (x3 x4:Nat):=cb "list.append" [(rf x0),(.bool (jR x1 x2 x3 x4))]
abbrev fQ (x2:Nat→Nat) (x3:Nat):=j7 1 1 (fS (jb (x2 (x3-1))))
section
variable (P:Params) (R:Nat→Nat) (ah:Bool) (size:Nat) (fr aI lW d dn cU dm lR:Addr) (az cx cy cz cu:Tok) (eR:Nat) (dT:Tok)
def CA:RD:=⟨[(aI,(fo "list_iterator" [rf lR,vi 0 0])),(lW,(j0 [] 0)),(d,dE),(dn,(j8 (vn size az))),(cU,(j8 (rf lR))),(dm,(j8 (.bool ah))),(lR,(j0 [vt (jb (R 0)) cx,vt (jb (R 1)) cy,vt (jb (R 2)) cz,vt (jb (R 3)) cu] eR))],[wi [6] (fQ R size),wi [1] (vm (.bool (jR R ah size 0))),wi [6] (fQ R size),wi [1] (vm (.bool (jR R ah size 1))),wi [6] (fQ R size),wi [1] (vm (.bool (jR R ah size 2))),wi [6] (fQ R size),wi [1] (vm (.bool (jR R ah size 3)))],mA 7 0 1 (fun a t=> .ok .next) (fun a t=> [fun _=>(fo "list_iterator" [.none,(vi 4 0)]),fun _=>(kd (.bool (jR R ah size 3)) (kd (.bool (jR R ah size 2)) (kd (.bool (jR R ah size 1)) (kd (.bool (jR R ah size 0)) (j0 [] 0))))),fun _=>(dO "dict" [(de P [119,111,114,100] (t 0) (vt (jb (R 3)) cu))] 1),id,id,id,id]) (fun a t=> []),[],[0],[],8,fun q qT qS A K=> [ql q 0 lR size K 2 R cx cy cz cu eR,q 1 13 (fP lW R ah size 0) [(lW,(j0 [] 0))],ql q 2 lR size K 6 R cx cy cz cu eR,q 3 13 (fP lW R ah size 1) [(lW,(kd (.bool (jR R ah size 0)) (j0 [] 0)))],ql q 4 lR size K 10 R cx cy cz cu eR,q 5 13 (fP lW R ah size 2) [(lW,(kd (.bool (jR R ah size 1)) (kd (.bool (jR R ah size 0)) (j0 [] 0))))],ql q 6 lR size K 14 R cx cy cz cu eR,q 7 13 (fP lW R ah size 3) [(lW,(kd (.bool (jR R ah size 2)) (kd (.bool (jR R ah size 1)) (kd (.bool (jR R ah size 0)) (j0 [] 0)))))]]⟩
theorem QQ:GC P 14 (.compStart lF 0 (rf aI) (rf lW) (nh d dn cU dm fr)) (CA P R ah size aI lW d dn cU dm lR az cx cy cz cu eR) (hb QM QN):=mi
def CB:RD:=⟨[(aI,(fo "list_iterator" [rf lR,vi 0 0])),(lW,(j0 [] 0)),(d,dE),(dn,(j8 (vn size az))),(cU,(j8 (rf lR))),(dm,(j8 (.bool ah))),(lR,(j0 [vt (jb (R 0)) cx,vt (jb (R 1)) cy,vt (jb (R 2)) cz,vt (jb (R 3)) cu,vt (jb (R 4)) dT] eR))],[wi [6] (fQ R size),wi [1] (vm (.bool (jR R ah size 0))),wi [6] (fQ R size),wi [1] (vm (.bool (jR R ah size 1))),wi [6] (fQ R size),wi [1] (vm (.bool (jR R ah size 2))),wi [6] (fQ R size),wi [1] (vm (.bool (jR R ah size 3))),wi [6] (fQ R size),wi [1] (vm (.bool (jR R ah size 4)))],mA 7 0 1 (fun a t=> .ok .next) (fun a t=> [fun _=>(fo "list_iterator" [.none,(vi 5 0)]),fun _=>(kd (.bool (jR R ah size 4)) (kd (.bool (jR R ah size 3)) (kd (.bool (jR R ah size 2)) (kd (.bool (jR R ah size 1)) (kd (.bool (jR R ah size 0)) (j0 [] 0)))))),fun _=>(dO "dict" [(de P [119,111,114,100] (t 0) (vt (jb (R 4)) dT))] 1),id,id,id,id]) (fun a t=> []),[],[0],[],10,fun q qT qS A K=> [nv q 0 lR size K 2 R cx cy cz cu dT eR,q 1 13 (fP lW R ah size 0) [(lW,(j0 [] 0))],nv q 2 lR size K 6 R cx cy cz cu dT eR,q 3 13 (fP lW R ah size 1) [(lW,(kd (.bool (jR R ah size 0)) (j0 [] 0)))],nv q 4 lR size K 10 R cx cy cz cu dT eR,q 5 13 (fP lW R ah size 2) [(lW,(kd (.bool (jR R ah size 1)) (kd (.bool (jR R ah size 0)) (j0 [] 0))))],nv q 6 lR size K 14 R cx cy cz cu dT eR,q 7 13 (fP lW R ah size 3) [(lW,(kd (.bool (jR R ah size 2)) (kd (.bool (jR R ah size 1)) (kd (.bool (jR R ah size 0)) (j0 [] 0)))))],nv q 8 lR size K 18 R cx cy cz cu dT eR,q 9 13 (fP lW R ah size 4) [(lW,(kd (.bool (jR R ah size 3)) (kd (.bool (jR R ah size 2)) (kd (.bool (jR R ah size 1)) (kd (.bool (jR R ah size 0)) (j0 [] 0))))))]]⟩
theorem QR:GC P 14 (.compStart lF 0 (rf aI) (rf lW) (nh d dn cU dm fr)) (CB P R ah size aI lW d dn cU dm lR az cx cy cz cu eR dT) (hb QO QP):=mi
end
def kj (R:Nat→Nat) (rt:Nat→Tok) (n:Nat):List Value:=(List.range n).map fun k=> .str (jb (R k)) (rt k)
theorem jC {W:World} {kt:KT} {d:Nat} {l:Addr} {e:Nat} {x:Int} {t:Tok} (R:Nat→Nat) (rt:Nat→Tok) (n j:Nat) (hj:j<n) (hn:n≤5) (hx:x=(j:Int)):
  j6 pw W kt (j7 1 1 fun ts=> .str (jb (R j)) (ts.getD 0 0)) d (.call (.builtin "list.__getitem__") ⟨[.ref l,.int x t],[]⟩) [some (l,j0 (kj R rt n) e)]:=by
 subst hx
 refine uk (res:=fun ts=> .str (jb (R j)) (ts.getD 0 0)) (ts:= [rt j]) rfl (by lia) (by lia) ?_
 rw [Int.toNat_natCast]
 simp [kj,hj]
theorem qm (W:World) (R:Nat→Nat) (ah:Bool) (size:Nat) (h2:2≤size) (hs:size≤4) (fr aI lW d dn cU dm lR:Addr) (az:Tok) (rt:Nat→Tok) (eR:Nat):j6 pw W (jB W.params) (Ve W.params R ah size 4 (.str (jb (R 3)) (rt 3))) 14 (.compStart lF 0 (.ref aI) (.ref lW) (nh d dn cU dm fr)) [some (aI,kc lR 0),some (lW,j0 [] 0),some (d,dE),some (dn,j8 (.int ((size:Nat):Int) az)),some (cU,j8 (.ref lR)),some (dm,j8 (.bool ah)),some (lR,(j0 (kj R rt 4) eR))]:=by
 have h:=jY (w:=W) (QQ W.params R ah size fr aI lW d dn cU dm lR az (rt 0) (rt 1) (rt 2) (rt 3) eR) (by
  intro A K
  walk_at "ob"
  ·exact jC R rt 4 (size-1) (by lia) (Nat.le_succ _) (by lia)
  ·try simp only [jy]
   exact uH (by simp)
  ·exact jC R rt 4 (size-1) (by lia) (Nat.le_succ _) (by lia)
  ·try simp only [jy]
   exact uH (by simp)
  ·exact jC R rt 4 (size-1) (by lia) (Nat.le_succ _) (by lia)
  ·try simp only [jy]
   exact uH (by simp)
  ·exact jC R rt 4 (size-1) (by lia) (Nat.le_succ _) (by lia)
  ·try simp only [jy]
   exact uH (by simp)
  )
 refine h.conv (Nat.le_refl _) rfl fun as ts la lt'=>⟨ts,lt',rfl,rfl,?_,rfl⟩
 simp only [CA,mA,jy]
 rfl
theorem qn (W:World) (R:Nat→Nat) (ah:Bool) (size:Nat) (h2:2≤size) (hs:size≤5) (fr aI lW d dn cU dm lR:Addr) (az:Tok) (rt:Nat→Tok) (eR:Nat):j6 pw W (jB W.params) (Ve W.params R ah size 5 (.str (jb (R 4)) (rt 4))) 14 (.compStart lF 0 (.ref aI) (.ref lW) (nh d dn cU dm fr)) [some (aI,kc lR 0),some (lW,j0 [] 0),some (d,dE),some (dn,j8 (.int ((size:Nat):Int) az)),some (cU,j8 (.ref lR)),some (dm,j8 (.bool ah)),some (lR,(j0 (kj R rt 5) eR))]:=by
 have h:=jY (w:=W) (QR W.params R ah size fr aI lW d dn cU dm lR az (rt 0) (rt 1) (rt 2) (rt 3) eR (rt 4)) (by
  intro A K
  walk_at "ob"
  ·exact jC R rt 5 (size-1) (by lia) (Nat.le_refl _) (by lia)
  ·try simp only [jy]
   exact uH (by simp)
  ·exact jC R rt 5 (size-1) (by lia) (Nat.le_refl _) (by lia)
  ·try simp only [jy]
   exact uH (by simp)
  ·exact jC R rt 5 (size-1) (by lia) (Nat.le_refl _) (by lia)
  ·try simp only [jy]
   exact uH (by simp)
  ·exact jC R rt 5 (size-1) (by lia) (Nat.le_refl _) (by lia)
  ·try simp only [jy]
   exact uH (by simp)
  ·exact jC R rt 5 (size-1) (by lia) (Nat.le_refl _) (by lia)
  ·try simp only [jy]
   exact uH (by simp)
  )
 refine h.conv (Nat.le_refl _) rfl fun as ts la lt'=>⟨ts,lt',rfl,rfl,?_,rfl⟩
 simp only [CB,mA,jy]
 rfl
noncomputable def jf (R:Nat→Nat) (w:Nat→Int) (tn:Int):Nat→List Nat
 |0=> []
 |k+1=>jf R w tn k++jN (R k) (w k+21*tn)
def jM (R:Nat→Nat) (w:Nat→Int) (tn:Int) (n:Nat):List Nat:=if Int.fmod tn 2==1 then (jf R w tn n).dropLast else jf R w tn n
def ja (R:Nat→Nat) (w:Nat→Int) (tn:Int) (n k:Nat):Nat:=if k=n then (jM R w tn n).length else (jf R w tn k).length
def uT (R:Nat→Nat) (w:Nat→Int) (tn:Int) (n:Nat):jZ:={ids:=List.range 2,na:=2,nt:=n+2,res:=fun as _=> .ok (.ret (.ref (as.getD 0 0))),upd:=fun _ _=> [id,id],new:=fun as ts=> [⟨.type "tuple",none,.seq #[.str (jk (jM R w tn n)) (ts.getD 0 0),.ref (as.getD 1 0)] 0,#[]⟩,⟨.type "list",none,.seq ((List.range (n+1)).map fun k=>Value.int ((ja R w tn n k:Nat):Int) (ts.getD (k+1) 0)).toArray n,#[]⟩]}
def QT:=kg [oC,oD,6761415641]
def QU:=kg [oC,oD,0x193030304040404910404d69403a7030000030394a693d69403d8]
def QV:=kg [oC,mF,108454,iV,424,oD,6761415641]
def QW:=kg [oC,mF,108454,iV,424,oD,0x193030304040404910404d69403aa030000030394a993d69403d8]
abbrev uR (x0:Qa) (x1:Nat) (x3:Nat→Nat) (x4:Nat) (x5:Tok) (x6:Nat→Int) (x8:Int) (x9:Nat→Tok) (aJ:Nat):=x0 x1 18 (cr 77 [(vt (jb (x3 x4)) x5),(vi ((x6 x4)+(21*x8)) (x9 aJ))]) []
abbrev uS (x2:Nat→Nat) (x3:Nat) (x4:Nat→Int) (x6:Int):=j7 0 1 (fS (jq (x2 x3) (x4 x3+(21*x6))))
abbrev Um (x0:Nat→Nat) (x1:Nat) (x2:Nat→Int) (x4:Int) (x5:Nat→Tok) (x6:Nat):=vt (jq (x0 x1) (x2 x1+(21*x4))) (x5 x6)
abbrev qo (x0:Qa) (x3:Nat→Nat) (x4:Nat→Int) (x5:Int) (x6:Nat→Tok):=x0 10 18 (cb "str.__add__" [(vt (jk (jf x3 x4 x5 3)) (x6 35)),(Um x3 3 x4 x5 x6 43)]) []
abbrev qp (x0:Qa) (x3:Nat→Nat) (x4:Nat→Int) (x5:Int) (x6:Nat→Tok):=x0 4 18 (cb "str.__add__" [(vt (jk (jf x3 x4 x5 1)) (x6 17)),(Um x3 1 x4 x5 x6 25)]) []
abbrev qq (x0:Qa) (x3:Nat→Nat) (x4:Nat→Int) (x5:Int) (x6:Nat→Tok):=x0 7 18 (cb "str.__add__" [(vt (jk (jf x3 x4 x5 2)) (x6 26)),(Um x3 2 x4 x5 x6 34)]) []
section
variable (P:Params) (R:Nat→Nat) (w:Nat→Int) (cx cy cz cu gn gq gr gs:Tok) (e1 e2:Nat) (aR aW:Addr) (bJ:Tok) (tn:Int) (dT qu:Tok)
def QX:RD:=⟨[(aR,(j0 [vt (jb (R 0)) cx,vt (jb (R 1)) cy,vt (jb (R 2)) cz,vt (jb (R 3)) cu] e1)),(aW,(j0 [vi (w 0) gn,vi (w 1) gq,vi (w 2) gr,vi (w 3) gs] e2))],[wi [] (uS R 0 w tn),wi [] (j7 0 1 (fS (jk (jf R w tn 1)))),wi [] (j7 0 1 (fI (((jk (jf R w tn 1)).length:Nat):Int))),wi [] (uS R 1 w tn),wi [] (j7 0 1 (fS (jk (jf R w tn 2)))),wi [] (j7 0 1 (fI (((jk (jf R w tn 2)).length:Nat):Int))),wi [] (uS R 2 w tn),wi [] (j7 0 1 (fS (jk (jf R w tn 3)))),wi [] (j7 0 1 (fI (((jk (jf R w tn 3)).length:Nat):Int))),wi [] (uS R 3 w tn),wi [] (j7 0 1 (fS (jk (jf R w tn 4)))),wi [] (j7 0 1 (fI (((jk (jf R w tn 4)).length:Nat):Int)))],mA 2 2 6 (fun a t=> .ok (.ret (rf (a 0)))) (fun a t=>(List.replicate 2 id)) (fun a t=> [(sq "tuple" [(vt (jk (jf R w tn 4)) (t 0)),(rf (a 1))] 0),(j0 [(vi 0 (t 1)),(vn (jk (jf R w tn 1)).length (t 2)),(vn (jk (jf R w tn 2)).length (t 3)),(vn (jk (jf R w tn 3)).length (t 4)),(vn (jk (jf R w tn 4)).length (t 5))] 4)]),[8,3],[44,5,19,28,37,46],[],17,fun q qT qS A K=> [IntMulOk 21 tn,uR q 0 R 0 cx w tn K 15,q 1 18 (cb "str.__add__" [vt (sl []) (K 3),Um R 0 w tn K 16]) [],q 2 18 (cb "len" [vt (jk (jf R w tn 1)) (K 17)]) [],IntMulOk 21 tn,uR q 3 R 1 cy w tn K 24,qp q R w tn K,q 5 18 (cb "len" [vt (jk (jf R w tn 2)) (K 26)]) [],IntMulOk 21 tn,uR q 6 R 2 cz w tn K 33,qq q R w tn K,q 8 18 (cb "len" [vt (jk (jf R w tn 3)) (K 35)]) [],IntMulOk 21 tn,uR q 9 R 3 cu w tn K 42,qo q R w tn K,q 11 18 (cb "len" [vt (jk (jf R w tn 4)) (K 44)]) [],((Int.fmod tn 2)==1)=false]⟩
theorem QY:GF P 19 84 [rf aR,rf aW,vi tn bJ] (iL P) (QX R w cx cy cz cu gn gq gr gs e1 e2 aR aW tn) (hk QT):=kF
def QZ:RD:=⟨[(aR,(j0 [vt (jb (R 0)) cx,vt (jb (R 1)) cy,vt (jb (R 2)) cz,vt (jb (R 3)) cu] e1)),(aW,(j0 [vi (w 0) gn,vi (w 1) gq,vi (w 2) gr,vi (w 3) gs] e2))],[wi [] (uS R 0 w tn),wi [] (j7 0 1 (fS (jk (jf R w tn 1)))),wi [] (j7 0 1 (fI (((jk (jf R w tn 1)).length:Nat):Int))),wi [] (uS R 1 w tn),wi [] (j7 0 1 (fS (jk (jf R w tn 2)))),wi [] (j7 0 1 (fI (((jk (jf R w tn 2)).length:Nat):Int))),wi [] (uS R 2 w tn),wi [] (j7 0 1 (fS (jk (jf R w tn 3)))),wi [] (j7 0 1 (fI (((jk (jf R w tn 3)).length:Nat):Int))),wi [] (uS R 3 w tn),wi [] (j7 0 1 (fS (jk (jf R w tn 4)))),wi [] (j7 0 1 (fI (((jk (jf R w tn 4)).length:Nat):Int))),wi [8] (j7 1 1 (fS (jk (jf R w tn 4).dropLast))),wi [] (j7 0 1 (fI (((jk (jf R w tn 4).dropLast).length:Nat):Int)))],mA 2 2 6 (fun a t=> .ok (.ret (rf (a 0)))) (fun a t=>(List.replicate 2 id)) (fun a t=> [(sq "tuple" [(vt (jk (jf R w tn 4).dropLast) (t 0)),(rf (a 1))] 0),(j0 [(vi 0 (t 1)),(vn (jk (jf R w tn 1)).length (t 2)),(vn (jk (jf R w tn 2)).length (t 3)),(vn (jk (jf R w tn 3)).length (t 4)),(vn (jk (jf R w tn 4).dropLast).length (t 5))] 4)]),[9,3],[52,5,19,28,37,54],[],19,fun q qT qS A K=> [IntMulOk 21 tn,uR q 0 R 0 cx w tn K 15,q 1 18 (cb "str.__add__" [vt (sl []) (K 3),Um R 0 w tn K 16]) [],q 2 18 (cb "len" [vt (jk (jf R w tn 1)) (K 17)]) [],IntMulOk 21 tn,uR q 3 R 1 cy w tn K 24,qp q R w tn K,q 5 18 (cb "len" [vt (jk (jf R w tn 2)) (K 26)]) [],IntMulOk 21 tn,uR q 6 R 2 cz w tn K 33,qq q R w tn K,q 8 18 (cb "len" [vt (jk (jf R w tn 3)) (K 35)]) [],IntMulOk 21 tn,uR q 9 R 3 cu w tn K 42,qo q R w tn K,q 11 18 (cb "len" [vt (jk (jf R w tn 4)) (K 44)]) [],((Int.fmod tn 2)==1)=true,q 12 19 (cb "str.__getitem__" [vt (jk (jf R w tn 4)) (K 44),rf (A 8)]) [((A 8),(fo "slice" [.none,vi (-1) (K 51),.none]))],q 13 19 (cb "len" [vt (jk (jf R w tn 4).dropLast) (K 52)]) []]⟩
theorem Q0:GF P 19 84 [rf aR,rf aW,vi tn bJ] (iL P) (QZ R w cx cy cz cu gn gq gr gs e1 e2 aR aW tn) (hk QU):=kF
def Q1:RD:=⟨[(aR,(j0 [vt (jb (R 0)) cx,vt (jb (R 1)) cy,vt (jb (R 2)) cz,vt (jb (R 3)) cu,vt (jb (R 4)) dT] e1)),(aW,(j0 [vi (w 0) gn,vi (w 1) gq,vi (w 2) gr,vi (w 3) gs,vi (w 4) qu] e2))],[wi [] (uS R 0 w tn),wi [] (j7 0 1 (fS (jk (jf R w tn 1)))),wi [] (j7 0 1 (fI (((jk (jf R w tn 1)).length:Nat):Int))),wi [] (uS R 1 w tn),wi [] (j7 0 1 (fS (jk (jf R w tn 2)))),wi [] (j7 0 1 (fI (((jk (jf R w tn 2)).length:Nat):Int))),wi [] (uS R 2 w tn),wi [] (j7 0 1 (fS (jk (jf R w tn 3)))),wi [] (j7 0 1 (fI (((jk (jf R w tn 3)).length:Nat):Int))),wi [] (uS R 3 w tn),wi [] (j7 0 1 (fS (jk (jf R w tn 4)))),wi [] (j7 0 1 (fI (((jk (jf R w tn 4)).length:Nat):Int))),wi [] (uS R 4 w tn),wi [] (j7 0 1 (fS (jk (jf R w tn 5)))),wi [] (j7 0 1 (fI (((jk (jf R w tn 5)).length:Nat):Int)))],mA 2 2 7 (fun a t=> .ok (.ret (rf (a 0)))) (fun a t=>(List.replicate 2 id)) (fun a t=> [(sq "tuple" [(vt (jk (jf R w tn 5)) (t 0)),(rf (a 1))] 0),(j0 [(vi 0 (t 1)),(vn (jk (jf R w tn 1)).length (t 2)),(vn (jk (jf R w tn 2)).length (t 3)),(vn (jk (jf R w tn 3)).length (t 4)),(vn (jk (jf R w tn 4)).length (t 5)),(vn (jk (jf R w tn 5)).length (t 6))] 5)]),[8,3],[53,5,19,28,37,46,55],[],21,fun q qT qS A K=> [IntMulOk 21 tn,uR q 0 R 0 cx w tn K 15,q 1 18 (cb "str.__add__" [vt (sl []) (K 3),Um R 0 w tn K 16]) [],q 2 18 (cb "len" [vt (jk (jf R w tn 1)) (K 17)]) [],IntMulOk 21 tn,uR q 3 R 1 cy w tn K 24,qp q R w tn K,q 5 18 (cb "len" [vt (jk (jf R w tn 2)) (K 26)]) [],IntMulOk 21 tn,uR q 6 R 2 cz w tn K 33,qq q R w tn K,q 8 18 (cb "len" [vt (jk (jf R w tn 3)) (K 35)]) [],IntMulOk 21 tn,uR q 9 R 3 cu w tn K 42,qo q R w tn K,q 11 18 (cb "len" [vt (jk (jf R w tn 4)) (K 44)]) [],IntMulOk 21 tn,uR q 12 R 4 dT w tn K 51,q 13 18 (cb "str.__add__" [vt (jk (jf R w tn 4)) (K 44),Um R 4 w tn K 52]) [],q 14 18 (cb "len" [vt (jk (jf R w tn 5)) (K 53)]) [],((Int.fmod tn 2)==1)=false]⟩
theorem Q2:GF P 19 84 [rf aR,rf aW,vi tn bJ] (iL P) (Q1 R w cx cy cz cu gn gq gr gs e1 e2 aR aW tn dT qu) (hk QV):=kF
def Q3:RD:=⟨[(aR,(j0 [vt (jb (R 0)) cx,vt (jb (R 1)) cy,vt (jb (R 2)) cz,vt (jb (R 3)) cu,vt (jb (R 4)) dT] e1)),(aW,(j0 [vi (w 0) gn,vi (w 1) gq,vi (w 2) gr,vi (w 3) gs,vi (w 4) qu] e2))],[wi [] (uS R 0 w tn),wi [] (j7 0 1 (fS (jk (jf R w tn 1)))),wi [] (j7 0 1 (fI (((jk (jf R w tn 1)).length:Nat):Int))),wi [] (uS R 1 w tn),wi [] (j7 0 1 (fS (jk (jf R w tn 2)))),wi [] (j7 0 1 (fI (((jk (jf R w tn 2)).length:Nat):Int))),wi [] (uS R 2 w tn),wi [] (j7 0 1 (fS (jk (jf R w tn 3)))),wi [] (j7 0 1 (fI (((jk (jf R w tn 3)).length:Nat):Int))),wi [] (uS R 3 w tn),wi [] (j7 0 1 (fS (jk (jf R w tn 4)))),wi [] (j7 0 1 (fI (((jk (jf R w tn 4)).length:Nat):Int))),wi [] (uS R 4 w tn),wi [] (j7 0 1 (fS (jk (jf R w tn 5)))),wi [] (j7 0 1 (fI (((jk (jf R w tn 5)).length:Nat):Int))),wi [8] (j7 1 1 (fS (jk (jf R w tn 5).dropLast))),wi [] (j7 0 1 (fI (((jk (jf R w tn 5).dropLast).length:Nat):Int)))],mA 2 2 7 (fun a t=> .ok (.ret (rf (a 0)))) (fun a t=>(List.replicate 2 id)) (fun a t=> [(sq "tuple" [(vt (jk (jf R w tn 5).dropLast) (t 0)),(rf (a 1))] 0),(j0 [(vi 0 (t 1)),(vn (jk (jf R w tn 1)).length (t 2)),(vn (jk (jf R w tn 2)).length (t 3)),(vn (jk (jf R w tn 3)).length (t 4)),(vn (jk (jf R w tn 4)).length (t 5)),(vn (jk (jf R w tn 5).dropLast).length (t 6))] 5)]),[9,3],[61,5,19,28,37,46,63],[],23,fun q qT qS A K=> [IntMulOk 21 tn,uR q 0 R 0 cx w tn K 15,q 1 18 (cb "str.__add__" [vt (sl []) (K 3),Um R 0 w tn K 16]) [],q 2 18 (cb "len" [vt (jk (jf R w tn 1)) (K 17)]) [],IntMulOk 21 tn,uR q 3 R 1 cy w tn K 24,qp q R w tn K,q 5 18 (cb "len" [vt (jk (jf R w tn 2)) (K 26)]) [],IntMulOk 21 tn,uR q 6 R 2 cz w tn K 33,qq q R w tn K,q 8 18 (cb "len" [vt (jk (jf R w tn 3)) (K 35)]) [],IntMulOk 21 tn,uR q 9 R 3 cu w tn K 42,qo q R w tn K,q 11 18 (cb "len" [vt (jk (jf R w tn 4)) (K 44)]) [],IntMulOk 21 tn,uR q 12 R 4 dT w tn K 51,q 13 18 (cb "str.__add__" [vt (jk (jf R w tn 4)) (K 44),Um R 4 w tn K 52]) [],q 14 18 (cb "len" [vt (jk (jf R w tn 5)) (K 53)]) [],((Int.fmod tn 2)==1)=true,q 15 19 (cb "str.__getitem__" [vt (jk (jf R w tn 5)) (K 53),rf (A 8)]) [((A 8),(fo "slice" [.none,vi (-1) (K 60),.none]))],q 16 19 (cb "len" [vt (jk (jf R w tn 5).dropLast) (K 61)]) []]⟩
theorem Q4:GF P 19 84 [rf aR,rf aW,vi tn bJ] (iL P) (Q3 R w cx cy cz cu gn gq gr gs e1 e2 aR aW tn dT qu) (hk QW):=kF
end
theorem VP (r m:Nat):(VO r m).length≤4:=
 match r,m with
 |0,0|0,1|0,2|0,_+3|1,0|1,1|1,2|1,_+3|2,0|2,1|2,2|2,_+3|3,0|3,1|3,2|3,_+3|_+4,0|_+4,1|_+4,2|_+4,_+3=>Nat.le_of_ble_eq_true rfl
theorem Q5 (r:Nat) (w:Int):(jN r w).length≤10:=by
 have hl:(Up w).length≤2:=by
  unfold Up
  split<;>simp
 unfold jN
 split<;>simp only [List.length_append,List.length_cons,List.length_nil]
 ·exact jc (Nat.succ_le_succ (Nat.add_le_add (Nat.succ_le_succ hl) (VP r 0))) (by decide:8≤10)
 ·exact jc (Nat.succ_le_succ (Nat.add_le_add hl (VP r 1))) (by decide:7≤10)
 ·exact jc (Nat.succ_le_succ (Nat.add_le_add hl (VP r 2))) (by decide:7≤10)
 ·exact jc (Nat.succ_le_succ (Nat.add_le_add (Nat.succ_le_succ hl) (VP r 3))) (by decide:8≤10)
theorem UN (R:Nat→Nat) (w:Nat→Int) (tn:Int): ∀k,(jf R w tn k).length≤10*k
 |0=>by simp [jf]
 |k+1=>by
  have:=UN R w tn k
  have:=Q5 (R k) (w k+21*tn)
  simp only [jf,List.length_append]
  lia
theorem vh (R:Nat→Nat) (w:Nat→Int) (tn:Int) (k:Nat):jk (jf R w tn k)++jq (R k) (w k+21*tn)=jk (jf R w tn (k+1)):=kn _ _
theorem Q6 (l:List Nat):cut (jk l) 0 ((jk l).length-1)=jk l.dropLast:=by
 unfold cut jk
 show (⟨_⟩:Str)=⟨_⟩
 congr 1
 show ((l.toArray.toList.drop 0).take (l.toArray.size-1-0)).toArray=l.dropLast.toArray
 simp [List.dropLast_eq_take]
theorem Q7 (r:Nat) (w:Int):1≤(jN r w).length:=by
 unfold jN
 split<;>simp only [List.length_append,List.length_cons,List.length_nil]<;>exact Nat.succ_pos _
theorem CC (R:Nat→Nat) (w:Nat→Int) (tn:Int) (k:Nat):1≤(jf R w tn (k+1)).length:=by
 have:=Q7 (R k) (w k+21*tn)
 simp only [jf,List.length_append]
 lia
theorem uc {W:World} {kt:KT} {d:Nat} {x y z:Str} {t u:Tok} (e:x++y=z) (hz:z.length≤sizeLine):j6 pw W kt (j7 0 1 fun ts=> .str z (ts.getD 0 0)) d (.call (.builtin "str.__add__") ⟨[.str x t,.str y u],[]⟩) []:=by
 subst e
 refine .of ?_;intro A R s S Z hR
 exact rD hz pw W A R s (fun t n=>hR {s with toks:=n} [] [t] rfl rfl (uz (n:=n) rfl Z))
theorem Q8 (m:Nat) (h:1≤m):Builtin.Str.strSliceIndices none (some (-1)) 1 m=sliceRange ((0:Nat):Int) ((m-1:Nat):Int) 1:=by
 unfold Builtin.Str.strSliceIndices
 simp only [show (1:Int)>0 from by decide,if_true]
 have h1:(-1:Int)<0:=by decide
 simp only [h1,if_true]
 congr 1<;>lia
theorem CD {W:World} {kt:KT} {d:Nat} (l:List Nat) {t u:Tok} (a:Addr) (hl:(jk l).length≤1000000) (h1:1≤l.length):j6 pw W kt (j7 1 1 fun ts=> .str (jk l.dropLast) (ts.getD 0 0)) d (.call (.builtin "str.__getitem__") ⟨[.str (jk l) t,.ref a],[]⟩) [some (a,⟨.type "slice",none,.fields #[.none,.int (-1) u,.none],#[]⟩)]:=by
 have h:=xo (w:=W) (kt:=kt) (d:=d) (x:=jk l) (t:=t) (a:=a) (lo:=none) (hi:=some (-1,u)) 0 ((jk l).length-1) hl (Nat.sub_le _ _) (Q8 _ h1)
 rw [Q6] at h
 exact h
theorem VT (W:World) (R:Nat→Nat) (w:Nat→Int) (hR: ∀k,R k<5) (tn:Int) (ht:2≤tn∧tn≤7) (ic ie ig ik il ip iq iu tt:Tok) (e1 e2:Nat) (aR aW:Addr):j6 pw W (jB W.params) (uT R w tn 4) 20 (.call (.ref 84) ⟨[.ref aR,.ref aW,.int tn tt],[]⟩) [some (aR,⟨.type "list",none,.seq #[.str (jb (R 0)) ic,.str (jb (R 1)) ie,.str (jb (R 2)) ig,.str (jb (R 3)) ik] e1,#[]⟩),some (aW,⟨.type "list",none,.seq #[.int (w 0) il,.int (w 1) ip,.int (w 2) iq,.int (w 3) iu] e2,#[]⟩)]:=by
 have z:(⟨#[]⟩:Str)=jk (jf R w tn 0):=rfl
 have s0:=vh R w tn 0
 have s1:=vh R w tn 1
 have s2:=vh R w tn 2
 have s3:=vh R w tn 3
 have hm:IntMulOk 21 tn:=by
  have:tn=2∨tn=3∨tn=4∨tn=5∨tn=6∨tn=7:=by lia
  rcases this with rfl|rfl|rfl|rfl|rfl|rfl<;>(unfold IntMulOk;decide+kernel)
 have hs: ∀k,k≤5→(jk (jf R w tn k)).length≤sizeLine:=fun k hk=>by
  have:=UN R w tn k
  have e:sizeLine=16777216:=rfl
  show (jf R w tn k).length≤_
  lia
 have cQ: ∀k,k≤5→(jk (jf R w tn k)).length≤1000000:=fun k hk=>by
  have:=UN R w tn k
  show (jf R w tn k).length≤_
  lia
 by_cases hp:(Int.fmod tn 2==1)=true
 ·have h:=uM (w:=W) (Q0 W.params R w ic ie ig ik il ip iq iu e1 e2 aR aW tt tn) (.inl (oa _)) (by
   intro A K
   walk_at "ob"
   ·exact hm
   ·exact fun _ hz=>kN W (R 0) (hR 0) _ _ _ _ (dl hz)
   ·exact uc (s0) (hs 1 (by decide))
   ·exact k6 (cQ 1 (by decide))
   ·exact hm
   ·exact fun _ hz=>kN W (R 1) (hR 1) _ _ _ _ (dl hz)
   ·exact uc (s1) (hs 2 (by decide))
   ·exact k6 (cQ 2 (by decide))
   ·exact hm
   ·exact fun _ hz=>kN W (R 2) (hR 2) _ _ _ _ (dl hz)
   ·exact uc (s2) (hs 3 (by decide))
   ·exact k6 (cQ 3 (by decide))
   ·exact hm
   ·exact fun _ hz=>kN W (R 3) (hR 3) _ _ _ _ (dl hz)
   ·exact uc (s3) (hs 4 (by decide))
   ·exact k6 (cQ 4 (by decide))
   ·exact hp
   ·exact CD _ _ (cQ 4 (by decide)) (CC R w tn 3)
   ·refine (k6 ?_)
    have:=cQ 4 (by decide)
    show (jf R w tn 4).dropLast.length≤_
    have h2:(jf R w tn 4).length≤1000000:=this
    rw [List.length_dropLast];lia
   )
  refine h.conv (Nat.le_refl _) rfl fun as ts la lt'=>⟨ts,lt',rfl,rfl,rfl,?_⟩
  have hT:jM R w tn 4=(jf R w tn 4).dropLast:=by unfold jM;rw [if_pos hp]
  unfold uT ja
  rw [hT]
  rfl
 ·have h:=uM (w:=W) (QY W.params R w ic ie ig ik il ip iq iu e1 e2 aR aW tt tn) (.inl (oa _)) (by
   intro A K
   walk_at "ob"
   ·exact hm
   ·exact fun _ hz=>kN W (R 0) (hR 0) _ _ _ _ (dl hz)
   ·exact uc (s0) (hs 1 (by decide))
   ·exact k6 (cQ 1 (by decide))
   ·exact hm
   ·exact fun _ hz=>kN W (R 1) (hR 1) _ _ _ _ (dl hz)
   ·exact uc (s1) (hs 2 (by decide))
   ·exact k6 (cQ 2 (by decide))
   ·exact hm
   ·exact fun _ hz=>kN W (R 2) (hR 2) _ _ _ _ (dl hz)
   ·exact uc (s2) (hs 3 (by decide))
   ·exact k6 (cQ 3 (by decide))
   ·exact hm
   ·exact fun _ hz=>kN W (R 3) (hR 3) _ _ _ _ (dl hz)
   ·exact uc (s3) (hs 4 (by decide))
   ·exact k6 (cQ 4 (by decide))
   ·exact Bool.eq_false_iff.mpr hp
   )
  refine h.conv (Nat.le_refl _) rfl fun as ts la lt'=>⟨ts,lt',rfl,rfl,rfl,?_⟩
  have hT:jM R w tn 4=jf R w tn 4:=by unfold jM;rw [if_neg hp]
  unfold uT ja
  rw [hT]
  rfl
theorem VU (W:World) (R:Nat→Nat) (w:Nat→Int) (hR: ∀k,R k<5) (tn:Int) (ht:2≤tn∧tn≤7) (ic ie ig ik tM il ip iq iu tN tt:Tok) (e1 e2:Nat) (aR aW:Addr):j6 pw W (jB W.params) (uT R w tn 5) 20 (.call (.ref 84) ⟨[.ref aR,.ref aW,.int tn tt],[]⟩) [some (aR,⟨.type "list",none,.seq #[.str (jb (R 0)) ic,.str (jb (R 1)) ie,.str (jb (R 2)) ig,.str (jb (R 3)) ik,.str (jb (R 4)) tM] e1,#[]⟩),some (aW,⟨.type "list",none,.seq #[.int (w 0) il,.int (w 1) ip,.int (w 2) iq,.int (w 3) iu,.int (w 4) tN] e2,#[]⟩)]:=by
 have z:(⟨#[]⟩:Str)=jk (jf R w tn 0):=rfl
 have s0:=vh R w tn 0
 have s1:=vh R w tn 1
 have s2:=vh R w tn 2
 have s3:=vh R w tn 3
 have s4:=vh R w tn 4
 have hm:IntMulOk 21 tn:=by
  have:tn=2∨tn=3∨tn=4∨tn=5∨tn=6∨tn=7:=by lia
  rcases this with rfl|rfl|rfl|rfl|rfl|rfl<;>(unfold IntMulOk;decide+kernel)
 have hs: ∀k,k≤5→(jk (jf R w tn k)).length≤sizeLine:=fun k hk=>by
  have:=UN R w tn k
  have e:sizeLine=16777216:=rfl
  show (jf R w tn k).length≤_
  lia
 have cQ: ∀k,k≤5→(jk (jf R w tn k)).length≤1000000:=fun k hk=>by
  have:=UN R w tn k
  show (jf R w tn k).length≤_
  lia
 by_cases hp:(Int.fmod tn 2==1)=true
 ·have h:=uM (w:=W) (Q4 W.params R w ic ie ig ik il ip iq iu e1 e2 aR aW tt tn tM tN) (.inl (oa _)) (by
   intro A K
   walk_at "ob"
   ·exact hm
   ·exact fun _ hz=>kN W (R 0) (hR 0) _ _ _ _ (dl hz)
   ·exact uc (s0) (hs 1 (by decide))
   ·exact k6 (cQ 1 (by decide))
   ·exact hm
   ·exact fun _ hz=>kN W (R 1) (hR 1) _ _ _ _ (dl hz)
   ·exact uc (s1) (hs 2 (by decide))
   ·exact k6 (cQ 2 (by decide))
   ·exact hm
   ·exact fun _ hz=>kN W (R 2) (hR 2) _ _ _ _ (dl hz)
   ·exact uc (s2) (hs 3 (by decide))
   ·exact k6 (cQ 3 (by decide))
   ·exact hm
   ·exact fun _ hz=>kN W (R 3) (hR 3) _ _ _ _ (dl hz)
   ·exact uc (s3) (hs 4 (by decide))
   ·exact k6 (cQ 4 (by decide))
   ·exact hm
   ·exact fun _ hz=>kN W (R 4) (hR 4) _ _ _ _ (dl hz)
   ·exact uc (s4) (hs 5 (by decide))
   ·exact k6 (cQ 5 (by decide))
   ·exact hp
   ·exact CD _ _ (cQ 5 (by decide)) (CC R w tn 4)
   ·refine (k6 ?_)
    have:=cQ 5 (by decide)
    show (jf R w tn 5).dropLast.length≤_
    have h2:(jf R w tn 5).length≤1000000:=this
    rw [List.length_dropLast];lia
   )
  refine h.conv (Nat.le_refl _) rfl fun as ts la lt'=>⟨ts,lt',rfl,rfl,rfl,?_⟩
  have hT:jM R w tn 5=(jf R w tn 5).dropLast:=by unfold jM;rw [if_pos hp]
  unfold uT ja
  rw [hT]
  rfl
 ·have h:=uM (w:=W) (Q2 W.params R w ic ie ig ik il ip iq iu e1 e2 aR aW tt tn tM tN) (.inl (oa _)) (by
   intro A K
   walk_at "ob"
   ·exact hm
   ·exact fun _ hz=>kN W (R 0) (hR 0) _ _ _ _ (dl hz)
   ·exact uc (s0) (hs 1 (by decide))
   ·exact k6 (cQ 1 (by decide))
   ·exact hm
   ·exact fun _ hz=>kN W (R 1) (hR 1) _ _ _ _ (dl hz)
   ·exact uc (s1) (hs 2 (by decide))
   ·exact k6 (cQ 2 (by decide))
   ·exact hm
   ·exact fun _ hz=>kN W (R 2) (hR 2) _ _ _ _ (dl hz)
   ·exact uc (s2) (hs 3 (by decide))
   ·exact k6 (cQ 3 (by decide))
   ·exact hm
   ·exact fun _ hz=>kN W (R 3) (hR 3) _ _ _ _ (dl hz)
   ·exact uc (s3) (hs 4 (by decide))
   ·exact k6 (cQ 4 (by decide))
   ·exact hm
   ·exact fun _ hz=>kN W (R 4) (hR 4) _ _ _ _ (dl hz)
   ·exact uc (s4) (hs 5 (by decide))
   ·exact k6 (cQ 5 (by decide))
   ·exact Bool.eq_false_iff.mpr hp
   )
  refine h.conv (Nat.le_refl _) rfl fun as ts la lt'=>⟨ts,lt',rfl,rfl,rfl,?_⟩
  have hT:jM R w tn 5=jf R w tn 5:=by unfold jM;rw [if_neg hp]
  unfold uT ja
  rw [hT]
  rfl
def JL (R:Nat→Nat) (rt:Nat→Tok) (n:Nat):List (Str×Tok):=(List.range n).map fun k=>(jb (R k),rt k)
noncomputable def jS (w:Nat→Int) (wt:Nat→Tok) (n:Nat):List Value:=(List.range n).map fun k=> .int (w k) (wt k)
noncomputable def uY (l:List Tok) (k:Nat):Tok:=l.getD k 0
def CE (P:Params) (kI:Nat) (aY aZ:Int) (g f:Nat) (wS:Str) (ts:List Tok):Obj→Obj
 |⟨c,d,.dict es n,s⟩=>⟨c,d,.dict (mm (mm es.toList 8 (.int ((kI:Nat):Int) (ts.getD 0 0))) 10 (.int aY (ts.getD 14 0))++tC P Cm [ts.getD 1 0,ts.getD 2 0,ts.getD 3 0,ts.getD 4 0,ts.getD 5 0,ts.getD 7 0,ts.getD 9 0,ts.getD 10 0,ts.getD 11 0] [.ref (ts.getD 12 0),.none,.int aY (ts.getD 14 0),.int aZ (ts.getD 15 0),.int ((g:Nat):Int) (ts.getD 6 0),.int ((f:Nat):Int) (ts.getD 8 0),.int ((g:Nat):Int) (ts.getD 6 0),.ref (ts.getD 13 0),.str wS (ts.getD 16 0)]).toArray (n+9),s⟩
 |o=>o
def Vf (P:Params) (kI:Nat) (aY aZ:Int) (g f:Nat) (wS:Str) (cw:List (Str×Tok)) (ae:Nat):jZ:={ids:=List.range 21,na:=0,nt:=17,res:=fun _ _=> .ok .next,upd:=fun _ ts=> [id,id,id,id,id,id,id,id,id,id,id,id,id,CE P kI aY aZ g f wS ts,id,id,id,fun _=>j0 (sV cw) (ae+cw.length),id,id,id],new:=fun _ _=> []}
noncomputable def Q9 (vs:List Value):Obj→Obj
 |⟨c,d,.fields xs,s⟩=>⟨c,d,.fields (xs.toList++vs).toArray,s⟩
 |o=>o
def qv (P:Params) (kI:Nat) (aY aZ:Int) (g f:Nat) (wS:Str) (cw:List (Str×Tok)) (ae:Nat):jZ:={ids:=List.range 20,na:=1,nt:=27,res:=fun _ _=> .ok .next,upd:=fun as ts=> [id,id,id,id,Q9 [.int 98 0,.int 23 0,.ref (as.getD 0 0)],id,id,id,id,id,id,id,CE P kI aY aZ g f wS ts,id,id,id,fun _=>j0 (sV cw) (ae+cw.length),id,id,id],new:=fun _ ts=> [jD 98 [ts.getD 17 0,ts.getD 18 0,ts.getD 19 0,ts.getD 20 0,ts.getD 21 0,ts.getD 22 0,ts.getD 23 0,ts.getD 24 0,ts.getD 25 0,ts.getD 26 0]]}
def U1 (x:Str) (XS:List Value) (e:Nat):jZ:={ids:=List.range 10,na:=0,nt:=1,res:=fun _ ts=> .ok (.ret (.str x (ts.getD 0 0))),upd:=fun _ _=> [id,id,id,id,id,id,id,id,id,fun _=>j0 XS (e+1)],new:=fun _ _=> []}
def U3 (P:Params) (a:Addr):jZ:={ids:= [0],na:=(mY P a).na,nt:=(mY P a).nt,res:=(mY P a).res,upd:=fun _ _=> [id],new:=(mY P a).new}
theorem Jn (W:World) (a:Addr) (o:Obj) {d:Nat} (hd:8≤d):j6 pw W (jB W.params) (U3 W.params a) d (.call (.ref 59) ⟨[.ref a],[]⟩) [some (a,o)]:=
 j6.frame (vs:= []) (ws:= [(a,o)]) (Lv W a hd) rfl rfl rfl rfl rfl (fun _ _=>rfl) rfl
theorem UF (W:World) (L:jF) (l:Int) (lt:Tok) (p:Nat) (tp:Tok) (x:Str) (xt:Tok) (XS:List Value) (e:Nat) (hx:XS.length≤1000):
  j6 pw W (jB W.params) (U1 x XS e) 12 (.call (.ref 49) ⟨[.ref L.aL],[]⟩) ((kh L W.params l lt p tp (.str x xt::XS) e).map some):=
 (kM W L l lt p tp x xt XS e hx).cv (fun ts=> [xt]) fun _ _=>rfl
theorem Ra {w:World} {kt:KT} {d op:Nat} {c:Code} {i:Int} (h:prim op c=some (.int i)):j6 pw w kt (j7 0 1 fun ts=> .int i (ts.getD 0 0)) d c []:=by
 refine .of ?_;intro A R s S Z hR
 refine V6 op c _ h pw w A R s ?_
 exact fun t n=>hR _ [] [t] rfl rfl (uz (n:=n) rfl Z)
theorem vV {W:World} {kt:KT} {d:Nat} {l:Addr} {e:Nat} {t:Tok} (E:Nat→Int) (et:Nat→Tok) (n j:Nat) (hj:j≤n) (hn:n≤5):
  j6 pw W kt (j7 1 1 fun ts=> .int (E j) (ts.getD 0 0)) d (.call (.builtin "list.__getitem__") ⟨[.ref l,.int ((j:Nat):Int) t],[]⟩) [some (l,j0 (uP E et n) e)]:=by
 refine uk (res:=fun ts=> .int (E j) (ts.getD 0 0)) (ts:= [et j]) rfl (by lia) (by lia) ?_
 rw [Int.toNat_natCast]
 have:j<n+1:=lM hj
 simp [uP,this]
structure dv (P:Params) (R:Nat→Nat) (w:Nat→Int) (tn:Int) (n cN:Nat) (ag:Nat→Int):Prop where
 hn:n=4∨n=5
 hR: ∀k,R k<5
 ht:2≤tn∧tn≤7
 hE: ∀i j,i<j→j≤n→((ja R w tn n i:Nat):Int)<((ja R w tn n j:Nat):Int)
 h0:ja R w tn n 0=0
 h2:2≤((ja R w tn n 1:Nat):Int)
 len:(jM R w tn n).length≤1000000
 l0:ag 0=1
 has: ∀k,k<n→vo ((jM R w tn n).drop (ja R w tn n k))=true
 lex: ∀k,k<n→ ∃c b,ut ((jM R w tn n).drop (ja R w tn n k)) (ja R w tn n k) (ag k)=(hP (R k),ja R w tn n (k+1),ag (k+1),c,b)
 ln:ag n=1+(cN:Int)
 cnt:(Builtin.Str.occurrences (jk (jM R w tn n)) ⟨#[10]⟩ 0 (jk (jM R w tn n)).length ((jk (jM R w tn n)).length+1)).length=cN
theorem CF (R:Nat→Nat) (w:Nat→Int) (tn:Int) (n:Nat):ja R w tn n n=(jM R w tn n).length:=by
 unfold ja;rw [if_pos rfl]
theorem k9 {W:World} {P:Params} {R:Nat→Nat} {w:Nat→Int} {tn:Int} {n cN:Nat} {ag:Nat→Int} (H:dv P R w tn n cN ag) (L:jF) (hT:L.T=jk (jM R w tn n)) (k:Nat) (hk:k<n) (l:Int) (hl:l=ag k) (lt:Tok) (p:Nat) (hp:p=ja R w tn n k) (tp:Tok) (e:Nat):
  j6 pw W (jB W.params) (Yc (jb (R k)) (ja R w tn n (k+1)) (ag (k+1)) L.ay) 36 (.call (.ref 49) ⟨[.ref L.aL],[]⟩) ((ka L W.params l lt p tp e).map some):=by
 subst hl hp
 have e1:tl L.T=jM R w tn n:=by rw [hT];rfl
 have e2:L.T.length=(jM R w tn n).length:=by rw [hT];rfl
 have hle:ja R w tn n k≤L.T.length:=by
  rw [e2,←CF]
  have:=H.hE k n hk (Nat.le_refl _)
  lia
 obtain ⟨c,b,hx⟩:=H.lex k hk
 have h:=Ph W L (by rw [e2];exact H.len) (ag k) lt (ja R w tn n k) tp e hle (by rw [e1];exact H.has k hk)
 rw [e1,hx] at h
 exact h
theorem UB {W:World} {P:Params} {R:Nat→Nat} {w:Nat→Int} {tn:Int} {n cN:Nat} {ag:Nat→Int} (H:dv P R w tn n cN ag) (L:jF) (hT:L.T=jk (jM R w tn n)) (lt tp:Tok) (e:Nat):
  j6 pw W (jB W.params) (Yc (jk []) (ja R w tn n n) (ag n) L.ay) 36 (.call (.ref 49) ⟨[.ref L.aL],[]⟩) ((ka L W.params (ag n) lt (ja R w tn n n) tp e).map some):=by
 have e2:L.T.length=(jM R w tn n).length:=by rw [hT];rfl
 exact Pj W L (by rw [e2];exact H.len) (ag n) lt _ tp e (by rw [e2,CF])
theorem Jk {W:World} {kt:KT} {an:jZ} {d:Nat} (hd:7≤d) {a b a1 a2 b1 b2:Addr} {xs ys us vs:List Value} {e1 e2 e3 e4:Nat} {i j:Int} {t u:Tok} (hr:an.res [] []= .ok (.ret (.bool false))) (hx:xs.all jP=true) (hy:ys.all jP=true) (hu:us.all jP=true) (hv:vs.all jP=true) (h1:xs.map vD=us.map vD) (h2:ys.map vD=vs.map vD) (h3:i=j):
  YD pw W kt an d .NotEq (.ref a) (.ref b) [some (a,⟨.type "tuple",none,.seq #[.ref a1,.ref a2,.int i t] 0,#[]⟩),some (a1,j0 xs e1),some (a2,j0 ys e2),some (b,⟨.type "tuple",none,.seq #[.ref b1,.ref b2,.int j u] 0,#[]⟩),some (b1,j0 us e3),some (b2,j0 vs e4)]:=by
 intro A Q E s S Z hQ
 subst h3
 have g1:=Z.own _ (.head _)
 have g2:=Z.own _ (.tail _ (.head _))
 have g3:=Z.own _ (.tail _ (.tail _ (.head _)))
 have g4:=Z.own _ (.tail _ (.tail _ (.tail _ (.head _))))
 have g5:=Z.own _ (.tail _ (.tail _ (.tail _ (.tail _ (.head _)))))
 have g6:=Z.own _ (.tail _ (.tail _ (.tail _ (.tail _ (.tail _ (.head _))))))
 have sh: ∀{xs ys:List Value} (i:Int),xs.all jP=true→ys.all jP=true→PySem.SeqAt.shaped (.tuple [.list (xs.map vD),.list (ys.map vD),.int i])=true:=by
  intro xs ys i hx hy
  have q1:=Jm hx
  have q2:=Jm hy
  unfold PySem.SeqAt.shaped
  simp [PyData.canLay0,PyData.canLayAll0,PyData.depth,PyData.depthAll,q1.1,q1.2,q2.1,q2.2]
 refine ne_dataH (da:= .tuple [.list (xs.map vD),.list (ys.map vD),.int i]) (db:= .tuple [.list (us.map vD),.list (vs.map vD),.int i]) (Reads.tuple g1 rfl rfl (.cons (Reads.list g2 rfl rfl (kR hx)) (.cons (Reads.list g3 rfl rfl (kR hy)) (.cons (.int i t) .nil)))) (Reads.tuple g4 rfl rfl (.cons (Reads.list g5 rfl rfl (kR hu)) (.cons (Reads.list g6 rfl rfl (kR hv)) (.cons (.int i u) .nil)))) (sh i hx hy) (sh i hu hv) (UR S hd) ?_
 rw [h1,h2,PySem.SeqAt.eqv_refl _ (PySem.SeqAt.canLay_of_shaped (sh i hu hv))]
 exact hQ false hr
theorem jx.at {pr:Program} {w:World} {kt:KT} {an aU:jZ} {d d':Nat} {ss:List Stmt} {env:Env} {vs:List (Option (Addr×Obj))} (h:jx pr w kt an d ss env vs) (hd:d≤d') (hl:aU.ids.length=an.ids.length) (e:aU={an with ids:=aU.ids}):jx pr w kt aU d' ss env vs:=by
 intro A R s S Z hR
 have h1:aU.na=an.na:=by rw [e]
 have h2:aU.nt=an.nt:=by rw [e]
 have h3:aU.res=an.res:=by rw [e]
 have h4:aU.upd=an.upd:=by rw [e]
 have h5:aU.new=an.new:=by rw [e]
 refine h A R s (S.mono hd) Z fun s' as ts la lt p=> ?_
 have:=hR s' as ts (la.trans h1.symm) (lt.trans h2.symm) (by
  unfold kB at p⊢
  rw [h4,h5,h1]
  exact p)
 rw [h3] at this
 exact this
theorem yw {W:World} {kt:KT} {d:Nat} {P:Params} {R:Nat→Nat} {w:Nat→Int} {tn:Int} {n cN:Nat} {ag:Nat→Int} (H:dv P R w tn n cN ag) (t u:Tok):j6 pw W kt (j7 0 1 fun ts=> .int ((cN:Nat):Int) (ts.getD 0 0)) d (.call (.builtin "str.count") ⟨[.str (jk (jM R w tn n)) t,.str ⟨#[10]⟩ u],[]⟩) []:=
 Ra (op:=19) (by rw [←H.cnt];rfl)
theorem Uo {W:World} {kt:KT} {d:Nat} {a b:Nat} {ah:Bool} (h:ah=dc a b) (t u:Tok):j6 pw W kt (j7 0 0 fun _=> .bool ah) d (.call (.builtin "str.__le__") ⟨[.str (jb a) t,.str (jb b) u],[]⟩) []:=
 Nv (op:=14) (by rw [h];rfl)
theorem un: ∀r,PyData.strOk (jb r)=true
 |0=>by decide+kernel
 |1=>by decide+kernel
 |2=>by decide+kernel
 |3=>by decide+kernel
 |r+4=>by show PyData.strOk (jb 4)=true;decide+kernel
theorem vp:PyData.strOk (⟨#[]⟩:Str)=true:=by decide+kernel
def CG (W:World) (E:Nat→Int) (n:Nat) (C:Nat→Bool) (aa:List (Str×Tok)) (col:Int) (kI:Nat) (aY aZ:Int) (gG fG:Nat) (wS:Str) (cw:List (Str×Tok)):Prop:= ∀(S:jX) (F:YE) (Z:YC) (fr:Addr) (L:jF) (kv:Value) (bh:Tok) (ae:Nat) (lc:List Tok) (ty lt:Tok) (l:Int) (lR:Addr) (eR:Nat) (et:Nat→Tok),l=F.ln→jx pw W (jB W.params) (Vf W.params kI aY aZ gG fG wS cw ae) 34 Jz (kD fr Z) ((S.aV W.params (jL S.af) false (uP E et n) (vl C n)++ [(S.af,jD 100 lc)]++ks S F Z fr L kv ae ty lt l lR aa eR W.params false (.int col bh)).map some)
def tO (W:World) (n:Nat) (C:Nat→Bool) (aa:List (Str×Tok)) (col:Int) (kI:Nat) (aY aZ:Int) (gG fG:Nat) (wS:Str) (cw:List (Str×Tok)):Prop:= ∀(S:jX) (F:YE) (Z:YC) (fr:Addr) (L:jF) (kv:Value) (bh:Tok) (ae:Nat) (lc:List Tok) (ty lt:Tok) (l:Int) (lR:Addr) (eR:Nat) (et:Nat→Tok),l=F.ln→jx pw W (jB W.params) (Vf W.params kI aY aZ gG fG wS cw ae) 34 Jz (kD fr Z) ((S.aV W.params (ku S.af S.aA) true (uP (fun k=>((k:Nat):Int)) et n) (vl C n)++ [(S.aA,jD 98 lc)]++ks S F Z fr L kv ae ty lt l lR aa eR W.params true (.int col bh)).map some)
def tP (W:World) (n:Nat) (C:Nat→Bool) (aa:List (Str×Tok)) (col:Int) (kI:Nat) (aY aZ:Int) (gG fG:Nat) (wS:Str) (cw:List (Str×Tok)):Prop:= ∀(S:jX) (F:YE) (Z:YC) (fr:Addr) (L:jF) (kv:Value) (bh:Tok) (ae:Nat) (ty lt:Tok) (l:Int) (lR:Addr) (eR:Nat) (et:Nat→Tok),l=F.ln→jx pw W (jB W.params) (qv W.params kI aY aZ gG fG wS cw ae) 34 Jz (kD fr Z) ((S.aV W.params (jL S.af) true (uP (fun k=>((k:Nat):Int)) et n) (vl C n)++ks S F Z fr L kv ae ty lt l lR aa eR W.params true (.int col bh)).map some)
abbrev nx (W:World) (R:Nat→Nat) (w:Nat→Int) (tn:Int) (n:Nat) (rt:Nat→Tok) (ah:Bool) (size:Nat):=CG W (fun k=>((ja R w tn n k:Nat):Int)) n (jR R ah size) (JL R rt n) ((ja R w tn n size:Nat):Int)
abbrev qw (W:World) (R:Nat→Nat) (n:Nat) (rt:Nat→Tok) (ah:Bool) (size:Nat):=tO W n (jR R ah size) (JL R rt n) (((size:Nat):Int)-1)
abbrev qx (W:World) (R:Nat→Nat) (n:Nat) (rt:Nat→Tok) (ah:Bool) (size:Nat):=tP W n (jR R ah size) (JL R rt n) (((size:Nat):Int)-1)
def ew (R2:Nat→Nat) (yt:Nat→Tok) (n:Nat):List (Str×Tok):=(List.range n).map fun k=>(jb (R2 k),yt k)
def vQ (m n:Nat) (R2:Nat→Nat):jZ:={ids:=List.range m,na:=1,nt:=n,res:=fun as _=> .ok (.ret (.ref (as.getD 0 0))),upd:=fun _ _=>List.replicate m id,new:=fun _ ts=> [j0 (kj R2 (fun k=>ts.getD k 0) n) n]}
noncomputable def VJ (a:Addr):Obj:=⟨.none,none,.fields #[.int 91 0,.int 4 0,.ref a],#[]⟩
noncomputable def VK (a:Addr):Obj:=⟨.none,none,.fields #[.int 109 0,.int 4 0,.ref a],#[]⟩
noncomputable def tE:Obj:=⟨.none,none,.fields #[],#[]⟩
noncomputable def yz (l:List Value):Obj:=⟨.none,none,.fields l.toArray,#[]⟩
noncomputable def tQ (as:List Addr) (ts:List Tok):jX:=⟨0,0,0,as.getD 1 0,as.getD 3 0,0,0,0,0,0,0,0,ts.getD 20 0,ts.getD 21 0,as.getD 4 0,0,0,ts.getD 0 0,ts.getD 1 0,ts.getD 2 0,ts.getD 8 0,ts.getD 3 0,0,0,⟨#[]⟩,0,0,0,0,0,0,0,.none,.none,.none⟩
noncomputable def CH:Str:=⟨#[47,99,108,97,105,109,47,99,117,116,46,112,121]⟩
def tR (as:List Addr) (ts:List Tok):jF:=⟨0,0,0,0,0,0,as.getD 2 0,0,0,0,0,0,0,0,0,0,0,0,0,0,0,ts.getD 5 0,.none,.none,.none,.none,.str ⟨#[114,101,97,100]⟩ (ts.getD 4 0),[.str CH (ts.getD 6 0),.int 109 0,.int 1 0,.int 0 0,.int 0 0,.int 19 0,.ref (ts.getD 22 0),.bool true,.int 181 0,.ref (ts.getD 23 0),.none,.ref (ts.getD 24 0),.ref (ts.getD 25 0),.ref (ts.getD 26 0),.int ((ts.getD 9 0:Nat):Int) 0,.int 109 0,.str CH (ts.getD 7 0)],0,⟨#[]⟩⟩
def Vs (n:Nat) (R2:Nat→Nat):jZ:={ids:=List.range 4,na:=5,nt:=27+n,res:=fun as _=> .ok (.ret (.ref (as.getD 0 0))),upd:=fun as _=> [id,id,fun _=>VJ (as.getD 1 0),fun _=>VK (as.getD 2 0)],new:=fun as ts=> [j0 (kj R2 (fun k=>ts.getD (27+k) 0) n) n,(tQ as ts).bq,(tR as ts).code,yz (jL (as.getD 4 0)),jD 100 ((ts.drop 10).take 10)]}
def Vt (n:Nat) (R2:Nat→Nat) (af:Addr):jZ:={ids:=List.range 8,na:=2,nt:=10+n,res:=fun as _=> .ok (.ret (.ref (as.getD 0 0))),upd:=fun as _=> [id,id,id,id,id,fun _=>yz (ku af (as.getD 1 0)),id,id],new:=fun as ts=> [j0 (kj R2 (fun k=>ts.getD (10+k) 0) n) n,jD 98 (ts.take 10)]}
theorem ny (W:World) (S:jX) (F:YE) (Z:YC) (fr:Addr) (L:jF) (kv:Value) (ae:Nat) (lc:List Tok) (ty lt:Tok) (l:Int) (lR:Addr) (aa:List (Str×Tok)) (eR:Nat) (Es Cs:List Value) (kI:Nat) (x y:Int) (xt yt:Tok) (g f:Nat) (wv:Value) (wS:Str) (wt:Tok) (cw:List (Str×Tok)) (bG:Value) (hw:wv= .str wS wt)
  (h:jx pw W (jB W.params) (eY W.params F false S.lE S.aP kI (.int x xt) (.int x xt) (.int y yt) g f wv cw ae) 34 Jz (kD fr Z) ((S.aV W.params (jL S.af) false Es Cs++ [(S.af,jD 100 lc)]++ks S F Z fr L kv ae ty lt l lR aa eR W.params false bG).map some)):
  jx pw W (jB W.params) (Vf W.params kI x y g f wS cw ae) 34 Jz (kD fr Z) ((S.aV W.params (jL S.af) false Es Cs++ [(S.af,jD 100 lc)]++ks S F Z fr L kv ae ty lt l lR aa eR W.params false bG).map some):=by
 subst hw
 exact h.cv (fun ts=> [ts.getD 0 0,ts.getD 1 0,ts.getD 2 0,ts.getD 3 0,ts.getD 4 0,ts.getD 5 0,ts.getD 6 0,ts.getD 7 0,ts.getD 8 0,ts.getD 9 0,ts.getD 10 0,ts.getD 11 0,ts.getD 12 0,ts.getD 13 0,xt,yt,wt]) fun _ _=>rfl
theorem qy (W:World) (S:jX) (F:YE) (Z:YC) (fr:Addr) (L:jF) (kv:Value) (ae:Nat) (lc:List Tok) (ty lt:Tok) (l:Int) (lR:Addr) (aa:List (Str×Tok)) (eR:Nat) (Es Cs:List Value) (kI:Nat) (x y:Int) (xt yt:Tok) (g f:Nat) (wv:Value) (wS:Str) (wt:Tok) (cw:List (Str×Tok)) (bG:Value) (hw:wv= .str wS wt)
  (h:jx pw W (jB W.params) (eY W.params F true S.lE S.aP kI (.int x xt) (.int x xt) (.int y yt) g f wv cw ae) 34 Jz (kD fr Z) ((S.aV W.params (ku S.af S.aA) true Es Cs++ [(S.aA,jD 98 lc)]++ks S F Z fr L kv ae ty lt l lR aa eR W.params true bG).map some)):
  jx pw W (jB W.params) (Vf W.params kI x y g f wS cw ae) 34 Jz (kD fr Z) ((S.aV W.params (ku S.af S.aA) true Es Cs++ [(S.aA,jD 98 lc)]++ks S F Z fr L kv ae ty lt l lR aa eR W.params true bG).map some):=by
 subst hw
 exact h.cv (fun ts=> [ts.getD 0 0,ts.getD 1 0,ts.getD 2 0,ts.getD 3 0,ts.getD 4 0,ts.getD 5 0,ts.getD 6 0,ts.getD 7 0,ts.getD 8 0,ts.getD 9 0,ts.getD 10 0,ts.getD 11 0,ts.getD 12 0,ts.getD 13 0,xt,yt,wt]) fun _ _=>rfl
theorem qz (W:World) (S:jX) (F:YE) (Z:YC) (fr:Addr) (L:jF) (kv:Value) (ae:Nat) (ty lt:Tok) (l:Int) (lR:Addr) (aa:List (Str×Tok)) (eR:Nat) (Es Cs:List Value) (kI:Nat) (x y:Int) (xt yt:Tok) (g f:Nat) (wv:Value) (wS:Str) (wt:Tok) (cw:List (Str×Tok)) (bG:Value) (hw:wv= .str wS wt)
  (h:jx pw W (jB W.params) (nu W.params F true S.lE S.aP S.af kI (.int x xt) (.int x xt) (.int y yt) g f wv cw ae) 34 Jz (kD fr Z) ((S.aV W.params (jL S.af) true Es Cs++ks S F Z fr L kv ae ty lt l lR aa eR W.params true bG).map some)):
  jx pw W (jB W.params) (qv W.params kI x y g f wS cw ae) 34 Jz (kD fr Z) ((S.aV W.params (jL S.af) true Es Cs++ks S F Z fr L kv ae ty lt l lR aa eR W.params true bG).map some):=by
 subst hw
 exact h.cv (fun ts=> [ts.getD 0 0,ts.getD 1 0,ts.getD 2 0,ts.getD 3 0,ts.getD 4 0,ts.getD 5 0,ts.getD 6 0,ts.getD 7 0,ts.getD 8 0,ts.getD 9 0,ts.getD 10 0,ts.getD 11 0,ts.getD 22 0,ts.getD 23 0,xt,yt,wt,ts.getD 12 0,ts.getD 13 0,ts.getD 14 0,ts.getD 15 0,ts.getD 16 0,ts.getD 17 0,ts.getD 18 0,ts.getD 19 0,ts.getD 20 0,ts.getD 21 0]) fun _ _=>rfl
noncomputable def kS (C:Nat→Bool):Nat→Option Nat
 |0=>none
 |c+1=>if C c then some c else kS C c
def kW (C:Nat→Bool) (w:Nat):Nat:=match kS C w with
 |none=>0
 |some v=>v+1
theorem ui {C:Nat→Bool}: ∀{c w:Nat},kS C c=some w→w<c∧C w=true∧ ∀k,w<k→k<c→C k=false
 |0,w,h=>by simp [kS] at h
 |c+1,w,h=>by
  unfold kS at h
  split at h
  ·rename_i hc
   cases h
   exact ⟨(Nat.le_refl _),hc,fun k h1 h2=>by lia⟩
  ·rename_i hc
   obtain ⟨h1,h2,h3⟩:=ui h
   refine ⟨(dx h1),h2,fun k a b=> ?_⟩
   by_cases e:k=c
   ·rw [e];simpa using hc
   ·exact h3 k a (by lia)
theorem Yn {C:Nat→Bool}: ∀{c:Nat},kS C c=none→ ∀k,k<c→C k=false
 |0,h,k,hk=>by lia
 |c+1,h,k,hk=>by
  unfold kS at h
  split at h
  ·cases h
  ·rename_i hc
   by_cases e:k=c
   ·rw [e];simpa using hc
   ·exact Yn h k (by lia)
theorem uW {C:Nat→Bool} {c w:Nat} (h:kS C c=some w):ke C c (kW C w) w:=by
 obtain ⟨h1,h2,h3⟩:=ui h
 unfold kW
 cases e:kS C w with
 |none=>
  have:=Yn e
  exact ⟨⟨Nat.zero_le _,h2,fun k _ hk=>this k hk⟩,h1,.inl rfl,h3⟩
 |some v=>
  obtain ⟨v1,v2,v3⟩:=ui e
  exact ⟨⟨v1,h2,fun k a b=>v3 k a b⟩,h1,.inr ⟨Nat.succ_pos _,v2⟩,h3⟩
theorem nz {C:Nat→Bool} {w:Nat} (h:kW C w≠0):kS C (kW C w)=some (kW C w-1):=by
 unfold kW at*
 cases e:kS C w with
 |none=>rw [e] at h;exact absurd rfl h
 |some v=>
  obtain ⟨v1,v2,v3⟩:=ui e
  show kS C (v+1)=some (v+1-1)
  unfold kS
  rw [if_pos v2];rfl
theorem Vk {C:Nat→Bool} (h:C 0=true): ∀{w:Nat},w≠0→ ∃v,kS C w=some v
 |0,hw=>absurd rfl hw
 |w+1,_=>by
  unfold kS
  split
  ·exact ⟨_,rfl⟩
  ·rename_i hc
   cases w with
   |zero=>rw [h] at hc;exact absurd rfl hc
   |succ w=>exact Vk h (by lia)
noncomputable def U8 {α:Type} (l:List α) (a b:Nat):List α:=(l.drop a).take (b-a)
noncomputable def d9 {α:Type} (row:List α) (C:Nat→Bool):Nat→Nat→List α
 |0,_=> []
 |f+1,c=>match kS C c with
  |none=> []
  |some w=>d9 row C f (kW C w)++(U8 row ((w+1)-1) (w+1)++U8 row (kW C w) ((w+1)-1))
def vx {α:Type} (row:List α) (C:Nat→Bool) (c:Nat):List α:=match kS C c with
 |none=> []
 |some w=>d9 row C 5 c++U8 row (w+1) row.length
noncomputable def eA {α:Type} (row:List α) (C:Nat→Bool):Nat→Nat→List α
 |0,_=> []
 |f+1,c=>match kS C c with
  |none=> []
  |some w=>eA row C f w++(U8 row (w+1) c++U8 row w (w+1))
def u1 {α:Type} (row:List α) (C:Nat→Bool) (c:Nat):List α:=eA row C 4 c++U8 row c row.length
theorem u9: ∀{l:List (Str×Tok)} {v:Value},l≠ []→ ∃a t,j9 l v= .str a t
 | [],v,h=>absurd rfl h
 | [(x,t)],v,_=>⟨x,t,rfl⟩
 |(x,t)::y::l,v,_=>u9 (l:=y::l) (v:= .str x t) (by simp)
theorem ju: ∀(l:List (Str×Tok)) {v:Value},(∃a t,v= .str a t)→ ∃a t,j9 l v= .str a t
 | [],v,h=>h
 |x::l,v,_=>u9 (by simp)
theorem tS (R:Nat→Nat) (rt:Nat→Tok) (n:Nat):(JL R rt n).length=n:=by simp [JL]
theorem CI (C:Nat→Bool):kS C 0=none:=rfl
theorem vU {α:Type} (row:List α) {C:Nat→Bool} {f c w:Nat} (h:kS C c=some w):d9 row C (f+1) c=d9 row C f (kW C w)++(U8 row ((w+1)-1) (w+1)++U8 row (kW C w) ((w+1)-1)):=by
 rw [d9];simp only [h]
theorem uK {α:Type} (row:List α) {C:Nat→Bool} {f c w:Nat} (h:kS C c=some w):eA row C (f+1) c=eA row C f w++(U8 row (w+1) c++U8 row w (w+1)):=by
 rw [eA];simp only [h]
theorem Vg {α:Type} (row:List α) {C:Nat→Bool} {f c:Nat} (h:kS C c=none):d9 row C f c= []:=by
 cases f with
 |zero=>rfl
 |succ f=>rw [d9];simp only [h]
theorem JE {α:Type} (row:List α) {C:Nat→Bool} {f c:Nat} (h:kS C c=none):eA row C f c= []:=by
 cases f with
 |zero=>rfl
 |succ f=>rw [eA];simp only [h]
theorem V8 {α:Type} (row:List α) {C:Nat→Bool} {c w:Nat} (h:kS C c=some w):vx row C c=d9 row C 5 c++U8 row (w+1) row.length:=by
 unfold vx;simp only [h]
theorem Rb (W:World) (E:Nat→Int) (n:Nat) (C:Nat→Bool) (aa:List (Str×Tok)) (size:Nat) (hn:n=4∨n=5) (hE: ∀i j,i<j→j≤n→E i<E j) (h0:E 0=0) (hlen:aa.length=n) (hs:2≤size∧size≤n) (w1:Nat) (e1:kS C size=some w1): ∃kI aY aZ gG fG wS,CG W E n C aa (E size) kI aY aZ gG fG wS (vx aa C size):=by
 have aj:=n5 hn
 have a1:=uW e1
 have s1:=JC (uC a1.2.1 hs.2) hlen.symm
 by_cases z1:(kW C w1)=0
 ·have eN:kS C (kW C w1)=none:=by rw [z1];rfl
  have cJ:vx aa C size=((cF aa w1 (kW C w1))++(k7 aa (w1+1) aa.length)):=by
   rw [V8 _ e1,vU _ e1,Vg _ eN];rfl
  obtain ⟨wS,wt,cL⟩: ∃a t,(j9 (k7 aa (w1+1) aa.length) (j9 (cF aa w1 (kW C w1)) .none))=Value.str a t:=ju _ (u9 (vw (Nat.le_refl _) s1))
  refine ⟨1,E (kW C w1),E (w1+1),w1+1,kW C w1,wS,?_⟩
  rw [cJ]
  intro S F Z fr L kv bh ae lc ty lt l lR eR et hl
  exact ny W S F Z fr L kv ae lc ty lt l lR aa eR _ _ 1 _ _ _ _ _ _ _ wS wt _ _ cL (Qu W S F Z fr L kv bh ae lc ty lt l lR aa eR E et C n hn hE h0 hl hlen size hs.2 (kW C w1) w1 a1 z1)
 have e2:=nz z1
 generalize bM:kW C w1-1=w2 at e2
 have a2:=uW e2
 have s2:=dW (uC a2.2.1 a1.1.1) s1
 by_cases z2:(kW C w2)=0
 ·have eN:kS C (kW C w2)=none:=by rw [z2];rfl
  have cJ:vx aa C size=(((cF aa w2 (kW C w2))++(cF aa w1 (kW C w1)))++(k7 aa (w1+1) aa.length)):=by
   rw [V8 _ e1,vU _ e1,vU _ e2,Vg _ eN];rfl
  obtain ⟨wS,wt,cL⟩: ∃a t,(j9 (k7 aa (w1+1) aa.length) (j9 (cF aa w1 (kW C w1)) (j9 (cF aa w2 (kW C w2)) .none)))=Value.str a t:=ju _ (ju _ (u9 (vw (Nat.le_refl _) s2)))
  refine ⟨2,E (kW C w2),E (w2+1),w1+1,kW C w1,wS,?_⟩
  rw [cJ]
  intro S F Z fr L kv bh ae lc ty lt l lR eR et hl
  exact ny W S F Z fr L kv ae lc ty lt l lR aa eR _ _ 2 _ _ _ _ _ _ _ wS wt _ _ cL (Qx W S F Z fr L kv bh ae lc ty lt l lR aa eR E et C n hn hE h0 hl hlen size hs.2 (kW C w1) w1 a1 (kW C w2) w2 a2 z2)
 have e3:=nz z2
 generalize Xh:kW C w2-1=w3 at e3
 have a3:=uW e3
 have s3:=dW (uC a3.2.1 a2.1.1) s2
 by_cases z3:(kW C w3)=0
 ·have eN:kS C (kW C w3)=none:=by rw [z3];rfl
  have cJ:vx aa C size=((((cF aa w3 (kW C w3))++(cF aa w2 (kW C w2)))++(cF aa w1 (kW C w1)))++(k7 aa (w1+1) aa.length)):=by
   rw [V8 _ e1,vU _ e1,vU _ e2,vU _ e3,Vg _ eN];rfl
  obtain ⟨wS,wt,cL⟩: ∃a t,(j9 (k7 aa (w1+1) aa.length) (j9 (cF aa w1 (kW C w1)) (j9 (cF aa w2 (kW C w2)) (j9 (cF aa w3 (kW C w3)) .none))))=Value.str a t:=ju _ (ju _ (ju _ (u9 (vw (Nat.le_refl _) s3))))
  refine ⟨3,E (kW C w3),E (w3+1),w1+1,kW C w1,wS,?_⟩
  rw [cJ]
  intro S F Z fr L kv bh ae lc ty lt l lR eR et hl
  exact ny W S F Z fr L kv ae lc ty lt l lR aa eR _ _ 3 _ _ _ _ _ _ _ wS wt _ _ cL (QA W S F Z fr L kv bh ae lc ty lt l lR aa eR E et C n hn hE h0 hl hlen size hs.2 (kW C w1) w1 a1 (kW C w2) w2 a2 (kW C w3) w3 a3 z3)
 have e4:=nz z3
 generalize Xi:kW C w3-1=w4 at e4
 have a4:=uW e4
 have s4:=dW (uC a4.2.1 a3.1.1) s3
 by_cases z4:(kW C w4)=0
 ·have eN:kS C (kW C w4)=none:=by rw [z4];rfl
  have cJ:vx aa C size=(((((cF aa w4 (kW C w4))++(cF aa w3 (kW C w3)))++(cF aa w2 (kW C w2)))++(cF aa w1 (kW C w1)))++(k7 aa (w1+1) aa.length)):=by
   rw [V8 _ e1,vU _ e1,vU _ e2,vU _ e3,vU _ e4,Vg _ eN];rfl
  obtain ⟨wS,wt,cL⟩: ∃a t,(j9 (k7 aa (w1+1) aa.length) (j9 (cF aa w1 (kW C w1)) (j9 (cF aa w2 (kW C w2)) (j9 (cF aa w3 (kW C w3)) (j9 (cF aa w4 (kW C w4)) .none)))))=Value.str a t:=ju _ (ju _ (ju _ (ju _ (u9 (vw (Nat.le_refl _) s4)))))
  refine ⟨4,E (kW C w4),E (w4+1),w1+1,kW C w1,wS,?_⟩
  rw [cJ]
  intro S F Z fr L kv bh ae lc ty lt l lR eR et hl
  exact ny W S F Z fr L kv ae lc ty lt l lR aa eR _ _ 4 _ _ _ _ _ _ _ wS wt _ _ cL (QD W S F Z fr L kv bh ae lc ty lt l lR aa eR E et C n hn hE h0 hl hlen size hs.2 (kW C w1) w1 a1 (kW C w2) w2 a2 (kW C w3) w3 a3 (kW C w4) w4 a4 z4)
 have e5:=nz z4
 generalize Xj:kW C w4-1=w5 at e5
 have a5:=uW e5
 have s5:=dW (uC a5.2.1 a4.1.1) s4
 have k1:=Vi (uC a1.2.1 (jc hs.2 aj))
 have k2:=Vi (uC a2.2.1 (jc a1.1.1 k1))
 have k3:=Vi (uC a3.2.1 (jc a2.1.1 k2))
 have k4:=Vi (uC a4.2.1 (jc a3.1.1 k3))
 have z5:(kW C w5)=0:=Nat.le_zero.mp (jc a5.1.1 (Vi (uC a5.2.1 (jc a4.1.1 k4))))
 have eN:kS C (kW C w5)=none:=by rw [z5];rfl
 have cJ:vx aa C size=((((((cF aa w5 (kW C w5))++(cF aa w4 (kW C w4)))++(cF aa w3 (kW C w3)))++(cF aa w2 (kW C w2)))++(cF aa w1 (kW C w1)))++(k7 aa (w1+1) aa.length)):=by
  rw [V8 _ e1,vU _ e1,vU _ e2,vU _ e3,vU _ e4,vU _ e5,Vg _ eN];rfl
 obtain ⟨wS,wt,cL⟩: ∃a t,(j9 (k7 aa (w1+1) aa.length) (j9 (cF aa w1 (kW C w1)) (j9 (cF aa w2 (kW C w2)) (j9 (cF aa w3 (kW C w3)) (j9 (cF aa w4 (kW C w4)) (j9 (cF aa w5 (kW C w5)) .none))))))=Value.str a t:=ju _ (ju _ (ju _ (ju _ (ju _ (u9 (vw (Nat.le_refl _) s5))))))
 refine ⟨5,E (kW C w5),E (w5+1),w1+1,kW C w1,wS,?_⟩
 rw [cJ]
 intro S F Z fr L kv bh ae lc ty lt l lR eR et hl
 exact ny W S F Z fr L kv ae lc ty lt l lR aa eR _ _ 5 _ _ _ _ _ _ _ wS wt _ _ cL (QG W S F Z fr L kv bh ae lc ty lt l lR aa eR E et C n hn hE h0 hl hlen size hs.2 (kW C w1) w1 a1 (kW C w2) w2 a2 (kW C w3) w3 a3 (kW C w4) w4 a4 (kW C w5) w5 a5 z5)
theorem CJ (W:World) (R:Nat→Nat) (w:Nat→Int) (tn:Int) (n:Nat) (rt:Nat→Tok) (ah:Bool) (size cN:Nat) (ag:Nat→Int) (H:dv W.params R w tn n cN ag) (hs:2≤size∧size≤n) (w1:Nat) (e1:kS (jR R ah size) size=some w1): ∃kI aY aZ gG fG wS,nx W R w tn n rt ah size kI aY aZ gG fG wS (vx (JL R rt n) (jR R ah size) size):=
 Rb W _ n _ _ size H.hn H.hE (by show ((ja R w tn n 0:Nat):Int)=0;rw [H.h0];rfl) (tS R rt n) hs w1 e1
theorem Rc (W:World) (n:Nat) (C:Nat→Bool) (aa:List (Str×Tok)) (c0:Nat) (hn:n=4∨n=5) (hlen:aa.length=n) (hs:1≤c0∧c0+1≤n) (ed:C 0=true): ∃kI aY aZ gG fG wS,tO W n C aa ((c0:Nat):Int) kI aY aZ gG fG wS (u1 aa C c0):=by
 have h0:(fun k=>((k:Nat):Int)) 0=0:=rfl
 obtain ⟨w1,e1⟩:=Vk ed (w:=c0) (nO hs.1)
 have aj:=n5 hn
 have a1:=uW e1
 have s1:=JC (dW a1.2.1 hs.2) hlen.symm
 by_cases z1:w1=0
 ·have eN:kS C w1=none:=by rw [z1];rfl
  have cJ:u1 aa C c0=((cT aa w1 c0)++(k7 aa c0 aa.length)):=by
   unfold u1;rw [uK _ e1,JE _ eN];rfl
  obtain ⟨wS,wt,cL⟩: ∃a t,(j9 (k7 aa c0 aa.length) (j9 (cT aa w1 c0) .none))=Value.str a t:=ju _ (u9 (u0 (Nat.le_refl _) s1))
  refine ⟨1,((w1:Nat):Int),((c0:Nat):Int),c0,w1,wS,?_⟩
  rw [cJ]
  intro S F Z fr L kv bh ae lc ty lt l lR eR et hl
  exact qy W S F Z fr L kv ae lc ty lt l lR aa eR _ _ 1 _ _ _ _ _ _ _ wS wt _ _ cL (Qv W S F Z fr L kv bh ae lc ty lt l lR aa eR (fun k=>((k:Nat):Int)) et C n hn (fun i j h _=>Int.ofNat_lt.mpr h) h0 hl hlen (fun _=>rfl) c0 (jH hs.2) (Vi (jc hs.2 aj)) (kW C w1) w1 a1 z1)
 obtain ⟨w2,e2⟩:=Vk ed z1
 have a2:=uW e2
 have s2:=dW a2.2.1 s1
 by_cases z2:w2=0
 ·have eN:kS C w2=none:=by rw [z2];rfl
  have cJ:u1 aa C c0=(((cT aa w2 w1)++(cT aa w1 c0))++(k7 aa c0 aa.length)):=by
   unfold u1;rw [uK _ e1,uK _ e2,JE _ eN];rfl
  obtain ⟨wS,wt,cL⟩: ∃a t,(j9 (k7 aa c0 aa.length) (j9 (cT aa w1 c0) (j9 (cT aa w2 w1) .none)))=Value.str a t:=ju _ (ju _ (u9 (u0 (Nat.le_refl _) s2)))
  refine ⟨2,((w2:Nat):Int),((w1:Nat):Int),c0,w1,wS,?_⟩
  rw [cJ]
  intro S F Z fr L kv bh ae lc ty lt l lR eR et hl
  exact qy W S F Z fr L kv ae lc ty lt l lR aa eR _ _ 2 _ _ _ _ _ _ _ wS wt _ _ cL (Qy W S F Z fr L kv bh ae lc ty lt l lR aa eR (fun k=>((k:Nat):Int)) et C n hn (fun i j h _=>Int.ofNat_lt.mpr h) h0 hl hlen (fun _=>rfl) c0 (jH hs.2) (Vi (jc hs.2 aj)) (kW C w1) w1 a1 (kW C w2) w2 a2 z2)
 obtain ⟨w3,e3⟩:=Vk ed z2
 have a3:=uW e3
 have s3:=dW a3.2.1 s2
 by_cases z3:w3=0
 ·have eN:kS C w3=none:=by rw [z3];rfl
  have cJ:u1 aa C c0=((((cT aa w3 w2)++(cT aa w2 w1))++(cT aa w1 c0))++(k7 aa c0 aa.length)):=by
   unfold u1;rw [uK _ e1,uK _ e2,uK _ e3,JE _ eN];rfl
  obtain ⟨wS,wt,cL⟩: ∃a t,(j9 (k7 aa c0 aa.length) (j9 (cT aa w1 c0) (j9 (cT aa w2 w1) (j9 (cT aa w3 w2) .none))))=Value.str a t:=ju _ (ju _ (ju _ (u9 (u0 (Nat.le_refl _) s3))))
  refine ⟨3,((w3:Nat):Int),((w2:Nat):Int),c0,w1,wS,?_⟩
  rw [cJ]
  intro S F Z fr L kv bh ae lc ty lt l lR eR et hl
  exact qy W S F Z fr L kv ae lc ty lt l lR aa eR _ _ 3 _ _ _ _ _ _ _ wS wt _ _ cL (QB W S F Z fr L kv bh ae lc ty lt l lR aa eR (fun k=>((k:Nat):Int)) et C n hn (fun i j h _=>Int.ofNat_lt.mpr h) h0 hl hlen (fun _=>rfl) c0 (jH hs.2) (Vi (jc hs.2 aj)) (kW C w1) w1 a1 (kW C w2) w2 a2 (kW C w3) w3 a3 z3)
 obtain ⟨w4,e4⟩:=Vk ed z3
 have a4:=uW e4
 have s4:=dW a4.2.1 s3
 have k1:=Vi (uC a1.2.1 (Vi (jc hs.2 aj)))
 have z4:w4=0:=Nat.le_zero.mp (Vi (uC a4.2.1 (Vi (uC a3.2.1 (Vi (uC a2.2.1 k1))))))
 have eN:kS C w4=none:=by rw [z4];rfl
 have cJ:u1 aa C c0=(((((cT aa w4 w3)++(cT aa w3 w2))++(cT aa w2 w1))++(cT aa w1 c0))++(k7 aa c0 aa.length)):=by
  unfold u1;rw [uK _ e1,uK _ e2,uK _ e3,uK _ e4,JE _ eN];rfl
 obtain ⟨wS,wt,cL⟩: ∃a t,(j9 (k7 aa c0 aa.length) (j9 (cT aa w1 c0) (j9 (cT aa w2 w1) (j9 (cT aa w3 w2) (j9 (cT aa w4 w3) .none)))))=Value.str a t:=ju _ (ju _ (ju _ (ju _ (u9 (u0 (Nat.le_refl _) s4)))))
 refine ⟨4,((w4:Nat):Int),((w3:Nat):Int),c0,w1,wS,?_⟩
 rw [cJ]
 intro S F Z fr L kv bh ae lc ty lt l lR eR et hl
 exact qy W S F Z fr L kv ae lc ty lt l lR aa eR _ _ 4 _ _ _ _ _ _ _ wS wt _ _ cL (QE W S F Z fr L kv bh ae lc ty lt l lR aa eR (fun k=>((k:Nat):Int)) et C n hn (fun i j h _=>Int.ofNat_lt.mpr h) h0 hl hlen (fun _=>rfl) c0 (jH hs.2) (Vi (jc hs.2 aj)) (kW C w1) w1 a1 (kW C w2) w2 a2 (kW C w3) w3 a3 (kW C w4) w4 a4 z4)
theorem Rd (W:World) (R:Nat→Nat) (n:Nat) (rt:Nat→Tok) (ah:Bool) (size:Nat) (hn:n=4∨n=5) (hs:2≤size∧size≤n) (ed:jR R ah size 0=true): ∃kI aY aZ gG fG wS,qw W R n rt ah size kI aY aZ gG fG wS (u1 (JL R rt n) (jR R ah size) (size-1)):=by
 have ez:(((size:Nat):Int)-1)=((size-1:Nat):Int):=by lia
 rw [show qw W R n rt ah size=tO W n (jR R ah size) (JL R rt n) (((size:Nat):Int)-1) from rfl,ez]
 exact Rc W n _ _ (size-1) hn (tS R rt n) (by lia) ed
theorem Rf (W:World) (n:Nat) (C:Nat→Bool) (aa:List (Str×Tok)) (c0:Nat) (hn:n=4∨n=5) (hlen:aa.length=n) (hs:1≤c0∧c0+1≤n) (ed:C 0=true): ∃kI aY aZ gG fG wS,tP W n C aa ((c0:Nat):Int) kI aY aZ gG fG wS (u1 aa C c0):=by
 have h0:(fun k=>((k:Nat):Int)) 0=0:=rfl
 obtain ⟨w1,e1⟩:=Vk ed (w:=c0) (nO hs.1)
 have aj:=n5 hn
 have a1:=uW e1
 have s1:=JC (dW a1.2.1 hs.2) hlen.symm
 by_cases z1:w1=0
 ·have eN:kS C w1=none:=by rw [z1];rfl
  have cJ:u1 aa C c0=((cT aa w1 c0)++(k7 aa c0 aa.length)):=by
   unfold u1;rw [uK _ e1,JE _ eN];rfl
  obtain ⟨wS,wt,cL⟩: ∃a t,(j9 (k7 aa c0 aa.length) (j9 (cT aa w1 c0) .none))=Value.str a t:=ju _ (u9 (u0 (Nat.le_refl _) s1))
  refine ⟨1,((w1:Nat):Int),((c0:Nat):Int),c0,w1,wS,?_⟩
  rw [cJ]
  intro S F Z fr L kv bh ae ty lt l lR eR et hl
  exact qz W S F Z fr L kv ae ty lt l lR aa eR _ _ 1 _ _ _ _ _ _ _ wS wt _ _ cL (Qw W S F Z fr L kv bh ae ty lt l lR aa eR (fun k=>((k:Nat):Int)) et C n hn (fun i j h _=>Int.ofNat_lt.mpr h) h0 hl hlen (fun _=>rfl) c0 (jH hs.2) (Vi (jc hs.2 aj)) (kW C w1) w1 a1 z1)
 obtain ⟨w2,e2⟩:=Vk ed z1
 have a2:=uW e2
 have s2:=dW a2.2.1 s1
 by_cases z2:w2=0
 ·have eN:kS C w2=none:=by rw [z2];rfl
  have cJ:u1 aa C c0=(((cT aa w2 w1)++(cT aa w1 c0))++(k7 aa c0 aa.length)):=by
   unfold u1;rw [uK _ e1,uK _ e2,JE _ eN];rfl
  obtain ⟨wS,wt,cL⟩: ∃a t,(j9 (k7 aa c0 aa.length) (j9 (cT aa w1 c0) (j9 (cT aa w2 w1) .none)))=Value.str a t:=ju _ (ju _ (u9 (u0 (Nat.le_refl _) s2)))
  refine ⟨2,((w2:Nat):Int),((w1:Nat):Int),c0,w1,wS,?_⟩
  rw [cJ]
  intro S F Z fr L kv bh ae ty lt l lR eR et hl
  exact qz W S F Z fr L kv ae ty lt l lR aa eR _ _ 2 _ _ _ _ _ _ _ wS wt _ _ cL (Qz W S F Z fr L kv bh ae ty lt l lR aa eR (fun k=>((k:Nat):Int)) et C n hn (fun i j h _=>Int.ofNat_lt.mpr h) h0 hl hlen (fun _=>rfl) c0 (jH hs.2) (Vi (jc hs.2 aj)) (kW C w1) w1 a1 (kW C w2) w2 a2 z2)
 obtain ⟨w3,e3⟩:=Vk ed z2
 have a3:=uW e3
 have s3:=dW a3.2.1 s2
 by_cases z3:w3=0
 ·have eN:kS C w3=none:=by rw [z3];rfl
  have cJ:u1 aa C c0=((((cT aa w3 w2)++(cT aa w2 w1))++(cT aa w1 c0))++(k7 aa c0 aa.length)):=by
   unfold u1;rw [uK _ e1,uK _ e2,uK _ e3,JE _ eN];rfl
  obtain ⟨wS,wt,cL⟩: ∃a t,(j9 (k7 aa c0 aa.length) (j9 (cT aa w1 c0) (j9 (cT aa w2 w1) (j9 (cT aa w3 w2) .none))))=Value.str a t:=ju _ (ju _ (ju _ (u9 (u0 (Nat.le_refl _) s3))))
  refine ⟨3,((w3:Nat):Int),((w2:Nat):Int),c0,w1,wS,?_⟩
  rw [cJ]
  intro S F Z fr L kv bh ae ty lt l lR eR et hl
  exact qz W S F Z fr L kv ae ty lt l lR aa eR _ _ 3 _ _ _ _ _ _ _ wS wt _ _ cL (QC W S F Z fr L kv bh ae ty lt l lR aa eR (fun k=>((k:Nat):Int)) et C n hn (fun i j h _=>Int.ofNat_lt.mpr h) h0 hl hlen (fun _=>rfl) c0 (jH hs.2) (Vi (jc hs.2 aj)) (kW C w1) w1 a1 (kW C w2) w2 a2 (kW C w3) w3 a3 z3)
 obtain ⟨w4,e4⟩:=Vk ed z3
 have a4:=uW e4
 have s4:=dW a4.2.1 s3
 have k1:=Vi (uC a1.2.1 (Vi (jc hs.2 aj)))
 have z4:w4=0:=Nat.le_zero.mp (Vi (uC a4.2.1 (Vi (uC a3.2.1 (Vi (uC a2.2.1 k1))))))
 have eN:kS C w4=none:=by rw [z4];rfl
 have cJ:u1 aa C c0=(((((cT aa w4 w3)++(cT aa w3 w2))++(cT aa w2 w1))++(cT aa w1 c0))++(k7 aa c0 aa.length)):=by
  unfold u1;rw [uK _ e1,uK _ e2,uK _ e3,uK _ e4,JE _ eN];rfl
 obtain ⟨wS,wt,cL⟩: ∃a t,(j9 (k7 aa c0 aa.length) (j9 (cT aa w1 c0) (j9 (cT aa w2 w1) (j9 (cT aa w3 w2) (j9 (cT aa w4 w3) .none)))))=Value.str a t:=ju _ (ju _ (ju _ (ju _ (u9 (u0 (Nat.le_refl _) s4)))))
 refine ⟨4,((w4:Nat):Int),((w3:Nat):Int),c0,w1,wS,?_⟩
 rw [cJ]
 intro S F Z fr L kv bh ae ty lt l lR eR et hl
 exact qz W S F Z fr L kv ae ty lt l lR aa eR _ _ 4 _ _ _ _ _ _ _ wS wt _ _ cL (QF W S F Z fr L kv bh ae ty lt l lR aa eR (fun k=>((k:Nat):Int)) et C n hn (fun i j h _=>Int.ofNat_lt.mpr h) h0 hl hlen (fun _=>rfl) c0 (jH hs.2) (Vi (jc hs.2 aj)) (kW C w1) w1 a1 (kW C w2) w2 a2 (kW C w3) w3 a3 (kW C w4) w4 a4 z4)
theorem Rg (W:World) (R:Nat→Nat) (n:Nat) (rt:Nat→Tok) (ah:Bool) (size:Nat) (hn:n=4∨n=5) (hs:2≤size∧size≤n) (ed:jR R ah size 0=true): ∃kI aY aZ gG fG wS,qx W R n rt ah size kI aY aZ gG fG wS (u1 (JL R rt n) (jR R ah size) (size-1)):=by
 have ez:(((size:Nat):Int)-1)=((size-1:Nat):Int):=by lia
 rw [show qx W R n rt ah size=tP W n (jR R ah size) (JL R rt n) (((size:Nat):Int)-1) from rfl,ez]
 exact Rf W n _ _ (size-1) hn (tS R rt n) (by lia) ed
def Rh:=kg [z9,YA,264,fH,256,Aa]
def Ri:=kg [z9,YB,264,fH,256,Aa]
def Rj:=kg [Ab,oE,28244397,oF,324,mz,V0,Ac]
def Rk:=kg [Ab,oE,28244397,oF,356534975546436,mz,V0,Ac]
def Rl:=kg [sC,oG,Ad,YA,UX,Ae]
def Rm:=kg [sC,oG,1336667092791,Ad,YB,UX,Ae]
def Rn:=kg [Af,Ag,YA,Ju,Ah]
def Ro:=kg [Af,1340978837560,Ag,YB,Ju,Ah]
def Rq:=kg [Ai,YA,264,fH,256,Aj,17360788,mH,17160709]
def Rr:=kg [Ai,YB,264,fH,256,Aj,17360788,mH,17160709]
def Rt:=kg [Ak,oE,28309934,oF,324,mz,V0,Al,mI]
def Ru:=kg [Ak,oE,28309934,oF,356534975546436,mz,V0,Al,mI]
def Rv:=kg [sD,oG,Am,YA,UX,An]
def Rw:=kg [sD,oG,1336667092791,Am,YB,UX,An]
def Rx:=kg [Ao,Ap,YA,Ju,Aq]
def Ry:=kg [Ao,1340978837560,Ap,YB,Ju,Aq]
noncomputable def uo:List Nat:= [27,28,23,24,22,7,14,13,20,29]
noncomputable def Jf:List Nat:= [29,30,25,26,24,23,10,9,16,31]
noncomputable def Jg:List Nat:= [28,29,24,25,23,8,15,14,21,30]
noncomputable def qA:List Nat:= [37,31,32,40,39,16]
def qB:List Nat:=([50,51,49,4,5]++rg 43 5++ [16,41])
def CL:List Nat:=([70,71,69,54,52]++rg 63 5++ [12,60,73,4,7,29,30,31,5,0,10])
def CM:List Nat:=([64,65,63,4,5]++rg 57 5++ [16,54,6,8,11,27,28,29,9,0,14])
def CN:List Nat:=([70,71,69,4,5]++rg 63 5++ [55,60,8,11,27,28,29,9,0,14])
def CO:List Nat:=([71,72,70,4,5]++rg 64 5++ [56,61,7,9,12,28,29,30,10,0,15])
abbrev ky (x0:Nat→Nat) (x1:Nat) (x2:Nat→Tok) (x3:Nat):=vt (jb (x0 x1)) (x2 x3)
abbrev tV (x0:Qt) (x3:Nat→Addr) (x4 x7:Nat) (x9:Nat→Int) (aB:Nat→Tok) (aK:Nat→Nat) (bB:Nat→Int) (bI:Int) (oZ sS:Nat) (fh:Nat→Tok):=x0 10 41 .NotEq (rf (x3 x4)) (rf (x3 (x4+3))) [((x3 x4),(sq "tuple" [(rf (x3 x7)),(rf (x3 (x7+1))),(vi (x9 5) (aB 76))] 0)),((x3 x7),(j0 [(vt (sl []) (aB 46)),(ky aK 0 aB 50),(ky aK 1 aB 56),(ky aK 2 aB 62),(ky aK 3 aB 68),(ky aK 4 aB 74)] 6)),((x3 (x7+1)),(j0 [(vi 0 (aB 11)),(vn (ja aK bB bI 5 1) (aB 51)),(vn (ja aK bB bI 5 2) (aB 57)),(vn (ja aK bB bI 5 3) (aB 63)),(vn (ja aK bB bI 5 4) (aB 69)),(vn (ja aK bB bI 5 5) (aB 75))] 6)),((x3 (x4+3)),(sq "tuple" [(rf (x3 (x4+2))),(rf (x3 oZ)),(vi (1+((sS:Nat):Int)) (aB 81))] 0)),((x3 (x4+2)),(j0 [(vt (sl []) (aB 84)),(ky aK 0 fh 0),(ky aK 1 fh 1),(ky aK 2 fh 2),(ky aK 3 fh 3),(ky aK 4 fh 4)] 0)),((x3 oZ),(j0 [(vn (ja aK bB bI 5 0) (aB 4)),(vn (ja aK bB bI 5 1) (aB 5)),(vn (ja aK bB bI 5 2) (aB 6)),(vn (ja aK bB bI 5 3) (aB 7)),(vn (ja aK bB bI 5 4) (aB 8)),(vn (ja aK bB bI 5 5) (aB 9))] 5))]
abbrev gu (x0:Qa) (x1:Nat) (x3:Nat→Addr) (x4 x7 x8 aJ:Nat) (bO:Addr) (bV:Nat) (bB:Tok) (du:Bool) (d8:Nat→Nat) (dN:Nat→Tok) (eU eV:Nat):=x0 x1 41 (.compStart lF 0 (rf (x3 x4)) (rf (x3 (x4+1))) (nh (x3 (x4+2)) (x3 x7) (x3 x8) (x3 (x7+2)) (x3 aJ))) [((x3 x4),kc bO 0),((x3 (x4+1)),j0 [] 0),((x3 (x4+2)),dE),((x3 x7),j8 (vn bV bB)),((x3 x8),j8 (rf bO)),((x3 (x7+2)),j8 (.bool du)),(bO,j0 (kj d8 dN eU) eV)]
abbrev tW (x0:Qt) (x3:Nat→Addr) (x4 x7:Nat) (x9:Nat→Int) (aB:Nat→Tok) (aK:Nat→Nat) (bB:Nat→Int) (bI:Int) (CP Rz:Nat) (gb:Nat→Tok):=x0 9 41 .NotEq (rf (x3 x4)) (rf (x3 (x4+3))) [((x3 x4),(sq "tuple" [(rf (x3 x7)),(rf (x3 (x7+1))),(vi (x9 4) (aB 69))] 0)),((x3 x7),(j0 [(vt (sl []) (aB 45)),(ky aK 0 aB 49),(ky aK 1 aB 55),(ky aK 2 aB 61),(ky aK 3 aB 67)] 5)),((x3 (x7+1)),(j0 [(vi 0 (aB 10)),(vn (ja aK bB bI 4 1) (aB 50)),(vn (ja aK bB bI 4 2) (aB 56)),(vn (ja aK bB bI 4 3) (aB 62)),(vn (ja aK bB bI 4 4) (aB 68))] 5)),((x3 (x4+3)),(sq "tuple" [(rf (x3 (x4+2))),(rf (x3 CP)),(vi (1+((Rz:Nat):Int)) (aB 74))] 0)),((x3 (x4+2)),(j0 [(vt (sl []) (aB 77)),(ky aK 0 gb 0),(ky aK 1 gb 1),(ky aK 2 gb 2),(ky aK 3 gb 3)] 0)),((x3 CP),(j0 [(vn (ja aK bB bI 4 0) (aB 4)),(vn (ja aK bB bI 4 1) (aB 5)),(vn (ja aK bB bI 4 2) (aB 6)),(vn (ja aK bB bI 4 3) (aB 7)),(vn (ja aK bB bI 4 4) (aB 8))] 4))]
abbrev Us (x0:Nat→Nat) (x1:Nat) (x2:Nat→Int) (x3:Int) (x4:Nat) (x6:Nat→Int):=Yc (jb (x0 x1)) (ja x0 x2 x3 x4 (x1+1)) (x6 (x1+1)) 0
abbrev eF (x0:Qa) (x1:Nat) (x3:Addr) (x4:Nat) (x5:Nat→Tok) (x6:Nat) (x7:Nat→Nat) (x8:Nat→Tok) (x9 aJ:Nat):=x0 x1 41 (cb "list.__getitem__" [(rf x3),(vi (((x4:Nat):Int)-1) (x5 x6))]) [(x3,(j0 (kj x7 x8 x9) aJ))]
abbrev eG (x0:Nat→Tok) (x1:Nat):=vt (sl [47,99,108,97,105,109,47,99,117,116,46,112,121]) (x0 x1)
abbrev dI (x0:Nat→Nat) (x1:Nat→Int) (x2:Int) (x3:Nat) (x4:Nat→Tok):=uP (fun k=>((ja x0 x1 x2 x3 k:Nat):Int)) (uY (kr x4 4 (x3+1))) x3
abbrev nA (x0:Nat→Nat) (x1:Nat→Int) (x2:Int) (x5:Nat→Tok):=j0 [(vn (ja x0 x1 x2 5 0) (x5 4)),(vn (ja x0 x1 x2 5 1) (x5 5)),(vn (ja x0 x1 x2 5 2) (x5 6)),(vn (ja x0 x1 x2 5 3) (x5 7)),(vn (ja x0 x1 x2 5 4) (x5 8)),(vn (ja x0 x1 x2 5 5) (x5 9))] 5
abbrev nB (x0:Nat→Nat) (x1:Nat→Int) (x2:Int) (x5:Nat→Tok):=j0 [(vn (ja x0 x1 x2 4 0) (x5 4)),(vn (ja x0 x1 x2 4 1) (x5 5)),(vn (ja x0 x1 x2 4 2) (x5 6)),(vn (ja x0 x1 x2 4 3) (x5 7)),(vn (ja x0 x1 x2 4 4) (x5 8))] 4
abbrev yC (x0:Nat→Tok) (x1:Nat):=vt (sl [10,9,13,32]) (x0 x1)
abbrev gv (x0:Nat→Nat) (x1:Nat→Tok):= [(ky x0 0 x1 0),(ky x0 1 x1 1),(ky x0 2 x1 2),(ky x0 3 x1 3),(ky x0 4 x1 4)]
abbrev gw (x0:Qa) (x1:Nat) (x3:Nat→Nat) (x4:Nat) (x5:Nat→Tok) (x6:Nat):=x0 x1 41 (cb "str.__le__" [(vt (jb (x3 (x4-2))) (x5 x6)),(vt (jb (x3 (x4-1))) (x5 (x6+3)))]) []
abbrev qC (x0:Addr) (x1:Nat→Nat) (x2:Nat→Tok) (x3 x4:Nat) (x5:Addr) (x6:Nat→Int) (x7:Nat→Tok) (x9:Nat) (aJ:jX) (aB:jF) (bO:List Tok):= [(x0,(j0 (kj x1 x2 x3) x4)),(x5,(j0 (jS x6 x7 x3) x9)),(86,(fN [(vi 91 0),(vi 4 0),(rf aJ.aN)])),(93,(fN [(vi 109 0),(vi 4 0),(rf aB.aT)])),(aJ.aN,aJ.bq),(aJ.bD,(fN (jL aJ.af))),(aJ.af,(jD 100 bO)),(aB.aT,aB.code)]
abbrev gx (x0:Qa) (x1:Nat) (x3:Addr) (x4:Nat) (x5:Nat→Tok) (x6:Nat) (x7:Nat→Nat) (x8:Nat→Tok) (x9 aJ:Nat):=x0 x1 41 (cb "list.__getitem__" [(rf x3),(vi (((x4:Nat):Int)-2) (x5 x6))]) [(x3,(j0 (kj x7 x8 x9) aJ))]
abbrev gy (x0:Nat→Addr) (x1:Nat) (x2:Nat→Nat) (x3:Nat→Int) (x4:Int) (x5:Nat) (x6:Nat→Tok) (x9:Nat):=cr 21 [(rf (x0 x1)),(vt (jk (jM x2 x3 x4 x5)) (x6 3)),(vn (jk (jM x2 x3 x4 x5)).length (x6 x9))]
abbrev gz (x0:Nat→Nat) (x1:Nat→Tok):= [(ky x0 0 x1 0),(ky x0 1 x1 1),(ky x0 2 x1 2),(ky x0 3 x1 3)]
abbrev gA (x0:Nat→Nat) (x1:Nat→Tok):= [(ky x0 1 x1 1),(ky x0 2 x1 2),(ky x0 3 x1 3),(ky x0 4 x1 4)]
abbrev gB (x0:Qa) (x3 x4:Addr) (x5:Int) (x6:Tok) (x7:Nat→Nat) (x8:Nat→Tok) (x9 aJ:Nat) (aB:Nat→Int) (bO:Nat→Tok) (bP:Nat):=x0 0 41 (cr 84 [(rf x3),(rf x4),(vi x5 x6)]) [(x3,(j0 (kj x7 x8 x9) aJ)),(x4,(j0 (jS aB bO x9) bP))]
abbrev gC (x0:Qa) (x1:Nat) (x3:Nat→Nat) (x4:Nat→Int) (x5:Int) (x6:Nat) (x7:Nat→Tok) (x9:Nat):=x0 x1 41 (cb "str.count" [(vt (jk (jM x3 x4 x5 x6)) (x7 3)),(vt (sl [10]) (x7 x9))]) []
abbrev yO (x0:Qa) (x1 x2:Nat):=x0 x1 x2 (cr 59 [.none]) []
abbrev gD (x2:Nat→Nat) (x3:Nat→Int) (x4:Int) (x5:Nat):=j7 0 1 (fI (((jk (jM x2 x3 x4 x5)).length:Nat):Int))
abbrev YW (x2:Nat→Nat) (x3:Nat):=j7 1 1 (fS (jb (x2 (x3-1))))
abbrev qD (x0:Nat→Nat) (x2:Nat→Tok):= [(jb (x0 0),x2 0),(jb (x0 1),x2 1),(jb (x0 2),x2 2),(jb (x0 3),x2 3),(jb (x0 4),x2 4)]
abbrev YX (x2:Bool):=j7 0 0 (fun _=> .bool x2)
abbrev gE (x0:Nat→Nat) (x1:Nat→Tok):= [(ky x0 1 x1 1),(ky x0 2 x1 2),(ky x0 3 x1 3)]
abbrev gF (x0:Nat→Nat) (x1:Nat→Tok):= [(ky x0 2 x1 2),(ky x0 3 x1 3),(ky x0 4 x1 4)]
abbrev gH:=j7 6 0 (fun _=> .bool false)
abbrev qE (x0:Nat→Nat) (x2:Nat→Tok):= [(jb (x0 0),x2 0),(jb (x0 1),x2 1),(jb (x0 2),x2 2),(jb (x0 3),x2 3)]
abbrev gI (x2:Nat):=j7 0 1 (fI ((x2:Nat):Int))
abbrev gJ (x0:Nat→Addr) (x1 x2:Nat) (x3:Tok):=cb "list.__getitem__" [(rf (x0 x1)),(vn x2 x3)]
abbrev gK (x2:Nat→Nat) (x3:Nat):=j7 1 1 (fS (jb (x2 (x3-2))))
abbrev gL (x2:Nat→Nat) (x3:Nat→Int) (x4:Int) (x5 x6:Nat):=j7 1 1 (fI ((ja x2 x3 x4 x5 x6:Nat):Int))
abbrev gM (x0:Qa) (x1:Nat) (x3:Nat→Nat) (x4:Nat→Int) (x5:Int) (x6:Nat) (x7:Nat→Tok):=x0 x1 41 (cb "len" [(vt (jk (jM x3 x4 x5 x6)) (x7 3))]) []
abbrev gN (x0:Nat→Nat) (x1:Nat→Tok):= [(ky x0 2 x1 2),(ky x0 3 x1 3)]
abbrev gO (x0:Nat→Nat) (x1:Nat→Tok):= [(ky x0 3 x1 3),(ky x0 4 x1 4)]
abbrev qF (x0:Nat→Addr) (x1:Nat) (x2:Nat→Nat) (x3:Nat→Int) (x4:Int) (x5:Nat) (x6:Nat→Tok) (aJ:Nat):=cr 21 [(rf (x0 x1)),(vt (jk (jM x2 x3 x4 x5)) (x6 3)),(vi (((ja x2 x3 x4 x5 1:Nat):Int)-1) (x6 aJ))]
abbrev gP (x0:Nat→Nat) (x1:Nat→Int) (x2:Int) (x3:Nat) (x5:Nat→Int):=Yc (jk []) (ja x0 x1 x2 x3 x3) (x5 x3) 0
section
variable (P:Params) (R:Nat→Nat) (w:Nat→Int) (rt wt:Nat→Tok) (size:Nat) (ah gQ:Bool) (cN:Nat) (ag:Nat→Int) (R2:Nat→Nat) (yt:Nat→Tok) (kI:Nat) (aY aZ:Int) (gG fG:Nat) (wS:Str) (S0:jX) (L0:jF) (lc b7:List Tok) (eR eW:Nat) (aR aW:Addr) (bJ:Tok) (tn:Int) (az:Tok)
def yW (A:Nat→Addr) (K:Nat→Tok):jF:=⟨(A 29),(A 30),(A 25),(A 26),(A 31),(A 24),(A 23),(A 10),(A 9),(A 16),(K 34),(K 36),(K 37),(K 39),(K 38),(K 21),(K 23),(K 24),(K 26),(K 29),(K 3),(K 12),(vi 1 (K 22)),(yC K 25),(rf (A 27)),(rf (A 17)),(vt (sl [114,101,97,100]) (K 11)),[(eG K 13),(vi 109 0),(vi 1 0),(vi 0 0),(vi 0 0),(vi 19 0),(rf (A 18)),(.bool true),(vi 181 0),(rf (A 19)),.none,(rf (A 20)),(rf (A 21)),(rf (A 22)),(vn (K 18) 0),(vi 109 0),(eG K 19)],0,(jk (jM R w tn 4))⟩
def RA (A:Nat→Addr) (K:Nat→Tok):jX:=⟨(A 56),(A 57),(A 55),(A 54),(A 52),(A 45),(A 46),(A 47),(A 48),(A 49),(A 12),(A 43),(A 51),(A 53),0,0,(A 50),(K 88),(K 89),(K 90),(K 95),(K 96),(K 3),(K 87),(jk (jM R w tn 4)),4,0,(K 98),(K 100),(K 101),(K 103),(K 106),(vi 1 (K 99)),(yC K 102),(rf (A 58))⟩
def RB (A:Nat→Addr) (K:Nat→Tok):jX:=⟨(A 70),(A 71),(A 69),(A 54),(A 52),(A 63),(A 64),(A 65),(A 66),(A 67),(A 12),(A 60),(A 51),(A 53),0,0,(A 68),(K 88),(K 89),(K 90),(K 95),(K 96),(K 3),(K 117),(jk (jM R w tn 4)),4,4,(K 119),(K 121),(K 122),(K 124),(K 127),(vi 1 (K 120)),(yC K 123),(rf (A 72))⟩
def RE (A:Nat→Addr) (K:Nat→Tok):YE:=⟨(K 0),(K 1),(K 2),(K 9),(K 20),(K 27),(K 44),(K 45),(K 53),(K 84),(K 109),(K 128),(rf aW),(vi tn bJ),(rf (A 24)),(rf (A 25)),(rf (A 33)),(rf (A 34)),(1+((cN:Nat):Int)),(K 83)⟩
noncomputable def CQ (A:Nat→Addr) (K:Nat→Tok):YC:=⟨(A 10),(A 9),(A 8),(A 7),(A 6),(A 5)⟩
def CT (A:Nat→Addr) (K:Nat→Tok):jX:=⟨(A 70),(A 71),(A 69),(A 54),(A 52),(A 63),(A 64),(A 65),(A 66),(A 67),(A 12),(A 60),(A 51),(A 53),(A 73),0,(A 68),(K 88),(K 89),(K 90),(K 95),(K 96),(K 3),(K 117),(jk (jM R w tn 4)),4,4,(K 119),(K 121),(K 122),(K 124),(K 127),(vi 1 (K 120)),(yC K 123),(rf (A 72))⟩
def yX (A:Nat→Addr) (K:Nat→Tok):jF:=⟨(A 27),(A 28),(A 23),(A 24),(A 29),(A 22),L0.aT,(A 14),(A 13),(A 20),(K 25),(K 27),(K 28),(K 30),(K 29),(K 12),(K 14),(K 15),(K 17),(K 20),(K 3),L0.qt,(vi 1 (K 13)),(yC K 16),(rf (A 25)),(rf (A 21)),L0.v0,L0.cr,0,(jk (jM R w tn 4))⟩
def RG (A:Nat→Addr) (K:Nat→Tok):jX:=⟨(A 50),(A 51),(A 49),S0.aN,S0.bD,(A 43),(A 44),(A 45),(A 46),(A 47),(A 16),(A 41),S0.r8,S0.d3,S0.af,0,(A 48),S0.q0,S0.q1,S0.q2,S0.d4,S0.d5,(K 3),(K 78),(jk (jM R w tn 4)),4,0,(K 80),(K 82),(K 83),(K 85),(K 88),(vi 1 (K 81)),(yC K 84),(rf (A 52))⟩
def tX (A:Nat→Addr) (K:Nat→Tok):jX:=⟨(A 64),(A 65),(A 63),S0.aN,S0.bD,(A 57),(A 58),(A 59),(A 60),(A 61),(A 16),(A 54),S0.r8,S0.d3,S0.af,0,(A 62),S0.q0,S0.q1,S0.q2,S0.d4,S0.d5,(K 3),(K 99),(jk (jM R w tn 4)),4,4,(K 101),(K 103),(K 104),(K 106),(K 109),(vi 1 (K 102)),(yC K 105),(rf (A 66))⟩
def RH (A:Nat→Addr) (K:Nat→Tok):YE:=⟨(K 0),(K 1),(K 2),(K 9),(K 11),(K 18),(K 35),(K 36),(K 44),(K 75),(K 91),(K 110),(rf aW),(vi tn bJ),(rf (A 22)),(rf (A 23)),(rf (A 31)),(rf (A 32)),(1+((cN:Nat):Int)),(K 74)⟩
noncomputable def CU (A:Nat→Addr) (K:Nat→Tok):YC:=⟨(A 14),(A 13),(A 12),(A 11),(A 10),(A 9)⟩
def yY (A:Nat→Addr) (K:Nat→Tok):jF:=⟨(A 27),(A 28),(A 23),(A 24),(A 29),(A 22),L0.aT,(A 14),(A 13),(A 20),(K 25),(K 27),(K 28),(K 30),(K 29),(K 12),(K 14),(K 15),(K 17),(K 20),(K 3),L0.qt,(vi 1 (K 13)),(yC K 16),(rf (A 25)),(rf (A 21)),L0.v0,L0.cr,0,(jk (jM R w tn 4))⟩
def RJ (A:Nat→Addr) (K:Nat→Tok):jX:=⟨(A 50),(A 51),(A 49),S0.aN,S0.bD,(A 43),(A 44),(A 45),(A 46),(A 47),(A 16),(A 41),S0.r8,S0.d3,S0.af,0,(A 48),S0.q0,S0.q1,S0.q2,S0.d4,S0.d5,(K 3),(K 78),(jk (jM R w tn 4)),4,0,(K 80),(K 82),(K 83),(K 85),(K 88),(vi 1 (K 81)),(yC K 84),(rf (A 52))⟩
def CV (A:Nat→Addr) (K:Nat→Tok):jX:=⟨(A 70),(A 71),(A 69),S0.aN,S0.bD,(A 63),(A 64),(A 65),(A 66),(A 67),(A 55),(A 60),S0.r8,S0.d3,S0.af,0,(A 68),S0.q0,S0.q1,S0.q2,S0.d4,S0.d5,(K 3),(K 123),(jk (jM R w tn 4)),5,4,(K 125),(K 127),(K 128),(K 130),(K 133),(vi 1 (K 126)),(yC K 129),(rf (A 72))⟩
def RK (A:Nat→Addr) (K:Nat→Tok):YE:=⟨(K 0),(K 1),(K 2),(K 9),(K 11),(K 18),(K 35),(K 36),(K 44),(K 75),(K 91),(K 134),(rf aW),(vi tn bJ),(rf (A 22)),(rf (A 23)),(rf (A 31)),(rf (A 32)),(1+((cN:Nat):Int)),(K 74)⟩
noncomputable def CW (A:Nat→Addr) (K:Nat→Tok):YC:=⟨(A 14),(A 13),(A 12),(A 11),(A 10),(A 9)⟩
def yZ (A:Nat→Addr) (K:Nat→Tok):jF:=⟨(A 28),(A 29),(A 24),(A 25),(A 30),(A 23),L0.aT,(A 15),(A 14),(A 21),(K 25),(K 27),(K 28),(K 30),(K 29),(K 12),(K 14),(K 15),(K 17),(K 20),(K 3),L0.qt,(vi 1 (K 13)),(yC K 16),(rf (A 26)),(rf (A 22)),L0.v0,L0.cr,0,(jk (jM R w tn 4))⟩
def RL (A:Nat→Addr) (K:Nat→Tok):jX:=⟨(A 51),(A 52),(A 50),S0.aN,S0.bD,(A 44),(A 45),(A 46),(A 47),(A 48),(A 17),(A 42),S0.r8,S0.d3,S0.af,S0.aA,(A 49),S0.q0,S0.q1,S0.q2,S0.d4,S0.d5,(K 3),(K 78),(jk (jM R w tn 4)),4,0,(K 80),(K 82),(K 83),(K 85),(K 88),(vi 1 (K 81)),(yC K 84),(rf (A 53))⟩
def CX (A:Nat→Addr) (K:Nat→Tok):jX:=⟨(A 71),(A 72),(A 70),S0.aN,S0.bD,(A 64),(A 65),(A 66),(A 67),(A 68),(A 56),(A 61),S0.r8,S0.d3,S0.af,S0.aA,(A 69),S0.q0,S0.q1,S0.q2,S0.d4,S0.d5,(K 3),(K 123),(jk (jM R w tn 4)),5,4,(K 125),(K 127),(K 128),(K 130),(K 133),(vi 1 (K 126)),(yC K 129),(rf (A 73))⟩
def RM (A:Nat→Addr) (K:Nat→Tok):YE:=⟨(K 0),(K 1),(K 2),(K 9),(K 11),(K 18),(K 35),(K 36),(K 44),(K 75),(K 91),(K 134),(rf aW),(vi tn bJ),(rf (A 23)),(rf (A 24)),(rf (A 32)),(rf (A 33)),(1+((cN:Nat):Int)),(K 74)⟩
noncomputable def CY (A:Nat→Addr) (K:Nat→Tok):YC:=⟨(A 15),(A 14),(A 13),(A 12),(A 11),(A 10)⟩
def yk (A:Nat→Addr) (K:Nat→Tok):jF:=⟨(A 29),(A 30),(A 25),(A 26),(A 31),(A 24),(A 23),(A 10),(A 9),(A 16),(K 35),(K 37),(K 38),(K 40),(K 39),(K 22),(K 24),(K 25),(K 27),(K 30),(K 3),(K 13),(vi 1 (K 23)),(yC K 26),(rf (A 27)),(rf (A 17)),(vt (sl [114,101,97,100]) (K 12)),[(eG K 14),(vi 109 0),(vi 1 0),(vi 0 0),(vi 0 0),(vi 19 0),(rf (A 18)),(.bool true),(vi 181 0),(rf (A 19)),.none,(rf (A 20)),(rf (A 21)),(rf (A 22)),(vn (K 19) 0),(vi 109 0),(eG K 20)],0,(jk (jM R w tn 5))⟩
def RN (A:Nat→Addr) (K:Nat→Tok):jX:=⟨(A 56),(A 57),(A 55),(A 54),(A 52),(A 45),(A 46),(A 47),(A 48),(A 49),(A 12),(A 43),(A 51),(A 53),0,0,(A 50),(K 95),(K 96),(K 97),(K 102),(K 103),(K 3),(K 94),(jk (jM R w tn 5)),5,0,(K 105),(K 107),(K 108),(K 110),(K 113),(vi 1 (K 106)),(yC K 109),(rf (A 58))⟩
def RO (A:Nat→Addr) (K:Nat→Tok):jX:=⟨(A 70),(A 71),(A 69),(A 54),(A 52),(A 63),(A 64),(A 65),(A 66),(A 67),(A 12),(A 60),(A 51),(A 53),0,0,(A 68),(K 95),(K 96),(K 97),(K 102),(K 103),(K 3),(K 124),(jk (jM R w tn 5)),5,5,(K 126),(K 128),(K 129),(K 131),(K 134),(vi 1 (K 127)),(yC K 130),(rf (A 72))⟩
def RP (A:Nat→Addr) (K:Nat→Tok):YE:=⟨(K 0),(K 1),(K 2),(K 10),(K 21),(K 28),(K 45),(K 46),(K 54),(K 91),(K 116),(K 135),(rf aW),(vi tn bJ),(rf (A 24)),(rf (A 25)),(rf (A 33)),(rf (A 34)),(1+((cN:Nat):Int)),(K 90)⟩
noncomputable def CZ (A:Nat→Addr) (K:Nat→Tok):YC:=⟨(A 10),(A 9),(A 8),(A 7),(A 6),(A 5)⟩
def C5 (A:Nat→Addr) (K:Nat→Tok):jX:=⟨(A 70),(A 71),(A 69),(A 54),(A 52),(A 63),(A 64),(A 65),(A 66),(A 67),(A 12),(A 60),(A 51),(A 53),(A 73),0,(A 68),(K 95),(K 96),(K 97),(K 102),(K 103),(K 3),(K 124),(jk (jM R w tn 5)),5,5,(K 126),(K 128),(K 129),(K 131),(K 134),(vi 1 (K 127)),(yC K 130),(rf (A 72))⟩
def yl (A:Nat→Addr) (K:Nat→Tok):jF:=⟨(A 27),(A 28),(A 23),(A 24),(A 29),(A 22),L0.aT,(A 14),(A 13),(A 20),(K 26),(K 28),(K 29),(K 31),(K 30),(K 13),(K 15),(K 16),(K 18),(K 21),(K 3),L0.qt,(vi 1 (K 14)),(yC K 17),(rf (A 25)),(rf (A 21)),L0.v0,L0.cr,0,(jk (jM R w tn 5))⟩
def RQ (A:Nat→Addr) (K:Nat→Tok):jX:=⟨(A 50),(A 51),(A 49),S0.aN,S0.bD,(A 43),(A 44),(A 45),(A 46),(A 47),(A 16),(A 41),S0.r8,S0.d3,S0.af,0,(A 48),S0.q0,S0.q1,S0.q2,S0.d4,S0.d5,(K 3),(K 85),(jk (jM R w tn 5)),5,0,(K 87),(K 89),(K 90),(K 92),(K 95),(vi 1 (K 88)),(yC K 91),(rf (A 52))⟩
def tY (A:Nat→Addr) (K:Nat→Tok):jX:=⟨(A 64),(A 65),(A 63),S0.aN,S0.bD,(A 57),(A 58),(A 59),(A 60),(A 61),(A 16),(A 54),S0.r8,S0.d3,S0.af,0,(A 62),S0.q0,S0.q1,S0.q2,S0.d4,S0.d5,(K 3),(K 106),(jk (jM R w tn 5)),5,5,(K 108),(K 110),(K 111),(K 113),(K 116),(vi 1 (K 109)),(yC K 112),(rf (A 66))⟩
def RU (A:Nat→Addr) (K:Nat→Tok):YE:=⟨(K 0),(K 1),(K 2),(K 10),(K 12),(K 19),(K 36),(K 37),(K 45),(K 82),(K 98),(K 117),(rf aW),(vi tn bJ),(rf (A 22)),(rf (A 23)),(rf (A 31)),(rf (A 32)),(1+((cN:Nat):Int)),(K 81)⟩
noncomputable def C6 (A:Nat→Addr) (K:Nat→Tok):YC:=⟨(A 14),(A 13),(A 12),(A 11),(A 10),(A 9)⟩
def ym (A:Nat→Addr) (K:Nat→Tok):jF:=⟨(A 27),(A 28),(A 23),(A 24),(A 29),(A 22),L0.aT,(A 14),(A 13),(A 20),(K 26),(K 28),(K 29),(K 31),(K 30),(K 13),(K 15),(K 16),(K 18),(K 21),(K 3),L0.qt,(vi 1 (K 14)),(yC K 17),(rf (A 25)),(rf (A 21)),L0.v0,L0.cr,0,(jk (jM R w tn 5))⟩
def RV (A:Nat→Addr) (K:Nat→Tok):jX:=⟨(A 50),(A 51),(A 49),S0.aN,S0.bD,(A 43),(A 44),(A 45),(A 46),(A 47),(A 16),(A 41),S0.r8,S0.d3,S0.af,0,(A 48),S0.q0,S0.q1,S0.q2,S0.d4,S0.d5,(K 3),(K 85),(jk (jM R w tn 5)),5,0,(K 87),(K 89),(K 90),(K 92),(K 95),(vi 1 (K 88)),(yC K 91),(rf (A 52))⟩
def C7 (A:Nat→Addr) (K:Nat→Tok):jX:=⟨(A 70),(A 71),(A 69),S0.aN,S0.bD,(A 63),(A 64),(A 65),(A 66),(A 67),(A 55),(A 60),S0.r8,S0.d3,S0.af,0,(A 68),S0.q0,S0.q1,S0.q2,S0.d4,S0.d5,(K 3),(K 132),(jk (jM R w tn 5)),6,5,(K 134),(K 136),(K 137),(K 139),(K 142),(vi 1 (K 135)),(yC K 138),(rf (A 72))⟩
def RW (A:Nat→Addr) (K:Nat→Tok):YE:=⟨(K 0),(K 1),(K 2),(K 10),(K 12),(K 19),(K 36),(K 37),(K 45),(K 82),(K 98),(K 143),(rf aW),(vi tn bJ),(rf (A 22)),(rf (A 23)),(rf (A 31)),(rf (A 32)),(1+((cN:Nat):Int)),(K 81)⟩
noncomputable def C8 (A:Nat→Addr) (K:Nat→Tok):YC:=⟨(A 14),(A 13),(A 12),(A 11),(A 10),(A 9)⟩
def yn (A:Nat→Addr) (K:Nat→Tok):jF:=⟨(A 28),(A 29),(A 24),(A 25),(A 30),(A 23),L0.aT,(A 15),(A 14),(A 21),(K 26),(K 28),(K 29),(K 31),(K 30),(K 13),(K 15),(K 16),(K 18),(K 21),(K 3),L0.qt,(vi 1 (K 14)),(yC K 17),(rf (A 26)),(rf (A 22)),L0.v0,L0.cr,0,(jk (jM R w tn 5))⟩
def RX (A:Nat→Addr) (K:Nat→Tok):jX:=⟨(A 51),(A 52),(A 50),S0.aN,S0.bD,(A 44),(A 45),(A 46),(A 47),(A 48),(A 17),(A 42),S0.r8,S0.d3,S0.af,S0.aA,(A 49),S0.q0,S0.q1,S0.q2,S0.d4,S0.d5,(K 3),(K 85),(jk (jM R w tn 5)),5,0,(K 87),(K 89),(K 90),(K 92),(K 95),(vi 1 (K 88)),(yC K 91),(rf (A 53))⟩
def C9 (A:Nat→Addr) (K:Nat→Tok):jX:=⟨(A 71),(A 72),(A 70),S0.aN,S0.bD,(A 64),(A 65),(A 66),(A 67),(A 68),(A 56),(A 61),S0.r8,S0.d3,S0.af,S0.aA,(A 69),S0.q0,S0.q1,S0.q2,S0.d4,S0.d5,(K 3),(K 132),(jk (jM R w tn 5)),6,5,(K 134),(K 136),(K 137),(K 139),(K 142),(vi 1 (K 135)),(yC K 138),(rf (A 73))⟩
def RY (A:Nat→Addr) (K:Nat→Tok):YE:=⟨(K 0),(K 1),(K 2),(K 10),(K 12),(K 19),(K 36),(K 37),(K 45),(K 82),(K 98),(K 143),(rf aW),(vi tn bJ),(rf (A 23)),(rf (A 24)),(rf (A 32)),(rf (A 33)),(1+((cN:Nat):Int)),(K 81)⟩
noncomputable def C' (A:Nat→Addr) (K:Nat→Tok):YC:=⟨(A 15),(A 14),(A 13),(A 12),(A 11),(A 10)⟩
def RZ:RD:=⟨[(aR,(j0 (kj R rt 4) eR)),(aW,(j0 (jS w wt 4) eW)),(86,(fN [])),(93,(fN []))],[wi [0,1] (uT R w tn 4),wi [] (ko P),([25],fun c=>U3 P (Ux c 0)),wi Jf (U1 (sl []) [] 1),wi Jf (Us R 0 w tn 4 ag),wi Jf (Us R 1 w tn 4 ag),wi Jf (Us R 2 w tn 4 ag),wi Jf (Us R 3 w tn 4 ag),wi [] (gI cN),wi [39,33,34,42,41,12] (gH),wi [] (ko P),wi [] (gD R w tn 4),wi ([56,57,55,54,52]++rg 45 5++ [12,43]) VN,wi [12] (gL R w tn 4 size),wi [0] (gK R size),wi [0] (YW R size),wi [] (YX ah),wi [59,60,61,6,5,8,0] (Ve P R ah size 4 (ky R 3 rt 3)),wi [] (ko P),wi ([70,71,69,54,52]++rg 63 5++ [12,60]) pK,wi CL (Vf P kI aY aZ gG fG wS (qE R2 yt) 2),wi Jf (kK (ky R2 0 yt 0) (gE R2 yt) 6),wi Jf (kK (ky R2 1 yt 1) (gN R2 yt) 7),wi Jf (kK (ky R2 2 yt 2) [ky R2 3 yt 3] 8),wi Jf (kK (ky R2 3 yt 3) [] 9),wi Jf (gP R w tn 4 ag)],mA 4 5 27 (fun a t=> .ok (.ret (rf (a 0)))) (fun a t=> [id,id,fun _=>(fN [(vi 91 0),(vi 4 0),(rf (a 1))]),fun _=>(fN [(vi 109 0),(vi 4 0),(rf (a 2))])]) (fun a t=> [(j0 (gz R2 yt) 4),(fo "code" [(vt (sl [115,101,97,114,99,104]) (t 0)),(vt (sl [95,108,97,119,95,112,114,111,103,114,97,109,46,60,108,111,99,97,108,115,62,46,115,101,97,114,99,104]) (t 1)),(eG t 2),(vi 91 0),(vi 2 0),(vi 0 0),(vi 0 0),(vi 19 0),(rf (t 20)),(.bool true),(vi 181 0),(rf (a 3)),.none,.none,.none,(rf (t 21)),(vn (t 8) 0),(vi 91 0),(eG t 3)]),(fo "code" [(vt (sl [114,101,97,100]) (t 4)),(vt (sl [95,108,97,119,95,116,117,114,110,46,60,108,111,99,97,108,115,62,46,114,101,97,100]) (t 5)),(eG t 6),(vi 109 0),(vi 1 0),(vi 0 0),(vi 0 0),(vi 19 0),(rf (t 22)),(.bool true),(vi 181 0),(rf (t 23)),.none,(rf (t 24)),(rf (t 25)),(rf (t 26)),(vn (t 9) 0),(vi 109 0),(eG t 7)]),(fN [(vi 100 0),(vi 23 0),(rf (a 4))]),(jD 100 (kr t 10 10))]),[75,54,23,52,73],([88,89,90,96,11,12,13,19,95,18]++rg 132 10),([51,53]++rg 18 5),27,fun q qT qS A K=> [gB q aR aW tn bJ R rt 4 eR w wt eW,yO q 1 41,q 2 41 (cr 59 [rf (A 25)]) [((A 25),⟨(rf 59),(some (A 26)),.plain,#[]⟩)],q 3 40 (cr 49 [rf (A 29)]) (kh (yW R w tn A K) P 1 (K 35) 0 (K 10) [vt (sl []) (K 40)] 1),q 4 40 (cr 49 [rf (A 29)]) (ka (yW R w tn A K) P 1 (K 35) 0 (K 10) 2),q 5 40 (cr 49 [rf (A 29)]) (ka (yW R w tn A K) P (ag 1) (K 60) (ja R w tn 4 1) (K 59) 2),q 6 40 (cr 49 [rf (A 29)]) (ka (yW R w tn A K) P (ag 2) (K 66) (ja R w tn 4 2) (K 65) 2),q 7 40 (cr 49 [rf (A 29)]) (ka (yW R w tn A K) P (ag 3) (K 72) (ja R w tn 4 3) (K 71) 2),gC q 8 R w tn 4 K 81,qT 9 41 .NotEq (rf (A 39)) (rf (A 42)) [((A 39),(sq "tuple" [rf (A 33),rf (A 34),vi (ag 4) (K 78)] 0)),((A 33),(j0 [vt (sl []) (K 54),ky R 0 K 58,ky R 1 K 64,ky R 2 K 70,ky R 3 K 76] 5)),((A 34),(j0 [vi 0 (K 10),vn (ja R w tn 4 1) (K 59),vn (ja R w tn 4 2) (K 65),vn (ja R w tn 4 3) (K 71),vn (ja R w tn 4 4) (K 77)] 5)),((A 42),(sq "tuple" [rf (A 41),rf (A 12),vi (1+((cN:Nat):Int)) (K 83)] 0)),((A 41),(j0 [vt (sl []) (K 86),ky R 0 rt 0,ky R 1 rt 1,ky R 2 rt 2,ky R 3 rt 3] 0)),((A 12),(nB R w tn K))],yO q 10 40,gM q 11 R w tn 4 K,q 12 41 (gy A 56 R w tn 4 K 107) (jX.aV (RA R w tn A K) P eQ false (dI R w tn 4 K) []),q 13 41 (gJ A 12 size az) [((A 12),(nB R w tn K))],gx q 14 aR size K 111 R rt 4 eR,eF q 15 aR size K 114 R rt 4 eR,gw q 16 R size K 112,gu q 17 A 59 6 5 4 aR size az ah R rt 4 eR,yO q 18 40,q 19 41 (qF A 70 R w tn 4 K 131) (jX.aV (RB R w tn A K) P eQ false (dI R w tn 4 K) (vl (jR R ah size) 4)),qS 20 41 Jz (kD (A 4) (CQ A K)) (jX.aV (CT R w tn A K) P (jL (A 73)) false (dI R w tn 4 K) (vl (jR R ah size) 4)++ [((A 73),jD 100 (kr K 132 10))]++ks (CT R w tn A K) (RE cN aW bJ tn A K) (CQ A K) (A 4) (yW R w tn A K) (vi 4 (K 74)) 2 (K 3) (K 78) (ag 4) aR (JL R rt 4) eR P false (vn (ja R w tn 4 size) (K 108))),q 21 40 (cr 49 [rf (A 29)]) (kh (yW R w tn A K) P (ag 4) (K 78) (ja R w tn 4 4) (K 77) (gz R2 yt) 6),q 22 40 (cr 49 [rf (A 29)]) (kh (yW R w tn A K) P (ag 4) (K 78) (ja R w tn 4 4) (K 77) (gE R2 yt) 7),q 23 40 (cr 49 [rf (A 29)]) (kh (yW R w tn A K) P (ag 4) (K 78) (ja R w tn 4 4) (K 77) (gN R2 yt) 8),q 24 40 (cr 49 [rf (A 29)]) (kh (yW R w tn A K) P (ag 4) (K 78) (ja R w tn 4 4) (K 77) [ky R2 3 yt 3] 9),q 25 41 (cr 49 [rf (A 29)]) (ka (yW R w tn A K) P (ag 4) (K 78) (ja R w tn 4 4) (K 77) 10),((ag 4) !=(1+((cN:Nat):Int)))=false]⟩
theorem R0:GF P 41 96 [rf aR,rf aW,vi tn bJ,vn size az,.bool false] (e8 P) (RZ P R w rt wt size ah cN ag R2 yt kI aY aZ gG fG wS eR eW aR aW bJ tn az) (hb Rh Ri):=Ur
def R5:RD:=⟨(qC aR R rt 4 eR aW w wt eW S0 L0 lc),[wi [0,1] (uT R w tn 4),wi [] (ko P),([23],fun c=>U3 P (Ux c 0)),wi uo (U1 (sl []) [] 1),wi uo (Us R 0 w tn 4 ag),wi uo (Us R 1 w tn 4 ag),wi uo (Us R 2 w tn 4 ag),wi uo (Us R 3 w tn 4 ag),wi [] (gI cN),wi qA (gH),wi [] (ko P),wi [] (gD R w tn 4),wi qB VN,wi [16] (gL R w tn 4 size),wi [0] (gK R size),wi [0] (YW R size),wi [] (YX ah),wi [53,54,55,10,9,12,0] (Ve P R ah size 4 (ky R 3 rt 3)),wi [] (ko P),wi ([64,65,63,4,5]++rg 57 5++ [16,54,6]) v8,wi CM (Vf P kI aY aZ gG fG wS (qE R2 yt) 2),wi uo (kK (ky R2 0 yt 0) (gE R2 yt) 6),wi uo (kK (ky R2 1 yt 1) (gN R2 yt) 7),wi uo (kK (ky R2 2 yt 2) [ky R2 3 yt 3] 8),wi uo (kK (ky R2 3 yt 3) [] 9),wi uo (gP R w tn 4 ag)],mA 8 1 0 (fun a t=> .ok (.ret (rf (a 0)))) (fun a t=>(List.replicate 8 id)) (fun a t=> [(j0 (gz R2 yt) 4)]),[68],[],[],27,fun q qT qS A K=> [gB q aR aW tn bJ R rt 4 eR w wt eW,yO q 1 41,q 2 41 (cr 59 [rf (A 23)]) [((A 23),⟨(rf 59),(some (A 24)),.plain,#[]⟩)],q 3 40 (cr 49 [rf (A 27)]) (kh (yX R w L0 tn A K) P 1 (K 26) 0 (K 10) [vt (sl []) (K 31)] 1),q 4 40 (cr 49 [rf (A 27)]) (ka (yX R w L0 tn A K) P 1 (K 26) 0 (K 10) 2),q 5 40 (cr 49 [rf (A 27)]) (ka (yX R w L0 tn A K) P (ag 1) (K 51) (ja R w tn 4 1) (K 50) 2),q 6 40 (cr 49 [rf (A 27)]) (ka (yX R w L0 tn A K) P (ag 2) (K 57) (ja R w tn 4 2) (K 56) 2),q 7 40 (cr 49 [rf (A 27)]) (ka (yX R w L0 tn A K) P (ag 3) (K 63) (ja R w tn 4 3) (K 62) 2),gC q 8 R w tn 4 K 72,tW qT A 37 31 ag K R w tn 16 cN rt,yO q 10 40,gM q 11 R w tn 4 K,q 12 41 (gy A 50 R w tn 4 K 89) (jX.aV (RG R w S0 tn A K) P (jL S0.af) false (dI R w tn 4 K) []),q 13 41 (gJ A 16 size az) [((A 16),(nB R w tn K))],gx q 14 aR size K 93 R rt 4 eR,eF q 15 aR size K 96 R rt 4 eR,gw q 16 R size K 94,gu q 17 A 53 10 9 8 aR size az ah R rt 4 eR,yO q 18 40,q 19 41 (qF A 64 R w tn 4 K 113) (jX.aV (tX R w S0 tn A K) P (jL S0.af) false (dI R w tn 4 K) (vl (jR R ah size) 4)++ [(S0.af,jD 100 lc)]),qS 20 41 Jz (kD (A 8) (CU A K)) (jX.aV (tX R w S0 tn A K) P (jL S0.af) false (dI R w tn 4 K) (vl (jR R ah size) 4)++ [(S0.af,jD 100 lc)]++ks (tX R w S0 tn A K) (RH cN aW bJ tn A K) (CU A K) (A 8) (yX R w L0 tn A K) (vi 4 (K 65)) 2 (K 3) (K 69) (ag 4) aR (JL R rt 4) eR P false (vn (ja R w tn 4 size) (K 90))),q 21 40 (cr 49 [rf (A 27)]) (kh (yX R w L0 tn A K) P (ag 4) (K 69) (ja R w tn 4 4) (K 68) (gz R2 yt) 6),q 22 40 (cr 49 [rf (A 27)]) (kh (yX R w L0 tn A K) P (ag 4) (K 69) (ja R w tn 4 4) (K 68) (gE R2 yt) 7),q 23 40 (cr 49 [rf (A 27)]) (kh (yX R w L0 tn A K) P (ag 4) (K 69) (ja R w tn 4 4) (K 68) (gN R2 yt) 8),q 24 40 (cr 49 [rf (A 27)]) (kh (yX R w L0 tn A K) P (ag 4) (K 69) (ja R w tn 4 4) (K 68) [ky R2 3 yt 3] 9),q 25 41 (cr 49 [rf (A 27)]) (ka (yX R w L0 tn A K) P (ag 4) (K 69) (ja R w tn 4 4) (K 68) 10),((ag 4) !=(1+((cN:Nat):Int)))=false]⟩
theorem R6:GF P 41 96 [rf aR,rf aW,vi tn bJ,vn size az,.bool false] (e8 P) (R5 P R w rt wt size ah cN ag R2 yt kI aY aZ gG fG wS S0 L0 lc eR eW aR aW bJ tn az) (hb Rj Rk):=Ur
def R7:RD:=⟨(qC aR R rt 4 eR aW w wt eW S0 L0 lc),[wi [0,1] (uT R w tn 4),wi [] (ko P),([23],fun c=>U3 P (Ux c 0)),wi uo (U1 (sl []) [] 1),wi uo (Us R 0 w tn 4 ag),wi uo (Us R 1 w tn 4 ag),wi uo (Us R 2 w tn 4 ag),wi uo (Us R 3 w tn 4 ag),wi [] (gI cN),wi qA (gH),wi [] (ko P),wi [] (gD R w tn 4),wi qB VN,wi [16] (gL R w tn 4 size),wi [0] (gK R size),wi [0] (YW R size),wi [] (YX gQ),wi [0] (YW R size),wi [] (YX ah),wi [59,60,61,10,9,12,0] (Ve P R ah size 4 (ky R 3 rt 3)),wi [] (ko P),wi CN (qv P kI aY aZ gG fG wS (qE R2 yt) 2),wi uo (kK (ky R2 0 yt 0) (gE R2 yt) 6),wi uo (kK (ky R2 1 yt 1) (gN R2 yt) 7),wi uo (kK (ky R2 2 yt 2) [ky R2 3 yt 3] 8),wi uo (kK (ky R2 3 yt 3) [] 9),wi uo (gP R w tn 4 ag)],mA 8 2 10 (fun a t=> .ok (.ret (rf (a 0)))) (fun a t=> [id,id,id,id,id,fun _=>(fN [(vi 100 0),(vi 23 0),(rf S0.af),(vi 98 0),(vi 23 0),(rf (a 1))]),id,id]) (fun a t=> [(j0 (gz R2 yt) 4),(jD 98 (kr t 0 10))]),[75,73],(rg 152 10),[],28,fun q qT qS A K=> [gB q aR aW tn bJ R rt 4 eR w wt eW,yO q 1 41,q 2 41 (cr 59 [rf (A 23)]) [((A 23),⟨(rf 59),(some (A 24)),.plain,#[]⟩)],q 3 40 (cr 49 [rf (A 27)]) (kh (yY R w L0 tn A K) P 1 (K 26) 0 (K 10) [vt (sl []) (K 31)] 1),q 4 40 (cr 49 [rf (A 27)]) (ka (yY R w L0 tn A K) P 1 (K 26) 0 (K 10) 2),q 5 40 (cr 49 [rf (A 27)]) (ka (yY R w L0 tn A K) P (ag 1) (K 51) (ja R w tn 4 1) (K 50) 2),q 6 40 (cr 49 [rf (A 27)]) (ka (yY R w L0 tn A K) P (ag 2) (K 57) (ja R w tn 4 2) (K 56) 2),q 7 40 (cr 49 [rf (A 27)]) (ka (yY R w L0 tn A K) P (ag 3) (K 63) (ja R w tn 4 3) (K 62) 2),gC q 8 R w tn 4 K 72,tW qT A 37 31 ag K R w tn 16 cN rt,yO q 10 40,gM q 11 R w tn 4 K,q 12 41 (gy A 50 R w tn 4 K 89) (jX.aV (RJ R w S0 tn A K) P (jL S0.af) true (dI R w tn 4 K) []),q 13 41 (gJ A 16 size az) [((A 16),(nB R w tn K))],gx q 14 aR size K 93 R rt 4 eR,eF q 15 aR size K 96 R rt 4 eR,gw q 16 R size K 94,eF q 17 aR size K 120 R rt 4 eR,q 18 41 (cb "str.__le__" [ky R 0 rt 0,vt (jb (R (size-1))) (K 121)]) [],gu q 19 A 59 10 9 8 aR size az ah R rt 4 eR,yO q 20 40,qS 21 41 Jz (kD (A 8) (CW A K)) (jX.aV (CV R w S0 tn A K) P (jL S0.af) true (uP (fun k=>((k:Nat):Int)) (uY [K 104,K 106,K 108,K 110,K 112]) 4) (vl (jR R ah size) 4)++ks (CV R w S0 tn A K) (RK cN aW bJ tn A K) (CW A K) (A 8) (yY R w L0 tn A K) (vi 4 (K 65)) 2 (K 3) (K 69) (ag 4) aR (JL R rt 4) eR P true (vi (((size:Nat):Int)-1) (K 116))),q 22 40 (cr 49 [rf (A 27)]) (kh (yY R w L0 tn A K) P (ag 4) (K 69) (ja R w tn 4 4) (K 68) (gz R2 yt) 6),q 23 40 (cr 49 [rf (A 27)]) (kh (yY R w L0 tn A K) P (ag 4) (K 69) (ja R w tn 4 4) (K 68) (gE R2 yt) 7),q 24 40 (cr 49 [rf (A 27)]) (kh (yY R w L0 tn A K) P (ag 4) (K 69) (ja R w tn 4 4) (K 68) (gN R2 yt) 8),q 25 40 (cr 49 [rf (A 27)]) (kh (yY R w L0 tn A K) P (ag 4) (K 69) (ja R w tn 4 4) (K 68) [ky R2 3 yt 3] 9),q 26 41 (cr 49 [rf (A 27)]) (ka (yY R w L0 tn A K) P (ag 4) (K 69) (ja R w tn 4 4) (K 68) 10),((ag 4) !=(1+((cN:Nat):Int)))=false]⟩
theorem R8:GF P 41 96 [rf aR,rf aW,vi tn bJ,vn size az,.bool true] (e8 P) (R7 P R w rt wt size ah gQ cN ag R2 yt kI aY aZ gG fG wS S0 L0 lc eR eW aR aW bJ tn az) (hb Rl Rm):=Ur
def R9:RD:=⟨[(aR,(j0 (kj R rt 4) eR)),(aW,(j0 (jS w wt 4) eW)),(86,(fN [vi 91 0,vi 4 0,rf S0.aN])),(93,(fN [vi 109 0,vi 4 0,rf L0.aT])),(S0.aN,S0.bq),(S0.bD,(fN (ku S0.af S0.aA))),(S0.af,(jD 100 lc)),(S0.aA,(jD 98 b7)),(L0.aT,L0.code)],[wi [0,1] (uT R w tn 4),wi [] (ko P),([24],fun c=>U3 P (Ux c 0)),wi Jg (U1 (sl []) [] 1),wi Jg (Us R 0 w tn 4 ag),wi Jg (Us R 1 w tn 4 ag),wi Jg (Us R 2 w tn 4 ag),wi Jg (Us R 3 w tn 4 ag),wi [] (gI cN),wi [38,32,33,41,40,17] (gH),wi [] (ko P),wi [] (gD R w tn 4),wi ([51,52,50,4,5]++rg 44 5++ [17,42]) VN,wi [17] (gL R w tn 4 size),wi [0] (gK R size),wi [0] (YW R size),wi [] (YX gQ),wi [0] (YW R size),wi [] (YX ah),wi [60,61,62,11,10,13,0] (Ve P R ah size 4 (ky R 3 rt 3)),wi [] (ko P),wi CO (Vf P kI aY aZ gG fG wS (qE R2 yt) 2),wi Jg (kK (ky R2 0 yt 0) (gE R2 yt) 6),wi Jg (kK (ky R2 1 yt 1) (gN R2 yt) 7),wi Jg (kK (ky R2 2 yt 2) [ky R2 3 yt 3] 8),wi Jg (kK (ky R2 3 yt 3) [] 9),wi Jg (gP R w tn 4 ag)],mA 9 1 0 (fun a t=> .ok (.ret (rf (a 0)))) (fun a t=>(List.replicate 9 id)) (fun a t=> [(j0 (gz R2 yt) 4)]),[75],[],[],28,fun q qT qS A K=> [gB q aR aW tn bJ R rt 4 eR w wt eW,yO q 1 41,q 2 41 (cr 59 [rf (A 24)]) [((A 24),⟨(rf 59),(some (A 25)),.plain,#[]⟩)],q 3 40 (cr 49 [rf (A 28)]) (kh (yZ R w L0 tn A K) P 1 (K 26) 0 (K 10) [vt (sl []) (K 31)] 1),q 4 40 (cr 49 [rf (A 28)]) (ka (yZ R w L0 tn A K) P 1 (K 26) 0 (K 10) 2),q 5 40 (cr 49 [rf (A 28)]) (ka (yZ R w L0 tn A K) P (ag 1) (K 51) (ja R w tn 4 1) (K 50) 2),q 6 40 (cr 49 [rf (A 28)]) (ka (yZ R w L0 tn A K) P (ag 2) (K 57) (ja R w tn 4 2) (K 56) 2),q 7 40 (cr 49 [rf (A 28)]) (ka (yZ R w L0 tn A K) P (ag 3) (K 63) (ja R w tn 4 3) (K 62) 2),gC q 8 R w tn 4 K 72,tW qT A 38 32 ag K R w tn 17 cN rt,yO q 10 40,gM q 11 R w tn 4 K,q 12 41 (gy A 51 R w tn 4 K 89) (jX.aV (RL R w S0 tn A K) P (ku S0.af S0.aA) true (dI R w tn 4 K) []),q 13 41 (gJ A 17 size az) [((A 17),(nB R w tn K))],gx q 14 aR size K 93 R rt 4 eR,eF q 15 aR size K 96 R rt 4 eR,gw q 16 R size K 94,eF q 17 aR size K 120 R rt 4 eR,q 18 41 (cb "str.__le__" [ky R 0 rt 0,vt (jb (R (size-1))) (K 121)]) [],gu q 19 A 60 11 10 9 aR size az ah R rt 4 eR,yO q 20 40,qS 21 41 Jz (kD (A 9) (CY A K)) (jX.aV (CX R w S0 tn A K) P (ku S0.af S0.aA) true (uP (fun k=>((k:Nat):Int)) (uY [K 104,K 106,K 108,K 110,K 112]) 4) (vl (jR R ah size) 4)++ [(S0.aA,jD 98 b7)]++ks (CX R w S0 tn A K) (RM cN aW bJ tn A K) (CY A K) (A 9) (yZ R w L0 tn A K) (vi 4 (K 65)) 2 (K 3) (K 69) (ag 4) aR (JL R rt 4) eR P true (vi (((size:Nat):Int)-1) (K 116))),q 22 40 (cr 49 [rf (A 28)]) (kh (yZ R w L0 tn A K) P (ag 4) (K 69) (ja R w tn 4 4) (K 68) (gz R2 yt) 6),q 23 40 (cr 49 [rf (A 28)]) (kh (yZ R w L0 tn A K) P (ag 4) (K 69) (ja R w tn 4 4) (K 68) (gE R2 yt) 7),q 24 40 (cr 49 [rf (A 28)]) (kh (yZ R w L0 tn A K) P (ag 4) (K 69) (ja R w tn 4 4) (K 68) (gN R2 yt) 8),q 25 40 (cr 49 [rf (A 28)]) (kh (yZ R w L0 tn A K) P (ag 4) (K 69) (ja R w tn 4 4) (K 68) [ky R2 3 yt 3] 9),q 26 41 (cr 49 [rf (A 28)]) (ka (yZ R w L0 tn A K) P (ag 4) (K 69) (ja R w tn 4 4) (K 68) 10),((ag 4) !=(1+((cN:Nat):Int)))=false]⟩
theorem Sa:GF P 41 96 [rf aR,rf aW,vi tn bJ,vn size az,.bool true] (e8 P) (R9 P R w rt wt size ah gQ cN ag R2 yt kI aY aZ gG fG wS S0 L0 lc b7 eR eW aR aW bJ tn az) (hb Rn Ro):=Ur
def Sb:RD:=⟨[(aR,(j0 (kj R rt 5) eR)),(aW,(j0 (jS w wt 5) eW)),(86,(fN [])),(93,(fN []))],[wi [0,1] (uT R w tn 5),wi [] (ko P),([25],fun c=>U3 P (Ux c 0)),wi Jf (U1 (sl []) [] 1),wi Jf (Us R 0 w tn 5 ag),wi Jf (Us R 1 w tn 5 ag),wi Jf (Us R 2 w tn 5 ag),wi Jf (Us R 3 w tn 5 ag),wi Jf (Us R 4 w tn 5 ag),wi [] (gI cN),wi [39,33,34,42,41,12] (gH),wi [] (ko P),wi [] (gD R w tn 5),wi ([56,57,55,54,52]++rg 45 5++ [12,43]) VN,wi [12] (gL R w tn 5 size),wi [0] (gK R size),wi [0] (YW R size),wi [] (YX ah),wi [59,60,61,6,5,8,0] (Ve P R ah size 5 (ky R 4 rt 4)),wi [] (ko P),wi ([70,71,69,54,52]++rg 63 5++ [12,60]) pK,wi CL (Vf P kI aY aZ gG fG wS (qD R2 yt) 2),wi Jf (kK (ky R2 0 yt 0) (gA R2 yt) 7),wi Jf (kK (ky R2 1 yt 1) (gF R2 yt) 8),wi Jf (kK (ky R2 2 yt 2) (gO R2 yt) 9),wi Jf (kK (ky R2 3 yt 3) [ky R2 4 yt 4] 10),wi Jf (kK (ky R2 4 yt 4) [] 11),wi Jf (gP R w tn 5 ag)],mA 4 5 27 (fun a t=> .ok (.ret (rf (a 0)))) (fun a t=> [id,id,fun _=>(fN [(vi 91 0),(vi 4 0),(rf (a 1))]),fun _=>(fN [(vi 109 0),(vi 4 0),(rf (a 2))])]) (fun a t=> [(j0 (gv R2 yt) 5),(fo "code" [(vt (sl [115,101,97,114,99,104]) (t 0)),(vt (sl [95,108,97,119,95,112,114,111,103,114,97,109,46,60,108,111,99,97,108,115,62,46,115,101,97,114,99,104]) (t 1)),(eG t 2),(vi 91 0),(vi 2 0),(vi 0 0),(vi 0 0),(vi 19 0),(rf (t 20)),(.bool true),(vi 181 0),(rf (a 3)),.none,.none,.none,(rf (t 21)),(vn (t 8) 0),(vi 91 0),(eG t 3)]),(fo "code" [(vt (sl [114,101,97,100]) (t 4)),(vt (sl [95,108,97,119,95,116,117,114,110,46,60,108,111,99,97,108,115,62,46,114,101,97,100]) (t 5)),(eG t 6),(vi 109 0),(vi 1 0),(vi 0 0),(vi 0 0),(vi 19 0),(rf (t 22)),(.bool true),(vi 181 0),(rf (t 23)),.none,(rf (t 24)),(rf (t 25)),(rf (t 26)),(vn (t 9) 0),(vi 109 0),(eG t 7)]),(fN [(vi 100 0),(vi 23 0),(rf (a 4))]),(jD 100 (kr t 10 10))]),[75,54,23,52,73],([95,96,97,103,12,13,14,20,102,19]++rg 139 10),([51,53]++rg 18 5),29,fun q qT qS A K=> [gB q aR aW tn bJ R rt 5 eR w wt eW,yO q 1 41,q 2 41 (cr 59 [rf (A 25)]) [((A 25),⟨(rf 59),(some (A 26)),.plain,#[]⟩)],q 3 40 (cr 49 [rf (A 29)]) (kh (yk R w tn A K) P 1 (K 36) 0 (K 11) [vt (sl []) (K 41)] 1),q 4 40 (cr 49 [rf (A 29)]) (ka (yk R w tn A K) P 1 (K 36) 0 (K 11) 2),q 5 40 (cr 49 [rf (A 29)]) (ka (yk R w tn A K) P (ag 1) (K 61) (ja R w tn 5 1) (K 60) 2),q 6 40 (cr 49 [rf (A 29)]) (ka (yk R w tn A K) P (ag 2) (K 67) (ja R w tn 5 2) (K 66) 2),q 7 40 (cr 49 [rf (A 29)]) (ka (yk R w tn A K) P (ag 3) (K 73) (ja R w tn 5 3) (K 72) 2),q 8 40 (cr 49 [rf (A 29)]) (ka (yk R w tn A K) P (ag 4) (K 79) (ja R w tn 5 4) (K 78) 2),gC q 9 R w tn 5 K 88,qT 10 41 .NotEq (rf (A 39)) (rf (A 42)) [((A 39),(sq "tuple" [rf (A 33),rf (A 34),vi (ag 5) (K 85)] 0)),((A 33),(j0 [vt (sl []) (K 55),ky R 0 K 59,ky R 1 K 65,ky R 2 K 71,ky R 3 K 77,ky R 4 K 83] 6)),((A 34),(j0 [vi 0 (K 11),vn (ja R w tn 5 1) (K 60),vn (ja R w tn 5 2) (K 66),vn (ja R w tn 5 3) (K 72),vn (ja R w tn 5 4) (K 78),vn (ja R w tn 5 5) (K 84)] 6)),((A 42),(sq "tuple" [rf (A 41),rf (A 12),vi (1+((cN:Nat):Int)) (K 90)] 0)),((A 41),(j0 [vt (sl []) (K 93),ky R 0 rt 0,ky R 1 rt 1,ky R 2 rt 2,ky R 3 rt 3,ky R 4 rt 4] 0)),((A 12),(nA R w tn K))],yO q 11 40,gM q 12 R w tn 5 K,q 13 41 (gy A 56 R w tn 5 K 114) (jX.aV (RN R w tn A K) P eQ false (dI R w tn 5 K) []),q 14 41 (gJ A 12 size az) [((A 12),(nA R w tn K))],gx q 15 aR size K 118 R rt 5 eR,eF q 16 aR size K 121 R rt 5 eR,gw q 17 R size K 119,gu q 18 A 59 6 5 4 aR size az ah R rt 5 eR,yO q 19 40,q 20 41 (qF A 70 R w tn 5 K 138) (jX.aV (RO R w tn A K) P eQ false (dI R w tn 5 K) (vl (jR R ah size) 5)),qS 21 41 Jz (kD (A 4) (CZ A K)) (jX.aV (C5 R w tn A K) P (jL (A 73)) false (dI R w tn 5 K) (vl (jR R ah size) 5)++ [((A 73),jD 100 (kr K 139 10))]++ks (C5 R w tn A K) (RP cN aW bJ tn A K) (CZ A K) (A 4) (yk R w tn A K) (vi 5 (K 81)) 2 (K 3) (K 85) (ag 5) aR (JL R rt 5) eR P false (vn (ja R w tn 5 size) (K 115))),q 22 40 (cr 49 [rf (A 29)]) (kh (yk R w tn A K) P (ag 5) (K 85) (ja R w tn 5 5) (K 84) (gv R2 yt) 7),q 23 40 (cr 49 [rf (A 29)]) (kh (yk R w tn A K) P (ag 5) (K 85) (ja R w tn 5 5) (K 84) (gA R2 yt) 8),q 24 40 (cr 49 [rf (A 29)]) (kh (yk R w tn A K) P (ag 5) (K 85) (ja R w tn 5 5) (K 84) (gF R2 yt) 9),q 25 40 (cr 49 [rf (A 29)]) (kh (yk R w tn A K) P (ag 5) (K 85) (ja R w tn 5 5) (K 84) (gO R2 yt) 10),q 26 40 (cr 49 [rf (A 29)]) (kh (yk R w tn A K) P (ag 5) (K 85) (ja R w tn 5 5) (K 84) [ky R2 4 yt 4] 11),q 27 41 (cr 49 [rf (A 29)]) (ka (yk R w tn A K) P (ag 5) (K 85) (ja R w tn 5 5) (K 84) 12),((ag 5) !=(1+((cN:Nat):Int)))=false]⟩
theorem Sd:GF P 41 96 [rf aR,rf aW,vi tn bJ,vn size az,.bool false] (e8 P) (Sb P R w rt wt size ah cN ag R2 yt kI aY aZ gG fG wS eR eW aR aW bJ tn az) (hb Rq Rr):=Ur
def Se:RD:=⟨(qC aR R rt 5 eR aW w wt eW S0 L0 lc),[wi [0,1] (uT R w tn 5),wi [] (ko P),([23],fun c=>U3 P (Ux c 0)),wi uo (U1 (sl []) [] 1),wi uo (Us R 0 w tn 5 ag),wi uo (Us R 1 w tn 5 ag),wi uo (Us R 2 w tn 5 ag),wi uo (Us R 3 w tn 5 ag),wi uo (Us R 4 w tn 5 ag),wi [] (gI cN),wi qA (gH),wi [] (ko P),wi [] (gD R w tn 5),wi qB VN,wi [16] (gL R w tn 5 size),wi [0] (gK R size),wi [0] (YW R size),wi [] (YX ah),wi [53,54,55,10,9,12,0] (Ve P R ah size 5 (ky R 4 rt 4)),wi [] (ko P),wi ([64,65,63,4,5]++rg 57 5++ [16,54,6]) v8,wi CM (Vf P kI aY aZ gG fG wS (qD R2 yt) 2),wi uo (kK (ky R2 0 yt 0) (gA R2 yt) 7),wi uo (kK (ky R2 1 yt 1) (gF R2 yt) 8),wi uo (kK (ky R2 2 yt 2) (gO R2 yt) 9),wi uo (kK (ky R2 3 yt 3) [ky R2 4 yt 4] 10),wi uo (kK (ky R2 4 yt 4) [] 11),wi uo (gP R w tn 5 ag)],mA 8 1 0 (fun a t=> .ok (.ret (rf (a 0)))) (fun a t=>(List.replicate 8 id)) (fun a t=> [(j0 (gv R2 yt) 5)]),[68],[],[],29,fun q qT qS A K=> [gB q aR aW tn bJ R rt 5 eR w wt eW,yO q 1 41,q 2 41 (cr 59 [rf (A 23)]) [((A 23),⟨(rf 59),(some (A 24)),.plain,#[]⟩)],q 3 40 (cr 49 [rf (A 27)]) (kh (yl R w L0 tn A K) P 1 (K 27) 0 (K 11) [vt (sl []) (K 32)] 1),q 4 40 (cr 49 [rf (A 27)]) (ka (yl R w L0 tn A K) P 1 (K 27) 0 (K 11) 2),q 5 40 (cr 49 [rf (A 27)]) (ka (yl R w L0 tn A K) P (ag 1) (K 52) (ja R w tn 5 1) (K 51) 2),q 6 40 (cr 49 [rf (A 27)]) (ka (yl R w L0 tn A K) P (ag 2) (K 58) (ja R w tn 5 2) (K 57) 2),q 7 40 (cr 49 [rf (A 27)]) (ka (yl R w L0 tn A K) P (ag 3) (K 64) (ja R w tn 5 3) (K 63) 2),q 8 40 (cr 49 [rf (A 27)]) (ka (yl R w L0 tn A K) P (ag 4) (K 70) (ja R w tn 5 4) (K 69) 2),gC q 9 R w tn 5 K 79,tV qT A 37 31 ag K R w tn 16 cN rt,yO q 11 40,gM q 12 R w tn 5 K,q 13 41 (gy A 50 R w tn 5 K 96) (jX.aV (RQ R w S0 tn A K) P (jL S0.af) false (dI R w tn 5 K) []),q 14 41 (gJ A 16 size az) [((A 16),(nA R w tn K))],gx q 15 aR size K 100 R rt 5 eR,eF q 16 aR size K 103 R rt 5 eR,gw q 17 R size K 101,gu q 18 A 53 10 9 8 aR size az ah R rt 5 eR,yO q 19 40,q 20 41 (qF A 64 R w tn 5 K 120) (jX.aV (tY R w S0 tn A K) P (jL S0.af) false (dI R w tn 5 K) (vl (jR R ah size) 5)++ [(S0.af,jD 100 lc)]),qS 21 41 Jz (kD (A 8) (C6 A K)) (jX.aV (tY R w S0 tn A K) P (jL S0.af) false (dI R w tn 5 K) (vl (jR R ah size) 5)++ [(S0.af,jD 100 lc)]++ks (tY R w S0 tn A K) (RU cN aW bJ tn A K) (C6 A K) (A 8) (yl R w L0 tn A K) (vi 5 (K 72)) 2 (K 3) (K 76) (ag 5) aR (JL R rt 5) eR P false (vn (ja R w tn 5 size) (K 97))),q 22 40 (cr 49 [rf (A 27)]) (kh (yl R w L0 tn A K) P (ag 5) (K 76) (ja R w tn 5 5) (K 75) (gv R2 yt) 7),q 23 40 (cr 49 [rf (A 27)]) (kh (yl R w L0 tn A K) P (ag 5) (K 76) (ja R w tn 5 5) (K 75) (gA R2 yt) 8),q 24 40 (cr 49 [rf (A 27)]) (kh (yl R w L0 tn A K) P (ag 5) (K 76) (ja R w tn 5 5) (K 75) (gF R2 yt) 9),q 25 40 (cr 49 [rf (A 27)]) (kh (yl R w L0 tn A K) P (ag 5) (K 76) (ja R w tn 5 5) (K 75) (gO R2 yt) 10),q 26 40 (cr 49 [rf (A 27)]) (kh (yl R w L0 tn A K) P (ag 5) (K 76) (ja R w tn 5 5) (K 75) [ky R2 4 yt 4] 11),q 27 41 (cr 49 [rf (A 27)]) (ka (yl R w L0 tn A K) P (ag 5) (K 76) (ja R w tn 5 5) (K 75) 12),((ag 5) !=(1+((cN:Nat):Int)))=false]⟩
theorem Sf:GF P 41 96 [rf aR,rf aW,vi tn bJ,vn size az,.bool false] (e8 P) (Se P R w rt wt size ah cN ag R2 yt kI aY aZ gG fG wS S0 L0 lc eR eW aR aW bJ tn az) (hb Rt Ru):=Ur
def Sh:RD:=⟨(qC aR R rt 5 eR aW w wt eW S0 L0 lc),[wi [0,1] (uT R w tn 5),wi [] (ko P),([23],fun c=>U3 P (Ux c 0)),wi uo (U1 (sl []) [] 1),wi uo (Us R 0 w tn 5 ag),wi uo (Us R 1 w tn 5 ag),wi uo (Us R 2 w tn 5 ag),wi uo (Us R 3 w tn 5 ag),wi uo (Us R 4 w tn 5 ag),wi [] (gI cN),wi qA (gH),wi [] (ko P),wi [] (gD R w tn 5),wi qB VN,wi [16] (gL R w tn 5 size),wi [0] (gK R size),wi [0] (YW R size),wi [] (YX gQ),wi [0] (YW R size),wi [] (YX ah),wi [59,60,61,10,9,12,0] (Ve P R ah size 5 (ky R 4 rt 4)),wi [] (ko P),wi CN (qv P kI aY aZ gG fG wS (qD R2 yt) 2),wi uo (kK (ky R2 0 yt 0) (gA R2 yt) 7),wi uo (kK (ky R2 1 yt 1) (gF R2 yt) 8),wi uo (kK (ky R2 2 yt 2) (gO R2 yt) 9),wi uo (kK (ky R2 3 yt 3) [ky R2 4 yt 4] 10),wi uo (kK (ky R2 4 yt 4) [] 11),wi uo (gP R w tn 5 ag)],mA 8 2 10 (fun a t=> .ok (.ret (rf (a 0)))) (fun a t=> [id,id,id,id,id,fun _=>(fN [(vi 100 0),(vi 23 0),(rf S0.af),(vi 98 0),(vi 23 0),(rf (a 1))]),id,id]) (fun a t=> [(j0 (gv R2 yt) 5),(jD 98 (kr t 0 10))]),[75,73],(rg 161 10),[],30,fun q qT qS A K=> [gB q aR aW tn bJ R rt 5 eR w wt eW,yO q 1 41,q 2 41 (cr 59 [rf (A 23)]) [((A 23),⟨(rf 59),(some (A 24)),.plain,#[]⟩)],q 3 40 (cr 49 [rf (A 27)]) (kh (ym R w L0 tn A K) P 1 (K 27) 0 (K 11) [vt (sl []) (K 32)] 1),q 4 40 (cr 49 [rf (A 27)]) (ka (ym R w L0 tn A K) P 1 (K 27) 0 (K 11) 2),q 5 40 (cr 49 [rf (A 27)]) (ka (ym R w L0 tn A K) P (ag 1) (K 52) (ja R w tn 5 1) (K 51) 2),q 6 40 (cr 49 [rf (A 27)]) (ka (ym R w L0 tn A K) P (ag 2) (K 58) (ja R w tn 5 2) (K 57) 2),q 7 40 (cr 49 [rf (A 27)]) (ka (ym R w L0 tn A K) P (ag 3) (K 64) (ja R w tn 5 3) (K 63) 2),q 8 40 (cr 49 [rf (A 27)]) (ka (ym R w L0 tn A K) P (ag 4) (K 70) (ja R w tn 5 4) (K 69) 2),gC q 9 R w tn 5 K 79,tV qT A 37 31 ag K R w tn 16 cN rt,yO q 11 40,gM q 12 R w tn 5 K,q 13 41 (gy A 50 R w tn 5 K 96) (jX.aV (RV R w S0 tn A K) P (jL S0.af) true (dI R w tn 5 K) []),q 14 41 (gJ A 16 size az) [((A 16),(nA R w tn K))],gx q 15 aR size K 100 R rt 5 eR,eF q 16 aR size K 103 R rt 5 eR,gw q 17 R size K 101,eF q 18 aR size K 129 R rt 5 eR,q 19 41 (cb "str.__le__" [ky R 0 rt 0,vt (jb (R (size-1))) (K 130)]) [],gu q 20 A 59 10 9 8 aR size az ah R rt 5 eR,yO q 21 40,qS 22 41 Jz (kD (A 8) (C8 A K)) (jX.aV (C7 R w S0 tn A K) P (jL S0.af) true (uP (fun k=>((k:Nat):Int)) (uY [K 111,K 113,K 115,K 117,K 119,K 121]) 5) (vl (jR R ah size) 5)++ks (C7 R w S0 tn A K) (RW cN aW bJ tn A K) (C8 A K) (A 8) (ym R w L0 tn A K) (vi 5 (K 72)) 2 (K 3) (K 76) (ag 5) aR (JL R rt 5) eR P true (vi (((size:Nat):Int)-1) (K 125))),q 23 40 (cr 49 [rf (A 27)]) (kh (ym R w L0 tn A K) P (ag 5) (K 76) (ja R w tn 5 5) (K 75) (gv R2 yt) 7),q 24 40 (cr 49 [rf (A 27)]) (kh (ym R w L0 tn A K) P (ag 5) (K 76) (ja R w tn 5 5) (K 75) (gA R2 yt) 8),q 25 40 (cr 49 [rf (A 27)]) (kh (ym R w L0 tn A K) P (ag 5) (K 76) (ja R w tn 5 5) (K 75) (gF R2 yt) 9),q 26 40 (cr 49 [rf (A 27)]) (kh (ym R w L0 tn A K) P (ag 5) (K 76) (ja R w tn 5 5) (K 75) (gO R2 yt) 10),q 27 40 (cr 49 [rf (A 27)]) (kh (ym R w L0 tn A K) P (ag 5) (K 76) (ja R w tn 5 5) (K 75) [ky R2 4 yt 4] 11),q 28 41 (cr 49 [rf (A 27)]) (ka (ym R w L0 tn A K) P (ag 5) (K 76) (ja R w tn 5 5) (K 75) 12),((ag 5) !=(1+((cN:Nat):Int)))=false]⟩
theorem Si:GF P 41 96 [rf aR,rf aW,vi tn bJ,vn size az,.bool true] (e8 P) (Sh P R w rt wt size ah gQ cN ag R2 yt kI aY aZ gG fG wS S0 L0 lc eR eW aR aW bJ tn az) (hb Rv Rw):=Ur
def Sj:RD:=⟨[(aR,(j0 (kj R rt 5) eR)),(aW,(j0 (jS w wt 5) eW)),(86,(fN [vi 91 0,vi 4 0,rf S0.aN])),(93,(fN [vi 109 0,vi 4 0,rf L0.aT])),(S0.aN,S0.bq),(S0.bD,(fN (ku S0.af S0.aA))),(S0.af,(jD 100 lc)),(S0.aA,(jD 98 b7)),(L0.aT,L0.code)],[wi [0,1] (uT R w tn 5),wi [] (ko P),([24],fun c=>U3 P (Ux c 0)),wi Jg (U1 (sl []) [] 1),wi Jg (Us R 0 w tn 5 ag),wi Jg (Us R 1 w tn 5 ag),wi Jg (Us R 2 w tn 5 ag),wi Jg (Us R 3 w tn 5 ag),wi Jg (Us R 4 w tn 5 ag),wi [] (gI cN),wi [38,32,33,41,40,17] (gH),wi [] (ko P),wi [] (gD R w tn 5),wi ([51,52,50,4,5]++rg 44 5++ [17,42]) VN,wi [17] (gL R w tn 5 size),wi [0] (gK R size),wi [0] (YW R size),wi [] (YX gQ),wi [0] (YW R size),wi [] (YX ah),wi [60,61,62,11,10,13,0] (Ve P R ah size 5 (ky R 4 rt 4)),wi [] (ko P),wi CO (Vf P kI aY aZ gG fG wS (qD R2 yt) 2),wi Jg (kK (ky R2 0 yt 0) (gA R2 yt) 7),wi Jg (kK (ky R2 1 yt 1) (gF R2 yt) 8),wi Jg (kK (ky R2 2 yt 2) (gO R2 yt) 9),wi Jg (kK (ky R2 3 yt 3) [ky R2 4 yt 4] 10),wi Jg (kK (ky R2 4 yt 4) [] 11),wi Jg (gP R w tn 5 ag)],mA 9 1 0 (fun a t=> .ok (.ret (rf (a 0)))) (fun a t=>(List.replicate 9 id)) (fun a t=> [(j0 (gv R2 yt) 5)]),[75],[],[],30,fun q qT qS A K=> [gB q aR aW tn bJ R rt 5 eR w wt eW,yO q 1 41,q 2 41 (cr 59 [rf (A 24)]) [((A 24),⟨(rf 59),(some (A 25)),.plain,#[]⟩)],q 3 40 (cr 49 [rf (A 28)]) (kh (yn R w L0 tn A K) P 1 (K 27) 0 (K 11) [vt (sl []) (K 32)] 1),q 4 40 (cr 49 [rf (A 28)]) (ka (yn R w L0 tn A K) P 1 (K 27) 0 (K 11) 2),q 5 40 (cr 49 [rf (A 28)]) (ka (yn R w L0 tn A K) P (ag 1) (K 52) (ja R w tn 5 1) (K 51) 2),q 6 40 (cr 49 [rf (A 28)]) (ka (yn R w L0 tn A K) P (ag 2) (K 58) (ja R w tn 5 2) (K 57) 2),q 7 40 (cr 49 [rf (A 28)]) (ka (yn R w L0 tn A K) P (ag 3) (K 64) (ja R w tn 5 3) (K 63) 2),q 8 40 (cr 49 [rf (A 28)]) (ka (yn R w L0 tn A K) P (ag 4) (K 70) (ja R w tn 5 4) (K 69) 2),gC q 9 R w tn 5 K 79,tV qT A 38 32 ag K R w tn 17 cN rt,yO q 11 40,gM q 12 R w tn 5 K,q 13 41 (gy A 51 R w tn 5 K 96) (jX.aV (RX R w S0 tn A K) P (ku S0.af S0.aA) true (dI R w tn 5 K) []),q 14 41 (gJ A 17 size az) [((A 17),(nA R w tn K))],gx q 15 aR size K 100 R rt 5 eR,eF q 16 aR size K 103 R rt 5 eR,gw q 17 R size K 101,eF q 18 aR size K 129 R rt 5 eR,q 19 41 (cb "str.__le__" [ky R 0 rt 0,vt (jb (R (size-1))) (K 130)]) [],gu q 20 A 60 11 10 9 aR size az ah R rt 5 eR,yO q 21 40,qS 22 41 Jz (kD (A 9) (C' A K)) (jX.aV (C9 R w S0 tn A K) P (ku S0.af S0.aA) true (uP (fun k=>((k:Nat):Int)) (uY [K 111,K 113,K 115,K 117,K 119,K 121]) 5) (vl (jR R ah size) 5)++ [(S0.aA,jD 98 b7)]++ks (C9 R w S0 tn A K) (RY cN aW bJ tn A K) (C' A K) (A 9) (yn R w L0 tn A K) (vi 5 (K 72)) 2 (K 3) (K 76) (ag 5) aR (JL R rt 5) eR P true (vi (((size:Nat):Int)-1) (K 125))),q 23 40 (cr 49 [rf (A 28)]) (kh (yn R w L0 tn A K) P (ag 5) (K 76) (ja R w tn 5 5) (K 75) (gv R2 yt) 7),q 24 40 (cr 49 [rf (A 28)]) (kh (yn R w L0 tn A K) P (ag 5) (K 76) (ja R w tn 5 5) (K 75) (gA R2 yt) 8),q 25 40 (cr 49 [rf (A 28)]) (kh (yn R w L0 tn A K) P (ag 5) (K 76) (ja R w tn 5 5) (K 75) (gF R2 yt) 9),q 26 40 (cr 49 [rf (A 28)]) (kh (yn R w L0 tn A K) P (ag 5) (K 76) (ja R w tn 5 5) (K 75) (gO R2 yt) 10),q 27 40 (cr 49 [rf (A 28)]) (kh (yn R w L0 tn A K) P (ag 5) (K 76) (ja R w tn 5 5) (K 75) [ky R2 4 yt 4] 11),q 28 41 (cr 49 [rf (A 28)]) (ka (yn R w L0 tn A K) P (ag 5) (K 76) (ja R w tn 5 5) (K 75) 12),((ag 5) !=(1+((cN:Nat):Int)))=false]⟩
theorem Sl:GF P 41 96 [rf aR,rf aW,vi tn bJ,vn size az,.bool true] (e8 P) (Sj P R w rt wt size ah gQ cN ag R2 yt kI aY aZ gG fG wS S0 L0 lc b7 eR eW aR aW bJ tn az) (hb Rx Ry):=Ur
end
theorem Sn (W:World) (R:Nat→Nat) (w:Nat→Int) (rt wt:Nat→Tok) (size:Nat) (ah:Bool) (cN:Nat) (ag:Nat→Int) (R2:Nat→Nat) (yt:Nat→Tok) (kI:Nat) (aY aZ:Int) (gG fG:Nat) (wS:Str) (S0:jX) (L0:jF) (lc b7:List Tok) (eR eW:Nat) (aR aW:Addr) (tt:Tok) (tn:Int) (az:Tok) (H:dv W.params R w tn 4 cN ag) (hs:2≤size∧size≤4) (dU:ah=dc (R (size-2)) (R (size-1))) (HG:nx W R w tn 4 rt ah size kI aY aZ gG fG wS (ew R2 yt 4)) (bo: ∃k,k<4∧jR R ah size k=true):j6 pw W (jB W.params) (Vs 4 R2) 42 (.call (.ref 96) ⟨[.ref aR,.ref aW,.int tn tt,.int ((size:Nat):Int) az,.bool false],[]⟩) ([(aR,j0 (kj R rt 4) eR),(aW,j0 (jS w wt 4) eW),(86,tE),(93,tE)].map some):=by
 have h:=uM (w:=W) ((R0 W.params R w rt wt size ah cN ag R2 yt kI aY aZ gG fG wS eR eW aR aW tt tn az)) (.inl (YJ _)) (by
  intro A K
  walk_at "ob"
  ·exact fun _ hz=>VT W R w H.hR tn H.ht (rt 0) (rt 1) (rt 2) (rt 3) (wt 0) (wt 1) (wt 2) (wt 3) _ _ _ _ _ _ (dl hz)
  ·exact fun _ hz=>k8 W (d:=8) (by decide) _ (dl hz)
  ·exact fun _ hz=>Jn W _ _ (d:=8) (by decide) _ (dl hz)
  ·exact fun _ hz=>UF W _ _ _ _ _ _ _ _ _ (by decide) _ (dl hz)
  ·exact fun _ hz=>k9 H _ rfl 0 (by decide) _ H.l0.symm _ _ H.h0.symm _ _ _ (dl hz)
  ·exact fun _ hz=>k9 H _ rfl 1 (by decide) _ rfl _ _ rfl _ _ _ (dl hz)
  ·exact fun _ hz=>k9 H _ rfl 2 (by decide) _ rfl _ _ rfl _ _ _ (dl hz)
  ·exact fun _ hz=>k9 H _ rfl 3 (by decide) _ rfl _ _ rfl _ _ _ (dl hz)
  ·exact yw H _ _
  ·exact Jk (by decide) rfl (by simp [jP,un,vp]) (by simp [jP]) (by simp [jP,un,vp]) (by simp [jP]) rfl (by simp [vD,H.h0]) H.ln
  ·exact fun _ hz=>k8 W (d:=8) (by decide) _ (dl hz)
  ·exact k6 H.len
  ·exact fun _ hz=>US W _ _ _ _ _ _ _ _ (dl hz)
  ·exact vV (fun k=>((ja R w tn 4 k:Nat):Int)) (uY [K 4,K 5,K 6,K 7,K 8]) 4 size hs.2 (by decide)
  ·exact jC R rt 4 (size-2) (by lia) (Nat.le_succ _) (by lia)
  ·exact jC R rt 4 (size-1) (by lia) (Nat.le_succ _) (by lia)
  ·exact Uo dU _ _
  ·exact fun _ hz=>qm W R ah size hs.1 hs.2 _ _ _ _ _ _ _ _ _ rt _ _ (dl hz)
  ·exact fun _ hz=>k8 W (d:=8) (by decide) _ (dl hz)
  ·exact fun _ hz=>B1 W _ (fun k=>((ja R w tn 4 k:Nat):Int)) _ (jR R ah size) 4 H.hn H.hE (by show ((ja R w tn 4 0:Nat):Int)=0;rw [H.h0];rfl) _ _ bo H.h2 _ (dl hz)
  ·exact jx.at (HG _ _ _ _ _ _ _ _ _ _ _ _ _ _ _ H.ln) (by decide) rfl rfl
  ·exact fun _ hz=>kM W _ _ _ _ _ _ _ _ _ (by simp) _ (dl hz)
  ·exact fun _ hz=>kM W _ _ _ _ _ _ _ _ _ (by simp) _ (dl hz)
  ·exact fun _ hz=>kM W _ _ _ _ _ _ _ _ _ (by simp) _ (dl hz)
  ·exact fun _ hz=>kM W _ _ _ _ _ _ _ _ _ (by simp) _ (dl hz)
  ·exact fun _ hz=>UB H _ rfl _ _ _ _ (dl hz)
  ·rw [H.ln];simp
  )
 exact h.cv (fun ts=> [ts.getD 0 0,ts.getD 1 0,ts.getD 2 0,ts.getD 3 0,ts.getD 4 0,ts.getD 5 0,ts.getD 6 0,ts.getD 7 0,ts.getD 8 0,ts.getD 9 0,ts.getD 10 0,ts.getD 11 0,ts.getD 12 0,ts.getD 13 0,ts.getD 14 0,ts.getD 15 0,ts.getD 16 0,ts.getD 17 0,ts.getD 18 0,ts.getD 19 0,ts.getD 20 0,ts.getD 21 0,ts.getD 22 0,ts.getD 23 0,ts.getD 24 0,ts.getD 25 0,ts.getD 26 0,yt 0,yt 1,yt 2,yt 3]) fun _ _=>rfl
theorem Sp (W:World) (R:Nat→Nat) (w:Nat→Int) (rt wt:Nat→Tok) (size:Nat) (ah:Bool) (cN:Nat) (ag:Nat→Int) (R2:Nat→Nat) (yt:Nat→Tok) (kI:Nat) (aY aZ:Int) (gG fG:Nat) (wS:Str) (S0:jX) (L0:jF) (lc b7:List Tok) (eR eW:Nat) (aR aW:Addr) (tt:Tok) (tn:Int) (az:Tok) (H:dv W.params R w tn 4 cN ag) (hs:2≤size∧size≤4) (dU:ah=dc (R (size-2)) (R (size-1))) (HG:nx W R w tn 4 rt ah size kI aY aZ gG fG wS (ew R2 yt 4)) (bo: ∃k,k<4∧jR R ah size k=true):j6 pw W (jB W.params) (vQ 8 4 R2) 42 (.call (.ref 96) ⟨[.ref aR,.ref aW,.int tn tt,.int ((size:Nat):Int) az,.bool false],[]⟩) ([(aR,j0 (kj R rt 4) eR),(aW,j0 (jS w wt 4) eW),(86,VJ S0.aN),(93,VK L0.aT),(S0.aN,S0.bq),(S0.bD,yz (jL S0.af)),(S0.af,jD 100 lc),(L0.aT,L0.code)].map some):=by
 have h:=uM (w:=W) ((R6 W.params R w rt wt size ah cN ag R2 yt kI aY aZ gG fG wS S0 L0 lc eR eW aR aW tt tn az)) (.inl (YJ _)) (by
  intro A K
  walk_at "ob"
  ·exact fun _ hz=>VT W R w H.hR tn H.ht (rt 0) (rt 1) (rt 2) (rt 3) (wt 0) (wt 1) (wt 2) (wt 3) _ _ _ _ _ _ (dl hz)
  ·exact fun _ hz=>k8 W (d:=8) (by decide) _ (dl hz)
  ·exact fun _ hz=>Jn W _ _ (d:=8) (by decide) _ (dl hz)
  ·exact fun _ hz=>UF W _ _ _ _ _ _ _ _ _ (by decide) _ (dl hz)
  ·exact fun _ hz=>k9 H _ rfl 0 (by decide) _ H.l0.symm _ _ H.h0.symm _ _ _ (dl hz)
  ·exact fun _ hz=>k9 H _ rfl 1 (by decide) _ rfl _ _ rfl _ _ _ (dl hz)
  ·exact fun _ hz=>k9 H _ rfl 2 (by decide) _ rfl _ _ rfl _ _ _ (dl hz)
  ·exact fun _ hz=>k9 H _ rfl 3 (by decide) _ rfl _ _ rfl _ _ _ (dl hz)
  ·exact yw H _ _
  ·exact Jk (by decide) rfl (by simp [jP,un,vp]) (by simp [jP]) (by simp [jP,un,vp]) (by simp [jP]) rfl (by simp [vD,H.h0]) H.ln
  ·exact fun _ hz=>k8 W (d:=8) (by decide) _ (dl hz)
  ·exact k6 H.len
  ·exact fun _ hz=>US W _ _ _ _ _ _ _ _ (dl hz)
  ·exact vV (fun k=>((ja R w tn 4 k:Nat):Int)) (uY [K 4,K 5,K 6,K 7,K 8]) 4 size hs.2 (by decide)
  ·exact jC R rt 4 (size-2) (by lia) (Nat.le_succ _) (by lia)
  ·exact jC R rt 4 (size-1) (by lia) (Nat.le_succ _) (by lia)
  ·exact Uo dU _ _
  ·exact fun _ hz=>qm W R ah size hs.1 hs.2 _ _ _ _ _ _ _ _ _ rt _ _ (dl hz)
  ·exact fun _ hz=>k8 W (d:=8) (by decide) _ (dl hz)
  ·exact fun _ hz=>BZ W _ (fun k=>((ja R w tn 4 k:Nat):Int)) _ (jR R ah size) 4 H.hn H.hE (by show ((ja R w tn 4 0:Nat):Int)=0;rw [H.h0];rfl) _ _ _ bo H.h2 _ (dl hz)
  ·exact jx.at (HG _ _ _ _ _ _ _ _ _ _ _ _ _ _ _ H.ln) (by decide) rfl rfl
  ·exact fun _ hz=>kM W _ _ _ _ _ _ _ _ _ (by simp) _ (dl hz)
  ·exact fun _ hz=>kM W _ _ _ _ _ _ _ _ _ (by simp) _ (dl hz)
  ·exact fun _ hz=>kM W _ _ _ _ _ _ _ _ _ (by simp) _ (dl hz)
  ·exact fun _ hz=>kM W _ _ _ _ _ _ _ _ _ (by simp) _ (dl hz)
  ·exact fun _ hz=>UB H _ rfl _ _ _ _ (dl hz)
  ·rw [H.ln];simp
  )
 exact h.cv (fun ts=> [yt 0,yt 1,yt 2,yt 3]) fun _ _=>rfl
theorem Sq (W:World) (R:Nat→Nat) (w:Nat→Int) (rt wt:Nat→Tok) (size:Nat) (ah:Bool) (cN:Nat) (ag:Nat→Int) (R2:Nat→Nat) (yt:Nat→Tok) (kI:Nat) (aY aZ:Int) (gG fG:Nat) (wS:Str) (S0:jX) (L0:jF) (lc b7:List Tok) (eR eW:Nat) (aR aW:Addr) (tt:Tok) (tn:Int) (az:Tok) (H:dv W.params R w tn 4 cN ag) (hs:2≤size∧size≤4) (dU:ah=dc (R 0) (R (size-1))) (HG:qx W R 4 rt ah size kI aY aZ gG fG wS (ew R2 yt 4)):j6 pw W (jB W.params) (Vt 4 R2 S0.af) 42 (.call (.ref 96) ⟨[.ref aR,.ref aW,.int tn tt,.int ((size:Nat):Int) az,.bool true],[]⟩) ([(aR,j0 (kj R rt 4) eR),(aW,j0 (jS w wt 4) eW),(86,VJ S0.aN),(93,VK L0.aT),(S0.aN,S0.bq),(S0.bD,yz (jL S0.af)),(S0.af,jD 100 lc),(L0.aT,L0.code)].map some):=by
 have h:=uM (w:=W) ((R8 W.params R w rt wt size ah (dc (R (size-2)) (R (size-1))) cN ag R2 yt kI aY aZ gG fG wS S0 L0 lc eR eW aR aW tt tn az)) (.inl (YJ _)) (by
  intro A K
  walk_at "ob"
  ·exact fun _ hz=>VT W R w H.hR tn H.ht (rt 0) (rt 1) (rt 2) (rt 3) (wt 0) (wt 1) (wt 2) (wt 3) _ _ _ _ _ _ (dl hz)
  ·exact fun _ hz=>k8 W (d:=8) (by decide) _ (dl hz)
  ·exact fun _ hz=>Jn W _ _ (d:=8) (by decide) _ (dl hz)
  ·exact fun _ hz=>UF W _ _ _ _ _ _ _ _ _ (by decide) _ (dl hz)
  ·exact fun _ hz=>k9 H _ rfl 0 (by decide) _ H.l0.symm _ _ H.h0.symm _ _ _ (dl hz)
  ·exact fun _ hz=>k9 H _ rfl 1 (by decide) _ rfl _ _ rfl _ _ _ (dl hz)
  ·exact fun _ hz=>k9 H _ rfl 2 (by decide) _ rfl _ _ rfl _ _ _ (dl hz)
  ·exact fun _ hz=>k9 H _ rfl 3 (by decide) _ rfl _ _ rfl _ _ _ (dl hz)
  ·exact yw H _ _
  ·exact Jk (by decide) rfl (by simp [jP,un,vp]) (by simp [jP]) (by simp [jP,un,vp]) (by simp [jP]) rfl (by simp [vD,H.h0]) H.ln
  ·exact fun _ hz=>k8 W (d:=8) (by decide) _ (dl hz)
  ·exact k6 H.len
  ·exact fun _ hz=>US W _ _ _ _ _ _ _ _ (dl hz)
  ·exact vV (fun k=>((ja R w tn 4 k:Nat):Int)) (uY [K 4,K 5,K 6,K 7,K 8]) 4 size hs.2 (by decide)
  ·exact jC R rt 4 (size-2) (by lia) (Nat.le_succ _) (by lia)
  ·exact jC R rt 4 (size-1) (by lia) (Nat.le_succ _) (by lia)
  ·exact Uo rfl _ _
  ·exact jC R rt 4 (size-1) (by lia) (Nat.le_succ _) (by lia)
  ·exact Uo dU _ _
  ·exact fun _ hz=>qm W R ah size hs.1 hs.2 _ _ _ _ _ _ _ _ _ rt _ _ (dl hz)
  ·exact fun _ hz=>k8 W (d:=8) (by decide) _ (dl hz)
  ·exact jx.at (HG _ _ _ _ _ _ _ _ _ _ _ _ _ _ H.ln) (by decide) rfl rfl
  ·exact fun _ hz=>kM W _ _ _ _ _ _ _ _ _ (by simp) _ (dl hz)
  ·exact fun _ hz=>kM W _ _ _ _ _ _ _ _ _ (by simp) _ (dl hz)
  ·exact fun _ hz=>kM W _ _ _ _ _ _ _ _ _ (by simp) _ (dl hz)
  ·exact fun _ hz=>kM W _ _ _ _ _ _ _ _ _ (by simp) _ (dl hz)
  ·exact fun _ hz=>UB H _ rfl _ _ _ _ (dl hz)
  ·rw [H.ln];simp
  )
 exact h.cv (fun ts=> [ts.getD 0 0,ts.getD 1 0,ts.getD 2 0,ts.getD 3 0,ts.getD 4 0,ts.getD 5 0,ts.getD 6 0,ts.getD 7 0,ts.getD 8 0,ts.getD 9 0,yt 0,yt 1,yt 2,yt 3]) fun _ _=>rfl
theorem Sr (W:World) (R:Nat→Nat) (w:Nat→Int) (rt wt:Nat→Tok) (size:Nat) (ah:Bool) (cN:Nat) (ag:Nat→Int) (R2:Nat→Nat) (yt:Nat→Tok) (kI:Nat) (aY aZ:Int) (gG fG:Nat) (wS:Str) (S0:jX) (L0:jF) (lc b7:List Tok) (eR eW:Nat) (aR aW:Addr) (tt:Tok) (tn:Int) (az:Tok) (H:dv W.params R w tn 4 cN ag) (hs:2≤size∧size≤4) (dU:ah=dc (R 0) (R (size-1))) (HG:qw W R 4 rt ah size kI aY aZ gG fG wS (ew R2 yt 4)):j6 pw W (jB W.params) (vQ 9 4 R2) 42 (.call (.ref 96) ⟨[.ref aR,.ref aW,.int tn tt,.int ((size:Nat):Int) az,.bool true],[]⟩) ([(aR,j0 (kj R rt 4) eR),(aW,j0 (jS w wt 4) eW),(86,VJ S0.aN),(93,VK L0.aT),(S0.aN,S0.bq),(S0.bD,yz (ku S0.af S0.aA)),(S0.af,jD 100 lc),(S0.aA,jD 98 b7),(L0.aT,L0.code)].map some):=by
 have h:=uM (w:=W) ((Sa W.params R w rt wt size ah (dc (R (size-2)) (R (size-1))) cN ag R2 yt kI aY aZ gG fG wS S0 L0 lc b7 eR eW aR aW tt tn az)) (.inl (YJ _)) (by
  intro A K
  walk_at "ob"
  ·exact fun _ hz=>VT W R w H.hR tn H.ht (rt 0) (rt 1) (rt 2) (rt 3) (wt 0) (wt 1) (wt 2) (wt 3) _ _ _ _ _ _ (dl hz)
  ·exact fun _ hz=>k8 W (d:=8) (by decide) _ (dl hz)
  ·exact fun _ hz=>Jn W _ _ (d:=8) (by decide) _ (dl hz)
  ·exact fun _ hz=>UF W _ _ _ _ _ _ _ _ _ (by decide) _ (dl hz)
  ·exact fun _ hz=>k9 H _ rfl 0 (by decide) _ H.l0.symm _ _ H.h0.symm _ _ _ (dl hz)
  ·exact fun _ hz=>k9 H _ rfl 1 (by decide) _ rfl _ _ rfl _ _ _ (dl hz)
  ·exact fun _ hz=>k9 H _ rfl 2 (by decide) _ rfl _ _ rfl _ _ _ (dl hz)
  ·exact fun _ hz=>k9 H _ rfl 3 (by decide) _ rfl _ _ rfl _ _ _ (dl hz)
  ·exact yw H _ _
  ·exact Jk (by decide) rfl (by simp [jP,un,vp]) (by simp [jP]) (by simp [jP,un,vp]) (by simp [jP]) rfl (by simp [vD,H.h0]) H.ln
  ·exact fun _ hz=>k8 W (d:=8) (by decide) _ (dl hz)
  ·exact k6 H.len
  ·exact fun _ hz=>US W _ _ _ _ _ _ _ _ (dl hz)
  ·exact vV (fun k=>((ja R w tn 4 k:Nat):Int)) (uY [K 4,K 5,K 6,K 7,K 8]) 4 size hs.2 (by decide)
  ·exact jC R rt 4 (size-2) (by lia) (Nat.le_succ _) (by lia)
  ·exact jC R rt 4 (size-1) (by lia) (Nat.le_succ _) (by lia)
  ·exact Uo rfl _ _
  ·exact jC R rt 4 (size-1) (by lia) (Nat.le_succ _) (by lia)
  ·exact Uo dU _ _
  ·exact fun _ hz=>qm W R ah size hs.1 hs.2 _ _ _ _ _ _ _ _ _ rt _ _ (dl hz)
  ·exact fun _ hz=>k8 W (d:=8) (by decide) _ (dl hz)
  ·exact jx.at (HG _ _ _ _ _ _ _ _ _ _ _ _ _ _ _ H.ln) (by decide) rfl rfl
  ·exact fun _ hz=>kM W _ _ _ _ _ _ _ _ _ (by simp) _ (dl hz)
  ·exact fun _ hz=>kM W _ _ _ _ _ _ _ _ _ (by simp) _ (dl hz)
  ·exact fun _ hz=>kM W _ _ _ _ _ _ _ _ _ (by simp) _ (dl hz)
  ·exact fun _ hz=>kM W _ _ _ _ _ _ _ _ _ (by simp) _ (dl hz)
  ·exact fun _ hz=>UB H _ rfl _ _ _ _ (dl hz)
  ·rw [H.ln];simp
  )
 exact h.cv (fun ts=> [yt 0,yt 1,yt 2,yt 3]) fun _ _=>rfl
theorem Ss (W:World) (R:Nat→Nat) (w:Nat→Int) (rt wt:Nat→Tok) (size:Nat) (ah:Bool) (cN:Nat) (ag:Nat→Int) (R2:Nat→Nat) (yt:Nat→Tok) (kI:Nat) (aY aZ:Int) (gG fG:Nat) (wS:Str) (S0:jX) (L0:jF) (lc b7:List Tok) (eR eW:Nat) (aR aW:Addr) (tt:Tok) (tn:Int) (az:Tok) (H:dv W.params R w tn 5 cN ag) (hs:2≤size∧size≤5) (dU:ah=dc (R (size-2)) (R (size-1))) (HG:nx W R w tn 5 rt ah size kI aY aZ gG fG wS (ew R2 yt 5)) (bo: ∃k,k<5∧jR R ah size k=true):j6 pw W (jB W.params) (Vs 5 R2) 42 (.call (.ref 96) ⟨[.ref aR,.ref aW,.int tn tt,.int ((size:Nat):Int) az,.bool false],[]⟩) ([(aR,j0 (kj R rt 5) eR),(aW,j0 (jS w wt 5) eW),(86,tE),(93,tE)].map some):=by
 have h:=uM (w:=W) ((Sd W.params R w rt wt size ah cN ag R2 yt kI aY aZ gG fG wS eR eW aR aW tt tn az)) (.inl (YJ _)) (by
  intro A K
  walk_at "ob"
  ·exact fun _ hz=>VU W R w H.hR tn H.ht (rt 0) (rt 1) (rt 2) (rt 3) (rt 4) (wt 0) (wt 1) (wt 2) (wt 3) (wt 4) _ _ _ _ _ _ (dl hz)
  ·exact fun _ hz=>k8 W (d:=8) (by decide) _ (dl hz)
  ·exact fun _ hz=>Jn W _ _ (d:=8) (by decide) _ (dl hz)
  ·exact fun _ hz=>UF W _ _ _ _ _ _ _ _ _ (by decide) _ (dl hz)
  ·exact fun _ hz=>k9 H _ rfl 0 (by decide) _ H.l0.symm _ _ H.h0.symm _ _ _ (dl hz)
  ·exact fun _ hz=>k9 H _ rfl 1 (by decide) _ rfl _ _ rfl _ _ _ (dl hz)
  ·exact fun _ hz=>k9 H _ rfl 2 (by decide) _ rfl _ _ rfl _ _ _ (dl hz)
  ·exact fun _ hz=>k9 H _ rfl 3 (by decide) _ rfl _ _ rfl _ _ _ (dl hz)
  ·exact fun _ hz=>k9 H _ rfl 4 (by decide) _ rfl _ _ rfl _ _ _ (dl hz)
  ·exact yw H _ _
  ·exact Jk (by decide) rfl (by simp [jP,un,vp]) (by simp [jP]) (by simp [jP,un,vp]) (by simp [jP]) rfl (by simp [vD,H.h0]) H.ln
  ·exact fun _ hz=>k8 W (d:=8) (by decide) _ (dl hz)
  ·exact k6 H.len
  ·exact fun _ hz=>US W _ _ _ _ _ _ _ _ (dl hz)
  ·exact vV (fun k=>((ja R w tn 5 k:Nat):Int)) (uY [K 4,K 5,K 6,K 7,K 8,K 9]) 5 size hs.2 (by decide)
  ·exact jC R rt 5 (size-2) (by lia) (Nat.le_refl _) (by lia)
  ·exact jC R rt 5 (size-1) (by lia) (Nat.le_refl _) (by lia)
  ·exact Uo dU _ _
  ·exact fun _ hz=>qn W R ah size hs.1 hs.2 _ _ _ _ _ _ _ _ _ rt _ _ (dl hz)
  ·exact fun _ hz=>k8 W (d:=8) (by decide) _ (dl hz)
  ·exact fun _ hz=>B1 W _ (fun k=>((ja R w tn 5 k:Nat):Int)) _ (jR R ah size) 5 H.hn H.hE (by show ((ja R w tn 5 0:Nat):Int)=0;rw [H.h0];rfl) _ _ bo H.h2 _ (dl hz)
  ·exact jx.at (HG _ _ _ _ _ _ _ _ _ _ _ _ _ _ _ H.ln) (by decide) rfl rfl
  ·exact fun _ hz=>kM W _ _ _ _ _ _ _ _ _ (by simp) _ (dl hz)
  ·exact fun _ hz=>kM W _ _ _ _ _ _ _ _ _ (by simp) _ (dl hz)
  ·exact fun _ hz=>kM W _ _ _ _ _ _ _ _ _ (by simp) _ (dl hz)
  ·exact fun _ hz=>kM W _ _ _ _ _ _ _ _ _ (by simp) _ (dl hz)
  ·exact fun _ hz=>kM W _ _ _ _ _ _ _ _ _ (by simp) _ (dl hz)
  ·exact fun _ hz=>UB H _ rfl _ _ _ _ (dl hz)
  ·rw [H.ln];simp
  )
 exact h.cv (fun ts=> [ts.getD 0 0,ts.getD 1 0,ts.getD 2 0,ts.getD 3 0,ts.getD 4 0,ts.getD 5 0,ts.getD 6 0,ts.getD 7 0,ts.getD 8 0,ts.getD 9 0,ts.getD 10 0,ts.getD 11 0,ts.getD 12 0,ts.getD 13 0,ts.getD 14 0,ts.getD 15 0,ts.getD 16 0,ts.getD 17 0,ts.getD 18 0,ts.getD 19 0,ts.getD 20 0,ts.getD 21 0,ts.getD 22 0,ts.getD 23 0,ts.getD 24 0,ts.getD 25 0,ts.getD 26 0,yt 0,yt 1,yt 2,yt 3,yt 4]) fun _ _=>rfl
theorem Su (W:World) (R:Nat→Nat) (w:Nat→Int) (rt wt:Nat→Tok) (size:Nat) (ah:Bool) (cN:Nat) (ag:Nat→Int) (R2:Nat→Nat) (yt:Nat→Tok) (kI:Nat) (aY aZ:Int) (gG fG:Nat) (wS:Str) (S0:jX) (L0:jF) (lc b7:List Tok) (eR eW:Nat) (aR aW:Addr) (tt:Tok) (tn:Int) (az:Tok) (H:dv W.params R w tn 5 cN ag) (hs:2≤size∧size≤5) (dU:ah=dc (R (size-2)) (R (size-1))) (HG:nx W R w tn 5 rt ah size kI aY aZ gG fG wS (ew R2 yt 5)) (bo: ∃k,k<5∧jR R ah size k=true):j6 pw W (jB W.params) (vQ 8 5 R2) 42 (.call (.ref 96) ⟨[.ref aR,.ref aW,.int tn tt,.int ((size:Nat):Int) az,.bool false],[]⟩) ([(aR,j0 (kj R rt 5) eR),(aW,j0 (jS w wt 5) eW),(86,VJ S0.aN),(93,VK L0.aT),(S0.aN,S0.bq),(S0.bD,yz (jL S0.af)),(S0.af,jD 100 lc),(L0.aT,L0.code)].map some):=by
 have h:=uM (w:=W) ((Sf W.params R w rt wt size ah cN ag R2 yt kI aY aZ gG fG wS S0 L0 lc eR eW aR aW tt tn az)) (.inl (YJ _)) (by
  intro A K
  walk_at "ob"
  ·exact fun _ hz=>VU W R w H.hR tn H.ht (rt 0) (rt 1) (rt 2) (rt 3) (rt 4) (wt 0) (wt 1) (wt 2) (wt 3) (wt 4) _ _ _ _ _ _ (dl hz)
  ·exact fun _ hz=>k8 W (d:=8) (by decide) _ (dl hz)
  ·exact fun _ hz=>Jn W _ _ (d:=8) (by decide) _ (dl hz)
  ·exact fun _ hz=>UF W _ _ _ _ _ _ _ _ _ (by decide) _ (dl hz)
  ·exact fun _ hz=>k9 H _ rfl 0 (by decide) _ H.l0.symm _ _ H.h0.symm _ _ _ (dl hz)
  ·exact fun _ hz=>k9 H _ rfl 1 (by decide) _ rfl _ _ rfl _ _ _ (dl hz)
  ·exact fun _ hz=>k9 H _ rfl 2 (by decide) _ rfl _ _ rfl _ _ _ (dl hz)
  ·exact fun _ hz=>k9 H _ rfl 3 (by decide) _ rfl _ _ rfl _ _ _ (dl hz)
  ·exact fun _ hz=>k9 H _ rfl 4 (by decide) _ rfl _ _ rfl _ _ _ (dl hz)
  ·exact yw H _ _
  ·exact Jk (by decide) rfl (by simp [jP,un,vp]) (by simp [jP]) (by simp [jP,un,vp]) (by simp [jP]) rfl (by simp [vD,H.h0]) H.ln
  ·exact fun _ hz=>k8 W (d:=8) (by decide) _ (dl hz)
  ·exact k6 H.len
  ·exact fun _ hz=>US W _ _ _ _ _ _ _ _ (dl hz)
  ·exact vV (fun k=>((ja R w tn 5 k:Nat):Int)) (uY [K 4,K 5,K 6,K 7,K 8,K 9]) 5 size hs.2 (by decide)
  ·exact jC R rt 5 (size-2) (by lia) (Nat.le_refl _) (by lia)
  ·exact jC R rt 5 (size-1) (by lia) (Nat.le_refl _) (by lia)
  ·exact Uo dU _ _
  ·exact fun _ hz=>qn W R ah size hs.1 hs.2 _ _ _ _ _ _ _ _ _ rt _ _ (dl hz)
  ·exact fun _ hz=>k8 W (d:=8) (by decide) _ (dl hz)
  ·exact fun _ hz=>BZ W _ (fun k=>((ja R w tn 5 k:Nat):Int)) _ (jR R ah size) 5 H.hn H.hE (by show ((ja R w tn 5 0:Nat):Int)=0;rw [H.h0];rfl) _ _ _ bo H.h2 _ (dl hz)
  ·exact jx.at (HG _ _ _ _ _ _ _ _ _ _ _ _ _ _ _ H.ln) (by decide) rfl rfl
  ·exact fun _ hz=>kM W _ _ _ _ _ _ _ _ _ (by simp) _ (dl hz)
  ·exact fun _ hz=>kM W _ _ _ _ _ _ _ _ _ (by simp) _ (dl hz)
  ·exact fun _ hz=>kM W _ _ _ _ _ _ _ _ _ (by simp) _ (dl hz)
  ·exact fun _ hz=>kM W _ _ _ _ _ _ _ _ _ (by simp) _ (dl hz)
  ·exact fun _ hz=>kM W _ _ _ _ _ _ _ _ _ (by simp) _ (dl hz)
  ·exact fun _ hz=>UB H _ rfl _ _ _ _ (dl hz)
  ·rw [H.ln];simp
  )
 exact h.cv (fun ts=> [yt 0,yt 1,yt 2,yt 3,yt 4]) fun _ _=>rfl
theorem Sv (W:World) (R:Nat→Nat) (w:Nat→Int) (rt wt:Nat→Tok) (size:Nat) (ah:Bool) (cN:Nat) (ag:Nat→Int) (R2:Nat→Nat) (yt:Nat→Tok) (kI:Nat) (aY aZ:Int) (gG fG:Nat) (wS:Str) (S0:jX) (L0:jF) (lc b7:List Tok) (eR eW:Nat) (aR aW:Addr) (tt:Tok) (tn:Int) (az:Tok) (H:dv W.params R w tn 5 cN ag) (hs:2≤size∧size≤5) (dU:ah=dc (R 0) (R (size-1))) (HG:qx W R 5 rt ah size kI aY aZ gG fG wS (ew R2 yt 5)):j6 pw W (jB W.params) (Vt 5 R2 S0.af) 42 (.call (.ref 96) ⟨[.ref aR,.ref aW,.int tn tt,.int ((size:Nat):Int) az,.bool true],[]⟩) ([(aR,j0 (kj R rt 5) eR),(aW,j0 (jS w wt 5) eW),(86,VJ S0.aN),(93,VK L0.aT),(S0.aN,S0.bq),(S0.bD,yz (jL S0.af)),(S0.af,jD 100 lc),(L0.aT,L0.code)].map some):=by
 have h:=uM (w:=W) ((Si W.params R w rt wt size ah (dc (R (size-2)) (R (size-1))) cN ag R2 yt kI aY aZ gG fG wS S0 L0 lc eR eW aR aW tt tn az)) (.inl (YJ _)) (by
  intro A K
  walk_at "ob"
  ·exact fun _ hz=>VU W R w H.hR tn H.ht (rt 0) (rt 1) (rt 2) (rt 3) (rt 4) (wt 0) (wt 1) (wt 2) (wt 3) (wt 4) _ _ _ _ _ _ (dl hz)
  ·exact fun _ hz=>k8 W (d:=8) (by decide) _ (dl hz)
  ·exact fun _ hz=>Jn W _ _ (d:=8) (by decide) _ (dl hz)
  ·exact fun _ hz=>UF W _ _ _ _ _ _ _ _ _ (by decide) _ (dl hz)
  ·exact fun _ hz=>k9 H _ rfl 0 (by decide) _ H.l0.symm _ _ H.h0.symm _ _ _ (dl hz)
  ·exact fun _ hz=>k9 H _ rfl 1 (by decide) _ rfl _ _ rfl _ _ _ (dl hz)
  ·exact fun _ hz=>k9 H _ rfl 2 (by decide) _ rfl _ _ rfl _ _ _ (dl hz)
  ·exact fun _ hz=>k9 H _ rfl 3 (by decide) _ rfl _ _ rfl _ _ _ (dl hz)
  ·exact fun _ hz=>k9 H _ rfl 4 (by decide) _ rfl _ _ rfl _ _ _ (dl hz)
  ·exact yw H _ _
  ·exact Jk (by decide) rfl (by simp [jP,un,vp]) (by simp [jP]) (by simp [jP,un,vp]) (by simp [jP]) rfl (by simp [vD,H.h0]) H.ln
  ·exact fun _ hz=>k8 W (d:=8) (by decide) _ (dl hz)
  ·exact k6 H.len
  ·exact fun _ hz=>US W _ _ _ _ _ _ _ _ (dl hz)
  ·exact vV (fun k=>((ja R w tn 5 k:Nat):Int)) (uY [K 4,K 5,K 6,K 7,K 8,K 9]) 5 size hs.2 (by decide)
  ·exact jC R rt 5 (size-2) (by lia) (Nat.le_refl _) (by lia)
  ·exact jC R rt 5 (size-1) (by lia) (Nat.le_refl _) (by lia)
  ·exact Uo rfl _ _
  ·exact jC R rt 5 (size-1) (by lia) (Nat.le_refl _) (by lia)
  ·exact Uo dU _ _
  ·exact fun _ hz=>qn W R ah size hs.1 hs.2 _ _ _ _ _ _ _ _ _ rt _ _ (dl hz)
  ·exact fun _ hz=>k8 W (d:=8) (by decide) _ (dl hz)
  ·exact jx.at (HG _ _ _ _ _ _ _ _ _ _ _ _ _ _ H.ln) (by decide) rfl rfl
  ·exact fun _ hz=>kM W _ _ _ _ _ _ _ _ _ (by simp) _ (dl hz)
  ·exact fun _ hz=>kM W _ _ _ _ _ _ _ _ _ (by simp) _ (dl hz)
  ·exact fun _ hz=>kM W _ _ _ _ _ _ _ _ _ (by simp) _ (dl hz)
  ·exact fun _ hz=>kM W _ _ _ _ _ _ _ _ _ (by simp) _ (dl hz)
  ·exact fun _ hz=>kM W _ _ _ _ _ _ _ _ _ (by simp) _ (dl hz)
  ·exact fun _ hz=>UB H _ rfl _ _ _ _ (dl hz)
  ·rw [H.ln];simp
  )
 exact h.cv (fun ts=> [ts.getD 0 0,ts.getD 1 0,ts.getD 2 0,ts.getD 3 0,ts.getD 4 0,ts.getD 5 0,ts.getD 6 0,ts.getD 7 0,ts.getD 8 0,ts.getD 9 0,yt 0,yt 1,yt 2,yt 3,yt 4]) fun _ _=>rfl
theorem Sw (W:World) (R:Nat→Nat) (w:Nat→Int) (rt wt:Nat→Tok) (size:Nat) (ah:Bool) (cN:Nat) (ag:Nat→Int) (R2:Nat→Nat) (yt:Nat→Tok) (kI:Nat) (aY aZ:Int) (gG fG:Nat) (wS:Str) (S0:jX) (L0:jF) (lc b7:List Tok) (eR eW:Nat) (aR aW:Addr) (tt:Tok) (tn:Int) (az:Tok) (H:dv W.params R w tn 5 cN ag) (hs:2≤size∧size≤5) (dU:ah=dc (R 0) (R (size-1))) (HG:qw W R 5 rt ah size kI aY aZ gG fG wS (ew R2 yt 5)):j6 pw W (jB W.params) (vQ 9 5 R2) 42 (.call (.ref 96) ⟨[.ref aR,.ref aW,.int tn tt,.int ((size:Nat):Int) az,.bool true],[]⟩) ([(aR,j0 (kj R rt 5) eR),(aW,j0 (jS w wt 5) eW),(86,VJ S0.aN),(93,VK L0.aT),(S0.aN,S0.bq),(S0.bD,yz (ku S0.af S0.aA)),(S0.af,jD 100 lc),(S0.aA,jD 98 b7),(L0.aT,L0.code)].map some):=by
 have h:=uM (w:=W) ((Sl W.params R w rt wt size ah (dc (R (size-2)) (R (size-1))) cN ag R2 yt kI aY aZ gG fG wS S0 L0 lc b7 eR eW aR aW tt tn az)) (.inl (YJ _)) (by
  intro A K
  walk_at "ob"
  ·exact fun _ hz=>VU W R w H.hR tn H.ht (rt 0) (rt 1) (rt 2) (rt 3) (rt 4) (wt 0) (wt 1) (wt 2) (wt 3) (wt 4) _ _ _ _ _ _ (dl hz)
  ·exact fun _ hz=>k8 W (d:=8) (by decide) _ (dl hz)
  ·exact fun _ hz=>Jn W _ _ (d:=8) (by decide) _ (dl hz)
  ·exact fun _ hz=>UF W _ _ _ _ _ _ _ _ _ (by decide) _ (dl hz)
  ·exact fun _ hz=>k9 H _ rfl 0 (by decide) _ H.l0.symm _ _ H.h0.symm _ _ _ (dl hz)
  ·exact fun _ hz=>k9 H _ rfl 1 (by decide) _ rfl _ _ rfl _ _ _ (dl hz)
  ·exact fun _ hz=>k9 H _ rfl 2 (by decide) _ rfl _ _ rfl _ _ _ (dl hz)
  ·exact fun _ hz=>k9 H _ rfl 3 (by decide) _ rfl _ _ rfl _ _ _ (dl hz)
  ·exact fun _ hz=>k9 H _ rfl 4 (by decide) _ rfl _ _ rfl _ _ _ (dl hz)
  ·exact yw H _ _
  ·exact Jk (by decide) rfl (by simp [jP,un,vp]) (by simp [jP]) (by simp [jP,un,vp]) (by simp [jP]) rfl (by simp [vD,H.h0]) H.ln
  ·exact fun _ hz=>k8 W (d:=8) (by decide) _ (dl hz)
  ·exact k6 H.len
  ·exact fun _ hz=>US W _ _ _ _ _ _ _ _ (dl hz)
  ·exact vV (fun k=>((ja R w tn 5 k:Nat):Int)) (uY [K 4,K 5,K 6,K 7,K 8,K 9]) 5 size hs.2 (by decide)
  ·exact jC R rt 5 (size-2) (by lia) (Nat.le_refl _) (by lia)
  ·exact jC R rt 5 (size-1) (by lia) (Nat.le_refl _) (by lia)
  ·exact Uo rfl _ _
  ·exact jC R rt 5 (size-1) (by lia) (Nat.le_refl _) (by lia)
  ·exact Uo dU _ _
  ·exact fun _ hz=>qn W R ah size hs.1 hs.2 _ _ _ _ _ _ _ _ _ rt _ _ (dl hz)
  ·exact fun _ hz=>k8 W (d:=8) (by decide) _ (dl hz)
  ·exact jx.at (HG _ _ _ _ _ _ _ _ _ _ _ _ _ _ _ H.ln) (by decide) rfl rfl
  ·exact fun _ hz=>kM W _ _ _ _ _ _ _ _ _ (by simp) _ (dl hz)
  ·exact fun _ hz=>kM W _ _ _ _ _ _ _ _ _ (by simp) _ (dl hz)
  ·exact fun _ hz=>kM W _ _ _ _ _ _ _ _ _ (by simp) _ (dl hz)
  ·exact fun _ hz=>kM W _ _ _ _ _ _ _ _ _ (by simp) _ (dl hz)
  ·exact fun _ hz=>kM W _ _ _ _ _ _ _ _ _ (by simp) _ (dl hz)
  ·exact fun _ hz=>UB H _ rfl _ _ _ _ (dl hz)
  ·rw [H.ln];simp
  )
 exact h.cv (fun ts=> [yt 0,yt 1,yt 2,yt 3,yt 4]) fun _ _=>rfl
theorem JH {α β:Type} (f:α→β) (l:List α) (a b:Nat):U8 (l.map f) a b=(U8 l a b).map f:=by
 unfold U8;rw [←List.map_drop,←List.map_take]
theorem Dc {α β:Type} (f:α→β) (row:List α) (C:Nat→Bool): ∀(n c:Nat),d9 (row.map f) C n c=(d9 row C n c).map f
 |0,c=>rfl
 |n+1,c=>by
  cases h:kS C c with
  |none=>rw [Vg _ h,Vg _ h];rfl
  |some w=>rw [vU _ h,vU _ h,Dc f row C n,JH,JH];simp
theorem Dd {α β:Type} (f:α→β) (row:List α) (C:Nat→Bool): ∀(n c:Nat),eA (row.map f) C n c=(eA row C n c).map f
 |0,c=>rfl
 |n+1,c=>by
  cases h:kS C c with
  |none=>rw [JE _ h,JE _ h];rfl
  |some w=>rw [uK _ h,uK _ h,Dd f row C n,JH,JH];simp
theorem Yo {α β:Type} (f:α→β) (row:List α) (C:Nat→Bool) (c:Nat):vx (row.map f) C c=(vx row C c).map f:=by
 unfold vx
 cases h:kS C c with
 |none=>rfl
 |some w=>simp only [Dc,JH,List.length_map,List.map_append]
theorem Yp {α β:Type} (f:α→β) (row:List α) (C:Nat→Bool) (c:Nat):u1 (row.map f) C c=(u1 row C c).map f:=by
 unfold u1
 simp only [Dd,JH,List.length_map,List.map_append]
theorem Sx {α:Type} (l:List α) (a b:Nat):(U8 l a b).length=min (b-a) (l.length-a):=by
 unfold U8;simp
theorem Yg {α:Type} {l:List α} {a b:Nat} (h:b≤l.length):(U8 l a b).length=b-a:=by
 rw [Sx];exact Nat.min_eq_left (Nat.sub_le_sub_right h a)
theorem De {α:Type} (row:List α) (C:Nat→Bool): ∀(f c w:Nat),kS C c=some w→c≤f→w<row.length→(d9 row C f c).length=w+1
 |0,c,w,h,hf,hw=>absurd (uC (ui h).1 hf) (Nat.not_lt_zero _)
 |f+1,c,w,h,hf,hw=>by
  have a:=uW h
  have a1:=a.1.1
  have e:(U8 row ((w+1)-1) (w+1)++U8 row (kW C w) ((w+1)-1)).length=w+1-kW C w:=by
   rw [List.length_append,Yg (b:=w+1) hw,Yg (b:=w+1-1) (jH hw),Nat.add_sub_cancel,Nat.add_sub_cancel_left,Nat.succ_sub a1,Nat.add_comm]
  rw [vU _ h,List.length_append,e]
  by_cases z:kW C w=0
  ·rw [z,Vg _ (CI C)];exact Nat.zero_add _
  ·rw [De row C f _ _ (nz z) (Vi (yL a1 (uC a.2.1 hf))) (yL (Nat.sub_le _ _) (yL a1 hw)),Nat.sub_add_cancel (Nat.pos_of_ne_zero z)]
   exact Nat.add_sub_cancel' (dx a1)
theorem Df {α:Type} (row:List α) (C:Nat→Bool) (c w:Nat) (h:kS C c=some w) (hc:c≤5) (hr:c≤row.length):(vx row C c).length=row.length:=by
 have:=uC (ui h).1 hr
 rw [V8 _ h,List.length_append,De row C 5 c w h hc this,Yg (Nat.le_refl _)]
 exact Nat.add_sub_cancel' this
theorem Dg {α:Type} (row:List α) (C:Nat→Bool) (h0:C 0=true): ∀(f c:Nat),c≤f→c≤row.length→(eA row C f c).length=c
 |0,c,hf,hc=>by rw [Nat.le_zero.mp hf];rfl
 |f+1,c,hf,hc=>by
  by_cases z:c=0
  ·rw [z,JE _ (CI C)];rfl
  ·obtain ⟨w,h⟩:=Vk h0 z
   have a:=(ui h).1
   rw [uK _ h,List.length_append,List.length_append,Dg row C h0 f w (Vi (uC a hf)) (jH (uC a hc)),Yg hc,Yg (b:=w+1) (uC a hc),Nat.add_sub_cancel_left,Nat.add_comm (c-(w+1)),←Nat.add_assoc]
   exact Nat.add_sub_cancel' a
theorem Dh {α:Type} (row:List α) (C:Nat→Bool) (h0:C 0=true) (c:Nat) (hc:c≤4) (hr:c≤row.length):(u1 row C c).length=row.length:=by
 unfold u1
 rw [List.length_append,Dg row C h0 4 c hc hr,Yg (Nat.le_refl _)]
 exact Nat.add_sub_cancel' hr
def UO (R:Nat→Nat) (ah:Bool) (size n:Nat):List Nat:=vx (List.range n) (jR R ah size) size
def UP (R:Nat→Nat) (ah:Bool) (size n:Nat):List Nat:=u1 (List.range n) (jR R ah size) (size-1)
noncomputable def dw (l:List Nat) (R:Nat→Nat) (k:Nat):Nat:=R (l.getD k 0)
theorem Di (R rt:Nat→Nat) (n:Nat) (l:List Nat) (hl:l.length=n):l.map (fun k=>(jb (R k),rt k))=ew (dw l R) (dw l rt) n:=by
 unfold ew dw
 apply List.ext_getElem
 ·simp [hl]
 ·intro i h1 h2
  have hi:i<l.length:=by simpa using h1
  simp [hi]
theorem tZ (R:Nat→Nat) (size:Nat) (hs:2≤size): ∃w,kS (jR R (dc (R (size-2)) (R (size-1))) size) size=some w:=by
 cases h:kS (jR R (dc (R (size-2)) (R (size-1))) size) size with
 |some w=>exact ⟨w,rfl⟩
 |none=>
  have:=Yn h (size-2) (by lia)
  unfold jR at this
  simp at this
theorem Dj (R:Nat→Nat) (rt:Nat→Tok) (n size:Nat) (ah:Bool) (hs:size≤n) (hn:n≤5) (w:Nat) (e:kS (jR R ah size) size=some w):vx (JL R rt n) (jR R ah size) size=ew (dw (UO R ah size n) R) (dw (UO R ah size n) rt) n:=by
 show vx ((List.range n).map fun k=>(jb (R k),rt k)) _ _=_
 rw [Yo]
 exact Di R rt n _ (by rw [Df _ _ _ _ e (jc hs hn) (by simpa using hs)];simp)
theorem Dk (R:Nat→Nat) (rt:Nat→Tok) (n size:Nat) (ah:Bool) (h0:jR R ah size 0=true) (hs:size≤n) (hn:n≤5):u1 (JL R rt n) (jR R ah size) (size-1)=ew (dw (UP R ah size n) R) (dw (UP R ah size n) rt) n:=by
 show u1 ((List.range n).map fun k=>(jb (R k),rt k)) _ _=_
 rw [Yp]
 exact Di R rt n _ (by rw [Dh _ _ h0 _ (by lia) (by simp;exact dx hs)];simp)
def Ue (R:Nat→Nat) (size:Nat):Bool:=dc (R (size-2)) (R (size-1))
def Uq (R:Nat→Nat) (size:Nat):Bool:=dc (R 0) (R (size-1))
theorem nC (R:Nat→Nat) (size:Nat):jR R (Uq R size) size 0=true:=by
 unfold jR Uq;simp
theorem Sy (W:World) (R:Nat→Nat) (w:Nat→Int) (rt wt:Nat→Tok) (size n cN:Nat) (ag:Nat→Int) (eR eW:Nat) (aR aW:Addr) (tt:Tok) (tn:Int) (az:Tok) (H:dv W.params R w tn n cN ag) (hs:2≤size∧size≤n):j6 pw W (jB W.params) (Vs n (dw (UO R (Ue R size) size n) R)) 42 (.call (.ref 96) ⟨[.ref aR,.ref aW,.int tn tt,.int ((size:Nat):Int) az,.bool false],[]⟩) ([(aR,j0 (kj R rt n) eR),(aW,j0 (jS w wt n) eW),(86,tE),(93,tE)].map some):=by
 have aj:n≤5:=by have:=H.hn;lia
 obtain ⟨w1,e1⟩:=tZ R size hs.1
 obtain ⟨kI,aY,aZ,gG,fG,wS,HG⟩:=CJ W R w tn n rt (Ue R size) size cN ag H hs w1 e1
 rw [Dj R rt n size (Ue R size) hs.2 aj w1 e1] at HG
 have bo: ∃k,k<n∧jR R (Ue R size) size k=true:=by have:=ui e1;exact ⟨w1,(uC this.1 hs.2),this.2.1⟩
 rcases H.hn with rfl|rfl
 ·exact Sn W R w rt wt size (Ue R size) cN ag _ _ kI aY aZ gG fG wS ⟨0,0,0,0,0,0,0,0,0,0,0,0,0,0,0,0,0,0,0,0,0,0,0,0,⟨#[]⟩,0,0,0,0,0,0,0,.none,.none,.none⟩ ⟨0,0,0,0,0,0,0,0,0,0,0,0,0,0,0,0,0,0,0,0,0,0,.none,.none,.none,.none,.none,[],0,⟨#[]⟩⟩ [] [] eR eW aR aW tt tn az H hs rfl HG bo
 ·exact Ss W R w rt wt size (Ue R size) cN ag _ _ kI aY aZ gG fG wS ⟨0,0,0,0,0,0,0,0,0,0,0,0,0,0,0,0,0,0,0,0,0,0,0,0,⟨#[]⟩,0,0,0,0,0,0,0,.none,.none,.none⟩ ⟨0,0,0,0,0,0,0,0,0,0,0,0,0,0,0,0,0,0,0,0,0,0,.none,.none,.none,.none,.none,[],0,⟨#[]⟩⟩ [] [] eR eW aR aW tt tn az H hs rfl HG bo
theorem Sz (W:World) (R:Nat→Nat) (w:Nat→Int) (rt wt:Nat→Tok) (size n cN:Nat) (ag:Nat→Int) (S0:jX) (L0:jF) (lc b7:List Tok) (eR eW:Nat) (aR aW:Addr) (tt:Tok) (tn:Int) (az:Tok) (H:dv W.params R w tn n cN ag) (hs:2≤size∧size≤n):j6 pw W (jB W.params) (vQ 8 n (dw (UO R (Ue R size) size n) R)) 42 (.call (.ref 96) ⟨[.ref aR,.ref aW,.int tn tt,.int ((size:Nat):Int) az,.bool false],[]⟩) ([(aR,j0 (kj R rt n) eR),(aW,j0 (jS w wt n) eW),(86,VJ S0.aN),(93,VK L0.aT),(S0.aN,S0.bq),(S0.bD,yz (jL S0.af)),(S0.af,jD 100 lc),(L0.aT,L0.code)].map some):=by
 have aj:n≤5:=by have:=H.hn;lia
 obtain ⟨w1,e1⟩:=tZ R size hs.1
 obtain ⟨kI,aY,aZ,gG,fG,wS,HG⟩:=CJ W R w tn n rt (Ue R size) size cN ag H hs w1 e1
 rw [Dj R rt n size (Ue R size) hs.2 aj w1 e1] at HG
 have bo: ∃k,k<n∧jR R (Ue R size) size k=true:=by have:=ui e1;exact ⟨w1,(uC this.1 hs.2),this.2.1⟩
 rcases H.hn with rfl|rfl
 ·exact Sp W R w rt wt size (Ue R size) cN ag _ _ kI aY aZ gG fG wS S0 L0 lc b7 eR eW aR aW tt tn az H hs rfl HG bo
 ·exact Su W R w rt wt size (Ue R size) cN ag _ _ kI aY aZ gG fG wS S0 L0 lc b7 eR eW aR aW tt tn az H hs rfl HG bo
theorem SA (W:World) (R:Nat→Nat) (w:Nat→Int) (rt wt:Nat→Tok) (size n cN:Nat) (ag:Nat→Int) (S0:jX) (L0:jF) (lc b7:List Tok) (eR eW:Nat) (aR aW:Addr) (tt:Tok) (tn:Int) (az:Tok) (H:dv W.params R w tn n cN ag) (hs:2≤size∧size≤n):j6 pw W (jB W.params) (Vt n (dw (UP R (Uq R size) size n) R) S0.af) 42 (.call (.ref 96) ⟨[.ref aR,.ref aW,.int tn tt,.int ((size:Nat):Int) az,.bool true],[]⟩) ([(aR,j0 (kj R rt n) eR),(aW,j0 (jS w wt n) eW),(86,VJ S0.aN),(93,VK L0.aT),(S0.aN,S0.bq),(S0.bD,yz (jL S0.af)),(S0.af,jD 100 lc),(L0.aT,L0.code)].map some):=by
 have aj:n≤5:=by have:=H.hn;lia
 obtain ⟨kI,aY,aZ,gG,fG,wS,HG⟩:=Rg W R n rt (Uq R size) size H.hn hs (nC R size)
 rw [Dk R rt n size (Uq R size) (nC R size) hs.2 aj] at HG
 rcases H.hn with rfl|rfl
 ·exact Sq W R w rt wt size (Uq R size) cN ag _ _ kI aY aZ gG fG wS S0 L0 lc b7 eR eW aR aW tt tn az H hs rfl HG
 ·exact Sv W R w rt wt size (Uq R size) cN ag _ _ kI aY aZ gG fG wS S0 L0 lc b7 eR eW aR aW tt tn az H hs rfl HG
theorem SD (W:World) (R:Nat→Nat) (w:Nat→Int) (rt wt:Nat→Tok) (size n cN:Nat) (ag:Nat→Int) (S0:jX) (L0:jF) (lc b7:List Tok) (eR eW:Nat) (aR aW:Addr) (tt:Tok) (tn:Int) (az:Tok) (H:dv W.params R w tn n cN ag) (hs:2≤size∧size≤n):j6 pw W (jB W.params) (vQ 9 n (dw (UP R (Uq R size) size n) R)) 42 (.call (.ref 96) ⟨[.ref aR,.ref aW,.int tn tt,.int ((size:Nat):Int) az,.bool true],[]⟩) ([(aR,j0 (kj R rt n) eR),(aW,j0 (jS w wt n) eW),(86,VJ S0.aN),(93,VK L0.aT),(S0.aN,S0.bq),(S0.bD,yz (ku S0.af S0.aA)),(S0.af,jD 100 lc),(S0.aA,jD 98 b7),(L0.aT,L0.code)].map some):=by
 have aj:n≤5:=by have:=H.hn;lia
 obtain ⟨kI,aY,aZ,gG,fG,wS,HG⟩:=Rd W R n rt (Uq R size) size H.hn hs (nC R size)
 rw [Dk R rt n size (Uq R size) (nC R size) hs.2 aj] at HG
 rcases H.hn with rfl|rfl
 ·exact Sr W R w rt wt size (Uq R size) cN ag _ _ kI aY aZ gG fG wS S0 L0 lc b7 eR eW aR aW tt tn az H hs rfl HG
 ·exact Sw W R w rt wt size (Uq R size) cN ag _ _ kI aY aZ gG fG wS S0 L0 lc b7 eR eW aR aW tt tn az H hs rfl HG
abbrev Dl:=List Nat×Nat×Int×List Nat×Bool
def gR (a:Nat) (b:Int) (r:Dl):Dl:=(r.1,r.2.1+a,r.2.2.1+b,r.2.2.2)
theorem t6 (a:Nat) (b:Int): ∀(xs tk:List Nat) (p:Nat) (l:Int) (ch:List Nat),uQ xs tk (p+a) (l+b) ch=gR a b (uQ xs tk p l ch)
 | [],tk,p,l,ch=>rfl
 |c::u,tk,p,l,ch=>by
  by_cases h:c=92
  ·subst h
   cases u with
   |nil=>rw [uQ.eq_def,uQ.eq_def];simp [gR];lia
   |cons d v=>
    rw [uQ.eq_def,uQ.eq_def]
    simp only [if_true]
    rw [show p+a+2=(p+2)+a by lia,show l+b+nl d=(l+nl d)+b by lia]
    exact t6 a b v _ _ _ _
  ·by_cases h2:c=34
   ·subst h2
    rw [uQ.eq_def,uQ.eq_def];simp [gR];lia
   ·rw [Yk h h2,Yk h h2,show p+a+1=(p+1)+a by lia,show l+b+nl c=(l+nl c)+b by lia]
    exact t6 a b u _ _ _ _
theorem qG (a:Nat) (b:Int): ∀(xs tk:List Nat) (p:Nat) (l:Int) (ch:List Nat),ue xs tk (p+a) (l+b) ch=gR a b (ue xs tk p l ch)
 | [],tk,p,l,ch=>rfl
 |c::u,tk,p,l,ch=>by
  by_cases hw:yU c=true
  ·rw [ue.eq_def,ue.eq_def];simp only [if_pos hw,gR]
   rw [show p+a+1=(p+1)+a by lia,show l+b+nl c=(l+nl c)+b by lia]
  ·by_cases h:c=92
   ·subst h
    cases u with
    |nil=>rw [ue.eq_def,ue.eq_def];simp only [if_neg hw,if_true,gR];rw [show p+a+1=(p+1)+a by lia]
    |cons d v=>
     rw [ue.eq_def,ue.eq_def]
     simp only [if_neg hw,if_true]
     rw [show p+a+2=(p+2)+a by lia,show l+b+nl d=(l+nl d)+b by lia]
     exact qG a b v _ _ _ _
   ·rw [ue.eq_def,ue.eq_def]
    simp only [if_neg hw,if_neg h]
    rw [show p+a+1=(p+1)+a by lia,show l+b+nl c=(l+nl c)+b by lia]
    exact qG a b u _ _ _ _
theorem Dm (a:Nat) (b:Int): ∀(xs:List Nat) (p:Nat) (l:Int),ut xs (p+a) (l+b)=gR a b (ut xs p l)
 | [],p,l=>rfl
 |c::u,p,l=>by
  by_cases hw:yU c=true
  ·rw [Vy hw,Vy hw,show p+a+1=(p+1)+a by lia,show l+b+nl c=(l+nl c)+b by lia]
   exact Dm a b u _ _
  ·rw [ut.eq_def,ut.eq_def]
   simp only [if_neg hw]
   by_cases h2:c=34
   ·simp only [if_pos h2]
    rw [show p+a+1=(p+1)+a by lia]
    exact t6 a b u _ _ _ _
   ·simp only [if_neg h2]
    by_cases h:c=92
    ·simp only [if_pos h]
     cases u with
     |nil=>rfl
     |cons d v=>
      simp only
      rw [show p+a+2=(p+2)+a by lia,show l+b+nl d=(l+nl d)+b by lia]
      exact qG a b v _ _ _ _
    ·simp only [if_neg h]
     rw [show p+a+1=(p+1)+a by lia,show l+b+nl c=(l+nl c)+b by lia]
     exact qG a b u _ _ _ _
theorem t7 (r:List Nat): ∀(xs tk:List Nat) (p:Nat) (l:Int) (ch:List Nat),(uQ xs tk p l ch).2.2.2.2=true→uQ (xs++r) tk p l ch=uQ xs tk p l ch
 | [],tk,p,l,ch,h=>by cases h
 |c::u,tk,p,l,ch,h=>by
  by_cases h9:c=92
  ·subst h9
   cases u with
   |nil=>rw [uQ.eq_def] at h;simp at h
   |cons d v=>
    rw [uQ.eq_def] at h
    simp only [if_true] at h
    rw [uQ.eq_def,List.cons_append,List.cons_append]
    conv=>rhs;rw [uQ.eq_def]
    simp only [if_true]
    exact t7 r v _ _ _ _ h
  ·by_cases h2:c=34
   ·subst h2
    rw [List.cons_append,uQ.eq_def]
    conv=>rhs;rw [uQ.eq_def]
    simp
   ·rw [Yk h9 h2] at h
    rw [List.cons_append,Yk h9 h2,Yk h9 h2]
    exact t7 r u _ _ _ _ h
theorem VS (r:List Nat): ∀(xs tk:List Nat) (p:Nat) (l:Int) (ch:List Nat),(ue xs tk p l ch).2.2.2.2=true→ue (xs++r) tk p l ch=ue xs tk p l ch
 | [],tk,p,l,ch,h=>by cases h
 |c::u,tk,p,l,ch,h=>by
  by_cases hw:yU c=true
  ·rw [List.cons_append,ue.eq_def]
   conv=>rhs;rw [ue.eq_def]
   simp only [if_pos hw]
  ·by_cases h9:c=92
   ·subst h9
    cases u with
    |nil=>rw [ue.eq_def] at h;simp only [if_neg hw] at h;simp at h
    |cons d v=>
     rw [ue.eq_def] at h
     simp only [if_neg hw,if_true] at h
     rw [ue.eq_def,List.cons_append,List.cons_append]
     conv=>rhs;rw [ue.eq_def]
     simp only [if_neg hw,if_true]
     exact VS r v _ _ _ _ h
   ·rw [ue.eq_def] at h
    simp only [if_neg hw,if_neg h9] at h
    rw [List.cons_append,ue.eq_def]
    conv=>rhs;rw [ue.eq_def]
    simp only [if_neg hw,if_neg h9]
    exact VS r u _ _ _ _ h
theorem Dn (r:List Nat): ∀(xs:List Nat) (p:Nat) (l:Int),(ut xs p l).2.2.2.2=true→ut (xs++r) p l=ut xs p l
 | [],p,l,h=>by cases h
 |c::u,p,l,h=>by
  by_cases hw:yU c=true
  ·rw [Vy hw] at h
   rw [List.cons_append,Vy hw,Vy hw]
   exact Dn r u _ _ h
  ·rw [ut.eq_def] at h
   simp only [if_neg hw] at h
   rw [List.cons_append,ut.eq_def]
   conv=>rhs;rw [ut.eq_def]
   simp only [if_neg hw]
   by_cases h2:c=34
   ·simp only [if_pos h2] at h⊢
    exact t7 r u _ _ _ _ h
   ·simp only [if_neg h2] at h⊢
    by_cases h9:c=92
    ·simp only [if_pos h9] at h⊢
     cases u with
     |nil=>simp at h
     |cons d v=>exact VS r v _ _ _ _ h
    ·simp only [if_neg h9] at h⊢
     exact VS r u _ _ _ _ h
theorem Dp (r:List Nat): ∀xs:List Nat,vo xs=true→vo (xs++r)=true
 | [],h=>by cases h
 |c::u,h=>by
  unfold vo at h
  rw [List.cons_append]
  unfold vo
  by_cases hw:yU c=true
  ·simp only [if_pos hw] at h⊢;exact Dp r u h
  ·simp only [if_neg hw] at h⊢
   by_cases h9:c=92
   ·simp only [if_pos h9] at h⊢
    cases u with
    |nil=>simp at h
    |cons d v=>rfl
   ·simp only [if_neg h9]
noncomputable def t8:List (List Nat):= [[],[9],[10],[13,32]]
noncomputable def t9:List Nat:= [32,10,9,13]
def u' (r:Nat):List (List Nat):=t8.flatMap fun a=> [a++ [34]++VO r 0++ [34],a++ [34]++VO r 3++ [34]]++(t9.flatMap fun t=> [a++VO r 1++ [t],a++VO r 2++ [t]])
theorem SE (w:Int):Up w∈t8:=by
 unfold Up t8
 split<;>simp
theorem SF (w:Int):i5 w∈t9:=by
 unfold i5 t9
 have h:0≤Int.fmod (Int.fdiv w 16) 4∧Int.fmod (Int.fdiv w 16) 4<4:=⟨Int.fmod_nonneg_of_pos _ (by decide),Int.fmod_lt_of_pos _ (by decide)⟩
 generalize Int.fmod (Int.fdiv w 16) 4=x at*
 have:x=0∨x=1∨x=2∨x=3:=by lia
 rcases this with rfl|rfl|rfl|rfl<;>decide
theorem SG (r:Nat) (w:Int):jN r w∈u' r:=by
 unfold u'
 rw [List.mem_flatMap]
 refine ⟨Up w,SE w,?_⟩
 have ht:=SF w
 unfold jN
 split
 ·simp
 ·rw [List.mem_append,List.mem_flatMap]
  exact .inr ⟨i5 w,ht,by simp⟩
 ·rw [List.mem_append,List.mem_flatMap]
  exact .inr ⟨i5 w,ht,by simp⟩
 ·simp
noncomputable def cnt (x:List Nat):Int:=((x.count 10:Nat):Int)
def qH (r:Nat) (x:List Nat):Bool:=(ut x 0 0).1==hP r&&(ut x 0 0).2.1==x.length&&(ut x 0 0).2.2.1==cnt x&&(ut x 0 0).2.2.2.2&&vo x&&decide (2≤x.length)&&decide (x.length≤20)&&(ut x.dropLast 0 0).1==hP r&&(ut x.dropLast 0 0).2.1==x.dropLast.length&&(ut x.dropLast 0 0).2.2.1==cnt x.dropLast&&vo x.dropLast
theorem SH: ∀r:Fin 5,(u' r.val).all (qH r.val)=true:=by decide+kernel
theorem Dq (r:Nat) (hr:r<5) (w:Int):qH r (jN r w)=true:=List.all_eq_true.mp (SH ⟨r,hr⟩) _ (SG r w)
open PySem.StrLaws in
theorem v' (l:List Nat) (c:Nat): ∀(m lo:Nat) (arr:Array Nat) (free:Nat),lo+m=l.length+1→free≤lo→arr.size≤lo→(forIn (List.range' lo m) (arr,free) (occBody ⟨l.toArray⟩ ⟨#[c]⟩ l.length (l.length+1))).run.fst.size=arr.size+(l.drop lo).count c
 |0,lo,arr,free,h,hf,ha=>by
  rw [List.drop_eq_nil_of_le (by lia)]
  rfl
 |m+1,lo,arr,free,h,hf,ha=>by
  rw [List.range'_succ,List.forIn_cons]
  have key:=subAt_one ⟨l.toArray⟩ c lo
  have e1:(⟨l.toArray⟩:Str).length=l.length:=rfl
  have e2:(⟨l.toArray⟩:Str).cps.toList=l:=rfl
  rw [e1,e2] at key
  by_cases hc:l[lo]? =some c
  ·have k:=key.mpr hc
   unfold occBody
   rw [if_pos ⟨⟨⟨by show arr.size<l.length+1;lia,hf⟩,k.1⟩,k.2⟩]
   have hl:lo<l.length:=(List.getElem?_eq_some_iff.mp hc).1
   have ih:=v' l c m (lo+1) (arr.push lo) (lo+(⟨#[c]⟩:Str).length) (by lia) (by show lo+1≤lo+1;exact Nat.le_refl _) (by simp;exact ha)
   have hx:l[lo]=c:=(List.getElem?_eq_some_iff.mp hc).2
   rw [List.drop_eq_getElem_cons hl,hx,List.count_cons_self]
   refine Eq.trans ih ?_
   simp
   lia
  ·have k: ¬(((((arr,free):Array Nat×Nat).fst.size<l.length+1∧((arr,free):Array Nat×Nat).snd≤lo)∧lo+(⟨#[c]⟩:Str).length≤l.length)∧Builtin.Str.subAt ⟨l.toArray⟩ ⟨#[c]⟩ lo=true):=fun q=>hc (key.mp ⟨q.1.2,q.2⟩)
   unfold occBody
   rw [if_neg k]
   have ih:=v' l c m (lo+1) arr free (by lia) (dx hf) (dx ha)
   refine Eq.trans ih ?_
   by_cases hl:lo<l.length
   ·rw [List.drop_eq_getElem_cons hl,List.count_cons_of_ne]
    intro e
    exact hc (by rw [List.getElem?_eq_getElem hl];exact congrArg some e)
   ·rw [List.drop_eq_nil_of_le (by lia),List.drop_eq_nil_of_le (gV hl)]
theorem SJ (l:List Nat):(Builtin.Str.occurrences (jk l) ⟨#[10]⟩ 0 (jk l).length ((jk l).length+1)).length=l.count 10:=by
 have h:=v' l 10 (l.length+1) 0 #[] 0 (by lia) (Nat.le_refl _) (Nat.le_refl _)
 rw [PySem.StrLaws.occ_eq,Array.length_toList]
 refine Eq.trans h ?_
 simp
section
variable (R:Nat→Nat) (w:Nat→Int) (tn:Int) (n:Nat)
def uL (k:Nat):List Nat:=if k+1=n then (if Int.fmod tn 2==1 then (jN (R k) (w k+21*tn)).dropLast else jN (R k) (w k+21*tn)) else jN (R k) (w k+21*tn)
noncomputable def yK:Nat→List Nat
 |0=> []
 |k+1=>yK k++uL R w tn n k
theorem Ye: ∀k,k<n→yK R w tn n k=jf R w tn k
 |0,_=>rfl
 |k+1,h=>by
  have:=Ye k (jH h)
  simp only [yK,jf,this,uL]
  rw [if_neg (lN h)]
theorem Dr (hR: ∀k,R k<5) (k:Nat):2≤(jN (R k) (w k+21*tn)).length∧(jN (R k) (w k+21*tn)).length≤20:=by
 have h:=Dq (R k) (hR k) (w k+21*tn)
 simp only [qH,Bool.and_eq_true,decide_eq_true_eq] at h
 exact ⟨h.1.1.1.1.1.2,h.1.1.1.1.2⟩
theorem Ds (hR: ∀k,R k<5) (hn:0<n):yK R w tn n n=jM R w tn n:=by
 obtain ⟨m,rfl⟩: ∃m,n=m+1:=⟨n-1,by lia⟩
 have h2:=(Dr R w tn hR m).1
 have e:=Ye R w tn (m+1) m (Nat.le_refl _)
 simp only [yK,e,uL,jM,jf,if_true]
 split
 ·rw [List.dropLast_append_of_ne_nil]
  intro z;rw [z] at h2;simp at h2
 ·rfl
theorem qI (hR: ∀k,R k<5) (k:Nat):1≤(uL R w tn n k).length∧(uL R w tn n k).length≤20∧(k+1≠n→2≤(uL R w tn n k).length):=by
 have h2:=Dr R w tn hR k
 unfold uL
 split
 ·split
  ·rw [List.length_dropLast];exact ⟨by lia,by lia,fun z=>absurd ‹_› z⟩
  ·exact ⟨(jH h2.1),h2.2,fun z=>absurd ‹_› z⟩
 ·exact ⟨(jH h2.1),h2.2,fun _=>h2.1⟩
theorem Dt (hR: ∀k,R k<5): ∀k,(yK R w tn n k).length≤20*k
 |0=>by simp [yK]
 |k+1=>by
  have:=Dt hR k
  have:=qI R w tn n hR k
  simp only [yK,List.length_append]
  lia
theorem Du (hR: ∀k,R k<5) (i:Nat): ∀m,(yK R w tn n i).length<(yK R w tn n (i+m+1)).length
 |0=>by
  have:=qI R w tn n hR i
  show _<(yK R w tn n i++uL R w tn n i).length
  rw [List.length_append];exact Nat.add_le_add_left this.1 _
 |m+1=>by
  have h:=Du hR i m
  have:=qI R w tn n hR (i+m+1)
  show _<(yK R w tn n (i+m+1)++uL R w tn n (i+m+1)).length
  rw [List.length_append];lia
theorem SK (hR: ∀k,R k<5) (hn:0<n) (k:Nat) (hk:k≤n):ja R w tn n k=(yK R w tn n k).length:=by
 unfold ja
 split
 ·rename_i e;rw [e,Ds R w tn n hR hn]
 ·rw [Ye R w tn n k (by lia)]
theorem Dv (k:Nat): ∀m,∃rest,yK R w tn n (k+1+m)=yK R w tn n k++(uL R w tn n k++rest)∧(m=0→rest= [])
 |0=>⟨[],by simp [yK],fun _=>rfl⟩
 |m+1=>by
  obtain ⟨rest,h,_⟩:=Dv k m
  refine ⟨rest++uL R w tn n (k+1+m),?_,fun z=>by lia⟩
  show yK R w tn n (k+1+m)++_=_
  rw [h];simp
theorem Dw (hR: ∀k,R k<5) (k:Nat) (rest:List Nat) (hr:k+1=n→rest= []):vo (uL R w tn n k++rest)=true∧ ∃c b,ut (uL R w tn n k++rest) 0 0=(hP (R k),(uL R w tn n k).length,cnt (uL R w tn n k),c,b):=by
 have h:=Dq (R k) (hR k) (w k+21*tn)
 simp only [qH,Bool.and_eq_true,decide_eq_true_eq,beq_iff_eq] at h
 obtain ⟨⟨⟨⟨⟨⟨⟨⟨⟨⟨h1,h2⟩,h3⟩,h4⟩,h5⟩,h6⟩,h7⟩,h8⟩,h9⟩,SM⟩,SN⟩:=h
 have full: ∀rest,vo (jN (R k) (w k+21*tn)++rest)=true∧ ∃c b,ut (jN (R k) (w k+21*tn)++rest) 0 0=(hP (R k),(jN (R k) (w k+21*tn)).length,cnt (jN (R k) (w k+21*tn)),c,b):=fun rest=>by
  refine ⟨Dp rest _ h5,(ut (jN (R k) (w k+21*tn)) 0 0).2.2.2.1,(ut (jN (R k) (w k+21*tn)) 0 0).2.2.2.2,?_⟩
  rw [Dn rest _ 0 0 h4,←h1,←h2,←h3]
 unfold uL
 split
 ·rename_i e
  split
  ·rw [hr e,List.append_nil]
   refine ⟨SN,(ut (jN (R k) (w k+21*tn)).dropLast 0 0).2.2.2.1,(ut (jN (R k) (w k+21*tn)).dropLast 0 0).2.2.2.2,?_⟩
   rw [←h8,←h9,←SM]
  ·exact full rest
 ·exact full rest
theorem SQ (a b:List Nat):cnt (a++b)=cnt a+cnt b:=by
 unfold cnt;rw [List.count_append];exact rfl
theorem qJ (P:Params) (hn:n=4∨n=5) (hR: ∀k,R k<5) (ht:2≤tn∧tn≤7):dv P R w tn n ((jM R w tn n).count 10) (fun k=>1+cnt (yK R w tn n k)):=by
 have h0:0<n:=by lia
 have hT:=Ds R w tn n hR h0
 have hE:=fun k hk=>SK R w tn n hR h0 k hk
 have sp: ∀k,k<n→ ∃rest,(jM R w tn n).drop (ja R w tn n k)=uL R w tn n k++rest∧(k+1=n→rest= []):=fun k hk=>by
  obtain ⟨m,hm⟩: ∃m,n=k+1+m:=⟨n-(k+1),by lia⟩
  obtain ⟨rest,h,hz⟩:=Dv R w tn n k m
  rw [←hm,hT] at h
  refine ⟨rest,?_,fun e=>hz (by lia)⟩
  rw [h,hE k (jH hk),List.drop_left]
 refine ⟨hn,hR,ht,fun i j xc hj=> ?_,?_,?_,?_,by simp [yK,cnt],fun k hk=> ?_,fun k hk=> ?_,?_,SJ _⟩
 ·rw [hE i (jH (uC xc hj)),hE j hj]
  obtain ⟨m,hm⟩: ∃m,j=i+m+1:=⟨j-i-1,by lia⟩
  have:=Du R w tn n hR i m
  rw [hm];lia
 ·rw [hE 0 (Nat.zero_le _)];rfl
 ·rw [hE 1 h0]
  have:=(qI R w tn n hR 0).2.2 (by lia)
  show 2≤(((yK R w tn n 0++uL R w tn n 0).length:Nat):Int)
  rw [List.length_append];lia
 ·rw [←hT]
  have:=Dt R w tn n hR n
  lia
 ·obtain ⟨rest,e,hz⟩:=sp k hk
  rw [e]
  exact (Dw R w tn n hR k rest hz).1
 ·obtain ⟨rest,e,hz⟩:=sp k hk
  obtain ⟨_,c,b,hl⟩:=Dw R w tn n hR k rest hz
  refine ⟨c,b,?_⟩
  rw [e]
  have:=Dm (ja R w tn n k) (1+cnt (yK R w tn n k)) (uL R w tn n k++rest) 0 0
  rw [Nat.zero_add,Int.zero_add,hl] at this
  rw [this]
  simp only [gR]
  rw [hE (k+1) hk,hE k (jH hk)]
  show _=(hP (R k),(yK R w tn n k++uL R w tn n k).length,1+cnt (yK R w tn n k++uL R w tn n k),c,b)
  rw [SQ,List.length_append]
  refine congrArg (Prod.mk _) (Prod.ext ?_ (Prod.ext ?_ rfl))
  ·show _+_=_+_;lia
  ·show _+_=_+_;lia
 ·show 1+cnt (yK R w tn n n)=_
  rw [hT];rfl
end
def Dx:List Stmt:=Vu (top 10)
def dJ:Expr:=pY (hS (Dx.getD 4 default)) 0
def SR:Expr:=pY (hS (Dx.getD 5 default)) 0
noncomputable def SU:Expr→Expr
 | .ListComp e _ _ _=>e
 |e=>e
def JY:Expr:=pY (SU SR) 0
noncomputable def Dy:Str:=⟨#[95,108,97,119,95,104,111,108,100,115,46,60,108,111,99,97,108,115,62,46]⟩
def Vw (d cD fr:Addr):Env:=mR (oQ [[100,114,97,119,110]] (mQ dJ)) d [(⟨#[100,114,97,119,110]⟩,cD)] Dy (.ref 100) (some fr)
def UC (d cK cP fr:Addr):Env:=mR (oQ [[107],[112,97,114,116]] (mQ JY)) d [(⟨#[112,97,114,116]⟩,cP),(⟨#[107]⟩,cK)] Dy (.ref 100) (some fr)
def VL (i:Int):jZ:={ids:=List.range 1,na:=0,nt:=1,res:=fun _ _=> .ok (.ret .none),upd:=fun _ ts=> [kd (.int i (ts.getD 0 0))],new:=fun _ _=> []}
noncomputable def jQ:List Int→List Tok→List Value
 | [],_=> []
 |i::l,ts=> .int i (ts.headD 0)::jQ l ts.tail
def kU (l:List Int) (ts:List Tok):Obj→Obj
 |⟨c,d,.seq xs n,s⟩=>⟨c,d,.seq (xs.toList++jQ l ts).toArray (n+l.length),s⟩
 |o=>o
def nD (kE:Nat) (FL:List Int):jZ:={ids:=List.range 5,na:=0,nt:=7,res:=fun _ _=> .ok .next,upd:=fun _ ts=> [fun _=>jz kE 0,kU FL (ts.drop 1),jO 0 (.int (((kE:Nat):Int)-1) (ts.getD 0 0)),id,id],new:=fun _ _=> []}
def Jy (P:Params) (kE:Nat) (FL:List Int):jZ:={ids:=List.range 5,na:=0,nt:=8,res:=fun _ _=> .ok .next,upd:=fun _ ts=> [fun _=>jz kE 0,kU FL (ts.drop 1),fun _=>dK P (ts.getD 7 0) (.int (((kE:Nat):Int)-1) (ts.getD 0 0)),id,id],new:=fun _ _=> []}
def nE (l:Addr) (i:Nat) (q:Int):jZ:={ids:=List.range 2,na:=0,nt:=1,res:=fun _ ts=> .ok (.ret (.int q (ts.getD 0 0))),upd:=fun _ _=> [fun _=>kc l (i+1),id],new:=fun _ _=> []}
def dR (P:Params) (kt:Tok) (v:Value):Obj:=⟨.type "dict",none,.dict #[⟨uf P ⟨#[114,97,110,107]⟩,.str ⟨#[114,97,110,107]⟩ kt,v⟩] 1,#[]⟩
def nF (M:Nat) (FL:List Int) (q:Int):jZ:={ids:=List.range 7,na:=0,nt:=7,res:=fun _ _=> .ok .next,upd:=fun _ ts=> [fun _=>ki M,kU FL (ts.drop 1),jO 0 (.int q (ts.getD 0 0)),id,id,id,id],new:=fun _ _=> []}
def U2 (P:Params) (M:Nat) (FL:List Int) (q:Int):jZ:={ids:=List.range 7,na:=0,nt:=8,res:=fun _ _=> .ok .next,upd:=fun _ ts=> [fun _=>ki M,kU FL (ts.drop 1),fun _=>dR P (ts.getD 7 0) (.int q (ts.getD 0 0)),id,id,id,id],new:=fun _ _=> []}
def Dz:=kg [Ar,1782253945823]
def DA:=kg [Ar,27129568]
def SV:=kg [0x1079393010101019101]
def SW:=kg [105206]
def SX:=kg [0x19af60101910101]
abbrev qK (x0:Qa) (x3:Addr) (x4:Nat) (x5:Nat→Tok) (x7:List Value) (x8:Nat):=x0 1 9 (cb "list.__getitem__" [(rf x3),(vi (((x4:Nat):Int)-1) (x5 3))]) [(x3,(j0 x7 x8))]
abbrev qL (x0:Qa) (x3:Addr) (x4 x5:Nat):=x0 0 9 (cb "range_iterator.__next__" [(rf x3)]) [(x3,(jz x4 (x5+1)))]
section
variable (P:Params) (aI lW d cD lD fr:Addr) (k m:Nat) (XS:List Value) (e:Nat) (D:Nat→Int) (DL:List Value) (eD:Nat) (v:Value) (dt:Tok) (kE:Nat) (b8:List Int)
def SY:RD:=⟨[(aI,(jz k (m+1))),(lW,(j0 XS e)),(d,(dO "dict" [de P [107] dt v] 1)),(cD,(j8 (rf lD))),(lD,(j0 DL eD))],[wi [0] (jj k m),wi [4] (j7 1 1 (fI (D (k-1)))),wi [4] (j7 1 1 (fI (D k))),wi [1] (VL ((k:Nat):Int)),wi (rg 0 5) (nD kE b8)],mA 5 0 9 (fun a t=> .ok .next) (fun a t=> [fun _=>(jz kE 0),fun _=>(kU b8 (kr t 1 6) (kd (vn k (t 7)) (j0 XS e))),fun _=>(jO 0 (vi (((kE:Nat):Int)-1) (t 8)) (dO "dict" [(de P [107] dt (vn k (t 0)))] 1)),id,id]) (fun a t=> []),[],([0]++rg 8 6++ [6,7]),[],6,fun q qT qS A K=> [qL q aI k m,qK q lD k K DL eD,q 2 9 (cb "list.__getitem__" [rf lD,vn k (K 0)]) [(lD,(j0 DL eD))],(decide ((D (k-1))>(D k)))=true,q 3 9 (cb "list.append" [rf lW,vn k (K 0)]) [(lW,(j0 XS e))],q 4 10 (.compLoop dJ 0 (rf aI) (rf lW) (Vw d cD fr)) [(aI,(jz (k+1) m)),(lW,(kd (vn k (K 6)) (j0 XS e))),(d,(dO "dict" [de P [107] dt (vn k (K 0))] 1)),(cD,(j8 (rf lD))),(lD,(j0 DL eD))]]⟩
theorem S1:GC P 10 (.compLoop dJ 0 (rf aI) (rf lW) (Vw d cD fr)) (SY P aI lW d cD lD fr k m XS e D DL eD v dt kE b8) (hk Dz):=ua
def S2:RD:=⟨[(aI,(jz k (m+1))),(lW,(j0 XS e)),(d,dE),(cD,(j8 (rf lD))),(lD,(j0 DL eD))],[wi [0] (jj k m),wi [4] (j7 1 1 (fI (D (k-1)))),wi [4] (j7 1 1 (fI (D k))),wi [1] (VL ((k:Nat):Int)),wi (rg 0 5) (nD kE b8)],mA 5 0 10 (fun a t=> .ok .next) (fun a t=> [fun _=>(jz kE 0),fun _=>(kU b8 (kr t 2 6) (kd (vn k (t 8)) (j0 XS e))),fun _=>(jO 0 (vi (((kE:Nat):Int)-1) (t 9)) (dO "dict" [(de P [107] (t 1) (vn k (t 0)))] 1)),id,id]) (fun a t=> []),[],([0,1]++rg 8 6++ [6,7]),[],6,fun q qT qS A K=> [qL q aI k m,qK q lD k K DL eD,q 2 9 (cb "list.__getitem__" [rf lD,vn k (K 0)]) [(lD,(j0 DL eD))],(decide ((D (k-1))>(D k)))=true,q 3 9 (cb "list.append" [rf lW,vn k (K 0)]) [(lW,(j0 XS e))],q 4 10 (.compLoop dJ 0 (rf aI) (rf lW) (Vw d cD fr)) [(aI,(jz (k+1) m)),(lW,(kd (vn k (K 6)) (j0 XS e))),(d,(dO "dict" [de P [107] (K 1) (vn k (K 0))] 1)),(cD,(j8 (rf lD))),(lD,(j0 DL eD))]]⟩
theorem S3:GC P 10 (.compLoop dJ 0 (rf aI) (rf lW) (Vw d cD fr)) (S2 P aI lW d cD lD fr k m XS e D DL eD kE b8) (hk Dz):=ua
def S4:RD:=⟨[(aI,(jz k (m+1))),(lW,(j0 XS e)),(d,(dO "dict" [de P [107] dt v] 1)),(cD,(j8 (rf lD))),(lD,(j0 DL eD))],[wi [0] (jj k m),wi [4] (j7 1 1 (fI (D (k-1)))),wi [4] (j7 1 1 (fI (D k))),wi (rg 0 5) (nD kE b8)],mA 5 0 8 (fun a t=> .ok .next) (fun a t=> [fun _=>(jz kE 0),fun _=>(kU b8 (kr t 0 6) (j0 XS e)),fun _=>(jO 0 (vi (((kE:Nat):Int)-1) (t 6)) (dO "dict" [(de P [107] dt (vn k (t 7)))] 1)),id,id]) (fun a t=> []),[],(rg 7 6++ [6,0]),[],5,fun q qT qS A K=> [qL q aI k m,qK q lD k K DL eD,q 2 9 (cb "list.__getitem__" [rf lD,vn k (K 0)]) [(lD,(j0 DL eD))],(decide ((D (k-1))>(D k)))=false,q 3 10 (.compLoop dJ 0 (rf aI) (rf lW) (Vw d cD fr)) [(aI,(jz (k+1) m)),(lW,(j0 XS e)),(d,(dO "dict" [de P [107] dt (vn k (K 0))] 1)),(cD,(j8 (rf lD))),(lD,(j0 DL eD))]]⟩
theorem S5:GC P 10 (.compLoop dJ 0 (rf aI) (rf lW) (Vw d cD fr)) (S4 P aI lW d cD lD fr k m XS e D DL eD v dt kE b8) (hk DA):=ua
def S6:RD:=⟨[(aI,(jz k (m+1))),(lW,(j0 XS e)),(d,dE),(cD,(j8 (rf lD))),(lD,(j0 DL eD))],[wi [0] (jj k m),wi [4] (j7 1 1 (fI (D (k-1)))),wi [4] (j7 1 1 (fI (D k))),wi (rg 0 5) (nD kE b8)],mA 5 0 9 (fun a t=> .ok .next) (fun a t=> [fun _=>(jz kE 0),fun _=>(kU b8 (kr t 1 6) (j0 XS e)),fun _=>(jO 0 (vi (((kE:Nat):Int)-1) (t 7)) (dO "dict" [(de P [107] (t 0) (vn k (t 8)))] 1)),id,id]) (fun a t=> []),[],([1]++rg 7 6++ [6,0]),[],5,fun q qT qS A K=> [qL q aI k m,qK q lD k K DL eD,q 2 9 (cb "list.__getitem__" [rf lD,vn k (K 0)]) [(lD,(j0 DL eD))],(decide ((D (k-1))>(D k)))=false,q 3 10 (.compLoop dJ 0 (rf aI) (rf lW) (Vw d cD fr)) [(aI,(jz (k+1) m)),(lW,(j0 XS e)),(d,(dO "dict" [de P [107] (K 1) (vn k (K 0))] 1)),(cD,(j8 (rf lD))),(lD,(j0 DL eD))]]⟩
theorem S7:GC P 10 (.compLoop dJ 0 (rf aI) (rf lW) (Vw d cD fr)) (S6 P aI lW d cD lD fr k m XS e D DL eD kE b8) (hk DA):=ua
def S8:RD:=⟨[(aI,(jz k 0)),(lW,(j0 XS e)),(d,(dO "dict" [de P [107] dt v] 1)),(cD,(j8 (rf lD))),(lD,(j0 DL eD))],[],mA 5 0 0 (fun a t=> .ok .next) (fun a t=>(List.replicate 5 id)) (fun a t=> []),[],[],[],0,fun q qT qS A K=> []⟩
theorem S9:GC P 10 (.compLoop dJ 0 (rf aI) (rf lW) (Vw d cD fr)) (S8 P aI lW d cD lD k XS e DL eD v dt) (hk SV):=ua
def Ta:RD:=⟨[(aI,(jz k (m+1))),(lW,(j0 XS e)),(d,dE),(cD,(j8 (rf lD))),(lD,(j0 DL eD))],[wi (rg 0 5) (Jy P kE b8)],mA 5 0 8 (fun a t=> .ok .next) (fun a t=> [fun _=>(jz kE 0),fun _=>(kU b8 (kr t 0 7) (j0 XS e)),fun _=>(dK P (t 6) (vi (((kE:Nat):Int)-1) (t 7))),id,id]) (fun a t=> []),[],(rg 1 7++ [0]),[],1,fun q qT qS A K=> [q 0 11 (.compLoop dJ 0 (rf aI) (rf lW) (Vw d cD fr)) [(aI,(jz k (m+1))),(lW,(j0 XS e)),(d,dE),(cD,(j8 (rf lD))),(lD,(j0 DL eD))]]⟩
theorem Tb:GC P 11 (.compStart dJ 0 (rf aI) (rf lW) (Vw d cD fr)) (Ta P aI lW d cD lD fr k m XS e DL eD kE b8) (hb SW SX):=mi
end
noncomputable def jn (D:Nat→Int):Nat→Nat→List Int
 |_,0=> []
 |k,m+1=>if D (k-1)>D k then (k:Int)::jn D (k+1) m else jn D (k+1) m
theorem Ub (D:Nat→Int): ∀m k,(jn D k m).length≤m
 |0,k=>Nat.le_refl _
 |m+1,k=>by
  have:=Ub D m (k+1)
  unfold jn
  split
  ·simp;exact this
  ·exact dx this
theorem js: ∀(l:List Int) (ts:List Tok),(jQ l ts).length=l.length
 | [],_=>rfl
 |i::l,ts=>by simp [jQ,js l]
theorem Ud: ∀(l:List Int) (ts us:List Tok),(∀i,i<l.length→ts[i]? =us[i]?)→jQ l ts=jQ l us
 | [],_,_,_=>rfl
 |i::l,ts,us,h=>by
  have h0:=h 0 (by simp)
  unfold jQ
  have e:ts.headD 0=us.headD 0:=by
   cases ts<;>cases us<;>simp_all
  rw [e,Ud l ts.tail us.tail (fun j hj=>by
   have:=h (j+1) (by simpa using hj)
   cases ts<;>cases us<;>simp_all)]
theorem jI (l:List Int) (ts:List Tok) (XS:List Value) (e:Nat):kU l ts (j0 XS e)=j0 (XS++jQ l ts) (e+l.length):=by
 unfold kU j0;simp [jA]
theorem vC {W:World} {kt:KT} {d:Nat} {l:Addr} {e:Nat} {x:Int} {t:Tok} (D:Nat→Int) (dt:Nat→Tok) (n j:Nat) (hj:j<n) (hn:n≤5) (hx:x=(j:Int)):
  j6 pw W kt (j7 1 1 fun ts=> .int (D j) (ts.getD 0 0)) d (.call (.builtin "list.__getitem__") ⟨[.ref l,.int x t],[]⟩) [some (l,j0 (jS D dt n) e)]:=by
 subst hx
 refine uk (res:=fun ts=> .int (D j) (ts.getD 0 0)) (ts:= [dt j]) rfl (by lia) (by lia) ?_
 rw [Int.toNat_natCast]
 simp [jS,hj]
theorem qM {W:World} {kt:KT} {d:Nat} {l:Addr} {XS:List Value} {e:Nat} {i:Int} {t:Tok} (hx:XS.length≤50):j6 pw W kt (VL i) d (.call (.builtin "list.append") ⟨[.ref l,.int i t],[]⟩) [some (l,j0 XS e)]:=
 (uH (v:= .int i t) (by simp;lia)).cv (fun ts=> [t]) fun _ _=>rfl
section
variable (W:World) (D:Nat→Int) (aC:Nat→Tok) (n:Nat) (hn:n≤5) (aI lW d cD lD fr:Addr) (eD:Nat)
include hn
theorem qN: ∀(m k:Nat) (XS:List Value) (e:Nat) (vt dt:Tok),1≤k→k+m≤n→XS.length+m≤20→j6 pw W (jB W.params) (nD (k+m) (jn D k m)) 10 (.compLoop dJ 0 (.ref aI) (.ref lW) (Vw d cD fr)) ([(aI,jz k m),(lW,j0 XS e),(d,dK W.params dt (.int (((k:Nat):Int)-1) vt)),(cD,j8 (.ref lD)),(lD,j0 (jS D aC n) eD)].map some)
 |0,k,XS,e,vt,dt,hk,hm,hX=>by
  have h:=jY (w:=W) (S9 W.params aI lW d cD lD fr k XS e (jS D aC n) eD (.int (((k:Nat):Int)-1) vt) dt) (fun A K=>mj)
  refine h.conv (Nat.le_refl _) rfl fun as ts la lt'=>⟨[vt,0,0,0,0,0,0],rfl,rfl,rfl,?_,rfl⟩
  show [some (jz (k+0) 0),some (kU [] _ (j0 XS e)),_,_,_]= [_,some (j0 XS e),_,_,_]
  rw [jI]
  simp [jn,jQ]
  rfl
 |m+1,k,XS,e,vt,dt,hk,hm,hX=>by
  have hl:=Ub D m (k+1)
  by_cases hc:D (k-1)>D k
  ·have ih:=fun t=>qN m (k+1) (XS++ [.int ((k:Nat):Int) t]) (e+1)
   have h:=jY (w:=W) (S1 W.params aI lW d cD lD fr k m XS e D (jS D aC n) eD (.int (((k:Nat):Int)-1) vt) dt (k+1+m) (jn D (k+1) m)) (by
    intro A K
    walk_at "ob"
    ·exact je k m
    ·exact vC D aC n (k-1) (by lia) hn (by lia)
    ·exact vC D aC n k (by lia) hn rfl
    ·exact decide_eq_true hc
    ·exact qM (by lia)
    ·rw [jy]
     have:=ih (K 6) (K 0) dt (Nat.succ_pos _) (by lia) (by simp;lia)
     rw [show (((k+1:Nat):Int)-1)=((k:Nat):Int) by lia] at this
     exact tU this)
   have e1:k+1+m=k+(m+1):=by lia
   rw [e1] at h
   refine h.conv (Nat.le_refl _) rfl fun as ts la lt'=>⟨tg ts [8,7,1,2,3,4,5],rfl,rfl,rfl,?_,rfl⟩
   have e2:jn D k (m+1)=(k:Int)::jn D (k+1) m:=by rw [jn,if_pos hc]
   rw [e2]
   show [_,some (kU ((k:Int)::jn D (k+1) m) [ts.getD 7 0,ts.getD 1 0,ts.getD 2 0,ts.getD 3 0,ts.getD 4 0,ts.getD 5 0] (j0 XS e)),_,_,_]= [_,some (kU (jn D (k+1) m) [ts.getD 1 0,ts.getD 2 0,ts.getD 3 0,ts.getD 4 0,ts.getD 5 0,ts.getD 6 0] (kd (.int ((k:Nat):Int) (ts.getD 7 0)) (j0 XS e))),_,_,_]
   rw [jy,jI,jI,jQ,Ud (jn D (k+1) m) [ts.getD 1 0,ts.getD 2 0,ts.getD 3 0,ts.getD 4 0,ts.getD 5 0,ts.getD 6 0] [ts.getD 1 0,ts.getD 2 0,ts.getD 3 0,ts.getD 4 0,ts.getD 5 0] (fun i hi=>by
    have:i<5:=by lia
    rcases i with _|_|_|_|_|i<;>first|rfl|lia)]
   simp only [List.append_assoc,List.cons_append,List.nil_append,List.length_cons,List.headD_cons,List.tail_cons]
   rw [show e+((jn D (k+1) m).length+1)=e+1+(jn D (k+1) m).length by lia]
   rfl
  ·have h:=jY (w:=W) (S5 W.params aI lW d cD lD fr k m XS e D (jS D aC n) eD (.int (((k:Nat):Int)-1) vt) dt (k+1+m) (jn D (k+1) m)) (by
    intro A K
    walk_at "ob"
    ·exact je k m
    ·exact vC D aC n (k-1) (by lia) hn (by lia)
    ·exact vC D aC n k (by lia) hn rfl
    ·exact decide_eq_false hc
    ·have:=qN m (k+1) XS e (K 0) dt (Nat.succ_pos _) (by lia) (jH hX)
     rw [show (((k+1:Nat):Int)-1)=((k:Nat):Int) by lia] at this
     exact tU this)
   have e1:k+1+m=k+(m+1):=by lia
   rw [e1] at h
   have e2:jn D k (m+1)=jn D (k+1) m:=by rw [jn,if_neg hc]
   rw [e2]
   exact h.cv (fun ts=>tg ts [6,0,1,2,3,4,5]) fun _ _=>rfl
end
theorem DB (l:List Int) (a b c d e f g:Tok) (hl:l.length≤5):jQ l [a,b,c,d,e,f,g]=jQ l [a,b,c,d,e,f]:=Ud l _ _ (fun i hi=>by
 have:i<5:=uC hi hl
 rcases i with _|_|_|_|_|i<;>first|rfl|lia)
theorem nG (l:List Int) (a b c d e f:Tok) (hl:l.length≤5):jQ l [a,b,c,d,e,f]=jQ l [a,b,c,d,e]:=Ud l _ _ (fun i hi=>by
 have:i<5:=uC hi hl
 rcases i with _|_|_|_|_|i<;>first|rfl|lia)
section
variable (W:World) (D:Nat→Int) (aC:Nat→Tok) (n:Nat) (hn:n≤5) (aI lW d cD lD fr:Addr) (eD:Nat)
include hn
theorem Tc (m k:Nat) (XS:List Value) (e:Nat) (hk:1≤k) (hm:k+(m+1)≤n) (hX:XS.length+m≤10):j6 pw W (jB W.params) (Jy W.params (k+(m+1)) (jn D k (m+1))) 10 (.compLoop dJ 0 (.ref aI) (.ref lW) (Vw d cD fr)) ([(aI,jz k (m+1)),(lW,j0 XS e),(d,dE),(cD,j8 (.ref lD)),(lD,j0 (jS D aC n) eD)].map some):=by
 have hl:=Ub D m (k+1)
 have fx:(jn D (k+1) m).length≤5:=by lia
 have e1:k+1+m=k+(m+1):=by lia
 by_cases hc:D (k-1)>D k
 ·have h:=jY (w:=W) (S3 W.params aI lW d cD lD fr k m XS e D (jS D aC n) eD (k+1+m) (jn D (k+1) m)) (by
   intro A K
   walk_at "ob"
   ·exact je k m
   ·exact vC D aC n (k-1) (by lia) hn (by lia)
   ·exact vC D aC n k (by lia) hn rfl
   ·exact decide_eq_true hc
   ·exact qM (by lia)
   ·rw [jy]
    have:=qN W D aC n hn aI lW d cD lD fr eD m (k+1) (XS++ [.int ((k:Nat):Int) (K 6)]) (e+1) (K 0) (K 1) (Nat.succ_pos _) (by lia) (by simp;lia)
    rw [show (((k+1:Nat):Int)-1)=((k:Nat):Int) by lia] at this
    exact tU this)
  rw [e1] at h
  have e2:jn D k (m+1)=(k:Int)::jn D (k+1) m:=by rw [jn,if_pos hc]
  rw [e2]
  refine h.conv (Nat.le_refl _) rfl fun as ts la lt'=>⟨tg ts [9,8,2,3,4,5,6,1],rfl,rfl,rfl,?_,rfl⟩
  show [_,some (kU ((k:Int)::jn D (k+1) m) [ts.getD 8 0,ts.getD 2 0,ts.getD 3 0,ts.getD 4 0,ts.getD 5 0,ts.getD 6 0,ts.getD 1 0] (j0 XS e)),_,_,_]= [_,some (kU (jn D (k+1) m) [ts.getD 2 0,ts.getD 3 0,ts.getD 4 0,ts.getD 5 0,ts.getD 6 0,ts.getD 7 0] (kd (.int ((k:Nat):Int) (ts.getD 8 0)) (j0 XS e))),_,_,_]
  rw [jy,jI,jI,jQ,List.tail_cons,nG _ _ _ _ _ _ _ fx,nG _ _ _ _ _ _ _ fx]
  simp only [List.append_assoc,List.cons_append,List.nil_append,List.length_cons,List.headD_cons]
  rw [show e+((jn D (k+1) m).length+1)=e+1+(jn D (k+1) m).length by lia]
  rfl
 ·have h:=jY (w:=W) (S7 W.params aI lW d cD lD fr k m XS e D (jS D aC n) eD (k+1+m) (jn D (k+1) m)) (by
   intro A K
   walk_at "ob"
   ·exact je k m
   ·exact vC D aC n (k-1) (by lia) hn (by lia)
   ·exact vC D aC n k (by lia) hn rfl
   ·exact decide_eq_false hc
   ·have:=qN W D aC n hn aI lW d cD lD fr eD m (k+1) XS e (K 0) (K 1) (Nat.succ_pos _) (by lia) (by lia)
    rw [show (((k+1:Nat):Int)-1)=((k:Nat):Int) by lia] at this
    exact tU this)
  rw [e1] at h
  have e2:jn D k (m+1)=jn D (k+1) m:=by rw [jn,if_neg hc]
  rw [e2]
  refine h.conv (Nat.le_refl _) rfl fun as ts la lt'=>⟨tg ts [7,1,2,3,4,5,6,0],rfl,rfl,rfl,?_,rfl⟩
  show [_,some (kU (jn D (k+1) m) [ts.getD 1 0,ts.getD 2 0,ts.getD 3 0,ts.getD 4 0,ts.getD 5 0,ts.getD 6 0,ts.getD 0 0] (j0 XS e)),_,_,_]= [_,some (kU (jn D (k+1) m) [ts.getD 1 0,ts.getD 2 0,ts.getD 3 0,ts.getD 4 0,ts.getD 5 0,ts.getD 6 0] (j0 XS e)),_,_,_]
  rw [jI,jI,DB _ _ _ _ _ _ _ _ fx]
  rfl
theorem iw (m:Nat) (hm:m+2≤n):j6 pw W (jB W.params) (Jy W.params (m+2) (jn D 1 (m+1))) 11 (.compStart dJ 0 (.ref aI) (.ref lW) (Vw d cD fr)) ([(aI,jz 1 (m+1)),(lW,j0 [] 0),(d,dE),(cD,j8 (.ref lD)),(lD,j0 (jS D aC n) eD)].map some):=by
 have hl:=Ub D (m+1) 1
 have fx:(jn D 1 (m+1)).length≤5:=by lia
 have first:=Tc W D aC n hn aI lW d cD lD fr eD m 1 [] 0 (Nat.le_refl _) (by lia) (by simp;lia)
 rw [show 1+(m+1)=m+2 by lia] at first
 have h:=jY (w:=W) (Tb W.params aI lW d cD lD fr 1 m [] 0 (jS D aC n) eD (m+2) (jn D 1 (m+1))) (by
  intro A K
  walk_at "ob"
  exact tT first)
 exact h.cv (fun ts=>tg ts [7,0,1,2,3,4,5,6]) fun _ _=>rfl
end
def DC:=kg [0x19df69c03df9b0707070504030303949a01]
def DE:=kg [0x19cf6e09b0707070504030303949a01]
def DF:=kg [17340929]
def Td:=kg [105206]
def Te:=kg [0x19af60101910101]
def Tf:=kg [0x1089a010101910101]
abbrev lJ (x0:Qa) (x2:Nat) (x3 x4:Addr) (x5:Nat) (x6:List Value) (x7:Nat):=x0 0 x2 (cb "list_iterator.__next__" [(rf x3)]) [(x3,(kc x4 x5)),(x4,(j0 x6 x7))]
abbrev nH (x0 x1:Addr) (x2:Nat) (x3:Addr) (x4:List Value) (x5:Nat) (x6 x7 x8 x9:Addr) (aJ:Nat) (aB:Tok) (bO:List Value) (bF:Nat) (bP:List Value) (aK:Nat):= [(x0,(kc x1 x2)),(x3,(j0 x4 x5)),(x6,dE),(x7,(j8 (rf x8))),(x9,(j8 (vn aJ aB))),(x1,(j0 bO bF)),(x8,(j0 bP aK))]
section
variable (P:Params) (aI lW d cP cK lS lP fr:Addr) (i j:Nat) (XS:List Value) (e:Nat) (Q:Nat→Int) (SL:List Value) (eS:Nat) (PL:List Value) (eP:Nat) (v:Value) (dt jt:Tok) (M:Nat) (b8:List Int) (q2:Int)
def Tg:RD:=⟨[(aI,(kc lS i)),(lW,(j0 XS e)),(d,(dO "dict" [de P [114,97,110,107] dt v] 1)),(cP,(j8 (rf lP))),(cK,(j8 (vn j jt))),(lS,(j0 SL eS)),(lP,(j0 PL eP))],[wi [0,5] (nE lS i (Q i)),wi [6] (j7 1 1 (fI (Q j))),wi [1] (VL (Q i)),wi (rg 0 7) (nF M b8 q2)],mA 7 0 9 (fun a t=> .ok .next) (fun a t=> [fun _=>(ki M),fun _=>(kU b8 (kr t 1 6) (kd (vi (Q i) (t 7)) (j0 XS e))),fun _=>(jO 0 (vi q2 (t 8)) (dO "dict" [(de P [114,97,110,107] dt (vi (Q i) (t 0)))] 1)),id,id,id,id]) (fun a t=> []),[],([0]++rg 5 6++ [3,4]),[],5,fun q qT qS A K=> [lJ q 9 aI lS i SL eS,q 1 9 (cb "list.__getitem__" [rf lP,vn j jt]) [(lP,(j0 PL eP))],(decide ((Q i)>(Q j)))=true,q 2 9 (cb "list.append" [rf lW,vi (Q i) (K 0)]) [(lW,(j0 XS e))],q 3 10 (.compLoop JY 0 (rf aI) (rf lW) (UC d cK cP fr)) [(aI,(kc lS (i+1))),(lW,(kd (vi (Q i) (K 3)) (j0 XS e))),(d,(dO "dict" [de P [114,97,110,107] dt (vi (Q i) (K 0))] 1)),(cP,(j8 (rf lP))),(cK,(j8 (vn j jt))),(lS,(j0 SL eS)),(lP,(j0 PL eP))]]⟩
theorem Th:GC P 10 (.compLoop JY 0 (rf aI) (rf lW) (UC d cK cP fr)) (Tg P aI lW d cP cK lS lP fr i j XS e Q SL eS PL eP v dt jt M b8 q2) (hk DC):=ua
def Ti:RD:=⟨(nH aI lS i lW XS e d cP lP cK j jt SL eS PL eP),[wi [0,5] (nE lS i (Q i)),wi [6] (j7 1 1 (fI (Q j))),wi [1] (VL (Q i)),wi (rg 0 7) (nF M b8 q2)],mA 7 0 10 (fun a t=> .ok .next) (fun a t=> [fun _=>(ki M),fun _=>(kU b8 (kr t 2 6) (kd (vi (Q i) (t 8)) (j0 XS e))),fun _=>(jO 0 (vi q2 (t 9)) (dO "dict" [(de P [114,97,110,107] (t 1) (vi (Q i) (t 0)))] 1)),id,id,id,id]) (fun a t=> []),[],([0,1]++rg 5 6++ [3,4]),[],5,fun q qT qS A K=> [lJ q 9 aI lS i SL eS,q 1 9 (cb "list.__getitem__" [rf lP,vn j jt]) [(lP,(j0 PL eP))],(decide ((Q i)>(Q j)))=true,q 2 9 (cb "list.append" [rf lW,vi (Q i) (K 0)]) [(lW,(j0 XS e))],q 3 10 (.compLoop JY 0 (rf aI) (rf lW) (UC d cK cP fr)) [(aI,(kc lS (i+1))),(lW,(kd (vi (Q i) (K 3)) (j0 XS e))),(d,(dO "dict" [de P [114,97,110,107] (K 1) (vi (Q i) (K 0))] 1)),(cP,(j8 (rf lP))),(cK,(j8 (vn j jt))),(lS,(j0 SL eS)),(lP,(j0 PL eP))]]⟩
theorem Tj:GC P 10 (.compLoop JY 0 (rf aI) (rf lW) (UC d cK cP fr)) (Ti P aI lW d cP cK lS lP fr i j XS e Q SL eS PL eP jt M b8 q2) (hk DC):=ua
def Tn:RD:=⟨[(aI,(kc lS i)),(lW,(j0 XS e)),(d,(dO "dict" [de P [114,97,110,107] dt v] 1)),(cP,(j8 (rf lP))),(cK,(j8 (vn j jt))),(lS,(j0 SL eS)),(lP,(j0 PL eP))],[wi [0,5] (nE lS i (Q i)),wi [6] (j7 1 1 (fI (Q j))),wi (rg 0 7) (nF M b8 q2)],mA 7 0 8 (fun a t=> .ok .next) (fun a t=> [fun _=>(ki M),fun _=>(kU b8 (kr t 0 6) (j0 XS e)),fun _=>(jO 0 (vi q2 (t 6)) (dO "dict" [(de P [114,97,110,107] dt (vi (Q i) (t 7)))] 1)),id,id,id,id]) (fun a t=> []),[],(rg 4 6++ [3,0]),[],4,fun q qT qS A K=> [lJ q 9 aI lS i SL eS,q 1 9 (cb "list.__getitem__" [rf lP,vn j jt]) [(lP,(j0 PL eP))],(decide ((Q i)>(Q j)))=false,q 2 10 (.compLoop JY 0 (rf aI) (rf lW) (UC d cK cP fr)) [(aI,(kc lS (i+1))),(lW,(j0 XS e)),(d,(dO "dict" [de P [114,97,110,107] dt (vi (Q i) (K 0))] 1)),(cP,(j8 (rf lP))),(cK,(j8 (vn j jt))),(lS,(j0 SL eS)),(lP,(j0 PL eP))]]⟩
theorem To:GC P 10 (.compLoop JY 0 (rf aI) (rf lW) (UC d cK cP fr)) (Tn P aI lW d cP cK lS lP fr i j XS e Q SL eS PL eP v dt jt M b8 q2) (hk DE):=ua
def Tp:RD:=⟨(nH aI lS i lW XS e d cP lP cK j jt SL eS PL eP),[wi [0,5] (nE lS i (Q i)),wi [6] (j7 1 1 (fI (Q j))),wi (rg 0 7) (nF M b8 q2)],mA 7 0 9 (fun a t=> .ok .next) (fun a t=> [fun _=>(ki M),fun _=>(kU b8 (kr t 1 6) (j0 XS e)),fun _=>(jO 0 (vi q2 (t 7)) (dO "dict" [(de P [114,97,110,107] (t 0) (vi (Q i) (t 8)))] 1)),id,id,id,id]) (fun a t=> []),[],([1]++rg 4 6++ [3,0]),[],4,fun q qT qS A K=> [lJ q 9 aI lS i SL eS,q 1 9 (cb "list.__getitem__" [rf lP,vn j jt]) [(lP,(j0 PL eP))],(decide ((Q i)>(Q j)))=false,q 2 10 (.compLoop JY 0 (rf aI) (rf lW) (UC d cK cP fr)) [(aI,(kc lS (i+1))),(lW,(j0 XS e)),(d,(dO "dict" [de P [114,97,110,107] (K 1) (vi (Q i) (K 0))] 1)),(cP,(j8 (rf lP))),(cK,(j8 (vn j jt))),(lS,(j0 SL eS)),(lP,(j0 PL eP))]]⟩
theorem Tq:GC P 10 (.compLoop JY 0 (rf aI) (rf lW) (UC d cK cP fr)) (Tp P aI lW d cP cK lS lP fr i j XS e Q SL eS PL eP jt M b8 q2) (hk DE):=ua
def Ts:RD:=⟨[(aI,(kc lS i)),(lW,(j0 XS e)),(d,(dO "dict" [de P [114,97,110,107] dt v] 1)),(cP,(j8 (rf lP))),(cK,(j8 (vn j jt))),(lS,(j0 SL eS)),(lP,(j0 PL eP))],[wi [0,5] (Jh i)],mA 7 0 0 (fun a t=> .ok .next) (fun a t=> [fun _=>(ki i),id,id,id,id,id,id]) (fun a t=> []),[],[],[],1,fun q qT qS A K=> [lJ q 9 aI lS i SL eS]⟩
theorem Tt:GC P 10 (.compLoop JY 0 (rf aI) (rf lW) (UC d cK cP fr)) (Ts P aI lW d cP cK lS lP i j XS e SL eS PL eP v dt jt) (hk DF):=ua
def Tu:RD:=⟨(nH aI lS i lW XS e d cP lP cK j jt SL eS PL eP),[wi (rg 0 7) (U2 P M b8 q2)],mA 7 0 8 (fun a t=> .ok .next) (fun a t=> [fun _=>(ki M),fun _=>(kU b8 (kr t 0 7) (j0 XS e)),fun _=>(dR P (t 6) (vi q2 (t 7))),id,id,id,id]) (fun a t=> []),[],(rg 1 7++ [0]),[],1,fun q qT qS A K=> [q 0 11 (.compLoop JY 0 (rf aI) (rf lW) (UC d cK cP fr)) (nH aI lS i lW XS e d cP lP cK j jt SL eS PL eP)]⟩
theorem Tv:GC P 11 (.compStart JY 0 (rf aI) (rf lW) (UC d cK cP fr)) (Tu P aI lW d cP cK lS lP fr i j XS e SL eS PL eP jt M b8 q2) (hb Td Te):=mi
def Tw:RD:=⟨(nH aI lS i lW XS e d cP lP cK j jt SL eS PL eP),[wi [0,5] (Jh i)],mA 7 0 0 (fun a t=> .ok .next) (fun a t=> [fun _=>(ki i),id,id,id,id,id,id]) (fun a t=> []),[],[],[],1,fun q qT qS A K=> [lJ q 10 aI lS i SL eS]⟩
theorem Tx:GC P 11 (.compStart JY 0 (rf aI) (rf lW) (UC d cK cP fr)) (Tw aI lW d cP cK lS lP i j XS e SL eS PL eP jt) (hb DF Tf):=mi
end
noncomputable def vZ (Q:Nat→Int) (j:Nat):Nat→Nat→List Int
 |_,0=> []
 |i,m+1=>if Q i>Q j then Q i::vZ Q j (i+1) m else vZ Q j (i+1) m
theorem u2 (Q:Nat→Int) (j:Nat): ∀m i,(vZ Q j i m).length≤m
 |0,i=>Nat.le_refl _
 |m+1,i=>by
  have:=u2 Q j m (i+1)
  unfold vZ
  split
  ·simp;exact this
  ·exact dx this
theorem qO {W:World} {kt:KT} {d:Nat} {it l:Addr} {e:Nat} (Q:Nat→Int) (qt:Nat→Tok) (L i:Nat) (hi:i<L):j6 pw W kt (nE l i (Q i)) d (.call (.builtin "list_iterator.__next__") ⟨[.ref it],[]⟩) [some (it,kc l i),some (l,j0 (jS Q qt L) e)]:=
 (vR (v:= .int (Q i) (qt i)) (by simp [jS,hi])).cv (fun ts=> [qt i]) fun _ _=>rfl
theorem DG {W:World} {kt:KT} {d:Nat} {it l:Addr} {e:Nat} (Q:Nat→Int) (qt:Nat→Tok) (L:Nat):j6 pw W kt (Jh L) d (.call (.builtin "list_iterator.__next__") ⟨[.ref it],[]⟩) [some (it,kc l L),some (l,j0 (jS Q qt L) e)]:=
 Uy (by simp [jS])
section
variable (W:World) (Q:Nat→Int) (qt pt:Nat→Tok) (L n j:Nat) (hn:n≤5) (hL:L≤5) (hj:j<n) (aI lW d cP cK lS lP fr:Addr) (jt:Tok) (eS eP:Nat)
include hn hL hj
theorem qP: ∀(m i:Nat) (XS:List Value) (e:Nat) (vt dt:Tok),1≤i→i+m=L→XS.length+m≤20→j6 pw W (jB W.params) (nF L (vZ Q j i m) (Q (L-1))) 10 (.compLoop JY 0 (.ref aI) (.ref lW) (UC d cK cP fr)) ([(aI,kc lS i),(lW,j0 XS e),(d,dR W.params dt (.int (Q (i-1)) vt)),(cP,j8 (.ref lP)),(cK,j8 (.int ((j:Nat):Int) jt)),(lS,j0 (jS Q qt L) eS),(lP,j0 (jS Q pt n) eP)].map some)
 |0,i,XS,e,vt,dt,hk,hm,hX=>by
  have hi:i=L:=hm
  subst hi
  have h:=jY (w:=W) (Tt W.params aI lW d cP cK lS lP fr i j XS e (jS Q qt i) eS (jS Q pt n) eP (.int (Q (i-1)) vt) dt jt) (by
   intro A K
   walk_at "ob"
   exact DG Q qt i)
  refine h.conv (Nat.le_refl _) rfl fun as ts la lt'=>⟨[vt,0,0,0,0,0,0],rfl,rfl,rfl,?_,rfl⟩
  show [_,some (kU [] _ (j0 XS e)),_,_,_,_,_]= [_,some (j0 XS e),_,_,_,_,_]
  rw [jI]
  simp [jQ]
  rfl
 |m+1,i,XS,e,vt,dt,hk,hm,hX=>by
  have hl:=u2 Q j m (i+1)
  have fx:(vZ Q j (i+1) m).length≤5:=by lia
  by_cases hc:Q i>Q j
  ·have h:=jY (w:=W) (Th W.params aI lW d cP cK lS lP fr i j XS e Q (jS Q qt L) eS (jS Q pt n) eP (.int (Q (i-1)) vt) dt jt L (vZ Q j (i+1) m) (Q (L-1))) (by
    intro A K
    walk_at "ob"
    ·exact qO Q qt L i (by lia)
    ·exact vC Q pt n j hj hn rfl
    ·exact decide_eq_true hc
    ·exact qM (by lia)
    ·rw [jy]
     exact qP m (i+1) (XS++ [.int (Q i) (K 3)]) (e+1) (K 0) dt (Nat.succ_pos _) (by lia) (by simp;lia))
   have e2:vZ Q j i (m+1)=Q i::vZ Q j (i+1) m:=by rw [vZ,if_pos hc]
   rw [e2]
   refine h.conv (Nat.le_refl _) rfl fun as ts la lt'=>⟨tg ts [8,7,1,2,3,4,5],rfl,rfl,rfl,?_,rfl⟩
   show [_,some (kU (Q i::vZ Q j (i+1) m) [ts.getD 7 0,ts.getD 1 0,ts.getD 2 0,ts.getD 3 0,ts.getD 4 0,ts.getD 5 0] (j0 XS e)),_,_,_,_,_]= [_,some (kU (vZ Q j (i+1) m) [ts.getD 1 0,ts.getD 2 0,ts.getD 3 0,ts.getD 4 0,ts.getD 5 0,ts.getD 6 0] (kd (.int (Q i) (ts.getD 7 0)) (j0 XS e))),_,_,_,_,_]
   rw [jy,jI,jI,jQ,List.tail_cons,nG _ _ _ _ _ _ _ fx]
   simp only [List.append_assoc,List.cons_append,List.nil_append,List.length_cons,List.headD_cons]
   rw [show e+((vZ Q j (i+1) m).length+1)=e+1+(vZ Q j (i+1) m).length by lia]
   rfl
  ·have h:=jY (w:=W) (To W.params aI lW d cP cK lS lP fr i j XS e Q (jS Q qt L) eS (jS Q pt n) eP (.int (Q (i-1)) vt) dt jt L (vZ Q j (i+1) m) (Q (L-1))) (by
    intro A K
    walk_at "ob"
    ·exact qO Q qt L i (by lia)
    ·exact vC Q pt n j hj hn rfl
    ·exact decide_eq_false hc
    ·exact qP m (i+1) XS e (K 0) dt (Nat.succ_pos _) (by lia) (jH hX))
   have e2:vZ Q j i (m+1)=vZ Q j (i+1) m:=by rw [vZ,if_neg hc]
   rw [e2]
   exact h.cv (fun ts=>tg ts [6,0,1,2,3,4,5]) fun _ _=>rfl
theorem Tz (m i:Nat) (XS:List Value) (e:Nat) (hm:i+(m+1)=L) (hX:XS.length+m≤10):j6 pw W (jB W.params) (U2 W.params L (vZ Q j i (m+1)) (Q (L-1))) 10 (.compLoop JY 0 (.ref aI) (.ref lW) (UC d cK cP fr)) ([(aI,kc lS i),(lW,j0 XS e),(d,dE),(cP,j8 (.ref lP)),(cK,j8 (.int ((j:Nat):Int) jt)),(lS,j0 (jS Q qt L) eS),(lP,j0 (jS Q pt n) eP)].map some):=by
 have hl:=u2 Q j m (i+1)
 have fx:(vZ Q j (i+1) m).length≤5:=by lia
 by_cases hc:Q i>Q j
 ·have h:=jY (w:=W) (Tj W.params aI lW d cP cK lS lP fr i j XS e Q (jS Q qt L) eS (jS Q pt n) eP jt L (vZ Q j (i+1) m) (Q (L-1))) (by
   intro A K
   walk_at "ob"
   ·exact qO Q qt L i (by lia)
   ·exact vC Q pt n j hj hn rfl
   ·exact decide_eq_true hc
   ·exact qM (by lia)
   ·rw [jy]
    exact qP W Q qt pt L n j hn hL hj aI lW d cP cK lS lP fr jt eS eP m (i+1) (XS++ [.int (Q i) (K 3)]) (e+1) (K 0) (K 1) (Nat.succ_pos _) (by lia) (by simp;lia))
  have e2:vZ Q j i (m+1)=Q i::vZ Q j (i+1) m:=by rw [vZ,if_pos hc]
  rw [e2]
  refine h.conv (Nat.le_refl _) rfl fun as ts la lt'=>⟨tg ts [9,8,2,3,4,5,6,1],rfl,rfl,rfl,?_,rfl⟩
  show [_,some (kU (Q i::vZ Q j (i+1) m) [ts.getD 8 0,ts.getD 2 0,ts.getD 3 0,ts.getD 4 0,ts.getD 5 0,ts.getD 6 0,ts.getD 1 0] (j0 XS e)),_,_,_,_,_]= [_,some (kU (vZ Q j (i+1) m) [ts.getD 2 0,ts.getD 3 0,ts.getD 4 0,ts.getD 5 0,ts.getD 6 0,ts.getD 7 0] (kd (.int (Q i) (ts.getD 8 0)) (j0 XS e))),_,_,_,_,_]
  rw [jy,jI,jI,jQ,List.tail_cons,nG _ _ _ _ _ _ _ fx,nG _ _ _ _ _ _ _ fx]
  simp only [List.append_assoc,List.cons_append,List.nil_append,List.length_cons,List.headD_cons]
  rw [show e+((vZ Q j (i+1) m).length+1)=e+1+(vZ Q j (i+1) m).length by lia]
  rfl
 ·have h:=jY (w:=W) (Tq W.params aI lW d cP cK lS lP fr i j XS e Q (jS Q qt L) eS (jS Q pt n) eP jt L (vZ Q j (i+1) m) (Q (L-1))) (by
   intro A K
   walk_at "ob"
   ·exact qO Q qt L i (by lia)
   ·exact vC Q pt n j hj hn rfl
   ·exact decide_eq_false hc
   ·exact qP W Q qt pt L n j hn hL hj aI lW d cP cK lS lP fr jt eS eP m (i+1) XS e (K 0) (K 1) (Nat.succ_pos _) (by lia) (by lia))
  have e2:vZ Q j i (m+1)=vZ Q j (i+1) m:=by rw [vZ,if_neg hc]
  rw [e2]
  refine h.conv (Nat.le_refl _) rfl fun as ts la lt'=>⟨tg ts [7,1,2,3,4,5,6,0],rfl,rfl,rfl,?_,rfl⟩
  show [_,some (kU (vZ Q j (i+1) m) [ts.getD 1 0,ts.getD 2 0,ts.getD 3 0,ts.getD 4 0,ts.getD 5 0,ts.getD 6 0,ts.getD 0 0] (j0 XS e)),_,_,_,_,_]= [_,some (kU (vZ Q j (i+1) m) [ts.getD 1 0,ts.getD 2 0,ts.getD 3 0,ts.getD 4 0,ts.getD 5 0,ts.getD 6 0] (j0 XS e)),_,_,_,_,_]
  rw [jI,jI,DB _ _ _ _ _ _ _ _ fx]
  rfl
theorem yG (m:Nat) (hm:m+1=L):j6 pw W (jB W.params) (U2 W.params L (vZ Q j 0 (m+1)) (Q (L-1))) 11 (.compStart JY 0 (.ref aI) (.ref lW) (UC d cK cP fr)) ([(aI,kc lS 0),(lW,j0 [] 0),(d,dE),(cP,j8 (.ref lP)),(cK,j8 (.int ((j:Nat):Int) jt)),(lS,j0 (jS Q qt L) eS),(lP,j0 (jS Q pt n) eP)].map some):=by
 have first:=Tz W Q qt pt L n j hn hL hj aI lW d cP cK lS lP fr jt eS eP m 0 [] 0 (by lia) (by simp;lia)
 have h:=jY (w:=W) (Tv W.params aI lW d cP cK lS lP fr 0 j [] 0 (jS Q qt L) eS (jS Q pt n) eP jt L (vZ Q j 0 (m+1)) (Q (L-1))) (by
  intro A K
  walk_at "ob"
  exact tT first)
 exact h.cv (fun ts=>tg ts [7,0,1,2,3,4,5,6]) fun _ _=>rfl
end
def Uv:jZ:={ids:=List.range 7,na:=0,nt:=0,res:=fun _ _=> .ok .next,upd:=fun _ _=> [fun _=>ki 0,id,id,id,id,id,id],new:=fun _ _=> []}
theorem Uc (W:World) (Q:Nat→Int) (qt:Nat→Tok) (PL:List Value) (j:Nat) (aI lW d cP cK lS lP fr:Addr) (jt:Tok) (eS eP:Nat):j6 pw W (jB W.params) Uv 11 (.compStart JY 0 (.ref aI) (.ref lW) (UC d cK cP fr)) ([(aI,kc lS 0),(lW,j0 [] 0),(d,dE),(cP,j8 (.ref lP)),(cK,j8 (.int ((j:Nat):Int) jt)),(lS,j0 (jS Q qt 0) eS),(lP,j0 PL eP)].map some):=by
 have h:=jY (w:=W) (Tx W.params aI lW d cP cK lS lP fr 0 j [] 0 (jS Q qt 0) eS PL eP jt) (by
  intro A K
  walk_at "ob"
  exact DG Q qt 0)
 exact h.cv (fun ts=> []) fun _ _=>rfl
def uG (SL:List Int):jZ:={ids:=List.range 1,na:=1,nt:=6,res:=fun as _=> .ok (.ret (.ref (as.getD 0 0))),upd:=fun _ _=> [id],new:=fun _ ts=> [j0 (jQ SL ts) (ts.getD 5 0)]}
theorem TA {a b:List Int} (h:a.Perm b) (ha:a.Pairwise (· ≤ ·)) (hb:b.Pairwise (· ≤ ·)):a=b:=
 List.Perm.eq_of_pairwise (fun x y _ _ h1 h2=>Int.le_antisymm h1 h2) ha hb h
theorem Yi: ∀{vs:List Value} {ns:List Int},IntsAre vs ns→ ∃ts:List Tok,ts.length=vs.length∧ ∀us,vs=jQ ns (ts++us)
 |_,_,.nil=>⟨[],rfl,fun _=>rfl⟩
 |_,_,.cons n t h=>by
  obtain ⟨ts,h1,h2⟩:=Yi h
  exact ⟨t::ts,by simp [h1],fun us=>by rw [List.cons_append,jQ,List.headD_cons,List.tail_cons,←h2 us]⟩
theorem um (Q:Nat→Int) (qt:Nat→Tok): ∀n,IntsAre (jS Q qt n) ((List.range n).map Q):=fun n=>by
 unfold jS
 generalize List.range n=l
 induction l with
 |nil=>exact .nil
 |cons a l ih=>exact .cons _ _ ih
theorem kC {w:World} {kt:KT} {d:Nat} {l:Addr} {vs:List Value} {ns SL:List Int} {e:Nat} (hI:IntsAre vs ns) (h5:vs.length≤5) (hp:SL.Perm ns) (hs:SL.Pairwise (· ≤ ·)):
  j6 pw w kt (uG SL) d (.call (.builtin "sorted") ⟨[.ref l],[]⟩) [some (l,j0 vs e)]:=by
 refine .of ?_;intro A R s S Z hR
 have h1:=Z.own _ (.head _)
 have hl:s.heap.IsList l vs.toArray:=⟨_,h1,rfl,_,rfl⟩
 refine Yh kind_sorted plain_sorted entry_sorted (args_sorted1 _) ?_
 unfold Builtin.«sorted»
 refine wpAny_bind (m:=checkCount "sorted" 1 1 _) (wpAny_pure ?_)
 refine wpAny_bind (collect_list hl ?_ (by have e:sizeLine=16777216:=rfl;lia))
 refine wpAny_bind (wpAny_newList ?_)
 have fi:((s.heap.push (seqObj "list" #[] 0)).update s.heap.objs.size (Obj.mapSeq (· ++vs.toArray))).objs.size=s.heap.objs.size+1:=by
  rw [Heap.size_update,size_push']
 have DH:(((s.heap.push (seqObj "list" #[] 0)).update s.heap.objs.size (Obj.mapSeq (· ++vs.toArray))).push (seqObj "list" vs.toArray 0)).get? (s.heap.objs.size+1)=some (seqObj "list" vs.toArray 0):=by
  rw [←fi];exact Heap.get?_push_size _ rfl
 show wpAny _ _ _ _ _ {s with heap:=((s.heap.push (seqObj "list" #[] 0)).update s.heap.objs.size (Obj.mapSeq (· ++vs.toArray))).push (seqObj "list" vs.toArray 0)}
 rw [fi]
 refine wpAny_bind (wpAny_holding (wpAny_call_entry slot_list_sort ⟨_,DH,rfl⟩ entry_list_sort (list_sort_tree DH hI (by lia) fun out qQ a1 a2 a3=>⟨_,rfl,?_⟩) (args_list_sort _)))
 refine wpAny_pure ⟨_,rfl,?_⟩
 have en:qQ=SL:=TA (a2.trans hp.symm) a3 hs
 subst en
 obtain ⟨ts,t1,t2⟩:=Yi a1
 obtain ⟨e',he⟩:=sortedAll_at s.heap vs out
 have hlen:ts.length≤5:=by
  have q1:out.toList.map numOf=qQ:=a1.nums
  have q2:vs.map numOf=ns:=hI.nums
  have q3:=hp.length_eq
  rw [←q1,←q2] at q3
  simp at q3
  rw [t1];simp;lia
 have eo:seqObj "list" out e'=j0 (jQ qQ (ts++(List.replicate (5-ts.length) 0++ [e']))) e':=by
  rw [←t2]
 have e5:(ts++(List.replicate (5-ts.length) 0++ [e'])).getD 5 0=e':=by
  rw [List.getD_eq_getElem?_getD,List.getElem?_append_right hlen,List.getElem?_append_right (by simp)]
  simp
 have hh:=hR {s with heap:=sortedAll s.heap vs out} [s.heap.objs.size+1] (ts++(List.replicate (5-ts.length) 0++ [e'])) rfl (by show _=6;simp;lia) ⟨fun b o g _=>sortedAll_old g,rfl,fun i p f g1 g2=> ?_,rfl,fun i a o g1 g2=> ?_,by simp,rfl,rfl,rfl⟩
 ·exact hh
 ·have hi:i<1:=(List.getElem?_eq_some_iff.mp g1).1
  obtain rfl:i=0:=by lia
  cases g1;cases g2
  exact sortedAll_old h1
 ·have hi:i<1:=(List.getElem?_eq_some_iff.mp g1).1
  obtain rfl:i=0:=by lia
  cases g1;cases g2
  refine ⟨?_,?_⟩
  ·show (sortedAll s.heap vs out).get? (s.heap.objs.size+1)=some (j0 (jQ qQ _) (List.getD _ 5 0))
   rw [e5,he,eo]
  ·cases q:s.heap.get? (s.heap.objs.size+1) with
   |none=>rfl
   |some o'=>exact absurd (Heap.lt_size q) (Nat.not_lt.mpr (Nat.le_succ _))
theorem TB {prog:Program} {w:World} {A:Around} {s:Shared} {id:String} {b:Builtin} {args:List Value} {R:Result→Shared→Prop} (hk:builtinKind id=none) (hp:plainId id=true)
  (hb:entryFor table id=some b) (ha:argsOk id ⟨args,[]⟩)
  (ml:wpAny (model prog w) A.in1 (b ⟨args,[]⟩) (fun fin s'=>match fin with
   | .done f=>R (.ok f) s'
   | .again c'=>c'.quiet=true∧codeAny (model prog w) A c' R s') (fun e s'=>R (.error e) s') s):codeAny (model prog w) A (.call (.builtin id) ⟨args,[]⟩) R s:=by
 refine codeAny_call_builtin hp hb ?_
 simp only [checkBuiltinCall,hk]
 cases rQ:Manifest.signature? id with
 |none=>exact wpAny_pure ml
 |some sig=>
  simp only [argsOk,rQ] at ha
  have h2:Bind.checkArgs id sig ⟨args,[]⟩=pure ():=ha
  show wpAny _ A.in1 (Bind.checkArgs id sig ⟨args,[]⟩) _ _ s
  rw [h2];exact wpAny_pure ml
theorem TC {w:World} {A:Around} {s:Shared} {l:Addr} {xs:Array (Int×Tok)} {R:Result→Shared→Prop} (hh:A.handled=none) (hl:s.heap.IsList l (intItems xs))
  (hR: ∀h' tk t',(∀b o,s.heap.get? b=some o→h'.get? b=some o)→R (.ok (.ret (.int (preSum (numAt xs) xs.size) t'))) {s with heap:=h',toks:=tk}):
  codeAny (model pw w) A (.call (.builtin "sum") ⟨[.ref l],[]⟩) R s:=by
 refine TB F.kind_sum F.plain_sum F.entry_sum (F.args_sum1 _) ?_
 unfold Builtin.«sum»
 simp only [List.length_cons,List.length_nil]
 rw [if_neg (by decide)]
 refine wpAny_bind (wpAny_of_eq (show Builtin.Builtins.bindParams "sum" ["start"] 0 {}=pure [none] from rfl) ?_)
 refine wpAny_bind (iter_intList hl fun s₂ e st TF TG=> ?_)
 subst e
 refine wpAny_bind (wpAny_mkInt ?_)
 refine wpAny_bind (wpAny_pure ?_)
 simp only [List.forIn_cons,List.forIn_nil]
 refine wpAny_bind (wpAny_bind (wpAny_bind (wpAny_isInstance (T:= "int") (b:=false) (typeIs_int _ _ _) PySem.sub_int_str ?_)))
 simp only [Bool.false_eq_true,if_false]
 refine wpAny_pure (wpAny_bind (wpAny_bind (wpAny_isInstance (T:= "int") (b:=false) (typeIs_int _ _ _) PySem.sub_int_bytes ?_)))
 simp only [Bool.false_eq_true,if_false]
 refine wpAny_pure (wpAny_bind (wpAny_bind (wpAny_isInstance (T:= "int") (b:=false) (typeIs_int _ _ _) PySem.sub_int_bytearray ?_)))
 simp only [Bool.false_eq_true,if_false]
 refine wpAny_pure (wpAny_pure ?_)
 refine wpAny_bind (wpAny_newObj_type ?_)
 have W:=Walks.list (prog:=pw) (w:=w) (A:=A.in1) hh s.heap.objs.size l TG (intItems xs)
 refine wpAny_pure ⟨plainId_quiet F.plain_sum_loop _,codeAny_sum_loopG W (numAt xs) (fun _ _=>intItems_at) _ (fun hm=>Nat.lt_irrefl _ (TF _ hm)) _ 0 _ _ 0 0 (Or.inl rfl) rfl (Nat.zero_le _)
  (W.frame _ _ _ st fun b _ o e=>Heap.get?_push_of_some _ e) (Heap.get?_push_size _ rfl) fun h' tk t' hk=> ?_⟩
 have:=hR h' tk t' (old_kept fun b o TH e=>hk b o TH (lN (Heap.lt_size e)) (Heap.get?_push_of_some _ e))
 simpa [intItems] using this
theorem uV {w:World} {kt:KT} {d:Nat} {l:Addr} {vs:List Value} {ns:List Int} {e:Nat} (hI:IntsAre vs ns):
  j6 pw w kt (j7 1 1 fun ts=> .int ns.sum (ts.getD 0 0)) d (.call (.builtin "sum") ⟨[.ref l],[]⟩) [some (l,j0 vs e)]:=by
 refine .of ?_;intro A R s S Z hR
 have h1:=Z.own _ (.head _)
 obtain ⟨xs,hx⟩:=hI.allInts.items
 have hl:s.heap.IsList l (intItems xs):=by
  rw [←hx];exact ⟨_,h1,rfl,_,rfl⟩
 refine TC S.handled hl fun h' tk t' hk=> ?_
 have e:preSum (numAt xs) xs.size=ns.sum:=by
  have h2:=nums_intItems xs
  rw [←hx] at h2
  rw [preSum_eq,List.take_of_length_le (by simp),←h2]
  show (numsOf vs).sum=_
  rw [hI.numsOf]
 rw [e]
 refine hR _ [] [t'] rfl rfl ⟨fun b o g _=>hk b o g,rfl,fun i p f g1 g2=> ?_,rfl,fun i a o g1 g2=>by simp at g1,.nil,rfl,rfl,rfl⟩
 have hi:i<1:=(List.getElem?_eq_some_iff.mp g1).1
 obtain rfl:i=0:=by lia
 cases g1;cases g2
 exact hk _ _ h1
def TJ:=kg [VI,ov,Y5,si,JX,108332,Jx]
def TK:=kg [sO,si,JX,108332,Jx]
def TN:=kg [VI,ov,Y5,oH,JX,108849,Jx]
def TP:=kg [sO,oH,JX,108849,Jx]
def TQ:=kg [VI,ov,Y5,oH,sj,1830531904681,JX,109366,Jx]
def TR:=kg [sO,oH,sj,1830531904681,JX,109366,Jx]
def TS:=kg [VI,mJ,Y5,se,JX,108588,Jx]
def TU:=kg [oI,se,JX,108588,Jx]
def TV:=kg [VI,mJ,Y5,sk,JX,109105,Jx]
def TY:=kg [oI,sk,JX,109105,Jx]
def TZ:=kg [VI,mJ,Y5,oJ,JX,109622,Jx]
def T5:=kg [oI,oJ,JX,109622,Jx]
def T6:=kg [VI,mJ,Y5,oJ,As,Jx]
def T7:=kg [oI,oJ,As,Jx]
noncomputable def ix:List Nat:= [24,25,26,3,1]
noncomputable def iy:List Nat:= [34,35,36,5,31,33,14]
noncomputable def iz:List Nat:= [39,40,41,5,31,38,14]
noncomputable def nI:List Nat:= [44,45,46,5,31,43,14]
abbrev vz (x0:Qa) (x1:Nat) (x3:Nat→Addr) (x5:Nat→Nat) (x7 aJ:Nat→Tok):=x0 x1 18 (cb "list.index" [(rf (x3 7)),(vt (jb (x5 x1)) (x7 x1))]) [((x3 7),(j0 [(vt (sl [10,34]) (aJ 2)),(vt (sl [34]) (aJ 3)),(vt (sl [35,32]) (aJ 4)),(vt (sl [39,11]) (aJ 5)),(vt (sl [92,110]) (aJ 6))] 0))]
abbrev kx (x0:Nat→Nat) (x1:Nat):=vZ (fun k=>((x0 k:Nat):Int)) x1 0 x1
abbrev J7 (x0:Nat→Addr) (x1 x2:Nat):=((x0 x1),(fo "list_iterator" [(rf (x0 x2)),(vi 0 0)]))
abbrev iA (x0:Qa) (x1:Nat) (x3:Nat→Addr) (aB:Nat) (aK:Addr) (bS:Nat→Int) (bV:Nat→Tok) (bB bI:Nat):=x0 x1 19 (.compStart dJ 0 (rf (x3 24)) (rf (x3 25)) (Vw (x3 26) (x3 3) (x3 2))) [((x3 24),jz 1 aB),((x3 25),j0 [] 0),((x3 26),dE),((x3 3),j8 (rf aK)),(aK,j0 (jS bS bV bB) bI)]
abbrev vA (x2:Nat→Nat) (x3:Nat):=j7 1 1 (fI ((x2 x3:Nat):Int))
abbrev YU (x0:Nat→Addr) (x1:Nat) (x2:Nat→Nat) (x3:Nat) (x4:Nat→Tok) (x5:Nat):=((x0 x1),(j0 [(vn (x2 x3) (x4 x5)),(vn (x2 (x3+1)) (x4 (x5+2))),(vn (x2 (x3+2)) (x4 (x5+4))),(vn (x2 (x3+3)) (x4 (x5+6)))] 0))
abbrev iB (x0:Qt) (x1:Nat) (x3:Nat→Addr) (x7:List Int) (x8:Nat→Tok) (x9:Nat):=x0 x1 19 .NotEq (rf (x3 19)) (rf (x3 22)) [((x3 19),(j0 (jQ x7 (kr x8 x9 6)) (x8 (x9+5)))),((x3 22),(j0 (jQ x7 (kr x8 (x9+6) 6)) (x8 (x9+11))))]
abbrev Yz (x0:Nat→Addr) (x1:Nat) (x2:Nat→Nat) (x3:Nat) (x4:Nat→Tok) (x5:Nat):=((x0 x1),(j0 [(vn (x2 x3) (x4 x5)),(vn (x2 (x3+1)) (x4 (x5+2))),(vn (x2 (x3+2)) (x4 (x5+4)))] 0))
abbrev lK (x0:Nat→Addr) (x2:Nat→Nat) (x4:Nat→Tok):=((x0 14),(j0 [(vn (x2 0) (x4 8)),(vn (x2 1) (x4 10)),(vn (x2 2) (x4 12)),(vn (x2 3) (x4 14)),(vn (x2 4) (x4 16))] 0))
abbrev J8 (x0:Nat→Addr) (x1:Nat):=UC (x0 x1) (x0 31) (x0 5) (x0 2)
abbrev Jq:=j7 2 0 (fun _=> .bool false)
abbrev JW (x0:Nat→Addr) (x1:Nat) (x2:Nat→Nat) (x3:Nat) (x4:Nat→Tok) (x5:Nat):=((x0 x1),(j0 [(vn (x2 x3) (x4 x5)),(vn (x2 (x3+1)) (x4 (x5+2)))] 0))
abbrev vd (x0:Nat→Addr):=((x0 5),(cl (rf (x0 14))))
abbrev qU (x0:Nat→Nat):= [0,((((kx x0 1)).length:Nat):Int),((((kx x0 2)).length:Nat):Int),((((kx x0 3)).length:Nat):Int)]
abbrev ve (x0:Nat→Addr) (x1:Nat):=((x0 x1),(dO "dict" [] 0))
abbrev iC (x0:Params) (x1:Nat→Nat):=U2 x0 1 (kx x1 1) ((fun k=>((x1 k:Nat):Int)) 0)
abbrev iD (x2:Nat→Nat):=j7 1 1 (fI ((((kx x2 1)).length:Nat):Int))
abbrev qV (x0:Nat→Nat):= [0,((((kx x0 1)).length:Nat):Int),((((kx x0 2)).length:Nat):Int)]
abbrev Jr (x0:Nat→Addr) (x1:Nat):=cb "sorted" [(rf (x0 x1))]
abbrev nJ (x2:Nat→Nat):=j7 1 1 (fI ((((kx x2 2)).length:Nat):Int))
abbrev nK (x0:Params) (x1:Nat→Nat):=U2 x0 2 (kx x1 2) ((fun k=>((x1 k:Nat):Int)) 1)
abbrev yH (x0:Nat→Addr) (x1:Nat):=cb "len" [(rf (x0 x1))]
abbrev iE (x2:Nat→Int) (x4:Nat):=j7 1 1 (fI ((jn x2 1 x4)).sum)
abbrev Js (x0:Nat→Addr) (x1:Nat):=cb "sum" [(rf (x0 x1))]
abbrev qW (x0:Nat→Int) (x1:Nat) (x2:Nat→Tok):=j0 [(vi (x0 x1) (x2 x1)),(vi (x0 (x1+1)) (x2 (x1+1))),(vi (x0 (x1+2)) (x2 (x1+2)))] 0
section
variable (P:Params) (R:Nat→Nat) (D:Nat→Int) (rt aC:Nat→Tok) (SL:List Int) (eR eD:Nat) (aR aD:Addr) (az:Tok)
def T8:RD:=⟨[(aR,(j0 (kj R rt 4) eR)),(aD,(j0 (jS D aC 4) eD))],[wi [7] (vA R 0),wi [7] (vA R 1),wi [7] (vA R 2),wi [7] (vA R 3),wi [16,18] (Jq),wi [14] (uG SL),wi [21] (uG SL),wi [19,22] (Jq),wi ix (Jy P 2 (jn D 1 1)),wi [25] (iE D 1),wi iy Uv,wi iz (iC P R),wi [40] (iD R),wi [29] (j7 1 1 (fI ([0,((((kx R 1)).length:Nat):Int)]:List Int).sum))],mA 2 0 0 (fun a t=> .ok (.ret (.bool true))) (fun a t=>(List.replicate 2 id)) (fun a t=> []),[],[],[],15,fun q qT qS A K=> [vz q 0 A R rt K,vz q 1 A R rt K,vz q 2 A R rt K,vz q 3 A R rt K,qT 4 19 .NotEq (rf (A 16)) (rf (A 18)) [Yz A 16 R 1 K 10,((A 18),(qW D 1 aC))],q 5 19 (Jr A 14) [JW A 14 R 0 K 8],q 6 19 (Jr A 21) [((A 21),(j0 [vi (D 0) (aC 0),vi (D 1) (aC 1)] 0))],iB qT 7 A SL K 20,iA q 8 A 1 aD D aC 4 eD,q 9 19 (Js A 25) [((A 25),(kU (jn D 1 1) (kr K 35 7) (j0 [] 0)))],q 10 18 (.compStart JY 0 (rf (A 34)) (rf (A 35)) (J8 A 36)) [J7 A 34 33,((A 35),(j0 [] 0)),ve A 36,vd A,((A 31),(cl (vi 0 (K 46)))),((A 33),(j0 [] 0)),JW A 14 R 0 K 8],q 11 18 (.compStart JY 0 (rf (A 39)) (rf (A 40)) (J8 A 41)) [J7 A 39 38,((A 40),(j0 [] 0)),ve A 41,vd A,((A 31),(cl (vi 1 (K 49)))),((A 38),(j0 [vn (R 0) (K 8)] 0)),JW A 14 R 0 K 8],q 12 18 (yH A 40) [((A 40),(kU (kx R 1) (kr K 51 7) (j0 [] 0)))],q 13 19 (Js A 29) [((A 29),(j0 [vi 0 (K 48),vn ((kx R 1)).length (K 58)] 2))],(([0,((((kx R 1)).length:Nat):Int)]:List Int).sum==((jn D 1 1)).sum)=true]⟩
theorem T9:GF P 19 101 [rf aR,rf aD,vi 2 az] (fF P) (T8 P R D rt aC SL eR eD aR aD) (hb TJ TK):=Ur
def U':RD:=⟨[(aR,(j0 (kj R rt 4) eR)),(aD,(j0 (jS D aC 4) eD))],[wi [7] (vA R 0),wi [7] (vA R 1),wi [7] (vA R 2),wi [7] (vA R 3),wi [16,18] (Jq),wi [14] (uG SL),wi [21] (uG SL),wi [19,22] (Jq),wi ix (Jy P 3 (jn D 1 2)),wi [25] (iE D 2),wi iy Uv,wi iz (iC P R),wi [40] (iD R),wi nI (nK P R),wi [45] (nJ R),wi [29] (j7 1 1 (fI ((qV R):List Int).sum))],mA 2 0 0 (fun a t=> .ok (.ret (.bool true))) (fun a t=>(List.replicate 2 id)) (fun a t=> []),[],[],[],17,fun q qT qS A K=> [vz q 0 A R rt K,vz q 1 A R rt K,vz q 2 A R rt K,vz q 3 A R rt K,qT 4 19 .NotEq (rf (A 16)) (rf (A 18)) [JW A 16 R 2 K 12,((A 18),(j0 [vi (D 2) (aC 2),vi (D 3) (aC 3)] 0))],q 5 19 (Jr A 14) [Yz A 14 R 0 K 8],q 6 19 (Jr A 21) [((A 21),(qW D 0 aC))],iB qT 7 A SL K 20,iA q 8 A 2 aD D aC 4 eD,q 9 19 (Js A 25) [((A 25),(kU (jn D 1 2) (kr K 35 7) (j0 [] 0)))],q 10 18 (.compStart JY 0 (rf (A 34)) (rf (A 35)) (J8 A 36)) [J7 A 34 33,((A 35),(j0 [] 0)),ve A 36,vd A,((A 31),(cl (vi 0 (K 46)))),((A 33),(j0 [] 0)),Yz A 14 R 0 K 8],q 11 18 (.compStart JY 0 (rf (A 39)) (rf (A 40)) (J8 A 41)) [J7 A 39 38,((A 40),(j0 [] 0)),ve A 41,vd A,((A 31),(cl (vi 1 (K 49)))),((A 38),(j0 [vn (R 0) (K 8)] 0)),Yz A 14 R 0 K 8],q 12 18 (yH A 40) [((A 40),(kU (kx R 1) (kr K 51 7) (j0 [] 0)))],q 13 18 (.compStart JY 0 (rf (A 44)) (rf (A 45)) (J8 A 46)) [J7 A 44 43,((A 45),(j0 [] 0)),ve A 46,vd A,((A 31),(cl (vi 2 (K 59)))),JW A 43 R 0 K 8,Yz A 14 R 0 K 8],q 14 18 (yH A 45) [((A 45),(kU (kx R 2) (kr K 61 7) (j0 [] 0)))],q 15 19 (Js A 29) [((A 29),(j0 [vi 0 (K 48),vn ((kx R 1)).length (K 58),vn ((kx R 2)).length (K 68)] 3))],(((qV R):List Int).sum==((jn D 1 2)).sum)=true]⟩
theorem V':GF P 19 101 [rf aR,rf aD,vi 3 az] (fF P) (U' P R D rt aC SL eR eD aR aD) (hb TN TP):=Ur
def Wa:RD:=⟨[(aR,(j0 (kj R rt 4) eR)),(aD,(j0 (jS D aC 4) eD))],[wi [7] (vA R 0),wi [7] (vA R 1),wi [7] (vA R 2),wi [7] (vA R 3),wi [16,18] (Jq),wi [14] (uG SL),wi [21] (uG SL),wi [19,22] (Jq),wi ix (Jy P 4 (jn D 1 3)),wi [25] (iE D 3),wi iy Uv,wi iz (iC P R),wi [40] (iD R),wi nI (nK P R),wi [45] (nJ R),wi [49,50,51,5,31,48,14] (U2 P 3 (kx R 3) ((fun k=>((R k:Nat):Int)) 2)),wi [50] (j7 1 1 (fI ((((kx R 3)).length:Nat):Int))),wi [29] (j7 1 1 (fI ((qU R):List Int).sum))],mA 2 0 0 (fun a t=> .ok (.ret (.bool true))) (fun a t=>(List.replicate 2 id)) (fun a t=> []),[],[],[],19,fun q qT qS A K=> [vz q 0 A R rt K,vz q 1 A R rt K,vz q 2 A R rt K,vz q 3 A R rt K,qT 4 19 .NotEq (rf (A 16)) (rf (A 18)) [((A 16),(j0 [vn (R 3) (K 14)] 0)),((A 18),(j0 [vi (D 3) (aC 3)] 0))],q 5 19 (Jr A 14) [YU A 14 R 0 K 8],q 6 19 (Jr A 21) [((A 21),(j0 [vi (D 0) (aC 0),vi (D 1) (aC 1),vi (D 2) (aC 2),vi (D 3) (aC 3)] 0))],iB qT 7 A SL K 20,iA q 8 A 3 aD D aC 4 eD,q 9 19 (Js A 25) [((A 25),(kU (jn D 1 3) (kr K 35 7) (j0 [] 0)))],q 10 18 (.compStart JY 0 (rf (A 34)) (rf (A 35)) (J8 A 36)) [J7 A 34 33,((A 35),(j0 [] 0)),ve A 36,vd A,((A 31),(cl (vi 0 (K 46)))),((A 33),(j0 [] 0)),YU A 14 R 0 K 8],q 11 18 (.compStart JY 0 (rf (A 39)) (rf (A 40)) (J8 A 41)) [J7 A 39 38,((A 40),(j0 [] 0)),ve A 41,vd A,((A 31),(cl (vi 1 (K 49)))),((A 38),(j0 [vn (R 0) (K 8)] 0)),YU A 14 R 0 K 8],q 12 18 (yH A 40) [((A 40),(kU (kx R 1) (kr K 51 7) (j0 [] 0)))],q 13 18 (.compStart JY 0 (rf (A 44)) (rf (A 45)) (J8 A 46)) [J7 A 44 43,((A 45),(j0 [] 0)),ve A 46,vd A,((A 31),(cl (vi 2 (K 59)))),JW A 43 R 0 K 8,YU A 14 R 0 K 8],q 14 18 (yH A 45) [((A 45),(kU (kx R 2) (kr K 61 7) (j0 [] 0)))],q 15 18 (.compStart JY 0 (rf (A 49)) (rf (A 50)) (J8 A 51)) [J7 A 49 48,((A 50),(j0 [] 0)),ve A 51,vd A,((A 31),(cl (vi 3 (K 69)))),Yz A 48 R 0 K 8,YU A 14 R 0 K 8],q 16 18 (yH A 50) [((A 50),(kU (kx R 3) (kr K 71 7) (j0 [] 0)))],q 17 19 (Js A 29) [((A 29),(j0 [vi 0 (K 48),vn ((kx R 1)).length (K 58),vn ((kx R 2)).length (K 68),vn ((kx R 3)).length (K 78)] 4))],(((qU R):List Int).sum==((jn D 1 3)).sum)=true]⟩
theorem Wb:GF P 19 101 [rf aR,rf aD,vi 4 az] (fF P) (Wa P R D rt aC SL eR eD aR aD) (hb TQ TR):=Ur
def Wc:RD:=⟨[(aR,(j0 (kj R rt 5) eR)),(aD,(j0 (jS D aC 5) eD))],[wi [7] (vA R 0),wi [7] (vA R 1),wi [7] (vA R 2),wi [7] (vA R 3),wi [7] (vA R 4),wi [16,18] (Jq),wi [14] (uG SL),wi [21] (uG SL),wi [19,22] (Jq),wi ix (Jy P 2 (jn D 1 1)),wi [25] (iE D 1),wi iy Uv,wi iz (iC P R),wi [40] (iD R),wi [29] (j7 1 1 (fI ([0,((((kx R 1)).length:Nat):Int)]:List Int).sum))],mA 2 0 0 (fun a t=> .ok (.ret (.bool true))) (fun a t=>(List.replicate 2 id)) (fun a t=> []),[],[],[],16,fun q qT qS A K=> [vz q 0 A R rt K,vz q 1 A R rt K,vz q 2 A R rt K,vz q 3 A R rt K,vz q 4 A R rt K,qT 5 19 .NotEq (rf (A 16)) (rf (A 18)) [YU A 16 R 1 K 10,((A 18),(j0 [vi (D 1) (aC 1),vi (D 2) (aC 2),vi (D 3) (aC 3),vi (D 4) (aC 4)] 0))],q 6 19 (Jr A 14) [JW A 14 R 0 K 8],q 7 19 (Jr A 21) [((A 21),(j0 [vi (D 0) (aC 0),vi (D 1) (aC 1)] 0))],iB qT 8 A SL K 22,iA q 9 A 1 aD D aC 5 eD,q 10 19 (Js A 25) [((A 25),(kU (jn D 1 1) (kr K 37 7) (j0 [] 0)))],q 11 18 (.compStart JY 0 (rf (A 34)) (rf (A 35)) (J8 A 36)) [J7 A 34 33,((A 35),(j0 [] 0)),ve A 36,vd A,((A 31),(cl (vi 0 (K 48)))),((A 33),(j0 [] 0)),JW A 14 R 0 K 8],q 12 18 (.compStart JY 0 (rf (A 39)) (rf (A 40)) (J8 A 41)) [J7 A 39 38,((A 40),(j0 [] 0)),ve A 41,vd A,((A 31),(cl (vi 1 (K 51)))),((A 38),(j0 [vn (R 0) (K 8)] 0)),JW A 14 R 0 K 8],q 13 18 (yH A 40) [((A 40),(kU (kx R 1) (kr K 53 7) (j0 [] 0)))],q 14 19 (Js A 29) [((A 29),(j0 [vi 0 (K 50),vn ((kx R 1)).length (K 60)] 2))],(([0,((((kx R 1)).length:Nat):Int)]:List Int).sum==((jn D 1 1)).sum)=true]⟩
theorem Wd:GF P 19 101 [rf aR,rf aD,vi 2 az] (fF P) (Wc P R D rt aC SL eR eD aR aD) (hb TS TU):=Ur
def We:RD:=⟨[(aR,(j0 (kj R rt 5) eR)),(aD,(j0 (jS D aC 5) eD))],[wi [7] (vA R 0),wi [7] (vA R 1),wi [7] (vA R 2),wi [7] (vA R 3),wi [7] (vA R 4),wi [16,18] (Jq),wi [14] (uG SL),wi [21] (uG SL),wi [19,22] (Jq),wi ix (Jy P 3 (jn D 1 2)),wi [25] (iE D 2),wi iy Uv,wi iz (iC P R),wi [40] (iD R),wi nI (nK P R),wi [45] (nJ R),wi [29] (j7 1 1 (fI ((qV R):List Int).sum))],mA 2 0 0 (fun a t=> .ok (.ret (.bool true))) (fun a t=>(List.replicate 2 id)) (fun a t=> []),[],[],[],18,fun q qT qS A K=> [vz q 0 A R rt K,vz q 1 A R rt K,vz q 2 A R rt K,vz q 3 A R rt K,vz q 4 A R rt K,qT 5 19 .NotEq (rf (A 16)) (rf (A 18)) [Yz A 16 R 2 K 12,((A 18),(qW D 2 aC))],q 6 19 (Jr A 14) [Yz A 14 R 0 K 8],q 7 19 (Jr A 21) [((A 21),(qW D 0 aC))],iB qT 8 A SL K 22,iA q 9 A 2 aD D aC 5 eD,q 10 19 (Js A 25) [((A 25),(kU (jn D 1 2) (kr K 37 7) (j0 [] 0)))],q 11 18 (.compStart JY 0 (rf (A 34)) (rf (A 35)) (J8 A 36)) [J7 A 34 33,((A 35),(j0 [] 0)),ve A 36,vd A,((A 31),(cl (vi 0 (K 48)))),((A 33),(j0 [] 0)),Yz A 14 R 0 K 8],q 12 18 (.compStart JY 0 (rf (A 39)) (rf (A 40)) (J8 A 41)) [J7 A 39 38,((A 40),(j0 [] 0)),ve A 41,vd A,((A 31),(cl (vi 1 (K 51)))),((A 38),(j0 [vn (R 0) (K 8)] 0)),Yz A 14 R 0 K 8],q 13 18 (yH A 40) [((A 40),(kU (kx R 1) (kr K 53 7) (j0 [] 0)))],q 14 18 (.compStart JY 0 (rf (A 44)) (rf (A 45)) (J8 A 46)) [J7 A 44 43,((A 45),(j0 [] 0)),ve A 46,vd A,((A 31),(cl (vi 2 (K 61)))),JW A 43 R 0 K 8,Yz A 14 R 0 K 8],q 15 18 (yH A 45) [((A 45),(kU (kx R 2) (kr K 63 7) (j0 [] 0)))],q 16 19 (Js A 29) [((A 29),(j0 [vi 0 (K 50),vn ((kx R 1)).length (K 60),vn ((kx R 2)).length (K 70)] 3))],(((qV R):List Int).sum==((jn D 1 2)).sum)=true]⟩
theorem Wf:GF P 19 101 [rf aR,rf aD,vi 3 az] (fF P) (We P R D rt aC SL eR eD aR aD) (hb TV TY):=Ur
def Wg:RD:=⟨[(aR,(j0 (kj R rt 5) eR)),(aD,(j0 (jS D aC 5) eD))],[wi [7] (vA R 0),wi [7] (vA R 1),wi [7] (vA R 2),wi [7] (vA R 3),wi [7] (vA R 4),wi [16,18] (Jq),wi [14] (uG SL),wi [21] (uG SL),wi [19,22] (Jq),wi ix (Jy P 4 (jn D 1 3)),wi [25] (iE D 3),wi iy Uv,wi iz (iC P R),wi [40] (iD R),wi nI (nK P R),wi [45] (nJ R),wi [49,50,51,5,31,48,14] (U2 P 3 (kx R 3) ((fun k=>((R k:Nat):Int)) 2)),wi [50] (j7 1 1 (fI ((((kx R 3)).length:Nat):Int))),wi [29] (j7 1 1 (fI ((qU R):List Int).sum))],mA 2 0 0 (fun a t=> .ok (.ret (.bool true))) (fun a t=>(List.replicate 2 id)) (fun a t=> []),[],[],[],20,fun q qT qS A K=> [vz q 0 A R rt K,vz q 1 A R rt K,vz q 2 A R rt K,vz q 3 A R rt K,vz q 4 A R rt K,qT 5 19 .NotEq (rf (A 16)) (rf (A 18)) [JW A 16 R 3 K 14,((A 18),(j0 [vi (D 3) (aC 3),vi (D 4) (aC 4)] 0))],q 6 19 (Jr A 14) [YU A 14 R 0 K 8],q 7 19 (Jr A 21) [((A 21),(j0 [vi (D 0) (aC 0),vi (D 1) (aC 1),vi (D 2) (aC 2),vi (D 3) (aC 3)] 0))],iB qT 8 A SL K 22,iA q 9 A 3 aD D aC 5 eD,q 10 19 (Js A 25) [((A 25),(kU (jn D 1 3) (kr K 37 7) (j0 [] 0)))],q 11 18 (.compStart JY 0 (rf (A 34)) (rf (A 35)) (J8 A 36)) [J7 A 34 33,((A 35),(j0 [] 0)),ve A 36,vd A,((A 31),(cl (vi 0 (K 48)))),((A 33),(j0 [] 0)),YU A 14 R 0 K 8],q 12 18 (.compStart JY 0 (rf (A 39)) (rf (A 40)) (J8 A 41)) [J7 A 39 38,((A 40),(j0 [] 0)),ve A 41,vd A,((A 31),(cl (vi 1 (K 51)))),((A 38),(j0 [vn (R 0) (K 8)] 0)),YU A 14 R 0 K 8],q 13 18 (yH A 40) [((A 40),(kU (kx R 1) (kr K 53 7) (j0 [] 0)))],q 14 18 (.compStart JY 0 (rf (A 44)) (rf (A 45)) (J8 A 46)) [J7 A 44 43,((A 45),(j0 [] 0)),ve A 46,vd A,((A 31),(cl (vi 2 (K 61)))),JW A 43 R 0 K 8,YU A 14 R 0 K 8],q 15 18 (yH A 45) [((A 45),(kU (kx R 2) (kr K 63 7) (j0 [] 0)))],q 16 18 (.compStart JY 0 (rf (A 49)) (rf (A 50)) (J8 A 51)) [J7 A 49 48,((A 50),(j0 [] 0)),ve A 51,vd A,((A 31),(cl (vi 3 (K 71)))),Yz A 48 R 0 K 8,YU A 14 R 0 K 8],q 17 18 (yH A 50) [((A 50),(kU (kx R 3) (kr K 73 7) (j0 [] 0)))],q 18 19 (Js A 29) [((A 29),(j0 [vi 0 (K 50),vn ((kx R 1)).length (K 60),vn ((kx R 2)).length (K 70),vn ((kx R 3)).length (K 80)] 4))],(((qU R):List Int).sum==((jn D 1 3)).sum)=true]⟩
theorem Wh:GF P 19 101 [rf aR,rf aD,vi 4 az] (fF P) (Wg P R D rt aC SL eR eD aR aD) (hb TZ T5):=Ur
def Wi:RD:=⟨[(aR,(j0 (kj R rt 5) eR)),(aD,(j0 (jS D aC 5) eD))],[wi [7] (vA R 0),wi [7] (vA R 1),wi [7] (vA R 2),wi [7] (vA R 3),wi [7] (vA R 4),wi [16,18] (Jq),wi [14] (uG SL),wi [21] (uG SL),wi [19,22] (Jq),wi ix (Jy P 5 (jn D 1 4)),wi [25] (iE D 4),wi iy Uv,wi iz (iC P R),wi [40] (iD R),wi nI (nK P R),wi [45] (nJ R),wi [49,50,51,5,31,48,14] (U2 P 3 (kx R 3) ((fun k=>((R k:Nat):Int)) 2)),wi [50] (j7 1 1 (fI ((((kx R 3)).length:Nat):Int))),wi [54,55,56,5,31,53,14] (U2 P 4 (kx R 4) ((fun k=>((R k:Nat):Int)) 3)),wi [55] (j7 1 1 (fI ((((kx R 4)).length:Nat):Int))),wi [29] (j7 1 1 (fI ([0,((((kx R 1)).length:Nat):Int),((((kx R 2)).length:Nat):Int),((((kx R 3)).length:Nat):Int),((((kx R 4)).length:Nat):Int)]:List Int).sum))],mA 2 0 0 (fun a t=> .ok (.ret (.bool true))) (fun a t=>(List.replicate 2 id)) (fun a t=> []),[],[],[],22,fun q qT qS A K=> [vz q 0 A R rt K,vz q 1 A R rt K,vz q 2 A R rt K,vz q 3 A R rt K,vz q 4 A R rt K,qT 5 19 .NotEq (rf (A 16)) (rf (A 18)) [((A 16),(j0 [vn (R 4) (K 16)] 0)),((A 18),(j0 [vi (D 4) (aC 4)] 0))],q 6 19 (Jr A 14) [lK A R K],q 7 19 (Jr A 21) [((A 21),(j0 [vi (D 0) (aC 0),vi (D 1) (aC 1),vi (D 2) (aC 2),vi (D 3) (aC 3),vi (D 4) (aC 4)] 0))],iB qT 8 A SL K 22,iA q 9 A 4 aD D aC 5 eD,q 10 19 (Js A 25) [((A 25),(kU (jn D 1 4) (kr K 37 7) (j0 [] 0)))],q 11 18 (.compStart JY 0 (rf (A 34)) (rf (A 35)) (J8 A 36)) [J7 A 34 33,((A 35),(j0 [] 0)),ve A 36,vd A,((A 31),(cl (vi 0 (K 48)))),((A 33),(j0 [] 0)),lK A R K],q 12 18 (.compStart JY 0 (rf (A 39)) (rf (A 40)) (J8 A 41)) [J7 A 39 38,((A 40),(j0 [] 0)),ve A 41,vd A,((A 31),(cl (vi 1 (K 51)))),((A 38),(j0 [vn (R 0) (K 8)] 0)),lK A R K],q 13 18 (yH A 40) [((A 40),(kU (kx R 1) (kr K 53 7) (j0 [] 0)))],q 14 18 (.compStart JY 0 (rf (A 44)) (rf (A 45)) (J8 A 46)) [J7 A 44 43,((A 45),(j0 [] 0)),ve A 46,vd A,((A 31),(cl (vi 2 (K 61)))),JW A 43 R 0 K 8,lK A R K],q 15 18 (yH A 45) [((A 45),(kU (kx R 2) (kr K 63 7) (j0 [] 0)))],q 16 18 (.compStart JY 0 (rf (A 49)) (rf (A 50)) (J8 A 51)) [J7 A 49 48,((A 50),(j0 [] 0)),ve A 51,vd A,((A 31),(cl (vi 3 (K 71)))),Yz A 48 R 0 K 8,lK A R K],q 17 18 (yH A 50) [((A 50),(kU (kx R 3) (kr K 73 7) (j0 [] 0)))],q 18 18 (.compStart JY 0 (rf (A 54)) (rf (A 55)) (J8 A 56)) [J7 A 54 53,((A 55),(j0 [] 0)),ve A 56,vd A,((A 31),(cl (vi 4 (K 81)))),YU A 53 R 0 K 8,lK A R K],q 19 18 (yH A 55) [((A 55),(kU (kx R 4) (kr K 83 7) (j0 [] 0)))],q 20 19 (Js A 29) [((A 29),(j0 [vi 0 (K 50),vn ((kx R 1)).length (K 60),vn ((kx R 2)).length (K 70),vn ((kx R 3)).length (K 80),vn ((kx R 4)).length (K 90)] 5))],(([0,((((kx R 1)).length:Nat):Int),((((kx R 2)).length:Nat):Int),((((kx R 3)).length:Nat):Int),((((kx R 4)).length:Nat):Int)]:List Int).sum==((jn D 1 4)).sum)=true]⟩
theorem Wj:GF P 19 101 [rf aR,rf aD,vi 5 az] (fF P) (Wi P R D rt aC SL eR eD aR aD) (hb T6 T7):=Ur
end
theorem uI {W:World} {kt:KT} {an:jZ} {d:Nat} (hd:7≤d) {a b:Addr} {xs ys:List Value} {e1 e2:Nat} (hr:an.res [] []= .ok (.ret (.bool false))) (hx:xs.all jP=true) (hy:ys.all jP=true) (h:xs.map vD=ys.map vD):
  YD pw W kt an d .NotEq (.ref a) (.ref b) [some (a,j0 xs e1),some (b,j0 ys e2)]:=by
 intro A Q E s S Z hQ
 have h1:=Z.own _ (.head _)
 have h2:=Z.own _ (.tail _ (.head _))
 refine ne_dataH (da:= .list (xs.map vD)) (db:= .list (ys.map vD)) (Reads.list h1 rfl rfl (kR hx)) (Reads.list h2 rfl rfl (kR hy)) (yy hx) (yy hy) (UR S hd) ?_
 rw [h,PySem.SeqAt.eqv_refl _ (PySem.SeqAt.canLay_of_shaped (yy hy))]
 exact hQ false hr
noncomputable def Wk (x:Str):Value→Bool
 | .str y _=>y.cps.toList==x.cps.toList
 |_=>false
theorem u4 {W:World} {kt:KT} {d:Nat} {l:Addr} {e:Nat} {t:Tok} (t0 t1 t2 t3 t4:Tok) (r:Nat) (hr:r<5):
  j6 pw W kt (j7 1 1 fun ts=> .int ((r:Nat):Int) (ts.getD 0 0)) d (.call (.builtin "list.index") ⟨[.ref l,.str (jb r) t],[]⟩) [some (l,j0 [.str (jb 0) t0,.str (jb 1) t1,.str (jb 2) t2,.str (jb 3) t3,.str (jb 4) t4] e)]:=by
 refine xm (xs:= [.str (jb 0) t0,.str (jb 1) t1,.str (jb 2) t2,.str (jb 3) t3,.str (jb 4) t4].toArray) (n:=e) (Wk (jb r)) (fun y hy=> ?_) r (by simpa using hr) (by lia) ?_ (fun m hm Cw=> ?_)
 ·have m8:y= .str (jb 0) t0∨y= .str (jb 1) t1∨y= .str (jb 2) t2∨y= .str (jb 3) t3∨y= .str (jb 4) t4:=by simpa using hy
  rcases m8 with rfl|rfl|rfl|rfl|rfl<;>exact PySem.SeqRoads2.EqGives.str _ _ _ _
 ·rcases r with _|_|_|_|_|r<;>first|rfl|lia
 ·have Xk:m<5:=by simpa using hm
  rcases r with _|_|_|_|_|r<;>rcases m with _|_|_|_|_|m<;>first|lia|rfl
theorem wa: ∀(l:List Int) (ts:List Tok),IntsAre (jQ l ts) l
 | [],_=> .nil
 |i::l,ts=> .cons _ _ (wa l ts.tail)
theorem yT (l:List Int) (ts:List Tok):IntsAre ([]++jQ l ts) l:=wa l ts
theorem kP: ∀(l:List Int) (ts:List Tok),(jQ l ts).all jP=true
 | [],_=>rfl
 |i::l,ts=>by simp [jQ,jP,kP l]
theorem uJ: ∀(l:List Int) (ts:List Tok),(jQ l ts).map vD=l.map .int
 | [],_=>rfl
 |i::l,ts=>by simp [jQ,vD,uJ l]
noncomputable def uU (m:Nat):jZ:={ids:=List.range m,na:=0,nt:=0,res:=fun _ _=> .ok (.ret (.bool true)),upd:=fun _ _=>List.replicate m id,new:=fun _ _=> []}
noncomputable def qR (R:Nat→Nat) (k:Nat):Int:=((R k:Nat):Int)
structure gS (R:Nat→Nat) (D:Nat→Int) (n size:Nat):Prop where
 hR: ∀k,R k<5
 eq: ∀k,size≤k+1→k<n→qR R k=D k
 perm:((List.range size).map D).Perm ((List.range size).map (qR R))
 sum:((List.range size).map fun j=>((vZ (qR R) j 0 j).length:Int)).sum=(jn D 1 (size-1)).sum
theorem Uk (l:List Int): ∃SL:List Int,SL.Perm l∧SL.Pairwise (· ≤ ·):=⟨l.mergeSort,List.mergeSort_perm _ _,by
 have:=List.pairwise_mergeSort (le:=fun (a b:Int)=>decide (a≤b)) (fun a b c h1 h2=>by simp at*;exact Int.le_trans h1 h2) (fun a b=>by simp;lia) l
 exact this.imp (fun h=>by simpa using h)⟩
theorem Wl (W:World) (R:Nat→Nat) (D:Nat→Int) (rt aC:Nat→Tok) (eR eD:Nat) (aR aD:Addr) (az:Tok) (H:gS R D 4 2):j6 pw W (jB W.params) (uU 2) 20 (.call (.ref 101) ⟨[.ref aR,.ref aD,.int 2 az],[]⟩) ([(aR,j0 (kj R rt 4) eR),(aD,j0 (jS D aC 4) eD)].map some):=by
 obtain ⟨SL,p1,p2⟩:=Uk ((List.range 2).map D)
 exact uM (w:=W) (T9 W.params R D rt aC SL eR eD aR aD az) (.inl (Vx _)) (by
  intro A K
  walk_at "ob"
  ·exact u4 _ _ _ _ _ (R 0) (H.hR 0)
  ·exact u4 _ _ _ _ _ (R 1) (H.hR 1)
  ·exact u4 _ _ _ _ _ (R 2) (H.hR 2)
  ·exact u4 _ _ _ _ _ (R 3) (H.hR 3)
  ·exact uI (by decide) rfl rfl rfl (by show [PyData.int (qR R 1),PyData.int (qR R 2),PyData.int (qR R 3)]=_;rw [H.eq 1 (by decide) (by decide),H.eq 2 (by decide) (by decide),H.eq 3 (by decide) (by decide)];rfl)
  ·exact kC (um (qR R) (uY [K 8,K 10,K 12,K 14]) 2) (show 2≤5 by decide) (p1.trans H.perm) p2
  ·exact kC (um D aC 2) (show 2≤5 by decide) p1 p2
  ·exact uI (by decide) rfl (kP _ _) (kP _ _) ((uJ _ _).trans (uJ _ _).symm)
  ·exact fun _ hz=>iw W D aC 4 (by decide) _ _ _ _ _ _ _ 0 (by decide) _ (dl hz)
  ·rw [jI];exact uV (yT _ _)
  ·exact fun _ hz=>Uc W (qR R) (uY [K 8,K 10,K 12,K 14]) _ 0 _ _ _ _ _ _ _ _ _ _ _ _ (dl hz)
  ·exact fun _ hz=>yG W (qR R) (uY [K 8,K 10,K 12,K 14]) (uY [K 8,K 10,K 12,K 14]) 1 2 1 (by decide) (by decide) (by decide) _ _ _ _ _ _ _ _ _ _ _ 0 rfl _ (dl hz)
  ·rw [jI];exact j6.at (jG (by rw [List.nil_append,js];exact jc (u2 _ _ _ _) (by decide)) (by rw [List.nil_append,js])) (Nat.le_refl _) rfl rfl
  ·exact uV (ns:= [0,((vZ (qR R) 1 0 1).length:Int)]) (by repeat' (first|exact .nil|refine .cons _ _ ?_))
  ·exact beq_iff_eq.mpr H.sum
  )
theorem Wm (W:World) (R:Nat→Nat) (D:Nat→Int) (rt aC:Nat→Tok) (eR eD:Nat) (aR aD:Addr) (az:Tok) (H:gS R D 4 3):j6 pw W (jB W.params) (uU 2) 20 (.call (.ref 101) ⟨[.ref aR,.ref aD,.int 3 az],[]⟩) ([(aR,j0 (kj R rt 4) eR),(aD,j0 (jS D aC 4) eD)].map some):=by
 obtain ⟨SL,p1,p2⟩:=Uk ((List.range 3).map D)
 exact uM (w:=W) (V' W.params R D rt aC SL eR eD aR aD az) (.inl (Vx _)) (by
  intro A K
  walk_at "ob"
  ·exact u4 _ _ _ _ _ (R 0) (H.hR 0)
  ·exact u4 _ _ _ _ _ (R 1) (H.hR 1)
  ·exact u4 _ _ _ _ _ (R 2) (H.hR 2)
  ·exact u4 _ _ _ _ _ (R 3) (H.hR 3)
  ·exact uI (by decide) rfl rfl rfl (by show [PyData.int (qR R 2),PyData.int (qR R 3)]=_;rw [H.eq 2 (by decide) (by decide),H.eq 3 (by decide) (by decide)];rfl)
  ·exact kC (um (qR R) (uY [K 8,K 10,K 12,K 14]) 3) (show 3≤5 by decide) (p1.trans H.perm) p2
  ·exact kC (um D aC 3) (show 3≤5 by decide) p1 p2
  ·exact uI (by decide) rfl (kP _ _) (kP _ _) ((uJ _ _).trans (uJ _ _).symm)
  ·exact fun _ hz=>iw W D aC 4 (by decide) _ _ _ _ _ _ _ 1 (by decide) _ (dl hz)
  ·rw [jI];exact uV (yT _ _)
  ·exact fun _ hz=>Uc W (qR R) (uY [K 8,K 10,K 12,K 14]) _ 0 _ _ _ _ _ _ _ _ _ _ _ _ (dl hz)
  ·exact fun _ hz=>yG W (qR R) (uY [K 8,K 10,K 12,K 14]) (uY [K 8,K 10,K 12,K 14]) 1 3 1 (by decide) (by decide) (by decide) _ _ _ _ _ _ _ _ _ _ _ 0 rfl _ (dl hz)
  ·rw [jI];exact j6.at (jG (by rw [List.nil_append,js];exact jc (u2 _ _ _ _) (by decide)) (by rw [List.nil_append,js])) (Nat.le_refl _) rfl rfl
  ·exact fun _ hz=>yG W (qR R) (uY [K 8,K 10,K 12,K 14]) (uY [K 8,K 10,K 12,K 14]) 2 3 2 (by decide) (by decide) (by decide) _ _ _ _ _ _ _ _ _ _ _ 1 rfl _ (dl hz)
  ·rw [jI];exact j6.at (jG (by rw [List.nil_append,js];exact jc (u2 _ _ _ _) (by decide)) (by rw [List.nil_append,js])) (Nat.le_refl _) rfl rfl
  ·exact uV (ns:= [0,((vZ (qR R) 1 0 1).length:Int),((vZ (qR R) 2 0 2).length:Int)]) (by repeat' (first|exact .nil|refine .cons _ _ ?_))
  ·exact beq_iff_eq.mpr H.sum
  )
theorem Wn (W:World) (R:Nat→Nat) (D:Nat→Int) (rt aC:Nat→Tok) (eR eD:Nat) (aR aD:Addr) (az:Tok) (H:gS R D 4 4):j6 pw W (jB W.params) (uU 2) 20 (.call (.ref 101) ⟨[.ref aR,.ref aD,.int 4 az],[]⟩) ([(aR,j0 (kj R rt 4) eR),(aD,j0 (jS D aC 4) eD)].map some):=by
 obtain ⟨SL,p1,p2⟩:=Uk ((List.range 4).map D)
 exact uM (w:=W) (Wb W.params R D rt aC SL eR eD aR aD az) (.inl (Vx _)) (by
  intro A K
  walk_at "ob"
  ·exact u4 _ _ _ _ _ (R 0) (H.hR 0)
  ·exact u4 _ _ _ _ _ (R 1) (H.hR 1)
  ·exact u4 _ _ _ _ _ (R 2) (H.hR 2)
  ·exact u4 _ _ _ _ _ (R 3) (H.hR 3)
  ·exact uI (by decide) rfl rfl rfl (by show [PyData.int (qR R 3)]=_;rw [H.eq 3 (by decide) (by decide)];rfl)
  ·exact kC (um (qR R) (uY [K 8,K 10,K 12,K 14]) 4) (show 4≤5 by decide) (p1.trans H.perm) p2
  ·exact kC (um D aC 4) (show 4≤5 by decide) p1 p2
  ·exact uI (by decide) rfl (kP _ _) (kP _ _) ((uJ _ _).trans (uJ _ _).symm)
  ·exact fun _ hz=>iw W D aC 4 (by decide) _ _ _ _ _ _ _ 2 (by decide) _ (dl hz)
  ·rw [jI];exact uV (yT _ _)
  ·exact fun _ hz=>Uc W (qR R) (uY [K 8,K 10,K 12,K 14]) _ 0 _ _ _ _ _ _ _ _ _ _ _ _ (dl hz)
  ·exact fun _ hz=>yG W (qR R) (uY [K 8,K 10,K 12,K 14]) (uY [K 8,K 10,K 12,K 14]) 1 4 1 (by decide) (by decide) (by decide) _ _ _ _ _ _ _ _ _ _ _ 0 rfl _ (dl hz)
  ·rw [jI];exact j6.at (jG (by rw [List.nil_append,js];exact jc (u2 _ _ _ _) (by decide)) (by rw [List.nil_append,js])) (Nat.le_refl _) rfl rfl
  ·exact fun _ hz=>yG W (qR R) (uY [K 8,K 10,K 12,K 14]) (uY [K 8,K 10,K 12,K 14]) 2 4 2 (by decide) (by decide) (by decide) _ _ _ _ _ _ _ _ _ _ _ 1 rfl _ (dl hz)
  ·rw [jI];exact j6.at (jG (by rw [List.nil_append,js];exact jc (u2 _ _ _ _) (by decide)) (by rw [List.nil_append,js])) (Nat.le_refl _) rfl rfl
  ·exact fun _ hz=>yG W (qR R) (uY [K 8,K 10,K 12,K 14]) (uY [K 8,K 10,K 12,K 14]) 3 4 3 (by decide) (by decide) (by decide) _ _ _ _ _ _ _ _ _ _ _ 2 rfl _ (dl hz)
  ·rw [jI];exact j6.at (jG (by rw [List.nil_append,js];exact jc (u2 _ _ _ _) (by decide)) (by rw [List.nil_append,js])) (Nat.le_refl _) rfl rfl
  ·exact uV (ns:= [0,((vZ (qR R) 1 0 1).length:Int),((vZ (qR R) 2 0 2).length:Int),((vZ (qR R) 3 0 3).length:Int)]) (by repeat' (first|exact .nil|refine .cons _ _ ?_))
  ·exact beq_iff_eq.mpr H.sum
  )
theorem Wo (W:World) (R:Nat→Nat) (D:Nat→Int) (rt aC:Nat→Tok) (eR eD:Nat) (aR aD:Addr) (az:Tok) (H:gS R D 5 2):j6 pw W (jB W.params) (uU 2) 20 (.call (.ref 101) ⟨[.ref aR,.ref aD,.int 2 az],[]⟩) ([(aR,j0 (kj R rt 5) eR),(aD,j0 (jS D aC 5) eD)].map some):=by
 obtain ⟨SL,p1,p2⟩:=Uk ((List.range 2).map D)
 exact uM (w:=W) (Wd W.params R D rt aC SL eR eD aR aD az) (.inl (Vx _)) (by
  intro A K
  walk_at "ob"
  ·exact u4 _ _ _ _ _ (R 0) (H.hR 0)
  ·exact u4 _ _ _ _ _ (R 1) (H.hR 1)
  ·exact u4 _ _ _ _ _ (R 2) (H.hR 2)
  ·exact u4 _ _ _ _ _ (R 3) (H.hR 3)
  ·exact u4 _ _ _ _ _ (R 4) (H.hR 4)
  ·exact uI (by decide) rfl rfl rfl (by show [PyData.int (qR R 1),PyData.int (qR R 2),PyData.int (qR R 3),PyData.int (qR R 4)]=_;rw [H.eq 1 (by decide) (by decide),H.eq 2 (by decide) (by decide),H.eq 3 (by decide) (by decide),H.eq 4 (by decide) (by decide)];rfl)
  ·exact kC (um (qR R) (uY [K 8,K 10,K 12,K 14,K 16]) 2) (show 2≤5 by decide) (p1.trans H.perm) p2
  ·exact kC (um D aC 2) (show 2≤5 by decide) p1 p2
  ·exact uI (by decide) rfl (kP _ _) (kP _ _) ((uJ _ _).trans (uJ _ _).symm)
  ·exact fun _ hz=>iw W D aC 5 (by decide) _ _ _ _ _ _ _ 0 (by decide) _ (dl hz)
  ·rw [jI];exact uV (yT _ _)
  ·exact fun _ hz=>Uc W (qR R) (uY [K 8,K 10,K 12,K 14,K 16]) _ 0 _ _ _ _ _ _ _ _ _ _ _ _ (dl hz)
  ·exact fun _ hz=>yG W (qR R) (uY [K 8,K 10,K 12,K 14,K 16]) (uY [K 8,K 10,K 12,K 14,K 16]) 1 2 1 (by decide) (by decide) (by decide) _ _ _ _ _ _ _ _ _ _ _ 0 rfl _ (dl hz)
  ·rw [jI];exact j6.at (jG (by rw [List.nil_append,js];exact jc (u2 _ _ _ _) (by decide)) (by rw [List.nil_append,js])) (Nat.le_refl _) rfl rfl
  ·exact uV (ns:= [0,((vZ (qR R) 1 0 1).length:Int)]) (by repeat' (first|exact .nil|refine .cons _ _ ?_))
  ·exact beq_iff_eq.mpr H.sum
  )
theorem Wq (W:World) (R:Nat→Nat) (D:Nat→Int) (rt aC:Nat→Tok) (eR eD:Nat) (aR aD:Addr) (az:Tok) (H:gS R D 5 3):j6 pw W (jB W.params) (uU 2) 20 (.call (.ref 101) ⟨[.ref aR,.ref aD,.int 3 az],[]⟩) ([(aR,j0 (kj R rt 5) eR),(aD,j0 (jS D aC 5) eD)].map some):=by
 obtain ⟨SL,p1,p2⟩:=Uk ((List.range 3).map D)
 exact uM (w:=W) (Wf W.params R D rt aC SL eR eD aR aD az) (.inl (Vx _)) (by
  intro A K
  walk_at "ob"
  ·exact u4 _ _ _ _ _ (R 0) (H.hR 0)
  ·exact u4 _ _ _ _ _ (R 1) (H.hR 1)
  ·exact u4 _ _ _ _ _ (R 2) (H.hR 2)
  ·exact u4 _ _ _ _ _ (R 3) (H.hR 3)
  ·exact u4 _ _ _ _ _ (R 4) (H.hR 4)
  ·exact uI (by decide) rfl rfl rfl (by show [PyData.int (qR R 2),PyData.int (qR R 3),PyData.int (qR R 4)]=_;rw [H.eq 2 (by decide) (by decide),H.eq 3 (by decide) (by decide),H.eq 4 (by decide) (by decide)];rfl)
  ·exact kC (um (qR R) (uY [K 8,K 10,K 12,K 14,K 16]) 3) (show 3≤5 by decide) (p1.trans H.perm) p2
  ·exact kC (um D aC 3) (show 3≤5 by decide) p1 p2
  ·exact uI (by decide) rfl (kP _ _) (kP _ _) ((uJ _ _).trans (uJ _ _).symm)
  ·exact fun _ hz=>iw W D aC 5 (by decide) _ _ _ _ _ _ _ 1 (by decide) _ (dl hz)
  ·rw [jI];exact uV (yT _ _)
  ·exact fun _ hz=>Uc W (qR R) (uY [K 8,K 10,K 12,K 14,K 16]) _ 0 _ _ _ _ _ _ _ _ _ _ _ _ (dl hz)
  ·exact fun _ hz=>yG W (qR R) (uY [K 8,K 10,K 12,K 14,K 16]) (uY [K 8,K 10,K 12,K 14,K 16]) 1 3 1 (by decide) (by decide) (by decide) _ _ _ _ _ _ _ _ _ _ _ 0 rfl _ (dl hz)
  ·rw [jI];exact j6.at (jG (by rw [List.nil_append,js];exact jc (u2 _ _ _ _) (by decide)) (by rw [List.nil_append,js])) (Nat.le_refl _) rfl rfl
  ·exact fun _ hz=>yG W (qR R) (uY [K 8,K 10,K 12,K 14,K 16]) (uY [K 8,K 10,K 12,K 14,K 16]) 2 3 2 (by decide) (by decide) (by decide) _ _ _ _ _ _ _ _ _ _ _ 1 rfl _ (dl hz)
  ·rw [jI];exact j6.at (jG (by rw [List.nil_append,js];exact jc (u2 _ _ _ _) (by decide)) (by rw [List.nil_append,js])) (Nat.le_refl _) rfl rfl
  ·exact uV (ns:= [0,((vZ (qR R) 1 0 1).length:Int),((vZ (qR R) 2 0 2).length:Int)]) (by repeat' (first|exact .nil|refine .cons _ _ ?_))
  ·exact beq_iff_eq.mpr H.sum
  )
theorem Wr (W:World) (R:Nat→Nat) (D:Nat→Int) (rt aC:Nat→Tok) (eR eD:Nat) (aR aD:Addr) (az:Tok) (H:gS R D 5 4):j6 pw W (jB W.params) (uU 2) 20 (.call (.ref 101) ⟨[.ref aR,.ref aD,.int 4 az],[]⟩) ([(aR,j0 (kj R rt 5) eR),(aD,j0 (jS D aC 5) eD)].map some):=by
 obtain ⟨SL,p1,p2⟩:=Uk ((List.range 4).map D)
 exact uM (w:=W) (Wh W.params R D rt aC SL eR eD aR aD az) (.inl (Vx _)) (by
  intro A K
  walk_at "ob"
  ·exact u4 _ _ _ _ _ (R 0) (H.hR 0)
  ·exact u4 _ _ _ _ _ (R 1) (H.hR 1)
  ·exact u4 _ _ _ _ _ (R 2) (H.hR 2)
  ·exact u4 _ _ _ _ _ (R 3) (H.hR 3)
  ·exact u4 _ _ _ _ _ (R 4) (H.hR 4)
  ·exact uI (by decide) rfl rfl rfl (by show [PyData.int (qR R 3),PyData.int (qR R 4)]=_;rw [H.eq 3 (by decide) (by decide),H.eq 4 (by decide) (by decide)];rfl)
  ·exact kC (um (qR R) (uY [K 8,K 10,K 12,K 14,K 16]) 4) (show 4≤5 by decide) (p1.trans H.perm) p2
  ·exact kC (um D aC 4) (show 4≤5 by decide) p1 p2
  ·exact uI (by decide) rfl (kP _ _) (kP _ _) ((uJ _ _).trans (uJ _ _).symm)
  ·exact fun _ hz=>iw W D aC 5 (by decide) _ _ _ _ _ _ _ 2 (by decide) _ (dl hz)
  ·rw [jI];exact uV (yT _ _)
  ·exact fun _ hz=>Uc W (qR R) (uY [K 8,K 10,K 12,K 14,K 16]) _ 0 _ _ _ _ _ _ _ _ _ _ _ _ (dl hz)
  ·exact fun _ hz=>yG W (qR R) (uY [K 8,K 10,K 12,K 14,K 16]) (uY [K 8,K 10,K 12,K 14,K 16]) 1 4 1 (by decide) (by decide) (by decide) _ _ _ _ _ _ _ _ _ _ _ 0 rfl _ (dl hz)
  ·rw [jI];exact j6.at (jG (by rw [List.nil_append,js];exact jc (u2 _ _ _ _) (by decide)) (by rw [List.nil_append,js])) (Nat.le_refl _) rfl rfl
  ·exact fun _ hz=>yG W (qR R) (uY [K 8,K 10,K 12,K 14,K 16]) (uY [K 8,K 10,K 12,K 14,K 16]) 2 4 2 (by decide) (by decide) (by decide) _ _ _ _ _ _ _ _ _ _ _ 1 rfl _ (dl hz)
  ·rw [jI];exact j6.at (jG (by rw [List.nil_append,js];exact jc (u2 _ _ _ _) (by decide)) (by rw [List.nil_append,js])) (Nat.le_refl _) rfl rfl
  ·exact fun _ hz=>yG W (qR R) (uY [K 8,K 10,K 12,K 14,K 16]) (uY [K 8,K 10,K 12,K 14,K 16]) 3 4 3 (by decide) (by decide) (by decide) _ _ _ _ _ _ _ _ _ _ _ 2 rfl _ (dl hz)
  ·rw [jI];exact j6.at (jG (by rw [List.nil_append,js];exact jc (u2 _ _ _ _) (by decide)) (by rw [List.nil_append,js])) (Nat.le_refl _) rfl rfl
  ·exact uV (ns:= [0,((vZ (qR R) 1 0 1).length:Int),((vZ (qR R) 2 0 2).length:Int),((vZ (qR R) 3 0 3).length:Int)]) (by repeat' (first|exact .nil|refine .cons _ _ ?_))
  ·exact beq_iff_eq.mpr H.sum
  )
theorem Ws (W:World) (R:Nat→Nat) (D:Nat→Int) (rt aC:Nat→Tok) (eR eD:Nat) (aR aD:Addr) (az:Tok) (H:gS R D 5 5):j6 pw W (jB W.params) (uU 2) 20 (.call (.ref 101) ⟨[.ref aR,.ref aD,.int 5 az],[]⟩) ([(aR,j0 (kj R rt 5) eR),(aD,j0 (jS D aC 5) eD)].map some):=by
 obtain ⟨SL,p1,p2⟩:=Uk ((List.range 5).map D)
 exact uM (w:=W) (Wj W.params R D rt aC SL eR eD aR aD az) (.inl (Vx _)) (by
  intro A K
  walk_at "ob"
  ·exact u4 _ _ _ _ _ (R 0) (H.hR 0)
  ·exact u4 _ _ _ _ _ (R 1) (H.hR 1)
  ·exact u4 _ _ _ _ _ (R 2) (H.hR 2)
  ·exact u4 _ _ _ _ _ (R 3) (H.hR 3)
  ·exact u4 _ _ _ _ _ (R 4) (H.hR 4)
  ·exact uI (by decide) rfl rfl rfl (by show [PyData.int (qR R 4)]=_;rw [H.eq 4 (by decide) (by decide)];rfl)
  ·exact kC (um (qR R) (uY [K 8,K 10,K 12,K 14,K 16]) 5) (show 5≤5 by decide) (p1.trans H.perm) p2
  ·exact kC (um D aC 5) (show 5≤5 by decide) p1 p2
  ·exact uI (by decide) rfl (kP _ _) (kP _ _) ((uJ _ _).trans (uJ _ _).symm)
  ·exact fun _ hz=>iw W D aC 5 (by decide) _ _ _ _ _ _ _ 3 (by decide) _ (dl hz)
  ·rw [jI];exact uV (yT _ _)
  ·exact fun _ hz=>Uc W (qR R) (uY [K 8,K 10,K 12,K 14,K 16]) _ 0 _ _ _ _ _ _ _ _ _ _ _ _ (dl hz)
  ·exact fun _ hz=>yG W (qR R) (uY [K 8,K 10,K 12,K 14,K 16]) (uY [K 8,K 10,K 12,K 14,K 16]) 1 5 1 (by decide) (by decide) (by decide) _ _ _ _ _ _ _ _ _ _ _ 0 rfl _ (dl hz)
  ·rw [jI];exact j6.at (jG (by rw [List.nil_append,js];exact jc (u2 _ _ _ _) (by decide)) (by rw [List.nil_append,js])) (Nat.le_refl _) rfl rfl
  ·exact fun _ hz=>yG W (qR R) (uY [K 8,K 10,K 12,K 14,K 16]) (uY [K 8,K 10,K 12,K 14,K 16]) 2 5 2 (by decide) (by decide) (by decide) _ _ _ _ _ _ _ _ _ _ _ 1 rfl _ (dl hz)
  ·rw [jI];exact j6.at (jG (by rw [List.nil_append,js];exact jc (u2 _ _ _ _) (by decide)) (by rw [List.nil_append,js])) (Nat.le_refl _) rfl rfl
  ·exact fun _ hz=>yG W (qR R) (uY [K 8,K 10,K 12,K 14,K 16]) (uY [K 8,K 10,K 12,K 14,K 16]) 3 5 3 (by decide) (by decide) (by decide) _ _ _ _ _ _ _ _ _ _ _ 2 rfl _ (dl hz)
  ·rw [jI];exact j6.at (jG (by rw [List.nil_append,js];exact jc (u2 _ _ _ _) (by decide)) (by rw [List.nil_append,js])) (Nat.le_refl _) rfl rfl
  ·exact fun _ hz=>yG W (qR R) (uY [K 8,K 10,K 12,K 14,K 16]) (uY [K 8,K 10,K 12,K 14,K 16]) 4 5 4 (by decide) (by decide) (by decide) _ _ _ _ _ _ _ _ _ _ _ 3 rfl _ (dl hz)
  ·rw [jI];exact j6.at (jG (by rw [List.nil_append,js];exact jc (u2 _ _ _ _) (by decide)) (by rw [List.nil_append,js])) (Nat.le_refl _) rfl rfl
  ·exact uV (ns:= [0,((vZ (qR R) 1 0 1).length:Int),((vZ (qR R) 2 0 2).length:Int),((vZ (qR R) 3 0 3).length:Int),((vZ (qR R) 4 0 4).length:Int)]) (by repeat' (first|exact .nil|refine .cons _ _ ?_))
  ·exact beq_iff_eq.mpr H.sum
  )
noncomputable def jE (L:List Nat) (k:Nat):Nat:=L.getD k 0
def cB (L:List Nat) (ah:Bool) (size k:Nat):Bool:=Nat.ble (jE L k) (jE L (size-1))==ah
def cY (s:Nat) (L:List Nat):List Nat:=vx L (cB L (Nat.ble (jE L (s-2)) (jE L (s-1))) s) s
def fR (s:Nat) (L:List Nat):List Nat:=u1 L (cB L (Nat.ble (jE L 0) (jE L (s-1))) s) (s-1)
noncomputable def YS (a b:Nat):Nat:=if Nat.ble a b then 0 else 1
noncomputable def fy (L:List Nat) (j:Nat):Nat→Nat
 |0=>0
 |i+1=>YS (jE L i) (jE L j)+fy L j i
noncomputable def eZ (L:List Nat):Nat→Nat
 |0=>0
 |j+1=>eZ L j+fy L j j
theorem wc {a b:Nat} (h:Nat.ble a b=true):YS a b=0:=by unfold YS;rw [if_pos h]
theorem DI {a b:Nat} (h:Nat.ble a b=false):YS a b=1:=by unfold YS;rw [h];rfl
theorem DJ {a b x:Nat} (h:Nat.ble a x=true) (h2:Nat.ble b x=false):YS a b=0∧YS b a=1:=by
 have h1:=Nat.le_of_ble_eq_true h
 have h3: ¬b≤x:=fun q=>by rw [Nat.ble_eq_true_of_le q] at h2;cases h2
 refine ⟨wc (Nat.ble_eq_true_of_le (by lia)),DI ?_⟩
 cases q:Nat.ble b a
 ·rfl
 ·have:=Nat.le_of_ble_eq_true q;lia
theorem Wt (a:Nat):Nat.ble a a=true:=Nat.ble_eq_true_of_le (Nat.le_refl a)
structure Wu (s:Nat) (L:List Nat):Prop where
 back:fR s (cY s L)=L
 tail:(cY s L).drop (s-1)=L.drop (s-1)
 perm:(cY s L).take s |>.Perm (L.take s)
 inv:eZ (cY s L) s=eZ L (s-1)+cond (Nat.ble (jE L (s-2)) (jE L (s-1))) 0 (s-1)
theorem vL {C D:Nat→Bool}: ∀{c:Nat},(∀k,k<c→C k=D k)→kS C c=kS D c
 |0,_=>rfl
 |c+1,h=>by
  unfold kS
  rw [h c (Nat.lt_succ_self c),vL fun k hk=>h k (gU hk)]
theorem Wv {C:Nat→Bool} {w:Nat}:kW C w≤w:=by
 unfold kW
 cases e:kS C w with
 |none=>exact Nat.zero_le _
 |some v=>exact (ui e).1
theorem DM {α:Type} (row:List α) {C D:Nat→Bool}: ∀f {c:Nat},(∀k,k<c→C k=D k)→d9 row C f c=d9 row D f c
 |0,_,_=>rfl
 |f+1,c,h=>by
  cases e:kS C c with
  |none=>rw [Vg row e,Vg row ((vL h).symm.trans e)]
  |some w=>
   have hw:=(ui e).1
   have hp:kW C w=kW D w:=by unfold kW;rw [vL fun k hk=>h k (dW hk hw)]
   rw [vU row e,vU row ((vL h).symm.trans e),←hp,DM row f fun k hk=>h k (uC hk (jc Wv (jH hw)))]
theorem DN {α:Type} (row:List α) {C D:Nat→Bool}: ∀f {c:Nat},(∀k,k<c→C k=D k)→eA row C f c=eA row D f c
 |0,_,_=>rfl
 |f+1,c,h=>by
  cases e:kS C c with
  |none=>rw [JE row e,JE row ((vL h).symm.trans e)]
  |some w=>
   have hw:=(ui e).1
   rw [uK row e,uK row ((vL h).symm.trans e),DN row f fun k hk=>h k (dW hk hw)]
theorem Ww {α:Type} (row:List α) {C D:Nat→Bool} {c:Nat} (h: ∀k,k<c→C k=D k):vx row C c=vx row D c:=by
 unfold vx;rw [vL h,DM row 5 h]
theorem Wx {α:Type} (row:List α) {C D:Nat→Bool} {c:Nat} (h: ∀k,k<c→C k=D k):u1 row C c=u1 row D c:=by
 unfold u1;rw [DN row 4 h]
noncomputable def nL (j:Nat):Nat→List (Nat×Nat)
 |0=> []
 |i+1=>(i,j)::nL j i
noncomputable def fz:Nat→List (Nat×Nat)
 |0=> []
 |j+1=>fz j++nL j j
noncomputable def JM (G:Nat→Nat→Nat):List (Nat×Nat)→Nat
 | []=>0
 |p::l=>G p.1 p.2+JM G l
theorem DP (G:Nat→Nat→Nat): ∀l m,JM G (l++m)=JM G l+JM G m
 | [],m=>by simp [JM]
 |p::l,m=>by simp [JM,DP G l m,Nat.add_assoc]
theorem Wy {G:Nat→Nat→Nat} {l m:List (Nat×Nat)} (h:l.Perm m):JM G l=JM G m:=by
 induction h with
 |nil=>rfl
 |cons x _ ih=>simp [JM,ih]
 |swap x y l=>simp [JM,Nat.add_left_comm]
 |trans _ _ a b=>exact a.trans b
theorem DQ (L:List Nat) (j:Nat): ∀i,fy L j i=JM (fun i j=>YS (jE L i) (jE L j)) (nL j i)
 |0=>rfl
 |i+1=>by simp [fy,nL,JM,DQ L j i]
theorem wd (L:List Nat): ∀s,eZ L s=JM (fun i j=>YS (jE L i) (jE L j)) (fz s)
 |0=>rfl
 |j+1=>by simp [eZ,fz,DP,wd L j,DQ]
theorem we (j:Nat): ∀i,∀p∈nL j i,p.1<i∧p.2=j
 |0,p,h=>by cases h
 |i+1,p,h=>by
  rcases List.mem_cons.mp h with rfl|h
  ·exact ⟨Nat.lt_succ_self i,rfl⟩
  ·exact ⟨gU (we j i p h).1,(we j i p h).2⟩
theorem nM: ∀s,∀p∈fz s,p.1<s∧p.2<s
 |0,p,h=>by cases h
 |j+1,p,h=>by
  rcases List.mem_append.mp h with h|h
  ·exact ⟨gU (nM j p h).1,gU (nM j p h).2⟩
  ·have:=we j j p h
   exact ⟨gU this.1,this.2▸Nat.lt_succ_self j⟩
noncomputable def nN (b:Nat→Bool) (s:Nat) (p:Nat×Nat):Option Nat:=match b p.1,b p.2 with
 |true,false=>some 0
 |false,true=>some 1
 |true,true=>if p.2=s-1 then some 0 else none
 |false,false=>none
noncomputable def e6 (b:Nat→Bool) (s:Nat):List (Nat×Nat)→Nat×List (Nat×Nat)
 | []=>(0,[])
 |p::l=>match nN b s p with
  |some v=>(v+(e6 b s l).1,(e6 b s l).2)
  |none=>((e6 b s l).1,p::(e6 b s l).2)
theorem wg {G:Nat→Nat→Nat} {b:Nat→Bool} {s:Nat} (hG: ∀i j v,i<s→j<s→nN b s (i,j)=some v→G i j=v): ∀{l:List (Nat×Nat)},(∀p∈l,p.1<s∧p.2<s)→JM G l=(e6 b s l).1+JM G (e6 b s l).2
 | [],_=>rfl
 |p::l,h=>by
  have ih:=wg hG (l:=l) fun q hq=>h q (List.mem_cons_of_mem _ hq)
  have hp:=h p List.mem_cons_self
  unfold e6
  cases e:nN b s p with
  |none=>simp [JM,ih,Nat.add_left_comm]
  |some v=>simp [JM,ih,hG p.1 p.2 v hp.1 hp.2 e,Nat.add_assoc]
noncomputable def bt (s:Nat) (x y z u:Bool) (k:Nat):Bool:=k==s-1|| [x,y,z,u].getD k true
def pF (b:Nat→Bool) (s n:Nat):List Nat:=vx (List.range n) (fun k=>b k==b (s-2)) s
def DR (b:Nat→Bool) (s n:Nat):Bool:=
 decide (u1 (pF b s n) (fun k=>b (jE (pF b s n) k)==b (jE (pF b s n) 0)) (s-1)=List.range n)&&decide ((pF b s n).drop (s-1)=(List.range n).drop (s-1))&&((pF b s n).take s).isPerm ((List.range n).take s)&&decide ((pF b s n).length=n)&&
  (List.range s).all (fun k=>decide (jE (pF b s n) k<s))&&decide (jE (pF b s n) (s-1)=s-1)&&
  decide ((e6 b s ((fz s).map fun p=>(jE (pF b s n) p.1,jE (pF b s n) p.2))).1=(e6 b s (fz (s-1))).1+cond (b (s-2)) 0 (s-1))&&(e6 b s ((fz s).map fun p=>(jE (pF b s n) p.1,jE (pF b s n) p.2))).2.isPerm (e6 b s (fz (s-1))).2
theorem Wz: ∀n∈ [4,5],∀s∈ [2,3,4,5],s≤n→ ∀x y z u,DR (bt s x y z u) s n=true:=by decide+kernel
theorem qX (L:List Nat):(List.range L.length).map (jE L)=L:=by
 apply List.ext_getElem
 ·simp
 ·intro i h1 h2
  simp [jE,h2]
theorem qY (l:List Nat) (f:Nat→Nat) (k:Nat) (hk:k<l.length):jE (l.map f) k=f (l.getD k 0):=by
 simp [jE,hk]
theorem DS {G H:Nat→Nat→Nat} (p:Nat→Nat): ∀{l:List (Nat×Nat)},(∀q∈l,H q.1 q.2=G (p q.1) (p q.2))→JM H l=JM G (l.map fun q=>(p q.1,p q.2))
 | [],_=>rfl
 |q::l,h=>by
  simp only [JM,List.map_cons,h q List.mem_cons_self,DS p (l:=l) fun r hr=>h r (List.mem_cons_of_mem _ hr)]
theorem WB {b0:Nat→Bool} {s:Nat} (h1:b0 (s-1)=true) (hs:s≤5): ∀k,k<s→bt s (b0 0) (b0 1) (b0 2) (b0 3) k=b0 k:=by
 intro k hk
 unfold bt
 by_cases e:k=s-1
 ·rw [e,h1,beq_self_eq_true];rfl
 ·rw [beq_false_of_ne e,Bool.false_or]
  match k,e,hk with
  |0,_,_=>rfl
  |1,_,_=>rfl
  |2,_,_=>rfl
  |3,_,_=>rfl
  |k+4,e,hk=>exact absurd (by lia) e
theorem DT {n s:Nat} {L:List Nat} (hl:L.length=n) (hn:n=4∨n=5) (hs:2≤s∧s≤n):Wu s L:=by
 have hb:=WB (b0:=fun k=>Nat.ble (jE L k) (jE L (s-1))) (Wt _) (s:=s) (by lia)
 have WC:s∈ [2,3,4,5]:=by
  have:s=2∨s=3∨s=4∨s=5:=by lia
  rcases this with rfl|rfl|rfl|rfl<;>decide
 have hc:=Wz n (by rcases hn with rfl|rfl<;>decide) s WC hs.2 (Nat.ble (jE L 0) (jE L (s-1))) (Nat.ble (jE L 1) (jE L (s-1))) (Nat.ble (jE L 2) (jE L (s-1))) (Nat.ble (jE L 3) (jE L (s-1)))
 generalize bt s (Nat.ble (jE L 0) (jE L (s-1))) (Nat.ble (jE L 1) (jE L (s-1))) (Nat.ble (jE L 2) (jE L (s-1))) (Nat.ble (jE L 3) (jE L (s-1)))=b at hb hc
 have hF:cY s L=(pF b s n).map (jE L):=by
  unfold cY pF
  rw [←Yo,←hl,qX]
  refine Ww _ fun k hk=> ?_
  unfold cB
  rw [hb k hk,hb (s-2) (by lia)]
 generalize hp:pF b s n=p at hF
 unfold DR at hc
 rw [hp] at hc
 simp only [Bool.and_eq_true,decide_eq_true_eq,List.isPerm_iff,List.all_eq_true,List.mem_range] at hc
 obtain ⟨⟨⟨⟨⟨⟨⟨c1,c2⟩,c3⟩,c4⟩,c5⟩,c6⟩,c7⟩,c8⟩:=hc
 have hm: ∀k,k<s→jE (p.map (jE L)) k=jE L (jE p k):=fun k hk=>qY _ _ _ (by lia)
 have eL:L=(List.range n).map (jE L):=by rw [←hl,qX]
 refine ⟨?_,?_,?_,?_⟩
 ·unfold fR
  rw [hF,Wx (D:=fun k=>b (jE p k)==b (jE p 0)),Yp,c1,←eL]
  intro k hk
  have hk:k<s:=by lia
  unfold cB
  rw [hm k hk,hm 0 (jH hs.1),hm (s-1) (by lia),c6,hb _ (c5 k hk),hb _ (c5 0 (jH hs.1))]
 ·rw [hF,←List.map_drop,c2,List.map_drop,←eL]
 ·rw [hF,←List.map_take]
  refine (c3.map _).trans (.of_eq ?_)
  rw [List.map_take,←eL]
 ·have hG: ∀i j v,i<s→j<s→nN b s (i,j)=some v→YS (jE L i) (jE L j)=v:=by
   intro i j v hi hj h
   unfold nN at h
   have bi:=hb i hi
   have bj:=hb j hj
   cases e1:b i<;>cases e2:b j<;>rw [e1] at bi<;>rw [e2] at bj<;>simp only [e1,e2] at h
   ·cases h
   ·cases h;exact (DJ bj.symm bi.symm).2
   ·cases h;exact (DJ bi.symm bj.symm).1
   ·split at h
    ·rename_i q;cases h;subst q;exact wc bi.symm
    ·cases h
  have l1: ∀q∈(fz s).map fun q=>(jE p q.1,jE p q.2),q.1<s∧q.2<s:=by
   intro q hq
   obtain ⟨r,hr,rfl⟩:=List.mem_map.mp hq
   have:=nM s r hr
   exact ⟨c5 _ this.1,c5 _ this.2⟩
  have l2: ∀q∈fz (s-1),q.1<s∧q.2<s:=by
   intro q hq
   have:=nM (s-1) q hq
   exact ⟨by lia,by lia⟩
  rw [hF,wd,wd,DS (G:=fun i j=>YS (jE L i) (jE L j)) (jE p),wg hG l1,wg hG l2,c7,Wy c8,hb (s-2) (by lia),Nat.add_right_comm]
  intro q hq
  have:=nM s q hq
  rw [hm _ this.1,hm _ this.2]
def fA (L:List Nat):Prop:= ∀x∈L,x<5
theorem ux {L:List Nat} (h:fA L) (k:Nat):jE L k<5:=by
 unfold jE
 rw [List.getD_eq_getElem?_getD]
 cases q:L[k]? with
 |none=>simp
 |some x=>exact h x (List.mem_of_getElem? q)
theorem wh {a b:Nat} (ha:a<5) (hb:b<5):dc a b=Nat.ble a b:=by
 have key: ∀a:Fin 5,∀b:Fin 5,dc a.val b.val=Nat.ble a.val b.val:=by decide+kernel
 exact key ⟨a,ha⟩ ⟨b,hb⟩
theorem DU {L:List Nat} (h:fA L) (ah:Bool) (s:Nat):jR (jE L) ah s=cB L ah s:=by
 funext k
 unfold jR cB
 rw [wh (ux h k) (ux h (s-1))]
theorem Uj {R R':Nat→Nat} {rt:Nat→Tok} {n:Nat} (h: ∀k,k<n→R k=R' k):kj R rt n=kj R' rt n:=by
 unfold kj
 apply List.map_congr_left
 intro k hk
 rw [h k (by simpa using hk)]
theorem DV {L:List Nat} {s n:Nat} (h:fA L) (hl:L.length=n) (hn:n≤5) (hs:2≤s∧s≤n) (k:Nat) (hk:k<n):dw (UO (jE L) (Ue (jE L) s) s n) (jE L) k=jE (cY s L) k:=by
 subst hl
 have e1:Ue (jE L) s=Nat.ble (jE L (s-2)) (jE L (s-1)):=wh (ux h _) (ux h _)
 obtain ⟨w,hw⟩:=tZ (jE L) s hs.1
 have rT:kS (jR (jE L) (Ue (jE L) s) s) s=some w:=hw
 have hlen:(UO (jE L) (Ue (jE L) s) s L.length).length=L.length:=by
  unfold UO
  rw [Df _ _ _ w rT (jc hs.2 hn) (by simpa using hs.2)]
  simp
 have e2:cY s L=(UO (jE L) (Ue (jE L) s) s L.length).map (jE L):=by
  unfold UO
  rw [←Yo,qX,DU h,e1]
  rfl
 rw [e2,qY _ _ _ (by rw [hlen];exact hk)]
 rfl
theorem DW {L:List Nat} {s n:Nat} (h:fA L) (hl:L.length=n) (hn:n≤5) (hs:2≤s∧s≤n) (k:Nat) (hk:k<n):dw (UP (jE L) (Uq (jE L) s) s n) (jE L) k=jE (fR s L) k:=by
 subst hl
 have e1:Uq (jE L) s=Nat.ble (jE L 0) (jE L (s-1)):=wh (ux h _) (ux h _)
 have hlen:(UP (jE L) (Uq (jE L) s) s L.length).length=L.length:=by
  unfold UP
  rw [Dh _ _ (nC (jE L) s) _ (by lia) (by simp;exact dx hs.2)]
  simp
 have e2:fR s L=(UP (jE L) (Uq (jE L) s) s L.length).map (jE L):=by
  unfold UP
  rw [←Yp,qX,DU h,e1]
  rfl
 rw [e2,qY _ _ _ (by rw [hlen];exact hk)]
 rfl
noncomputable def uZ (L:List Nat):Nat→List Nat
 |0=>L
 |j+1=>cY (j+2) (uZ L j)
noncomputable def fB (L:List Nat):Nat→Nat
 |0=>0
 |k+1=>fB L k+cond (Nat.ble (jE L (k-1)) (jE L k)) 0 k
theorem wj {L M:List Nat} {j:Nat} (h:L.drop j=M.drop j) (k:Nat) (hk:j≤k):jE L k=jE M k:=by
 have:=congrArg (fun l=>l[k-j]?) h
 simp only [List.getElem?_drop] at this
 rw [show j+(k-j)=k by lia] at this
 unfold jE
 rw [List.getD_eq_getElem?_getD,List.getD_eq_getElem?_getD,this]
structure WD (L:List Nat) (j:Nat):Prop where
 len:(uZ L j).length=L.length
 lt:fA (uZ L j)
 tail:(uZ L j).drop j=L.drop j
 perm:((uZ L j).take (j+1)).Perm (L.take (j+1))
 inv:eZ (uZ L j) (j+1)=fB L (j+1)
theorem JN (L:List Nat) (m:Nat) (h:m≤L.length):L.take m=(List.range m).map (jE L):=by
 apply List.ext_getElem
 ·simp [h]
 ·intro i h1 h2
  have:i<m:=by simpa using h2
  have:i<L.length:=uC this h
  simp [jE,this]
theorem YF {L:List Nat} {n:Nat} (hl:L.length=n) (hn:n=4∨n=5) (h5:fA L): ∀j,j<n→WD L j
 |0,_=>⟨rfl,h5,rfl,.refl _,by simp [eZ,fB,fy]⟩
 |j+1,hj=>by
  have ih:=YF hl hn h5 j (jH hj)
  have st:=DT (s:=j+2) (L:=uZ L j) (ih.len.trans hl) hn ⟨(Nat.le_add_left _ _),hj⟩
  have e:uZ L (j+1)=cY (j+2) (uZ L j):=rfl
  have t1:(cY (j+2) (uZ L j)).drop (j+1)=L.drop (j+1):=by
   have a:(cY (j+2) (uZ L j)).drop (j+1)=(uZ L j).drop (j+1):=st.tail
   rw [a,←List.drop_drop,←List.drop_drop,ih.tail]
  have t2:(cY (j+2) (uZ L j)).drop (j+2)=(uZ L j).drop (j+2):=by
   have a:(cY (j+2) (uZ L j)).drop (j+1)=(uZ L j).drop (j+1):=st.tail
   have:=congrArg (List.drop 1) a
   simpa [List.drop_drop] using this
  have p0:(cY (j+2) (uZ L j)).Perm (uZ L j):=by
   have:=List.Perm.append st.perm (List.Perm.of_eq t2)
   rwa [List.take_append_drop,List.take_append_drop] at this
  have hlen:(cY (j+2) (uZ L j)).length=L.length:=p0.length_eq.trans ih.len
  have a0:=wj ih.tail j (Nat.le_refl _)
  have a1:=wj ih.tail (j+1) (Nat.le_succ _)
  refine ⟨hlen,fun x hx=>ih.lt x (p0.mem_iff.mp hx),t1,?_,?_⟩
  ·refine st.perm.trans ?_
   rw [JN _ _ (by rw [ih.len];lia),JN _ _ (by lia),List.range_succ,List.map_append,List.map_append]
   have:=ih.perm
   rw [JN _ _ (by rw [ih.len];lia),JN _ _ (by lia)] at this
   refine this.append (List.Perm.of_eq ?_)
   simp [a1]
  ·have:=st.inv
   show eZ (cY (j+2) (uZ L j)) (j+2)=_
   rw [this]
   show eZ (uZ L j) (j+1)+cond (Nat.ble (jE (uZ L j) j) (jE (uZ L j) (j+1))) 0 (j+1)=fB L (j+1)+cond (Nat.ble (jE L j) (jE L (j+1))) 0 (j+1)
   rw [ih.inv,a0,a1]
theorem U5 {L:List Nat} {n:Nat} (hl:L.length=n) (hn:n=4∨n=5) (h5:fA L) (j:Nat) (hj:j+1<n):fR (j+2) (uZ L (j+1))=uZ L j:=
 (DT (s:=j+2) (L:=uZ L j) ((YF hl hn h5 j (jH hj)).len.trans hl) hn ⟨(Nat.le_add_left _ _),hj⟩).back
noncomputable def yJ (f:List Tok→Obj) (k nt:Nat):jZ:={ids:=List.range k,na:=1,nt:=nt,res:=fun as _=> .ok (.ret (.ref (as.getD 0 0))),upd:=fun _ _=>List.replicate k id,new:=fun _ ts=> [f ts]}
theorem qZ (L:List Nat) (a b:Nat):(qR (jE L) a>qR (jE L) b)↔Nat.ble (jE L a) (jE L b)=false:=by
 unfold qR
 cases h:Nat.ble (jE L a) (jE L b)
 ·simp
  have: ¬jE L a≤jE L b:=fun q=>by rw [Nat.ble_eq_true_of_le q] at h;cases h
  exact Nat.lt_of_not_le this
 ·have:=Nat.le_of_ble_eq_true h
  simp;exact this
theorem WG (Q:Nat→Int) (j i m:Nat):vZ Q j i (m+1)=if Q i>Q j then Q i::vZ Q j (i+1) m else vZ Q j (i+1) m:=rfl
theorem WH (D:Nat→Int) (k m:Nat):jn D k (m+1)=if D (k-1)>D k then (k:Int)::jn D (k+1) m else jn D (k+1) m:=rfl
theorem DX (L:List Nat) (j:Nat): ∀m i,(vZ (qR (jE L)) j i m).length+fy L j i=fy L j (i+m)
 |0,i=>by simp [vZ]
 |m+1,i=>by
  have ih:=DX L j m (i+1)
  rw [show i+1+m=i+(m+1) by lia] at ih
  rw [←ih,WG]
  have e:fy L j (i+1)=YS (jE L i) (jE L j)+fy L j i:=rfl
  rw [e]
  split
  ·rename_i h
   rw [DI ((qZ L i j).mp h),List.length_cons];lia
  ·rename_i h
   have:Nat.ble (jE L i) (jE L j)=true:=by
    cases q:Nat.ble (jE L i) (jE L j)
    ·exact absurd ((qZ L i j).mpr q) h
    ·rfl
   rw [wc this];lia
theorem DY (L:List Nat): ∀m,((List.range m).map fun j=>((vZ (qR (jE L)) j 0 j).length:Int)).sum=((eZ L m:Nat):Int)
 |0=>rfl
 |m+1=>by
  rw [List.range_succ,List.map_append,List.sum_append,DY L m]
  have:=DX L m m 0
  simp [fy] at this
  simp [eZ,this]
theorem DZ {L:List Nat} {D:Nat→Int} {n:Nat} (hD: ∀k,k<n→D k=qR (jE L) k): ∀m k,1≤k→k+m≤n→(jn D k m).sum+((fB L k:Nat):Int)=((fB L (k+m):Nat):Int)
 |0,k,_,_=>by simp [jn]
 |m+1,k,h1,h2=>by
  have ih:=DZ hD m (k+1) (Nat.succ_pos _) (by lia)
  rw [show k+1+m=k+(m+1) by lia] at ih
  rw [←ih]
  have e:fB L (k+1)=fB L k+cond (Nat.ble (jE L (k-1)) (jE L k)) 0 k:=rfl
  rw [e,WH]
  rw [hD (k-1) (by lia),hD k (by lia)]
  split
  ·rename_i h
   rw [(qZ L (k-1) k).mp h,List.sum_cons]
   simp;lia
  ·rename_i h
   have:Nat.ble (jE L (k-1)) (jE L k)=true:=by
    cases q:Nat.ble (jE L (k-1)) (jE L k)
    ·exact absurd ((qZ L (k-1) k).mpr q) h
    ·rfl
   rw [this];simp
theorem eI {L:List Nat} {n:Nat} (hl:L.length=n) (hn:n=4∨n=5) (h5:fA L) {D:Nat→Int} (hD: ∀k,k<n→D k=qR (jE L) k) (j:Nat) (h1:1≤j) (hj:j<n):gS (jE (uZ L j)) D n (j+1) where
 hR:=ux (YF hl hn h5 j hj).lt
 eq:=fun k a b=>by
  rw [hD k b]
  unfold qR
  rw [wj (YF hl hn h5 j hj).tail k (Vi a)]
 perm:=by
  have C:=YF hl hn h5 j hj
  have p:=C.perm
  rw [JN _ _ (by rw [C.len];lia),JN _ _ (by lia)] at p
  have q:=(p.map fun x:Nat=>(x:Int)).symm
  rw [List.map_map,List.map_map] at q
  have e:(List.range (j+1)).map D=(List.range (j+1)).map ((fun x:Nat=>(x:Int))∘jE L):=by
   apply List.map_congr_left
   intro k hk
   rw [hD k (by have:=List.mem_range.mp hk;exact uC this hj)]
   rfl
  rw [e]
  exact q
 sum:=by
  have C:=YF hl hn h5 j hj
  rw [DY,C.inv]
  have:=DZ hD j 1 (Nat.le_refl _) (by lia)
  rw [show 1+j=j+1 by lia] at this
  have e:fB L 1=0:=by simp [fB]
  rw [e] at this
  simpa using this.symm
def WK:=kg [oK,oL,sE,0x111110b1111119111,Jw,Jw,Jw,Jw,Au,sF,Av]
def WL:=kg [oK,1151262067724,oL,Aw,Ax,Av]
def WM:=kg [oK,oL,iW,sE,0x111110b1111119111,Jw,Jw,Jw,Jw,Jw,Au,sF,Ay]
def WN:=kg [oK,1151262067724,oL,iW,Aw,Jw,Ax,Ay]
abbrev fT (x0:Qa) (x1:Nat) (x3:Nat→Addr) (x5:Nat→Int) (x6:Nat) (x7:Nat→Tok) (x8 aJ:Nat):=x0 x1 58 (cb "list.__getitem__" [(rf (x3 22)),(vi (Int.fmod (x5 x6) 5) (x7 x8))]) [((x3 22),(j0 [(vt (sl [10,34]) (x7 aJ)),(vt (sl [34]) (x7 (aJ+1))),(vt (sl [35,32]) (x7 (aJ+2))),(vt (sl [39,11]) (x7 (aJ+3))),(vt (sl [92,110]) (x7 (aJ+4)))] 0))]
abbrev gT (x0:Nat→Addr) (x2:Nat→Int) (x3:Nat→Tok):=((x0 17),(j0 (jS (fun k=>Int.fmod (Int.fdiv (x2 k) 5) 64) (uY [(x3 41),(x3 46),(x3 51),(x3 56),(x3 61)]) 5) 5))
abbrev vO (x0:Nat→List Nat) (x1:Nat) (x2:Nat→Tok) (x3 x4:Nat):=kj (jE (x0 x1)) (uY (kr x2 x3 x4)) x4
abbrev lL (x0:Nat→Addr) (x2:Nat→Int) (x3:Nat→Tok):=((x0 17),(j0 (jS (fun k=>Int.fmod (Int.fdiv (x2 k) 5) 64) (uY [(x3 37),(x3 42),(x3 47),(x3 52)]) 4) 4))
abbrev q9 (x0:Nat→Addr) (x2:Nat→Int) (x3:Nat→Tok):=((x0 12),(j0 (jS (fun k=>Int.fmod (x2 k) 5) (uY [(x3 23),(x3 26),(x3 29),(x3 32),(x3 35)]) 5) 5))
abbrev fU (x2:Nat→List Nat) (x4:Nat):=j7 1 1 (fS (jb (jE (x2 0) x4)))
abbrev iF:=j7 2 0 (fun _=> .bool false)
abbrev YV (x0:Nat→Addr) (x2:Nat→Tok) (x3:Nat):=((x0 35),jD 100 (kr x2 x3 10))
abbrev wk (x0:Nat→Int) (x1:Nat→Tok):=j0 (jS (fun k=>Int.fmod (x0 k) 5) (uY [(x1 22),(x1 25),(x1 28),(x1 31)]) 4) 4
section
variable (P:Params) (X:Nat→Int) (Ls:Nat→List Nat) (mL:Nat) (XS:List Value) (PI:List Int) (eS:Nat) (aS:Addr)
def uw (P:Params) (X:Nat→Int) (Ls:Nat→List Nat) (mL:Nat) (XS:List Value) (PI:List Int) (eS:Nat) (aS:Addr) (A:Nat→Addr) (K:Nat→Tok):jX:=tQ [(A 31),(A 32),(A 33),(A 34),(A 35)] (kr K 78 31)
def vJ (P:Params) (X:Nat→Int) (Ls:Nat→List Nat) (mL:Nat) (XS:List Value) (PI:List Int) (eS:Nat) (aS:Addr) (A:Nat→Addr) (K:Nat→Tok):jF:=tR [(A 31),(A 32),(A 33),(A 34),(A 35)] (kr K 78 31)
noncomputable def ra (P:Params) (X:Nat→Int) (Ls:Nat→List Nat) (mL:Nat) (XS:List Value) (PI:List Int) (eS:Nat) (aS:Addr) (A:Nat→Addr) (K:Nat→Tok):Addr:=(A 43)
def kH (P:Params) (X:Nat→Int) (Ls:Nat→List Nat) (mL:Nat) (XS:List Value) (PI:List Int) (eS:Nat) (aS:Addr) (A:Nat→Addr) (K:Nat→Tok):jX:=tQ [(A 31),(A 32),(A 33),(A 34),(A 35)] (kr K 89 32)
def ur (P:Params) (X:Nat→Int) (Ls:Nat→List Nat) (mL:Nat) (XS:List Value) (PI:List Int) (eS:Nat) (aS:Addr) (A:Nat→Addr) (K:Nat→Tok):jF:=tR [(A 31),(A 32),(A 33),(A 34),(A 35)] (kr K 89 32)
noncomputable def Yj (P:Params) (X:Nat→Int) (Ls:Nat→List Nat) (mL:Nat) (XS:List Value) (PI:List Int) (eS:Nat) (aS:Addr) (A:Nat→Addr) (K:Nat→Tok):Addr:=(A 44)
def WO:RD:=⟨[(aS,(j0 XS eS)),(86,tE),(93,tE)],[wi [0] (j7 1 1 (fI ((mL:Nat):Int))),wi [5,6] (yJ (fun ts=>j0 (jQ PI ts) 0) 2 4),wi [0,7] (yJ (fun ts=>j0 (XS++jQ PI ts) 0) 2 4),wi [8,9] (yJ (fun ts=>j0 (jS X (uY ts) 4) 0) 2 4),wi [22] (fU Ls 0),wi [22] (fU Ls 1),wi [22] (fU Ls 2),wi [22] (fU Ls 3),wi [24,17,1,2] (Vs 4 (jE (Ls 1))),wi [31,12] (uU 2),wi [31,17,1,2,32,34,35,33] (vQ 8 4 (jE (Ls 2))),wi [36,12] (uU 2),wi [36,17,1,2,32,34,35,33] (vQ 8 4 (jE (Ls 3))),wi [37,12] (uU 2),([37,17,1,2,32,34,35,33],fun c=>Vt 4 (jE (Ls 2)) (Ux c 15)),wi [42,36] (iF),wi [36,17,1,2,32,34,35,43,33] (vQ 9 4 (jE (Ls 1))),wi [44,31] (iF),wi [31,17,1,2,32,34,35,43,33] (vQ 9 4 (jE (Ls 0))),wi [45,24] (iF)],mA 3 0 2 (fun a t=> .ok (.ret (.bool true))) (fun a t=> [id,fun _=>(VJ (t 0)),fun _=>(VK (t 1))]) (fun a t=> []),[],[],[32,33],20,fun q qT qS A K=> [q 0 59 (cb "len" [rf aS]) [(aS,(j0 XS eS))],q 1 59 (cb "list.__getitem__" [rf (A 5),rf (A 6)]) [((A 5),(j0 [vi 13 (K 1),vi 41 (K 2),vi 69 (K 3),vi 102 (K 4)] 0)),((A 6),(fo "slice" [vn mL (K 5),.none,.none]))],q 2 59 (cb "list.__add__" [rf aS,rf (A 7)]) [(aS,(j0 XS eS)),((A 7),(j0 (jQ PI (kr K 6 4)) 0))],q 3 59 (cb "list.__getitem__" [rf (A 8),rf (A 9)]) [((A 8),(j0 (XS++jQ PI (kr K 10 4)) 0)),((A 9),(fo "slice" [.none,vi 5 (K 14),.none]))],fT q 4 A X 0 K 22 54,fT q 5 A X 1 K 25 54,fT q 6 A X 2 K 28 54,fT q 7 A X 3 K 31 54,q 8 58 (cr 96 [rf (A 24),rf (A 17),vi 2 (K 74),vi 2 (K 74),.bool false]) [((A 24),(j0 (kj (jE (Ls 0)) (uY [K 60,K 62,K 64,K 66]) 4) 4)),lL A X K,(86,tE),(93,tE)],q 9 58 (cr 101 [rf (A 31),rf (A 12),vi 2 (K 74)]) [((A 31),(j0 (vO Ls 1 K 105 4) 4)),((A 12),(wk X K))],q 10 58 (cr 96 [rf (A 31),rf (A 17),vi 3 (K 110),vi 3 (K 110),.bool false]) [((A 31),(j0 (vO Ls 1 K 105 4) 4)),lL A X K,(86,VJ (uw P X Ls mL XS PI eS aS A K).aN),(93,VK (vJ P X Ls mL XS PI eS aS A K).aT),((A 32),(uw P X Ls mL XS PI eS aS A K).bq),((A 34),yz (jL (uw P X Ls mL XS PI eS aS A K).af)),YV A K 88,((A 33),(vJ P X Ls mL XS PI eS aS A K).code)],q 11 58 (cr 101 [rf (A 36),rf (A 12),vi 3 (K 110)]) [((A 36),(j0 (vO Ls 2 K 114 4) 4)),((A 12),(wk X K))],q 12 58 (cr 96 [rf (A 36),rf (A 17),vi 4 (K 119),vi 4 (K 119),.bool false]) [((A 36),(j0 (vO Ls 2 K 114 4) 4)),lL A X K,(86,VJ (uw P X Ls mL XS PI eS aS A K).aN),(93,VK (vJ P X Ls mL XS PI eS aS A K).aT),((A 32),(uw P X Ls mL XS PI eS aS A K).bq),((A 34),yz (jL (uw P X Ls mL XS PI eS aS A K).af)),YV A K 88,((A 33),(vJ P X Ls mL XS PI eS aS A K).code)],q 13 58 (cr 101 [rf (A 37),rf (A 12),vi 4 (K 119)]) [((A 37),(j0 (vO Ls 3 K 123 4) 4)),((A 12),(wk X K))],q 14 58 (cr 96 [rf (A 37),rf (A 17),vi 5 (K 138),vi 4 (K 133),.bool true]) [((A 37),(j0 (vO Ls 3 K 123 4) 4)),lL A X K,(86,VJ (uw P X Ls mL XS PI eS aS A K).aN),(93,VK (vJ P X Ls mL XS PI eS aS A K).aT),((A 32),(uw P X Ls mL XS PI eS aS A K).bq),((A 34),yz (jL (uw P X Ls mL XS PI eS aS A K).af)),YV A K 88,((A 33),(vJ P X Ls mL XS PI eS aS A K).code)],qT 15 58 .NotEq (rf (A 42)) (rf (A 36)) [((A 42),(j0 (vO Ls 2 K 149 4) 4)),((A 36),(j0 (vO Ls 2 K 114 4) 4))],q 16 58 (cr 96 [rf (A 36),rf (A 17),vi 6 (K 161),vi 3 (K 156),.bool true]) [((A 36),(j0 (vO Ls 2 K 114 4) 4)),lL A X K,(86,VJ (uw P X Ls mL XS PI eS aS A K).aN),(93,VK (vJ P X Ls mL XS PI eS aS A K).aT),((A 32),(uw P X Ls mL XS PI eS aS A K).bq),((A 34),yz (ku (uw P X Ls mL XS PI eS aS A K).af (ra P X Ls mL XS PI eS aS A K))),YV A K 88,((A 43),jD 98 (kr K 139 10)),((A 33),(vJ P X Ls mL XS PI eS aS A K).code)],qT 17 58 .NotEq (rf (A 44)) (rf (A 31)) [((A 44),(j0 (vO Ls 1 K 162 4) 4)),((A 31),(j0 (vO Ls 1 K 105 4) 4))],q 18 58 (cr 96 [rf (A 31),rf (A 17),vi 7 (K 174),vi 2 (K 169),.bool true]) [((A 31),(j0 (vO Ls 1 K 105 4) 4)),lL A X K,(86,VJ (uw P X Ls mL XS PI eS aS A K).aN),(93,VK (vJ P X Ls mL XS PI eS aS A K).aT),((A 32),(uw P X Ls mL XS PI eS aS A K).bq),((A 34),yz (ku (uw P X Ls mL XS PI eS aS A K).af (ra P X Ls mL XS PI eS aS A K))),YV A K 88,((A 43),jD 98 (kr K 139 10)),((A 33),(vJ P X Ls mL XS PI eS aS A K).code)],qT 19 58 .NotEq (rf (A 45)) (rf (A 24)) [((A 45),(j0 (vO Ls 0 K 175 4) 4)),((A 24),(j0 [vt (jb (jE (Ls 0) 0)) (K 60),vt (jb (jE (Ls 0) 1)) (K 62),vt (jb (jE (Ls 0) 2)) (K 64),vt (jb (jE (Ls 0) 3)) (K 66)] 4))]]⟩
theorem WQ:GF P 59 106 [rf aS] (nZ P) (WO P X Ls mL XS PI eS aS) (hb WK WL):=Ur
def WR:RD:=⟨[(aS,(j0 XS eS)),(86,tE),(93,tE)],[wi [0] (j7 1 1 (fI ((mL:Nat):Int))),wi [5,6] (yJ (fun ts=>j0 (jQ PI ts) 0) 2 4),wi [0,7] (yJ (fun ts=>j0 (XS++jQ PI ts) 0) 2 4),wi [8,9] (yJ (fun ts=>j0 (jS X (uY ts) 5) 0) 2 5),wi [22] (fU Ls 0),wi [22] (fU Ls 1),wi [22] (fU Ls 2),wi [22] (fU Ls 3),wi [22] (fU Ls 4),wi [24,17,1,2] (Vs 5 (jE (Ls 1))),wi [31,12] (uU 2),wi [31,17,1,2,32,34,35,33] (vQ 8 5 (jE (Ls 2))),wi [36,12] (uU 2),wi [36,17,1,2,32,34,35,33] (vQ 8 5 (jE (Ls 3))),wi [37,12] (uU 2),wi [37,17,1,2,32,34,35,33] (vQ 8 5 (jE (Ls 4))),wi [38,12] (uU 2),([38,17,1,2,32,34,35,33],fun c=>Vt 5 (jE (Ls 3)) (Ux c 15)),wi [43,37] (iF),wi [37,17,1,2,32,34,35,44,33] (vQ 9 5 (jE (Ls 2))),wi [45,36] (iF),wi [36,17,1,2,32,34,35,44,33] (vQ 9 5 (jE (Ls 1))),wi [46,31] (iF),wi [31,17,1,2,32,34,35,44,33] (vQ 9 5 (jE (Ls 0))),wi [47,24] (iF)],mA 3 0 2 (fun a t=> .ok (.ret (.bool true))) (fun a t=> [id,fun _=>(VJ (t 0)),fun _=>(VK (t 1))]) (fun a t=> []),[],[],[32,33],25,fun q qT qS A K=> [q 0 59 (cb "len" [rf aS]) [(aS,(j0 XS eS))],q 1 59 (cb "list.__getitem__" [rf (A 5),rf (A 6)]) [((A 5),(j0 [vi 13 (K 1),vi 41 (K 2),vi 69 (K 3),vi 102 (K 4)] 0)),((A 6),(fo "slice" [vn mL (K 5),.none,.none]))],q 2 59 (cb "list.__add__" [rf aS,rf (A 7)]) [(aS,(j0 XS eS)),((A 7),(j0 (jQ PI (kr K 6 4)) 0))],q 3 59 (cb "list.__getitem__" [rf (A 8),rf (A 9)]) [((A 8),(j0 (XS++jQ PI (kr K 10 4)) 0)),((A 9),(fo "slice" [.none,vi 5 (K 14),.none]))],fT q 4 A X 0 K 23 63,fT q 5 A X 1 K 26 63,fT q 6 A X 2 K 29 63,fT q 7 A X 3 K 32 63,fT q 8 A X 4 K 35 63,q 9 58 (cr 96 [rf (A 24),rf (A 17),vi 2 (K 85),vi 2 (K 85),.bool false]) [((A 24),(j0 (kj (jE (Ls 0)) (uY [K 69,K 71,K 73,K 75,K 77]) 5) 5)),gT A X K,(86,tE),(93,tE)],q 10 58 (cr 101 [rf (A 31),rf (A 12),vi 2 (K 85)]) [((A 31),(j0 (vO Ls 1 K 116 5) 5)),q9 A X K],q 11 58 (cr 96 [rf (A 31),rf (A 17),vi 3 (K 122),vi 3 (K 122),.bool false]) [((A 31),(j0 (vO Ls 1 K 116 5) 5)),gT A X K,(86,VJ (kH P X Ls mL XS PI eS aS A K).aN),(93,VK (ur P X Ls mL XS PI eS aS A K).aT),((A 32),(kH P X Ls mL XS PI eS aS A K).bq),((A 34),yz (jL (kH P X Ls mL XS PI eS aS A K).af)),YV A K 99,((A 33),(ur P X Ls mL XS PI eS aS A K).code)],q 12 58 (cr 101 [rf (A 36),rf (A 12),vi 3 (K 122)]) [((A 36),(j0 (vO Ls 2 K 126 5) 5)),q9 A X K],q 13 58 (cr 96 [rf (A 36),rf (A 17),vi 4 (K 132),vi 4 (K 132),.bool false]) [((A 36),(j0 (vO Ls 2 K 126 5) 5)),gT A X K,(86,VJ (kH P X Ls mL XS PI eS aS A K).aN),(93,VK (ur P X Ls mL XS PI eS aS A K).aT),((A 32),(kH P X Ls mL XS PI eS aS A K).bq),((A 34),yz (jL (kH P X Ls mL XS PI eS aS A K).af)),YV A K 99,((A 33),(ur P X Ls mL XS PI eS aS A K).code)],q 14 58 (cr 101 [rf (A 37),rf (A 12),vi 4 (K 132)]) [((A 37),(j0 (vO Ls 3 K 136 5) 5)),q9 A X K],q 15 58 (cr 96 [rf (A 37),rf (A 17),vi 5 (K 142),vi 5 (K 142),.bool false]) [((A 37),(j0 (vO Ls 3 K 136 5) 5)),gT A X K,(86,VJ (kH P X Ls mL XS PI eS aS A K).aN),(93,VK (ur P X Ls mL XS PI eS aS A K).aT),((A 32),(kH P X Ls mL XS PI eS aS A K).bq),((A 34),yz (jL (kH P X Ls mL XS PI eS aS A K).af)),YV A K 99,((A 33),(ur P X Ls mL XS PI eS aS A K).code)],q 16 58 (cr 101 [rf (A 38),rf (A 12),vi 5 (K 142)]) [((A 38),(j0 (vO Ls 4 K 146 5) 5)),q9 A X K],q 17 58 (cr 96 [rf (A 38),rf (A 17),vi 4 (K 162),vi 5 (K 157),.bool true]) [((A 38),(j0 (vO Ls 4 K 146 5) 5)),gT A X K,(86,VJ (kH P X Ls mL XS PI eS aS A K).aN),(93,VK (ur P X Ls mL XS PI eS aS A K).aT),((A 32),(kH P X Ls mL XS PI eS aS A K).bq),((A 34),yz (jL (kH P X Ls mL XS PI eS aS A K).af)),YV A K 99,((A 33),(ur P X Ls mL XS PI eS aS A K).code)],qT 18 58 .NotEq (rf (A 43)) (rf (A 37)) [((A 43),(j0 (vO Ls 3 K 173 5) 5)),((A 37),(j0 (vO Ls 3 K 136 5) 5))],q 19 58 (cr 96 [rf (A 37),rf (A 17),vi 5 (K 186),vi 4 (K 181),.bool true]) [((A 37),(j0 (vO Ls 3 K 136 5) 5)),gT A X K,(86,VJ (kH P X Ls mL XS PI eS aS A K).aN),(93,VK (ur P X Ls mL XS PI eS aS A K).aT),((A 32),(kH P X Ls mL XS PI eS aS A K).bq),((A 34),yz (ku (kH P X Ls mL XS PI eS aS A K).af (Yj P X Ls mL XS PI eS aS A K))),YV A K 99,((A 44),jD 98 (kr K 163 10)),((A 33),(ur P X Ls mL XS PI eS aS A K).code)],qT 20 58 .NotEq (rf (A 45)) (rf (A 36)) [((A 45),(j0 (vO Ls 2 K 187 5) 5)),((A 36),(j0 (vO Ls 2 K 126 5) 5))],q 21 58 (cr 96 [rf (A 36),rf (A 17),vi 6 (K 200),vi 3 (K 195),.bool true]) [((A 36),(j0 (vO Ls 2 K 126 5) 5)),gT A X K,(86,VJ (kH P X Ls mL XS PI eS aS A K).aN),(93,VK (ur P X Ls mL XS PI eS aS A K).aT),((A 32),(kH P X Ls mL XS PI eS aS A K).bq),((A 34),yz (ku (kH P X Ls mL XS PI eS aS A K).af (Yj P X Ls mL XS PI eS aS A K))),YV A K 99,((A 44),jD 98 (kr K 163 10)),((A 33),(ur P X Ls mL XS PI eS aS A K).code)],qT 22 58 .NotEq (rf (A 46)) (rf (A 31)) [((A 46),(j0 (vO Ls 1 K 201 5) 5)),((A 31),(j0 (vO Ls 1 K 116 5) 5))],q 23 58 (cr 96 [rf (A 31),rf (A 17),vi 7 (K 214),vi 2 (K 209),.bool true]) [((A 31),(j0 (vO Ls 1 K 116 5) 5)),gT A X K,(86,VJ (kH P X Ls mL XS PI eS aS A K).aN),(93,VK (ur P X Ls mL XS PI eS aS A K).aT),((A 32),(kH P X Ls mL XS PI eS aS A K).bq),((A 34),yz (ku (kH P X Ls mL XS PI eS aS A K).af (Yj P X Ls mL XS PI eS aS A K))),YV A K 99,((A 44),jD 98 (kr K 163 10)),((A 33),(ur P X Ls mL XS PI eS aS A K).code)],qT 24 58 .NotEq (rf (A 47)) (rf (A 24)) [((A 47),(j0 (vO Ls 0 K 215 5) 5)),((A 24),(j0 [vt (jb (jE (Ls 0) 0)) (K 69),vt (jb (jE (Ls 0) 1)) (K 71),vt (jb (jE (Ls 0) 2)) (K 73),vt (jb (jE (Ls 0) 3)) (K 75),vt (jb (jE (Ls 0) 4)) (K 77)] 5))]]⟩
theorem WU:GF P 59 106 [rf aS] (nZ P) (WR P X Ls mL XS PI eS aS) (hb WM WN):=Ur
end
noncomputable def ug:List Int:= [13,41,69,102]
theorem D0 {W:World} {kt:KT} {d:Nat} {l sl:Addr} (t1 t2 t3 t4 tL:Tok) (m:Nat):
  j6 pw W kt (yJ (fun ts=>j0 (jQ (ug.drop m) ts) 0) 2 4) d (.call (.builtin "list.__getitem__") ⟨[.ref l,.ref sl],[]⟩) [some (l,j0 [.int 13 t1,.int 41 t2,.int 69 t3,.int 102 t4] 0),some (sl,⟨.type "slice",none,.fields #[.int ((m:Nat):Int) tL,.none,.none],#[]⟩)]:=by
 have h:=U4 (w:=W) (kt:=kt) (d:=d) (l:=l) (sl:=sl) (xs:= [.int 13 t1,.int 41 t2,.int 69 t3,.int 102 t4]) (ys:= [Value.int 13 t1,.int 41 t2,.int 69 t3,.int 102 t4].drop m) (e:=0) (lo:=some ((m:Int),tL)) (hi:=none) (st:=none) (by simp) (show 4≤1000 by decide) (by
  have:=slicePick_plain [Value.int 13 t1,.int 41 t2,.int 69 t3,.int 102 t4].toArray (some (m:Int)) none
  refine this.trans ?_
  show ((List.drop (clipAt 4 (m:Int)) [Value.int 13 t1,.int 41 t2,.int 69 t3,.int 102 t4]).take (4-clipAt 4 (m:Int))).toArray=_
  rw [clipAt_nat]
  rcases m with _|_|_|_|m
  ·rfl
  ·rfl
  ·rfl
  ·rfl
  ·rw [show min (m+4) 4=4 by lia];simp)
 refine h.conv (Nat.le_refl _) rfl fun as ts la lt=> ?_
 rcases m with _|_|_|_|m
 ·exact ⟨[t1,t2,t3,t4],rfl,rfl,rfl,rfl,rfl⟩
 ·exact ⟨[t2,t3,t4,0],rfl,rfl,rfl,rfl,rfl⟩
 ·exact ⟨[t3,t4,0,0],rfl,rfl,rfl,rfl,rfl⟩
 ·exact ⟨[t4,0,0,0],rfl,rfl,rfl,rfl,rfl⟩
 ·refine ⟨[0,0,0,0],rfl,rfl,rfl,rfl,?_⟩
  show [j0 (jQ (ug.drop (m+4)) [0,0,0,0]) 0]= [j0 (List.drop (m+4) [Value.int 13 t1,.int 41 t2,.int 69 t3,.int 102 t4]) 0]
  simp [ug,jQ]
theorem D1 {W:World} {kt:KT} {d:Nat} {a b:Addr} {XS:List Value} {PI:List Int} {e:Nat} (us:List Tok) (hu:us.length=4) (h1:XS.length≤63) (h2:PI.length≤4):
  j6 pw W kt (yJ (fun ts=>j0 (XS++jQ PI ts) 0) 2 4) d (.call (.builtin "list.__add__") ⟨[.ref a,.ref b],[]⟩) [some (a,j0 XS e),some (b,j0 (jQ PI us) 0)]:=
 (B2 (xs:=XS) (ys:=jQ PI us) (by rw [js];lia)).conv (Nat.le_refl _) rfl fun as ts la lt=>⟨us,hu,rfl,rfl,rfl,rfl⟩
theorem D2: ∀{vs:List Value} {ns:List Int} (k:Nat),IntsAre vs ns→IntsAre (vs.take k) (ns.take k)
 |_,_,0,_=>by simp;exact .nil
 |_,_,k+1,.nil=>by simp;exact .nil
 |_,_,k+1,.cons n t h=>by simp;exact .cons n t (D2 k h)
theorem D3: ∀{vs:List Value} {ns:List Int} (l:List Int) (ts:List Tok),IntsAre vs ns→IntsAre (vs++jQ l ts) (ns++l)
 |_,_,l,ts,.nil=>wa l ts
 |_,_,l,ts,.cons n t h=> .cons n t (D3 l ts h)
theorem WV (X:Nat→Int): ∀(n:Nat) (ts:List Tok),(n=4∨n=5)→ts.length=n→jQ ((List.range n).map X) ts=jS X (uY ts) n:=by
 rintro n ts (rfl|rfl) h
 ·match ts,h with
  | [a,b,c,d],_=>rfl
 ·match ts,h with
  | [a,b,c,d,e],_=>rfl
theorem D4 {W:World} {kt:KT} {d:Nat} {l sl:Addr} {XS:List Value} {ns PI:List Int} {us:List Tok} {t5:Tok} {X:Nat→Int} {n:Nat} (hn:n=4∨n=5) (hI:IntsAre XS ns) (h1:XS.length≤63) (h2:PI.length≤4) (hX:(ns++PI).take 5=(List.range n).map X):
  j6 pw W kt (yJ (fun ts=>j0 (jS X (uY ts) n) 0) 2 n) d (.call (.builtin "list.__getitem__") ⟨[.ref l,.ref sl],[]⟩) [some (l,j0 (XS++jQ PI us) 0),some (sl,⟨.type "slice",none,.fields #[.none,.int 5 t5,.none],#[]⟩)]:=by
 have h:=U4 (w:=W) (kt:=kt) (d:=d) (l:=l) (sl:=sl) (xs:=XS++jQ PI us) (ys:=(XS++jQ PI us).take 5) (e:=0) (lo:=none) (hi:=some (5,t5)) (st:=none) (by simp) (by rw [List.length_append,js];lia) (by
  have:=slicePick_plain (XS++jQ PI us).toArray none (some 5)
  refine this.trans ?_
  show ((List.drop 0 (XS++jQ PI us)).take (clipAt (XS++jQ PI us).toArray.size 5-0)).toArray=_
  have e:clipAt (XS++jQ PI us).toArray.size 5=min 5 (XS++jQ PI us).toArray.size:=clipAt_nat _ 5
  rw [e,List.drop_zero,Nat.sub_zero]
  apply congrArg
  rw [List.size_toArray]
  apply List.ext_getElem
  ·simp
  ·intro i a b;simp)
 have hi:=D2 5 (D3 PI us hI)
 rw [hX] at hi
 obtain ⟨ts,q1,q2⟩:=Yi hi
 have e2:=q2 []
 rw [List.append_nil] at e2
 have pq:ts.length=n:=by
  have:=hi.length
  simp only [List.length_map,List.length_range] at this
  lia
 refine h.conv (Nat.le_refl _) rfl fun as cf la lt=>⟨ts,pq,rfl,rfl,rfl,?_⟩
 show [j0 (jS X (uY ts) n) 0]= [j0 ((XS++jQ PI us).take 5) 0]
 rw [e2,WV X n ts hn pq]
theorem Ul {W:World} {kt:KT} {d:Nat} {l:Addr} {e:Nat} {x:Int} {t:Tok} (t0 t1 t2 t3 t4:Tok) (r:Nat) (hr:r<5) (hx:x=(r:Int)):
  j6 pw W kt (j7 1 1 fun ts=> .str (jb r) (ts.getD 0 0)) d (.call (.builtin "list.__getitem__") ⟨[.ref l,.int x t],[]⟩) [some (l,j0 [.str (jb 0) t0,.str (jb 1) t1,.str (jb 2) t2,.str (jb 3) t3,.str (jb 4) t4] e)]:=by
 subst hx
 refine uk (res:=fun ts=> .str (jb r) (ts.getD 0 0)) (ts:= [[t0,t1,t2,t3,t4].getD r 0]) rfl (by lia) (by lia) ?_
 rw [Int.toNat_natCast]
 rcases r with _|_|_|_|_|r<;>first|rfl|lia
section
variable (W:World) {L:List Nat} {s n:Nat} (h5:fA L) (hl:L.length=n) (hn:n=4∨n=5) (hs:2≤s∧s≤n) (w:Nat→Int) (rt wt:Nat→Tok) (eR eW:Nat) (aR aW:Addr) (tt az:Tok) {tn:Int} (ht:2≤tn∧tn≤7)
include h5 hl hn hs ht
theorem D5:j6 pw W (jB W.params) (Vs n (jE (cY s L))) 42 (.call (.ref 96) ⟨[.ref aR,.ref aW,.int tn tt,.int ((s:Nat):Int) az,.bool false],[]⟩) ([(aR,j0 (kj (jE L) rt n) eR),(aW,j0 (jS w wt n) eW),(86,tE),(93,tE)].map some):=by
 have h:=Sy W (jE L) w rt wt s n _ _ eR eW aR aW tt tn az (qJ (jE L) w tn n W.params hn (ux h5) ht) hs
 have e: ∀rt,kj (dw (UO (jE L) (Ue (jE L) s) s n) (jE L)) rt n=kj (jE (cY s L)) rt n:=fun rt=>Uj (DV h5 hl (by lia) hs)
 simp only [Vs,e] at h
 exact h
variable (S0:jX) (L0:jF) (lc b7:List Tok)
theorem UL:j6 pw W (jB W.params) (vQ 8 n (jE (cY s L))) 42 (.call (.ref 96) ⟨[.ref aR,.ref aW,.int tn tt,.int ((s:Nat):Int) az,.bool false],[]⟩) ([(aR,j0 (kj (jE L) rt n) eR),(aW,j0 (jS w wt n) eW),(86,VJ S0.aN),(93,VK L0.aT),(S0.aN,S0.bq),(S0.bD,yz (jL S0.af)),(S0.af,jD 100 lc),(L0.aT,L0.code)].map some):=by
 have h:=Sz W (jE L) w rt wt s n _ _ S0 L0 lc [] eR eW aR aW tt tn az (qJ (jE L) w tn n W.params hn (ux h5) ht) hs
 have e: ∀rt,kj (dw (UO (jE L) (Ue (jE L) s) s n) (jE L)) rt n=kj (jE (cY s L)) rt n:=fun rt=>Uj (DV h5 hl (by lia) hs)
 simp only [vQ,e] at h
 exact h
theorem D6 {M:List Nat} (hM:fR s L=M):j6 pw W (jB W.params) (Vt n (jE M) S0.af) 42 (.call (.ref 96) ⟨[.ref aR,.ref aW,.int tn tt,.int ((s:Nat):Int) az,.bool true],[]⟩) ([(aR,j0 (kj (jE L) rt n) eR),(aW,j0 (jS w wt n) eW),(86,VJ S0.aN),(93,VK L0.aT),(S0.aN,S0.bq),(S0.bD,yz (jL S0.af)),(S0.af,jD 100 lc),(L0.aT,L0.code)].map some):=by
 have h:=SA W (jE L) w rt wt s n _ _ S0 L0 lc [] eR eW aR aW tt tn az (qJ (jE L) w tn n W.params hn (ux h5) ht) hs
 have e: ∀rt,kj (dw (UP (jE L) (Uq (jE L) s) s n) (jE L)) rt n=kj (jE (fR s L)) rt n:=fun rt=>Uj (DW h5 hl (by lia) hs)
 simp only [Vt,e] at h
 rw [hM] at h
 exact h
theorem UM {M:List Nat} (hM:fR s L=M):j6 pw W (jB W.params) (vQ 9 n (jE M)) 42 (.call (.ref 96) ⟨[.ref aR,.ref aW,.int tn tt,.int ((s:Nat):Int) az,.bool true],[]⟩) ([(aR,j0 (kj (jE L) rt n) eR),(aW,j0 (jS w wt n) eW),(86,VJ S0.aN),(93,VK L0.aT),(S0.aN,S0.bq),(S0.bD,yz (ku S0.af S0.aA)),(S0.af,jD 100 lc),(S0.aA,jD 98 b7),(L0.aT,L0.code)].map some):=by
 have h:=SD W (jE L) w rt wt s n _ _ S0 L0 lc b7 eR eW aR aW tt tn az (qJ (jE L) w tn n W.params hn (ux h5) ht) hs
 have e: ∀rt,kj (dw (UP (jE L) (Uq (jE L) s) s n) (jE L)) rt n=kj (jE (fR s L)) rt n:=fun rt=>Uj (DW h5 hl (by lia) hs)
 simp only [vQ,e] at h
 rw [hM] at h
 exact h
end
theorem D7 (R:Nat→Nat) (rt:Nat→Tok) (n:Nat):(kj R rt n).all jP=true:=by
 unfold kj
 rw [List.all_map]
 exact List.all_eq_true.mpr fun k _=>un (R k)
theorem WW (R:Nat→Nat) (rt wm:Nat→Tok) (n:Nat):(kj R rt n).map vD=(kj R wm n).map vD:=by
 unfold kj
 rw [List.map_map,List.map_map]
 rfl
theorem U7 {W:World} {kt:KT} {an:jZ} {d:Nat} (hd:7≤d) {a b:Addr} (R:Nat→Nat) (rt wm:Nat→Tok) (n:Nat) {e1 e2:Nat} (hr:an.res [] []= .ok (.ret (.bool false))):
  YD pw W kt an d .NotEq (.ref a) (.ref b) [some (a,j0 (kj R rt n) e1),some (b,j0 (kj R wm n) e2)]:=
 uI hd hr (D7 _ _ _) (D7 _ _ _) (WW _ _ _ _)
def wo:jZ:={ids:=List.range 3,na:=0,nt:=2,res:=fun _ _=> .ok (.ret (.bool true)),upd:=fun _ ts=> [id,fun _=>VJ (ts.getD 0 0),fun _=>VK (ts.getD 1 0)],new:=fun _ _=> []}
noncomputable def l0 (X:Nat→Int) (n:Nat):List Nat:=(List.range n).map fun k=>(Int.fmod (X k) 5).toNat
theorem D8 (x:Int):0≤Int.fmod x 5∧Int.fmod x 5<5:=⟨Int.fmod_nonneg_of_pos x (by decide),Int.fmod_lt_of_pos x (by decide)⟩
theorem D9 (X:Nat→Int) (n:Nat):(l0 X n).length=n:=by simp [l0]
theorem D' (X:Nat→Int) (n:Nat):fA (l0 X n):=by
 intro x hx
 obtain ⟨k,_,rfl⟩:=List.mem_map.mp hx
 have:=D8 (X k)
 lia
theorem UK (X:Nat→Int) (n k:Nat) (hk:k<n):Int.fmod (X k) 5=qR (jE (l0 X n)) k:=by
 have:=D8 (X k)
 unfold qR l0
 rw [qY _ _ _ (by simpa using hk)]
 simp [hk]
 lia
theorem WX (W:World) (X:Nat→Int) (XS:List Value) (ns:List Int) (eS:Nat) (aS:Addr) (hI:IntsAre XS ns) (hl:XS.length≤63) (hX:(ns++ug.drop XS.length).take 5=(List.range 4).map X):j6 pw W (jB W.params) wo 60 (.call (.ref 106) ⟨[.ref aS],[]⟩) ([(aS,j0 XS eS),(86,tE),(93,tE)].map some):=by
 have hn:4=4∨4=5:=by decide
 have hL:=D9 X 4
 have h5:=D' X 4
 have hp:(ug.drop XS.length).length≤4:=by simp [ug]
 have hD: ∀k,k<4→Int.fmod (X k) 5=qR (jE (l0 X 4)) k:=UK X 4
 have C:=YF hL hn h5
 exact uM (w:=W) (WQ W.params X (uZ (l0 X 4)) XS.length XS (ug.drop XS.length) eS aS) (.inl (xl _)) (by
  intro A K
  walk_at "ob"
  ·exact jG (by lia) rfl
  ·exact D0 _ _ _ _ _ XS.length
  ·exact D1 _ rfl hl hp
  ·exact D4 hn hI hl hp hX
  ·exact Ul _ _ _ _ _ _ (ux h5 0) (UK X 4 0 (by decide))
  ·exact Ul _ _ _ _ _ _ (ux h5 1) (UK X 4 1 (by decide))
  ·exact Ul _ _ _ _ _ _ (ux h5 2) (UK X 4 2 (by decide))
  ·exact Ul _ _ _ _ _ _ (ux h5 3) (UK X 4 3 (by decide))
  ·exact fun _ hz=>D5 W (C 0 (by decide)).lt ((C 0 (by decide)).len.trans hL) hn (s:=2) (by decide) _ _ _ _ _ _ _ _ _ (tn:=2) (by decide) _ (dl hz)
  ·exact fun _ hz=>Wl W (jE (uZ (l0 X 4) 1)) (fun k=>Int.fmod (X k) 5) _ _ _ _ _ _ _ (eI hL hn h5 hD 1 (by decide) (by decide)) _ (dl hz)
  ·exact fun _ hz=>UL W (C 1 (by decide)).lt ((C 1 (by decide)).len.trans hL) hn (s:=3) (by decide) _ _ _ _ _ _ _ _ _ (tn:=3) (by decide) (uw W.params X (uZ (l0 X 4)) XS.length XS (ug.drop XS.length) eS aS A K) (vJ W.params X (uZ (l0 X 4)) XS.length XS (ug.drop XS.length) eS aS A K) _ _ (dl hz)
  ·exact fun _ hz=>Wm W (jE (uZ (l0 X 4) 2)) (fun k=>Int.fmod (X k) 5) _ _ _ _ _ _ _ (eI hL hn h5 hD 2 (by decide) (by decide)) _ (dl hz)
  ·exact fun _ hz=>UL W (C 2 (by decide)).lt ((C 2 (by decide)).len.trans hL) hn (s:=4) (by decide) _ _ _ _ _ _ _ _ _ (tn:=4) (by decide) (uw W.params X (uZ (l0 X 4)) XS.length XS (ug.drop XS.length) eS aS A K) (vJ W.params X (uZ (l0 X 4)) XS.length XS (ug.drop XS.length) eS aS A K) _ _ (dl hz)
  ·exact fun _ hz=>Wn W (jE (uZ (l0 X 4) 3)) (fun k=>Int.fmod (X k) 5) _ _ _ _ _ _ _ (eI hL hn h5 hD 3 (by decide) (by decide)) _ (dl hz)
  ·exact fun _ hz=>D6 W (C 3 (by decide)).lt ((C 3 (by decide)).len.trans hL) hn (s:=4) (by decide) (fun k=>Int.fmod (Int.fdiv (X k) 5) 64) _ _ _ _ _ _ _ _ (tn:=5) (by decide) (uw W.params X (uZ (l0 X 4)) XS.length XS (ug.drop XS.length) eS aS A K) (vJ W.params X (uZ (l0 X 4)) XS.length XS (ug.drop XS.length) eS aS A K) _ (U5 hL hn h5 2 (by decide)) _ (dl hz)
  ·exact U7 (by decide) (jE (uZ (l0 X 4) 2)) _ _ 4 rfl
  ·exact fun _ hz=>UM W (C 2 (by decide)).lt ((C 2 (by decide)).len.trans hL) hn (s:=3) (by decide) (fun k=>Int.fmod (Int.fdiv (X k) 5) 64) _ _ _ _ _ _ _ _ (tn:=6) (by decide) {(uw W.params X (uZ (l0 X 4)) XS.length XS (ug.drop XS.length) eS aS A K) with aA:=ra W.params X (uZ (l0 X 4)) XS.length XS (ug.drop XS.length) eS aS A K} (vJ W.params X (uZ (l0 X 4)) XS.length XS (ug.drop XS.length) eS aS A K) _ _ (U5 hL hn h5 1 (by decide)) _ (dl hz)
  ·exact U7 (by decide) (jE (uZ (l0 X 4) 1)) _ _ 4 rfl
  ·exact fun _ hz=>UM W (C 1 (by decide)).lt ((C 1 (by decide)).len.trans hL) hn (s:=2) (by decide) (fun k=>Int.fmod (Int.fdiv (X k) 5) 64) _ _ _ _ _ _ _ _ (tn:=7) (by decide) {(uw W.params X (uZ (l0 X 4)) XS.length XS (ug.drop XS.length) eS aS A K) with aA:=ra W.params X (uZ (l0 X 4)) XS.length XS (ug.drop XS.length) eS aS A K} (vJ W.params X (uZ (l0 X 4)) XS.length XS (ug.drop XS.length) eS aS A K) _ _ (U5 hL hn h5 0 (by decide)) _ (dl hz)
  ·exact U7 (by decide) (jE (uZ (l0 X 4) 0)) _ (uY [K 60,K 62,K 64,K 66]) 4 rfl
  )
theorem WY (W:World) (X:Nat→Int) (XS:List Value) (ns:List Int) (eS:Nat) (aS:Addr) (hI:IntsAre XS ns) (hl:XS.length≤63) (hX:(ns++ug.drop XS.length).take 5=(List.range 5).map X):j6 pw W (jB W.params) wo 60 (.call (.ref 106) ⟨[.ref aS],[]⟩) ([(aS,j0 XS eS),(86,tE),(93,tE)].map some):=by
 have hn:5=4∨5=5:=by decide
 have hL:=D9 X 5
 have h5:=D' X 5
 have hp:(ug.drop XS.length).length≤4:=by simp [ug]
 have hD: ∀k,k<5→Int.fmod (X k) 5=qR (jE (l0 X 5)) k:=UK X 5
 have C:=YF hL hn h5
 exact uM (w:=W) (WU W.params X (uZ (l0 X 5)) XS.length XS (ug.drop XS.length) eS aS) (.inl (xl _)) (by
  intro A K
  walk_at "ob"
  ·exact jG (by lia) rfl
  ·exact D0 _ _ _ _ _ XS.length
  ·exact D1 _ rfl hl hp
  ·exact D4 hn hI hl hp hX
  ·exact Ul _ _ _ _ _ _ (ux h5 0) (UK X 5 0 (by decide))
  ·exact Ul _ _ _ _ _ _ (ux h5 1) (UK X 5 1 (by decide))
  ·exact Ul _ _ _ _ _ _ (ux h5 2) (UK X 5 2 (by decide))
  ·exact Ul _ _ _ _ _ _ (ux h5 3) (UK X 5 3 (by decide))
  ·exact Ul _ _ _ _ _ _ (ux h5 4) (UK X 5 4 (by decide))
  ·exact fun _ hz=>D5 W (C 0 (by decide)).lt ((C 0 (by decide)).len.trans hL) hn (s:=2) (by decide) _ _ _ _ _ _ _ _ _ (tn:=2) (by decide) _ (dl hz)
  ·exact fun _ hz=>Wo W (jE (uZ (l0 X 5) 1)) (fun k=>Int.fmod (X k) 5) _ _ _ _ _ _ _ (eI hL hn h5 hD 1 (by decide) (by decide)) _ (dl hz)
  ·exact fun _ hz=>UL W (C 1 (by decide)).lt ((C 1 (by decide)).len.trans hL) hn (s:=3) (by decide) _ _ _ _ _ _ _ _ _ (tn:=3) (by decide) (kH W.params X (uZ (l0 X 5)) XS.length XS (ug.drop XS.length) eS aS A K) (ur W.params X (uZ (l0 X 5)) XS.length XS (ug.drop XS.length) eS aS A K) _ _ (dl hz)
  ·exact fun _ hz=>Wq W (jE (uZ (l0 X 5) 2)) (fun k=>Int.fmod (X k) 5) _ _ _ _ _ _ _ (eI hL hn h5 hD 2 (by decide) (by decide)) _ (dl hz)
  ·exact fun _ hz=>UL W (C 2 (by decide)).lt ((C 2 (by decide)).len.trans hL) hn (s:=4) (by decide) _ _ _ _ _ _ _ _ _ (tn:=4) (by decide) (kH W.params X (uZ (l0 X 5)) XS.length XS (ug.drop XS.length) eS aS A K) (ur W.params X (uZ (l0 X 5)) XS.length XS (ug.drop XS.length) eS aS A K) _ _ (dl hz)
  ·exact fun _ hz=>Wr W (jE (uZ (l0 X 5) 3)) (fun k=>Int.fmod (X k) 5) _ _ _ _ _ _ _ (eI hL hn h5 hD 3 (by decide) (by decide)) _ (dl hz)
  ·exact fun _ hz=>UL W (C 3 (by decide)).lt ((C 3 (by decide)).len.trans hL) hn (s:=5) (by decide) _ _ _ _ _ _ _ _ _ (tn:=5) (by decide) (kH W.params X (uZ (l0 X 5)) XS.length XS (ug.drop XS.length) eS aS A K) (ur W.params X (uZ (l0 X 5)) XS.length XS (ug.drop XS.length) eS aS A K) _ _ (dl hz)
  ·exact fun _ hz=>Ws W (jE (uZ (l0 X 5) 4)) (fun k=>Int.fmod (X k) 5) _ _ _ _ _ _ _ (eI hL hn h5 hD 4 (by decide) (by decide)) _ (dl hz)
  ·exact fun _ hz=>D6 W (C 4 (by decide)).lt ((C 4 (by decide)).len.trans hL) hn (s:=5) (by decide) (fun k=>Int.fmod (Int.fdiv (X k) 5) 64) _ _ _ _ _ _ _ _ (tn:=4) (by decide) (kH W.params X (uZ (l0 X 5)) XS.length XS (ug.drop XS.length) eS aS A K) (ur W.params X (uZ (l0 X 5)) XS.length XS (ug.drop XS.length) eS aS A K) _ (U5 hL hn h5 3 (by decide)) _ (dl hz)
  ·exact U7 (by decide) (jE (uZ (l0 X 5) 3)) _ _ 5 rfl
  ·exact fun _ hz=>UM W (C 3 (by decide)).lt ((C 3 (by decide)).len.trans hL) hn (s:=4) (by decide) (fun k=>Int.fmod (Int.fdiv (X k) 5) 64) _ _ _ _ _ _ _ _ (tn:=5) (by decide) {(kH W.params X (uZ (l0 X 5)) XS.length XS (ug.drop XS.length) eS aS A K) with aA:=Yj W.params X (uZ (l0 X 5)) XS.length XS (ug.drop XS.length) eS aS A K} (ur W.params X (uZ (l0 X 5)) XS.length XS (ug.drop XS.length) eS aS A K) _ _ (U5 hL hn h5 2 (by decide)) _ (dl hz)
  ·exact U7 (by decide) (jE (uZ (l0 X 5) 2)) _ _ 5 rfl
  ·exact fun _ hz=>UM W (C 2 (by decide)).lt ((C 2 (by decide)).len.trans hL) hn (s:=3) (by decide) (fun k=>Int.fmod (Int.fdiv (X k) 5) 64) _ _ _ _ _ _ _ _ (tn:=6) (by decide) {(kH W.params X (uZ (l0 X 5)) XS.length XS (ug.drop XS.length) eS aS A K) with aA:=Yj W.params X (uZ (l0 X 5)) XS.length XS (ug.drop XS.length) eS aS A K} (ur W.params X (uZ (l0 X 5)) XS.length XS (ug.drop XS.length) eS aS A K) _ _ (U5 hL hn h5 1 (by decide)) _ (dl hz)
  ·exact U7 (by decide) (jE (uZ (l0 X 5) 1)) _ _ 5 rfl
  ·exact fun _ hz=>UM W (C 1 (by decide)).lt ((C 1 (by decide)).len.trans hL) hn (s:=2) (by decide) (fun k=>Int.fmod (Int.fdiv (X k) 5) 64) _ _ _ _ _ _ _ _ (tn:=7) (by decide) {(kH W.params X (uZ (l0 X 5)) XS.length XS (ug.drop XS.length) eS aS A K) with aA:=Yj W.params X (uZ (l0 X 5)) XS.length XS (ug.drop XS.length) eS aS A K} (ur W.params X (uZ (l0 X 5)) XS.length XS (ug.drop XS.length) eS aS A K) _ _ (U5 hL hn h5 0 (by decide)) _ (dl hz)
  ·exact U7 (by decide) (jE (uZ (l0 X 5) 0)) _ (uY [K 69,K 71,K 73,K 75,K 77]) 5 rfl
  )
theorem WZ {h:Heap} {K:Frag} {t:KT} (H:KT.Holds h 1 0 t) (e:(K.map fun p=>t.get p.1)=K.map fun p=>some p.2): ∀a o,(KT.of K).get a=some o→h.get? a=some o:=by
 have A:AllIn h K:=by
  induction K with
  |nil=>trivial
  |cons p K ih=>
   rw [List.map_cons,List.map_cons] at e
   injection e with e1 e2
   have:=KT.Holds.get H e1
   rw [Nat.one_mul,Nat.add_zero] at this
   exact ⟨this,ih e2⟩
 intro a o q
 have:=KT.Holds.get (holds_of A) q
 rwa [Nat.one_mul,Nat.add_zero] at this
theorem W0 (ns:List Int): ∃n X,(n=4∨n=5)∧(ns++ug.drop ns.length).take 5=(List.range n).map X:=by
 have key: ∀l:List Int,∃X:Nat→Int,l=(List.range l.length).map X:=fun l=>⟨fun k=>l.getD k 0,by
  apply List.ext_getElem
  ·simp
  ·intro i a b;simp [a]⟩
 have hl:((ns++ug.drop ns.length).take 5).length=4∨((ns++ug.drop ns.length).take 5).length=5:=by
  simp [ug];lia
 obtain ⟨X,hX⟩:=key ((ns++ug.drop ns.length).take 5)
 exact ⟨_,X,hl,hX⟩
theorem W2 (W:World) (XS:List Value) (ns:List Int) (hI:IntsAre XS ns) (hl:ns.length≤63):j6 pw W (jB W.params) wo 60 (.call (.ref 106) ⟨[.ref 107],[]⟩) ([(107,j0 XS 0),(86,tE),(93,tE)].map some):=by
 obtain ⟨n,X,hn,hX⟩:=W0 ns
 have e:=hI.length
 rw [←e] at hX
 rcases hn with rfl|rfl
 ·exact WX W X XS ns 0 107 hI (by lia) hX
 ·exact WY W X XS ns 0 107 hI (by lia) hX
theorem W3 {W:World} {s:Shared} {XS:List Value} {ns:List Int} {Q:Value→Shared→Prop} {E:Value→Shared→Prop} (hI:IntsAre XS ns) (hl:ns.length≤63) (base: ∀a o,(jB W.params).get a=some o→s.heap.get? a=some o)
  (Ea:s.heap.get? 107=some (j0 XS 0)) (Eb:s.heap.get? 86=some tE) (Ec:s.heap.get? 93=some tE) (hQ: ∀s',OldK s.heap s'.heap→s'.os=s.os→s'.gens=s.gens→Q (.bool true) s'):
  wpAny (model pw W) callerA (call (.ref 106) [.ref 107]) Q E s:=by
 refine wpAny_call ?_
 refine (W2 W XS ns hI hl).use callerA _ s ⟨rfl,by decide+kernel,by decide+kernel⟩ ⟨base,?_,?_,?_⟩ ?_
 ·intro p hp
  have:p=(107,j0 XS 0)∨p=(86,tE)∨p=(93,tE):=by simpa using hp
  rcases this with rfl|rfl|rfl
  ·exact Ea
  ·exact Eb
  ·exact Ec
 ·intro i j p q hp hq e
  have hi:i<3:=by simpa using (List.getElem?_eq_some_iff.mp hp).1
  have hj:j<3:=by simpa using (List.getElem?_eq_some_iff.mp hq).1
  have ci:i=0∨i=1∨i=2:=by lia
  have cj:j=0∨j=1∨j=2:=by lia
  rcases ci with rfl|rfl|rfl<;>rcases cj with rfl|rfl|rfl<;>first|rfl|(cases hp;cases hq;simp at e)
 ·intro p hp
  have:p=(107,j0 XS 0)∨p=(86,tE)∨p=(93,tE):=by simpa using hp
  rcases this with rfl|rfl|rfl
  ·show (jB W.params).get 107=none;kernel_rfl
  ·show (jB W.params).get 86=none;kernel_rfl
  ·show (jB W.params).get 93=none;kernel_rfl
 ·intro s' as ts la lt P
  obtain ⟨p1,p2,p3,p4,p5,p6,p7,p8,p9⟩:=P
  have W4:s.heap.get? 90=some (w8 W.params):=base _ _ (by kernel_rfl)
  have W5:s.heap.get? 95=some (w9 W.params):=base _ _ (by kernel_rfl)
  have Ed:s'.heap.get? 107=some (j0 XS 0):=p3 0 (107,j0 XS 0) id rfl rfl
  have Ee:s'.heap.get? 86=some (VJ (ts.getD 0 0)):=p3 1 (86,tE) (fun _=>VJ (ts.getD 0 0)) rfl rfl
  have Ef:s'.heap.get? 93=some (VK (ts.getD 1 0)):=p3 2 (93,tE) (fun _=>VK (ts.getD 1 0)) rfl rfl
  refine hQ s' ⟨fun b o e=> ?_,fun b o e=> ?_⟩ p8 p7
  ·by_cases b1:b=107
   ·subst b1;rw [Ea] at e;cases e;exact .inl Ed
   by_cases b2:b=86
   ·subst b2;rw [Eb] at e;cases e
    exact .inr (.inl ⟨⟨90,_,_,W4,rfl,rfl,rfl⟩,rfl,#[],#[.int 91 0,.int 4 0,.ref (ts.getD 0 0)],rfl,Ee⟩)
   by_cases b3:b=93
   ·subst b3;rw [Ec] at e;cases e
    exact .inr (.inl ⟨⟨95,_,_,W5,rfl,rfl,rfl⟩,rfl,#[],#[.int 109 0,.int 4 0,.ref (ts.getD 1 0)],rfl,Ef⟩)
   refine .inl (p1 b o e fun p hp=> ?_)
   have:p=(107,j0 XS 0)∨p=(86,tE)∨p=(93,tE):=by simpa using hp
   rcases this with rfl|rfl|rfl
   ·exact fun h=>b1 h.symm
   ·exact fun h=>b2 h.symm
   ·exact fun h=>b3 h.symm
  ·by_cases b1:b=107
   ·subst b1;exact ⟨_,Ed⟩
   by_cases b2:b=86
   ·subst b2;exact ⟨_,Ee⟩
   by_cases b3:b=93
   ·subst b3;exact ⟨_,Ef⟩
   refine ⟨o,p1 b o e fun p hp=> ?_⟩
   have:p=(107,j0 XS 0)∨p=(86,tE)∨p=(93,tE):=by simpa using hp
   rcases this with rfl|rfl|rfl
   ·exact fun h=>b1 h.symm
   ·exact fun h=>b2 h.symm
   ·exact fun h=>b3 h.symm
end
end Mine
open PySem.W.ZRun
set_option maxRecDepth 100000 in
set_option maxHeartbeats 8000000 in
theorem PySem.Challenge.cw_pk0035_01_holds : PySem.Challenge.rw_pk0035_01.Holds := by
 w_on
 o_law
 z_head
 (case hw=>w_witness2)
 k_fill
 intro w s₀ s₁ mg mb G y fa o pm cd doc dV kV ho hd Xl hD W6 hg args vals as L W7 W8 W9 W' Xa
 z_open y L KX ZH ZN ZT
 refine Ground.open G ?_
 intro T B D TE TW
 wrow_args W7 W8 W9 W' Xa
 obtain ⟨Eg,fi⟩:=script_at L
 have dY:=script_toks L ZT
 rw [ZN] at Eg fi
 subst Eg
 x_fa T KX W6
 (rename IntsAre _ _=>hI)
 (rename (_:Heap).IsList _ _=>Xb)
 have Xc: ∀{ns:List Int},¬(((63:Nat):Int)<((ns.length:Nat):Int))→ns.length≤63:=fun h=>Nat.le_of_not_lt fun g=>h (Int.ofNat_lt.mpr g)
 (rename ¬_=>hc)
 have dg:=script_obj L Xb
 refine Mine.W3 (W:=w) hI (Xc hc) (Mine.WZ ZH (by kernel_rfl)) dg ?_ ?_ ?_
 ·have:=KT.Holds.get ZH (j:=86) (o:=Mine.tE) (by kernel_rfl);exact this
 ·have:=KT.Holds.get ZH (j:=93) (o:=Mine.tE) (by kernel_rfl);exact this
 ·intro s' h1 h2 h3
  refine ⟨.inl ⟨_,.bool true,[],rfl,?_,?_,?_,?_⟩,h1,h2,?_⟩
  ·intro cls;rfl
  ·first|exact .bool _|constructor
  ·exact postW_of (X:=true) (by first|rfl|decide+kernel) (by kernel_rfl) rfl
  ·exact fun _=>⟨.nil,fun a h=>by cases h⟩
  ·rw [h3,hg];intro y hy;simp at hy
