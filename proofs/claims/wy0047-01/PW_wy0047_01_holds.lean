import PyProof.Rows.All
import PyProof.GenCompD
import PyProof.ListRange
import PyProof.ZipIter
import PyProof.TupleOfGen
import KE.BitLaws
import KE.IntBitsLaws
import KE.KNest
import KE.KLam
import KE.KDictSum
import KE.KRevIter
import KE.KSortTup
import Wide.FinOn
import OpenK.AllK
import Wide.All
import Lean
import PySem.Challenge.RW_wy0047_01
set_option Elab.async false
set_option linter.all false
set_option autoImplicit false
set_option maxRecDepth 100000
set_option genInjectivity false
set_option genSizeOf false
open PySem PySem.W PyProof.Rows
namespace Mine
variable{La TI TO fI i1 i2 l1 l2 : Addr}{params : Arguments}{A : Around}{items ps : Array Value}{cenv env : Env}{mean : ExcName → Option Value}{e e2 e3 elt iter target : Expr}{fd : FuncData}{h h' : Heap}{tree : List (Nat × Nat)}{kvs : List (Str × Str)}{ka kb : List (Str × Value)}{ts : List (Value → Sem Unit)}{as fp tp wr : List Addr}{args elts ifs : List Expr}{F L W ds is ks line od ord walk : List Nat}{body orelse : List Stmt}{loose ns : List Str}{kv : List Value}{acc here j k kk m n0 num sp tk total weight wi : Nat}{src : Nat → Nat}{o ob : Obj}{op : Operator}{dc : Option Addr}{P : Params}{apos np pos pos' px : Pos}{prog : Program}{p1 p2 p3 : Prop}{scope : Scope}{s' : Shared}{qual : Str}{mb mg : Str → Option Value}{id : String}{t : Tok}{cls : Value}{E Q : Value → Shared → Prop}
section
theorem b2{α β γ:Type}{o:Option (α×β)}{f:α×β→Option γ}{r:γ}{P:Prop}(h:o.bind f=some r)(k:∀ a b,o=some (a,b)→f (a,b)=some r→P):P:=match o,h,k with | some (a,b),h,k=>k a b rfl h
theorem b1{α γ:Type}{o:Option α}{f:α→Option γ}{r:γ}{P:Prop}(h:o.bind f=some r)(k:∀ a,o=some a→f a=some r→P):P:=match o,h,k with | some a,h,k=>k a rfl h
theorem iN{γ:Type}{c:Prop}[Decidable c]{x:Option γ}{y:γ}{P:Prop}(h:(if c then x else none)=some y)(k:c→x=some y→P):P:=if hc:c then k hc (by rwa [if_pos hc] at h) else by rw[if_neg hc] at h;cases h
theorem I7{t1:Type}{p1:t1→Prop}{p2:t1→Prop}{P:Prop}(h:∃ x1,p1 x1∧p2 x1)(k:∀ x1,p1 x1→p2 x1→P):P:=Exists.elim h fun x1 q1=>k x1 q1.1 q1.2
theorem e9{t1:Type}{t2:Type}{t3:Type}{p1:t1→t2→t3→Prop}{p2:t1→t2→t3→Prop}{p3:t1→t2→t3→Prop}{P:Prop}(h:∃ x1,∃ x2,∃ x3,p1 x1 x2 x3∧p2 x1 x2 x3∧p3 x1 x2 x3)(k:∀ x1,∀ x2,∀ x3,p1 x1 x2 x3→p2 x1 x2 x3→p3 x1 x2 x3→P):P:=Exists.elim h fun x1 q1=>Exists.elim q1 fun x2 q2=>Exists.elim q2 fun x3 q3=>k x1 x2 x3 q3.1 q3.2.1 q3.2.2
theorem N4{t1:Type}{p2:t1→Prop}{p3:t1→Prop}{P:Prop}(h:p1∧(∃ x1,p2 x1∧p3 x1))(k:p1→∀ x1,p2 x1→p3 x1→P):P:=Exists.elim h.2 fun x1 q1=>k h.1 x1 q1.1 q1.2
theorem F1{t1:Type}{t2:Type}{p1:t1→t2→Prop}{p2:t1→t2→Prop}{p3:t1→t2→Prop}{p4:t1→t2→Prop}{P:Prop}(h:∃ x1,∃ x2,p1 x1 x2∧p2 x1 x2∧p3 x1 x2∧p4 x1 x2)(k:∀ x1,∀ x2,p1 x1 x2→p2 x1 x2→p3 x1 x2→p4 x1 x2→P):P:=Exists.elim h fun x1 q1=>Exists.elim q1 fun x2 q2=>k x1 x2 q2.1 q2.2.1 q2.2.2.1 q2.2.2.2
theorem q8{t1:Type}{p1:t1→Prop}{p2:t1→Prop}{p3:t1→Prop}{P:Prop}(h:∃ x1,p1 x1∧p2 x1∧p3 x1)(k:∀ x1,p1 x1→p2 x1→p3 x1→P):P:=Exists.elim h fun x1 q1=>k x1 q1.1 q1.2.1 q1.2.2
theorem A2b{t1:Type}{t2:Type}{p1:t1→t2→Prop}{p2:t1→t2→Prop}{p3:t1→t2→Prop}{P:Prop}(h:∃ x1,∃ x2,p1 x1 x2∧p2 x1 x2∧p3 x1 x2)(k:∀ x1,∀ x2,p1 x1 x2→p2 x1 x2→p3 x1 x2→P):P:=Exists.elim h fun x1 q1=>Exists.elim q1 fun x2 q2=>k x1 x2 q2.1 q2.2.1 q2.2.2
theorem xAA{P:Prop}(h:p1∧p2∧p3)(k:p1→p2→p3→P):P:=k h.1 h.2.1 h.2.2
theorem xAE{t1:Type}{p2:t1→Prop}{P:Prop}(h:p1∧(∃ x1,p2 x1))(k:p1→∀ x1,p2 x1→P):P:=Exists.elim h.2 fun x1 q1=>k h.1 x1 q1
theorem A5O{t1:Type}{t2:Type}{p1:t1→t2→Prop}{p2:t1→t2→Prop}{P:Prop}(h:∃ x1,∃ x2,p1 x1 x2∧p2 x1 x2)(k:∀ x1,∀ x2,p1 x1 x2→p2 x1 x2→P):P:=Exists.elim h fun x1 q1=>Exists.elim q1 fun x2 q2=>k x1 x2 q2.1 q2.2
theorem A2c{p4:Prop}{p5:Prop}{P:Prop}(h:p1∧p2∧p3∧p4∧p5)(k:p1→p2→p3→p4→p5→P):P:=k h.1 h.2.1 h.2.2.1 h.2.2.2.1 h.2.2.2.2
theorem B3g{p4:Prop}{P:Prop}(h:p1∧p2∧p3∧p4)(k:p1→p2→p3→p4→P):P:=k h.1 h.2.1 h.2.2.1 h.2.2.2
theorem A6P{t1:Type}{t2:Type}{t3:Type}{p1:t1→t2→t3→Prop}{p2:t1→t2→t3→Prop}{p3:t1→t2→t3→Prop}{p4:t1→t2→t3→Prop}{P:Prop}(h:∃ x1,∃ x2,∃ x3,p1 x1 x2 x3∧p2 x1 x2 x3∧p3 x1 x2 x3∧p4 x1 x2 x3)(k:∀ x1,∀ x2,∀ x3,p1 x1 x2 x3→p2 x1 x2 x3→p3 x1 x2 x3→p4 x1 x2 x3→P):P:=Exists.elim h fun x1 q1=>Exists.elim q1 fun x2 q2=>Exists.elim q2 fun x3 q3=>k x1 x2 x3 q3.1 q3.2.1 q3.2.2.1 q3.2.2.2
theorem P9{t1:Type}{t2:Type}{t3:Type}{t4:Type}{t5:Type}{t6:Type}{p1:t1→t2→t3→t4→t5→t6→Prop}{p2:t1→t2→t3→t4→t5→t6→Prop}{p3:t1→t2→t3→t4→t5→t6→Prop}{p4:t1→t2→t3→t4→t5→t6→Prop}{P:Prop}(h:∃ x1,∃ x2,∃ x3,∃ x4,∃ x5,∃ x6,p1 x1 x2 x3 x4 x5 x6∧p2 x1 x2 x3 x4 x5 x6∧p3 x1 x2 x3 x4 x5 x6∧p4 x1 x2 x3 x4 x5 x6)(k:∀ x1,∀ x2,∀ x3,∀ x4,∀ x5,∀ x6,p1 x1 x2 x3 x4 x5 x6→p2 x1 x2 x3 x4 x5 x6→p3 x1 x2 x3 x4 x5 x6→p4 x1 x2 x3 x4 x5 x6→P):P:=Exists.elim h fun x1 q1=>Exists.elim q1 fun x2 q2=>Exists.elim q2 fun x3 q3=>Exists.elim q3 fun x4 q4=>Exists.elim q4 fun x5 q5=>Exists.elim q5 fun x6 q6=>k x1 x2 x3 x4 x5 x6 q6.1 q6.2.1 q6.2.2.1 q6.2.2.2
theorem A2a{t1:Type}{t2:Type}{t3:Type}{p1:t1→t2→t3→Prop}{p2:t1→t2→t3→Prop}{p3:t1→t2→t3→Prop}{p4:t1→t2→t3→Prop}{p5:t1→t2→t3→Prop}{p6:t1→t2→t3→Prop}{P:Prop}(h:∃ x1,∃ x2,∃ x3,p1 x1 x2 x3∧p2 x1 x2 x3∧p3 x1 x2 x3∧p4 x1 x2 x3∧p5 x1 x2 x3∧p6 x1 x2 x3)(k:∀ x1,∀ x2,∀ x3,p1 x1 x2 x3→p2 x1 x2 x3→p3 x1 x2 x3→p4 x1 x2 x3→p5 x1 x2 x3→p6 x1 x2 x3→P):P:=Exists.elim h fun x1 q1=>Exists.elim q1 fun x2 q2=>Exists.elim q2 fun x3 q3=>k x1 x2 x3 q3.1 q3.2.1 q3.2.2.1 q3.2.2.2.1 q3.2.2.2.2.1 q3.2.2.2.2.2
theorem A1M{t1:Type}{t2:Type}{t3:Type}{t4:Type}{p1:t1→t2→t3→t4→Prop}{p2:t1→t2→t3→t4→Prop}{P:Prop}(h:∃ x1,∃ x2,∃ x3,∃ x4,p1 x1 x2 x3 x4∧p2 x1 x2 x3 x4)(k:∀ x1,∀ x2,∀ x3,∀ x4,p1 x1 x2 x3 x4→p2 x1 x2 x3 x4→P):P:=Exists.elim h fun x1 q1=>Exists.elim q1 fun x2 q2=>Exists.elim q2 fun x3 q3=>Exists.elim q3 fun x4 q4=>k x1 x2 x3 x4 q4.1 q4.2
theorem q7{t1:Type}{t2:Type}{t3:Type}{t4:Type}{p1:t1→t2→t3→t4→Prop}{p2:t1→t2→t3→t4→Prop}{p3:t1→t2→t3→t4→Prop}{p4:t1→t2→t3→t4→Prop}{P:Prop}(h:∃ x1,∃ x2,∃ x3,∃ x4,p1 x1 x2 x3 x4∧p2 x1 x2 x3 x4∧p3 x1 x2 x3 x4∧p4 x1 x2 x3 x4)(k:∀ x1,∀ x2,∀ x3,∀ x4,p1 x1 x2 x3 x4→p2 x1 x2 x3 x4→p3 x1 x2 x3 x4→p4 x1 x2 x3 x4→P):P:=Exists.elim h fun x1 q1=>Exists.elim q1 fun x2 q2=>Exists.elim q2 fun x3 q3=>Exists.elim q3 fun x4 q4=>k x1 x2 x3 x4 q4.1 q4.2.1 q4.2.2.1 q4.2.2.2
theorem B5E{t1:Type}{t2:Type}{t3:Type}{p1:t1→t2→t3→Prop}{p2:t1→t2→t3→Prop}{P:Prop}(h:∃ x1,∃ x2,∃ x3,p1 x1 x2 x3∧p2 x1 x2 x3)(k:∀ x1,∀ x2,∀ x3,p1 x1 x2 x3→p2 x1 x2 x3→P):P:=Exists.elim h fun x1 q1=>Exists.elim q1 fun x2 q2=>Exists.elim q2 fun x3 q3=>k x1 x2 x3 q3.1 q3.2
theorem A6Q{t1:Type}{p2:t1→Prop}{p3:t1→Prop}{p4:t1→Prop}{P:Prop}(h:p1∧(∃ x1,p2 x1∧p3 x1∧p4 x1))(k:p1→∀ x1,p2 x1→p3 x1→p4 x1→P):P:=Exists.elim h.2 fun x1 q1=>k h.1 x1 q1.1 q1.2.1 q1.2.2
theorem A35{t1:Type}{t2:Type}{t3:Type}{t4:Type}{p1:t1→t2→t3→t4→Prop}{p2:t1→t2→t3→t4→Prop}{p3:t1→t2→t3→t4→Prop}{p4:t1→t2→t3→t4→Prop}{p5:t1→t2→t3→t4→Prop}{p6:t1→t2→t3→t4→Prop}{p7:t1→t2→t3→t4→Prop}{P:Prop}(h:∃ x1,∃ x2,∃ x3,∃ x4,p1 x1 x2 x3 x4∧p2 x1 x2 x3 x4∧p3 x1 x2 x3 x4∧p4 x1 x2 x3 x4∧p5 x1 x2 x3 x4∧p6 x1 x2 x3 x4∧p7 x1 x2 x3 x4)(k:∀ x1,∀ x2,∀ x3,∀ x4,p1 x1 x2 x3 x4→p2 x1 x2 x3 x4→p3 x1 x2 x3 x4→p4 x1 x2 x3 x4→p5 x1 x2 x3 x4→p6 x1 x2 x3 x4→p7 x1 x2 x3 x4→P):P:=Exists.elim h fun x1 q1=>Exists.elim q1 fun x2 q2=>Exists.elim q2 fun x3 q3=>Exists.elim q3 fun x4 q4=>k x1 x2 x3 x4 q4.1 q4.2.1 q4.2.2.1 q4.2.2.2.1 q4.2.2.2.2.1 q4.2.2.2.2.2.1 q4.2.2.2.2.2.2
theorem B1O{t1:Type}{t2:Type}{t3:Type}{t4:Type}{p1:t1→t2→t3→t4→Prop}{p2:t1→t2→t3→t4→Prop}{p3:t1→t2→t3→t4→Prop}{P:Prop}(h:∃ x1,∃ x2,∃ x3,∃ x4,p1 x1 x2 x3 x4∧p2 x1 x2 x3 x4∧p3 x1 x2 x3 x4)(k:∀ x1,∀ x2,∀ x3,∀ x4,p1 x1 x2 x3 x4→p2 x1 x2 x3 x4→p3 x1 x2 x3 x4→P):P:=Exists.elim h fun x1 q1=>Exists.elim q1 fun x2 q2=>Exists.elim q2 fun x3 q3=>Exists.elim q3 fun x4 q4=>k x1 x2 x3 x4 q4.1 q4.2.1 q4.2.2
theorem B1N{t1:Type}{t2:Type}{t3:Type}{t4:Type}{t5:Type}{p1:t1→t2→t3→t4→t5→Prop}{p2:t1→t2→t3→t4→t5→Prop}{P:Prop}(h:∃ x1,∃ x2,∃ x3,∃ x4,∃ x5,p1 x1 x2 x3 x4 x5∧p2 x1 x2 x3 x4 x5)(k:∀ x1,∀ x2,∀ x3,∀ x4,∀ x5,p1 x1 x2 x3 x4 x5→p2 x1 x2 x3 x4 x5→P):P:=Exists.elim h fun x1 q1=>Exists.elim q1 fun x2 q2=>Exists.elim q2 fun x3 q3=>Exists.elim q3 fun x4 q4=>Exists.elim q4 fun x5 q5=>k x1 x2 x3 x4 x5 q5.1 q5.2
theorem A8o{t1:Type}{t2:Type}{t3:Type}{t4:Type}{t5:Type}{p1:t1→t2→t3→t4→t5→Prop}{p2:t1→t2→t3→t4→t5→Prop}{p3:t1→t2→t3→t4→t5→Prop}{P:Prop}(h:∃ x1,∃ x2,∃ x3,∃ x4,∃ x5,p1 x1 x2 x3 x4 x5∧p2 x1 x2 x3 x4 x5∧p3 x1 x2 x3 x4 x5)(k:∀ x1,∀ x2,∀ x3,∀ x4,∀ x5,p1 x1 x2 x3 x4 x5→p2 x1 x2 x3 x4 x5→p3 x1 x2 x3 x4 x5→P):P:=Exists.elim h fun x1 q1=>Exists.elim q1 fun x2 q2=>Exists.elim q2 fun x3 q3=>Exists.elim q3 fun x4 q4=>Exists.elim q4 fun x5 q5=>k x1 x2 x3 x4 x5 q5.1 q5.2.1 q5.2.2
theorem B5F{t1:Type}{p1:t1→Prop}{p2:t1→Prop}{p3:t1→Prop}{p4:t1→Prop}{P:Prop}(h:∃ x1,p1 x1∧p2 x1∧p3 x1∧p4 x1)(k:∀ x1,p1 x1→p2 x1→p3 x1→p4 x1→P):P:=Exists.elim h fun x1 q1=>k x1 q1.1 q1.2.1 q1.2.2.1 q1.2.2.2
theorem B5G{t1:Type}{p3:t1→Prop}{P:Prop}(h:p1∧p2∧(∃ x1,p3 x1))(k:p1→p2→∀ x1,p3 x1→P):P:=Exists.elim h.2.2 fun x1 q1=>k h.1 h.2.1 x1 q1
theorem B3f{t1:Type}{p2:t1→Prop}{p3:t1→Prop}{p4:t1→Prop}{p5:t1→Prop}{P:Prop}(h:p1∧(∃ x1,p2 x1∧p3 x1∧p4 x1∧p5 x1))(k:p1→∀ x1,p2 x1→p3 x1→p4 x1→p5 x1→P):P:=Exists.elim h.2 fun x1 q1=>k h.1 x1 q1.1 q1.2.1 q1.2.2.1 q1.2.2.2
theorem nn{α:Type}{a:α}{P:Prop}(e:none=some a):P:=nomatch e
theorem nb{P:Prop}(e:false=true):P:=nomatch e
theorem A5r{α:Type}{xs:List α}(h:xs.length=1):∃ a,xs=[a]:=List.length_eq_one_iff.mp h
theorem A8E{α:Type}{xs:List α}(h:xs.length=2):∃ a b,xs=[a,b]:=by
 cases xs with
 | nil=>exact nomatch h
 | cons a xs=>obtain⟨b,e⟩:=A5r (Nat.succ.inj h);exact⟨a,b,e▸rfl⟩
theorem A90{α:Type}{xs:List α}(h:xs.length=3):∃ a b c,xs=[a,b,c]:=by
 cases xs with
 | nil=>exact nomatch h
 | cons a xs=>obtain⟨b,c,e⟩:=A8E (Nat.succ.inj h);exact⟨a,b,c,e▸rfl⟩
theorem B5o{α:Type}{xs:List α}(h:xs.length=4):∃ a b c d,xs=[a,b,c,d]:=by
 cases xs with
 | nil=>exact nomatch h
 | cons a xs=>obtain⟨b,c,d,e⟩:=A90 (Nat.succ.inj h);exact⟨a,b,c,d,e▸rfl⟩
theorem B6Y{α:Type}{xs:List α}(h:xs.length=5):∃ a b c d f,xs=[a,b,c,d,f]:=by
 cases xs with
 | nil=>exact nomatch h
 | cons a xs=>obtain⟨b,c,d,f,e⟩:=B5o (Nat.succ.inj h);exact⟨a,b,c,d,f,e▸rfl⟩
@[elab_as_elim] theorem s2{α β:Type}{a c:α}{b d:β}{P:α→β→Prop}(h:some (a,b)=some (c,d))(k:P a b):P c d:=by cases h;exact k
@[elab_as_elim] theorem s1{α:Type}{a c:α}{P:α→Prop}(h:some a=some c)(k:P a):P c:=by cases h;exact k
inductive T where
 | none
 | bool (b:Bool)
 | int (i:Int)
 | str (s:Str)
 | ch (s:Str)
 | cst (v:Value)
 | tup (xs:List T)
 | lst (xs:List T)
 | ds (ks:List Str) (xs:List T)
 | di (ks:List Int) (xs:List T)
 | rng (a b:Int)
 | itv (ks:List Str) (xs:List T)
inductive V where
 | t (x:T)
 | ref (i:Nat)
 | obj (c:Addr) (n:Str) (v:V)
inductive AO where
 | lst (xs:List T)
 | ds (ks:List Str) (xs:List T)
 | di (ks:List Int) (xs:List T)
 | gone
structure St where
 loc:List (Option V)
 objs:List AO
inductive Loc where
 | fr (L:Addr) (x:Str)
 | cl (c:Addr)
inductive Role where
 | frame
 | cell
 | own (i:Nat)
 | frz (o:Obj)
 | kept (o:Obj)
 | tab
structure G where
 own:List Addr
 role:Addr→Option Role
 tk:Nat
structure Cx where
 prog:Program
 w:World
 hb:Heap
 os:OsState
 tabs:Addr→Pos→Str→Prop
 mg:Str→Option Value
 mb:Str→Option Value
 lo:Nat
variable{C:Cx}
noncomputable def G.fz(C:Cx)(g:G)(a:Addr)(o:Obj):Prop:=C.hb.get? a=some o∨g.role a=some (.frz o)
inductive SqR(O:Addr→Obj→Prop)(kd:String)(P:List Value→Prop)(v:Value):Prop
 | mk (a:Addr) (items:Array Value) (n:Nat) (e:v=.ref a) (f:O a (seqObj kd items n)) (r:P items.toList)
inductive DcR{κ:Type}(O:Addr→Obj→Prop)(D:Obj→List (κ×Value)→Prop)(ks:List κ)(P:List Value→Prop)(v:Value):Prop
 | mk (a:Addr) (o:Obj) (kvs:List (κ×Value)) (e:v=.ref a) (z:O a o) (d:D o kvs) (k:kvs.map (·.1)=ks) (r:P (kvs.map (·.2)))
inductive ItR{κ:Type}(O:Addr→Obj→Prop)(D:Obj→List (κ×Value)→Prop)(ks:List κ)(P:List Value→Prop)(v:Value):Prop
 | mk (b a:Addr) (o:Obj) (kvs:List (κ×Value)) (e:v=.ref b) (z':O b { cls:=.type "dict_items", data:=.fields #[.ref a] }) (z:O a o) (d:D o kvs) (k:kvs.map (·.1)=ks) (r:P (kvs.map (·.2)))
inductive RgR(O:Addr→Obj→Prop)(x y:Int)(v:Value):Prop
 | mk (r:Addr) (t u w:Tok) (e:v=.ref r) (z:O r { cls:=.type "range", dict:=none,data:=.fields #[.int x t,.int y u,.int 1 w],slots := #[] })
inductive CsR{β:Type}(P:β→Prop)(Q:List β→Prop)(l:List β):Prop
 | mk (v:β) (vs:List β) (e:l=v::vs) (p:P v) (q:Q vs)
noncomputable def All2{α β:Type}(R:α→β→Prop)(xs:List α):List β→Prop:=List.rec (motive:=fun _=>List β→Prop) (fun l=>l=[]) (fun x _ r l=>CsR (R x) r l) xs
section
variable{α β:Type}{R R':α→β→Prop}{xs:List α}
theorem All2.length:∀ {l:List β},All2 R xs l→l.length=xs.length:=by
 induction xs with
 | nil=>exact fun h=>congrArg List.length h
 | cons x xs ih=>exact fun ⟨v,vs,e,_,r⟩=>e▸congrArg (·+1) (ih r)
theorem All2.get:∀ {l:List β},All2 R xs l→∀ {i:Nat} {x:α} {v:β},xs[i]?=some x→l[i]?=some v→R x v:=by
 induction xs with
 | nil=>exact fun _ _ _ _ h=>nn h
 | cons x xs ih=>
  intro l ⟨v,vs,e,h1,r⟩ i y w h h'
  subst e
  cases i with
  | zero=>exact Option.some.inj h▸Option.some.inj h'▸h1
  | succ i=>exact ih r (i:=i) h h'
theorem All2.of_get:∀ {l:List β},xs.length=l.length→(∀ (i:Nat) x v,xs[i]?=some x→l[i]?=some v→R x v)→All2 R xs l:=by
 induction xs with
 | nil=>exact fun h _=>List.eq_nil_of_length_eq_zero h.symm
 | cons x xs ih=>
  intro l h q
  cases l with
  | nil=>cases h
  | cons v vs=>exact⟨v,vs,rfl,q 0 x v rfl rfl,ih (Nat.succ.inj h) fun i y u h1 h2=>q (i+1) y u h1 h2⟩
theorem All2.mono(f:∀ x v,R x v→R' x v):∀ {l:List β},All2 R xs l→All2 R' xs l:=by
 induction xs with
 | nil=>exact id
 | cons x xs ih=>exact fun ⟨v,vs,e,h1,r⟩=>⟨v,vs,e,f x v h1,ih r⟩
theorem All2.append{ys:List α}{l':List β}(h':All2 R ys l'):∀ {l:List β},All2 R xs l→All2 R (xs++ys) (l++l'):=by
 induction xs with
 | nil=>exact fun h=>(show _=[] from h)▸h'
 | cons x xs ih=>exact fun ⟨v,vs,e,h1,r⟩=>⟨v,vs++l',e▸rfl,h1,ih r⟩
theorem All2.reverse:∀ {l:List β},All2 R xs l→All2 R xs.reverse l.reverse:=by
 induction xs with
 | nil=>exact fun h=>(show _=[] from h)▸rfl
 | cons x xs ih=>
  intro l ⟨v,vs,e,h1,r⟩
  rw[e,List.reverse_cons,List.reverse_cons]
  exact All2.append (ys:=[x]) (l':=[v]) ⟨v,[],rfl,h1,rfl⟩ (ih r)
end
inductive ObR(O:Addr→Obj→Prop)(c:Addr)(A:Addr→Nat→Tok→Value→Prop)(Q:Value→Prop)(v:Value):Prop
 | mk (a d:Addr) (k:Nat) (t:Tok) (y:Value) (sl:Array (Option Value)) (e:v=.ref a) (z:O a ⟨.ref c,some d,.plain,sl⟩) (z':A d k t y) (q:Q y)
inductive LoR(P:List Value→Prop)(o:Obj):Prop
 | mk (items:Array Value) (n:Nat) (e:o=seqObj "list" items n) (r:P items.toList)
inductive KoR{κ:Type}(D:List (κ×Value)→Prop)(ks:List κ)(P:List Value→Prop):Prop
 | mk (kvs:List (κ×Value)) (d:D kvs) (k:kvs.map (·.1)=ks) (r:P (kvs.map (·.2)))
inductive OpR(P:Value→Prop)(v:Option Value):Prop
 | mk (y:Value) (e:v=some y) (r:P y)
mutual
noncomputable def RelT(C:Cx)(g:G):T→Value→Prop
 | .none,v=>v=.none
 | .bool b,v=>v=.bool b
 | .int i,v=>∃ t,v=.int i t
 | .str s,v=>∃ t,v=.str s t
 | .ch s,v=>∃ t,v=.str s t∧0<t∧t<g.tk
 | .cst c,v=>v=c
 | .tup xs,v=>SqR (g.fz C) "tuple" (RelTs C g xs) v
 | .lst xs,v=>SqR (g.fz C) "list" (RelTs C g xs) v
 | .ds ks xs,v=>DcR (fun a o=>g.role a=some (.frz o)) (fun o kvs=>o.IsDictOf (strKind C.prog C.w) kvs) ks (RelTs C g xs) v
 | .di ks xs,v=>DcR (fun a o=>g.role a=some (.frz o)) (fun o kvs=>o.IsDictOf (intKind C.prog C.w) kvs) ks (RelTs C g xs) v
 | .rng a b,v=>RgR (fun a o=>g.role a=some (.frz o)) a b v
 | .itv ks xs,v=>ItR (fun a o=>g.role a=some (.frz o)) (fun o kvs=>o.IsDictOf (strKind C.prog C.w) kvs) ks (RelTs C g xs) v
noncomputable def RelTs(C:Cx)(g:G):List T→List Value→Prop
 | [],l=>l=[]
 | x::xs,l=>CsR (RelT C g x) (RelTs C g xs) l
end
section
variable{g:G}
theorem RelT.bool{b:Bool}:RelT C g (.bool b) (.bool b):=rfl
theorem RelT.int{i:Int}:RelT C g (.int i) (.int i t):=⟨t,rfl⟩
theorem RelT.str{i:Str}:RelT C g (.str i) (.str i t):=⟨t,rfl⟩
theorem RelT.cst{v:Value}:RelT C g (.cst v) v:=rfl
theorem RelT.tup{xs:List T}{a:Addr}{n:Nat}(h:g.fz C a (seqObj "tuple" items n))(r:RelTs C g xs items.toList):RelT C g (.tup xs) (.ref a):=⟨a,items,n,rfl,h,r⟩
theorem RelT.lst{xs:List T}{a:Addr}{n:Nat}(h:g.fz C a (seqObj "list" items n))(r:RelTs C g xs items.toList):RelT C g (.lst xs) (.ref a):=⟨a,items,n,rfl,h,r⟩
end
structure G.lev(g g':G):Prop where
 own:∃ t,g'.own=g.own++t
 frz:∀ a o,g.role a=some (.frz o)→g'.role a=some (.frz o)
 tk:g.tk≤g'.tk
structure G.le(g g':G):Prop where
 own:∃ t,g'.own=g.own++t
 frz:∀ a o,g.role a=some (.frz o)→g'.role a=some (.frz o)
 kept:∀ a o,g.role a=some (.kept o)→g'.role a=some (.kept o)
 tk:g.tk≤g'.tk
theorem G.le.refl(g:G):g.le g:=⟨⟨[],by simp⟩,fun _ _ e=>e,fun _ _ e=>e,Nat.le_refl _⟩
theorem G.le.trans{g g' g'':G}(h:g.le g')(h':g'.le g''):g.le g'':=by
 obtain⟨⟨t,e⟩,f,k,n⟩:=h
 obtain⟨⟨t',e'⟩,f',k',n'⟩:=h'
 exact⟨⟨t++t',by rw[e',e,List.append_assoc]⟩,fun a o x=>f' a o (f a o x),fun a o x=>k' a o (k a o x),Nat.le_trans n n'⟩
theorem G.le.v{g g':G}(h:g.le g'):g.lev g':=⟨h.own,h.frz,h.tk⟩
theorem G.lev.fz{g g':G}(h:g.lev g'){a:Addr}:g.fz C a o→g'.fz C a o
 | .inl e=>.inl e
 | .inr e=>.inr (h.frz a o e)
theorem G.lev.at{g g':G}(h:g.lev g'){i:Nat}{a:Addr}(e:g.own[i]?=some a):g'.own[i]?=some a:=by
 obtain⟨⟨t,h⟩,_,_⟩:=h
 rw[h]
 exact(List.getElem?_append_left (List.getElem?_eq_some_iff.mp e).1).trans e
mutual
theorem H3{g g':G}(h:g.lev g'):∀ (x:T) (v:Value),RelT C g x v→RelT C g' x v
 | .none,v,r=>r
 | .bool b,v,r=>r
 | .int i,v,r=>r
 | .str s,v,r=>r
 | .ch s,v,⟨t,e,h1,h2⟩=>⟨t,e,h1,Nat.lt_of_lt_of_le h2 h.tk⟩
 | .cst c,v,r=>r
 | .tup xs,v,⟨a,items,n,e,z,r⟩=>⟨a,items,n,e,h.fz z,relTs_mono' h xs _ r⟩
 | .lst xs,v,⟨a,items,n,e,z,r⟩=>⟨a,items,n,e,h.fz z,relTs_mono' h xs _ r⟩
 | .ds ks xs,v,⟨a,o,kvs,e,z,d,k,r⟩=>⟨a,o,kvs,e,h.frz _ _ z,d,k,relTs_mono' h xs _ r⟩
 | .di ks xs,v,⟨a,o,kvs,e,z,d,k,r⟩=>⟨a,o,kvs,e,h.frz _ _ z,d,k,relTs_mono' h xs _ r⟩
 | .rng a b,v,⟨r,t,u,w,e,z⟩=>⟨r,t,u,w,e,h.frz _ _ z⟩
 | .itv ks xs,v,⟨r,a,o,kvs,e,z',z,d,k,q⟩=>⟨r,a,o,kvs,e,h.frz _ _ z',h.frz _ _ z,d,k,relTs_mono' h xs _ q⟩
theorem relTs_mono'{g g':G}(h:g.lev g'):∀ (x:List T) (v:List Value),RelTs C g x v→RelTs C g' x v
 | [],_,r=>r
 | x::xs,_,⟨v,vs,e,r,rs⟩=>⟨v,vs,e,H3 h x v r,relTs_mono' h xs vs rs⟩
end
theorem A0H{g g':G}(h:g.le g')(x:T)(v:Value):RelT C g x v→RelT C g' x v:=H3 h.v x v
theorem F5{g g':G}(h:g.le g')(x:List T)(v:List Value):RelTs C g x v→RelTs C g' x v:=relTs_mono' h.v x v
theorem RelTs.iff{g:G}{xs:List T}:∀ {vs:List Value},RelTs C g xs vs↔All2 (RelT C g) xs vs:=by
 induction xs with
 | nil=>exact Iff.rfl
 | cons x xs ih=>exact⟨fun ⟨v,vs,e,h,r⟩=>⟨v,vs,e,h,ih.mp r⟩,fun ⟨v,vs,e,h,r⟩=>⟨v,vs,e,h,ih.mpr r⟩⟩
section
variable{g:G}{xs:List T}{vs:List Value}(r:RelTs C g xs vs)
include r
theorem RelTs.length:vs.length=xs.length:=(RelTs.iff.mp r).length
theorem RelTs.at{i:Nat}{x:T}{v:Value}(h:xs[i]?=some x)(h':vs[i]?=some v):RelT C g x v:=(RelTs.iff.mp r).get h h'
theorem RelTs.get{i:Nat}{x:T}(h:xs[i]?=some x):∃ v,vs[i]?=some v∧RelT C g x v:=
 have hi:i<vs.length:=r.length▸(List.getElem?_eq_some_iff.mp h).1
 ⟨vs[i],List.getElem?_eq_getElem hi,r.at h (List.getElem?_eq_getElem hi)⟩
theorem RelTs.get'{i:Nat}{v:Value}(h:vs[i]?=some v):∃ x,xs[i]?=some x∧RelT C g x v:=
 have hi:i<xs.length:=r.length▸(List.getElem?_eq_some_iff.mp h).1
 ⟨xs[i],List.getElem?_eq_getElem hi,r.at (List.getElem?_eq_getElem hi) h⟩
theorem RelTs.append{ys:List T}{us:List Value}(r':RelTs C g ys us):RelTs C g (xs++ys) (vs++us):=RelTs.iff.mpr ((RelTs.iff.mp r').append (RelTs.iff.mp r))
theorem RelTs.drop(n:Nat):RelTs C g (xs.drop n) (vs.drop n):=RelTs.iff.mpr (.of_get (by rw[List.length_drop,List.length_drop,r.length]) fun i x v h h'=>r.at (List.getElem?_drop▸h) (List.getElem?_drop▸h'))
theorem RelTs.take(n:Nat):RelTs C g (xs.take n) (vs.take n):=RelTs.iff.mpr (.of_get (by rw[List.length_take,List.length_take,r.length]) fun i x v h h'=>by
 rw[List.getElem?_take] at h h'
 exact iN h fun q h=>iN h' fun _ h'=>r.at h h')
theorem RelTs.set(i:Nat){x:T}{v:Value}(rx:RelT C g x v):RelTs C g (xs.set i x) (vs.set i v):=RelTs.iff.mpr (.of_get (by rw[List.length_set,List.length_set,r.length]) fun j y w h h'=>by
 rw[List.getElem?_set] at h h'
 by_cases q:i=j
 ·rw[if_pos q] at h h'
  exact iN h fun _ h=>iN h' fun _ h'=>Option.some.inj h▸Option.some.inj h'▸rx
 ·rw[if_neg q] at h h'
  exact r.at h h')
end
theorem RelTs.one{g:G}{x:T}{v:Value}(r:RelT C g x v):RelTs C g [x] [v]:=⟨v,[],rfl,r,rfl⟩
theorem RelTs.nil{g:G}:RelTs C g [] []:=rfl
theorem RelTs.of_get{g:G}{xs:List T}{vs:List Value}(h:xs.length=vs.length)(q:∀ (i:Nat) x v,xs[i]?=some x→vs[i]?=some v→RelT C g x v):RelTs C g xs vs:=RelTs.iff.mpr (.of_get h q)
noncomputable def A1L(P:Params)(n:Str)(k:Nat)(t:Tok)(v:Value):Obj:=dictOf [⟨PyData.keyHash P n,.str n t,v⟩] k
noncomputable def RelV(C:Cx)(g:G):V→Value→Prop
 | .t x,v=>RelT C g x v
 | .ref i,v=>∃ a,g.own[i]?=some a∧v=.ref a
 | .obj c n x,v=>ObR (g.fz C) c (fun d k t y=>g.fz C d (A1L C.w.params n k t y)) (RelV C g x) v
theorem J6{g g':G}(h:g.lev g'):∀ (x:V) (v:Value),RelV C g x v→RelV C g' x v
 | .t x,v,r=>H3 h x v r
 | .ref i,v,⟨a,e,e'⟩=>⟨a,h.at e,e'⟩
 | .obj c n x,v,⟨a,d,k,t,y,sl,e,z,z',r⟩=>⟨a,d,k,t,y,sl,e,h.fz z,h.fz z',J6 h x y r⟩
theorem B6{g g':G}(h:g.le g')(x:V)(v:Value):RelV C g x v→RelV C g' x v:=J6 h.v x v
noncomputable def L3(C:Cx)(g:G):Option V→Option Value→Prop
 | none,v=>v=none
 | some x,v=>OpR (RelV C g x) v
theorem D4{g g':G}(h:g.lev g'):∀ (x:Option V) (v:Option Value),L3 C g x v→L3 C g' x v
 | none,_,r=>r
 | some x,_,⟨y,e,r⟩=>⟨y,e,J6 h x y r⟩
theorem D1{g g':G}(h:g.le g')(x:Option V)(v:Option Value):L3 C g x v→L3 C g' x v:=D4 h.v x v
noncomputable def p8(C:Cx)(g:G):AO→Obj→Prop
 | .lst xs,o=>LoR (RelTs C g xs) o
 | .ds ks xs,o=>KoR (fun kvs=>o.IsDictOf (strKind C.prog C.w) kvs) ks (RelTs C g xs)
 | .di ks xs,o=>KoR (fun kvs=>o.IsDictOf (intKind C.prog C.w) kvs) ks (RelTs C g xs)
 | .gone,_=>True
theorem K3{g g':G}(h:g.lev g'):∀ (x:AO) (o:Obj),p8 C g x o→p8 C g' x o
 | .lst xs,o,⟨items,n,d,r⟩=>⟨items,n,d,relTs_mono' h xs _ r⟩
 | .ds ks xs,o,⟨kvs,d,k,r⟩=>⟨kvs,d,k,relTs_mono' h xs _ r⟩
 | .di ks xs,o,⟨kvs,d,k,r⟩=>⟨kvs,d,k,relTs_mono' h xs _ r⟩
 | .gone,_,r=>r
theorem G8{g g':G}(h:g.le g')(x:AO)(o:Obj):p8 C g x o→p8 C g' x o:=K3 h.v x o
noncomputable def SlotOk(C:Cx)(g:G)(h:Heap)(l:Loc)(v:Option V):Prop:=match l with
 | .fr L x=>g.role L=some .frame∧∃ m,h.Ns L m∧L3 C g v (m x)
 | .cl c=>g.role c=some .cell∧∃ ov,h.IsCell c ov∧L3 C g v ov
noncomputable def A2L(C:Cx)(g:G)(pos:Pos)(q:Str)(ps:Array Value):Prop:=
 TriplesOk ps.toList∧(codeAmong pos ps.toList=none∨∃ c o vs t,codeAmong pos ps.toList=some (.ref c)∧g.fz C c o∧o.data=.fields vs∧vs[1]?=some (.str q t))
structure Rel(C:Cx)(ly:List Loc)(g:G)(σ:St)(s:Shared):Prop where
 old:∀ a o,C.hb.get? a=some o→s.heap.get? a=some o
 new:∀ a r,g.role a=some r→C.hb.get? a=none∧∃ o,s.heap.get? a=some o
 frz:∀ a o,g.role a=some (.frz o)→s.heap.get? a=some o
 kept:∀ a o,g.role a=some (.kept o)→s.heap.get? a=some o
 len:σ.loc.length=ly.length
 slot:∀ (i:Nat) l v,ly[i]?=some l→σ.loc[i]?=some v→SlotOk C g s.heap l v
 nodup:ly.Nodup
 olen:σ.objs.length=g.own.length
 own:∀ (i:Nat) o,σ.objs[i]?=some o→o≠.gone→∃ a ob,g.own[i]?=some a∧g.role a=some (.own i)∧s.heap.get? a=some ob∧p8 C g o ob
 tab:∀ P pos q,C.tabs P pos q→g.role P=some .tab∧∃ ps,s.heap.get? P=some (tabObj ps)∧A2L C g pos q ps
 os:s.os=C.os
 gens:AllBare s.gens
 tk:C.lo≤g.tk∧g.tk≤s.toks
theorem Rel.lt{ly:List Loc}{g:G}{σ:St}{s:Shared}(R:Rel C ly g σ s){a:Addr}{r:Role}(h:g.role a=some r):a<s.heap.objs.size:=Heap.lt_size (R.new a r h).2.choose_spec
theorem Rel.fz{ly:List Loc}{g:G}{σ:St}{s:Shared}(R:Rel C ly g σ s){a:Addr}:g.fz C a o→s.heap.get? a=some o
 | .inl e=>R.old a o e
 | .inr e=>R.frz a o e
structure Grow(g:G)(s:Shared)(g':G)(s':Shared):Prop where
 heap:∀ a o,s.heap.get? a=some o→s'.heap.get? a=some o
 os:s'.os=s.os
 gens:AllBare s.gens→AllBare s'.gens
 own:g'.own=g.own
 role:∀ a r,g.role a=some r→g'.role a=some r
 new:∀ a r,g'.role a=some r→g.role a=some r∨(s.heap.get? a=none∧∃ o,r=.frz o∧s'.heap.get? a=some o)
 tk:g.tk≤g'.tk
 tkb:g.tk≤s.toks→g'.tk≤s'.toks
theorem D6(k:∀ a o,h.get? a=some o→h'.get? a=some o){a:Addr}(e:h'.get? a=none):h.get? a=none:=by
 cases q:h.get? a with
 | none=>rfl
 | some o=>rw[k a o q] at e;(first | refine s2 e ?_ | refine s1 e ?_ | cases e)
theorem Grow.refl(g:G)(s:Shared):Grow g s g s:=⟨fun _ _ e=>e,rfl,id,rfl,fun _ _ e=>e,fun _ _ e=>.inl e,Nat.le_refl _,id⟩
theorem Grow.le{g g':G}{s:Shared}(x:Grow g s g' s'):g.le g':=⟨⟨[],by rw[x.own,List.append_nil]⟩,fun a o e=>x.role a _ e,fun a o e=>x.role a _ e,x.tk⟩
theorem J1{g g':G}(h:g.lev g'){q:Str}(x:A2L C g pos q ps):A2L C g' pos q ps:=
 ⟨x.1,x.2.imp id fun ⟨c,o,vs,t,e,z,r⟩=>⟨c,o,vs,t,e,h.fz z,r⟩⟩
theorem J4{g g':G}(h:g.le g'){q:Str}(x:A2L C g pos q ps):A2L C g' pos q ps:=J1 h.v x
theorem A8Q(hb:∀ a o,h.get? a=some o→h'.get? a=some o){a:Addr}(ha:h'.objs.size≤a):h.get? a=none:=by
 cases q:h.get? a with
 | none=>rfl
 | some o=>exact absurd (Heap.lt_size (hb a o q)) (Nat.not_lt.mpr ha)
theorem Rel.grow{ly:List Loc}{g g':G}{σ:St}{s:Shared}(R:Rel C ly g σ s)(x:Grow g s g' s'):Rel C ly g' σ s' where
 old:=fun a o e=>x.heap a o (R.old a o e)
 new:=fun a r e=>by
  rcases x.new a r e with h | ⟨h1,o,_,h3⟩
  ·obtain⟨q1,o,q2⟩:=R.new a r h
   exact⟨q1,o,x.heap _ _ q2⟩
  ·exact⟨D6 R.old h1,o,h3⟩
 frz:=fun a o e=>by
  rcases x.new a _ e with h | ⟨_,o',h3,h4⟩
  ·exact x.heap _ _ (R.frz a o h)
  ·cases h3;exact h4
 kept:=fun a o e=>by
  rcases x.new a _ e with h | ⟨_,o',h3,h4⟩
  ·exact x.heap _ _ (R.kept a o h)
  ·cases h3
 len:=R.len
 slot:=fun i l v hl hv=>by
  have:=R.slot i l v hl hv
  cases l with
  | fr L x'=>
   obtain⟨h1,m,h2,h3⟩:=this
   exact⟨x.role _ _ h1,m,h2.keeps x.heap,D1 x.le _ _ h3⟩
  | cl c=>
   obtain⟨h1,m,h2,h3⟩:=this
   exact⟨x.role _ _ h1,m,h2.keeps x.heap,D1 x.le _ _ h3⟩
 nodup:=R.nodup
 olen:=by rw[x.own];exact R.olen
 own:=fun i o h hne=>by
  obtain⟨a,ob,h1,h2,h3,h4⟩:=R.own i o h hne
  exact⟨a,ob,by rw[x.own];exact h1,x.role _ _ h2,x.heap _ _ h3,G8 x.le _ _ h4⟩
 tab:=fun P pos q h=>by
  obtain⟨h1,ps,h2,h3⟩:=R.tab P pos q h
  exact⟨x.role _ _ h1,ps,x.heap _ _ h2,J4 x.le h3⟩
 os:=x.os.trans R.os
 gens:=x.gens R.gens
 tk:=⟨Nat.le_trans R.tk.1 x.tk,x.tkb R.tk.2⟩
theorem Grow.heap_{g:G}{s:Shared}{t:Nat}(hk:∀ a o,s.heap.get? a=some o→h'.get? a=some o)(ht:s.toks≤t:=by first | exact Nat.le_refl _ | exact Nat.le_succ _ | exact Nat.le_add_right _ _ | assumption | omega):Grow g s g { s with heap:=h',toks:=t }:=
 ⟨hk,rfl,id,rfl,fun _ _ e=>e,fun _ _ e=>.inl e,Nat.le_refl _,fun h=>Nat.le_trans h ht⟩
theorem Grow.toks_{g:G}{s:Shared}{t:Nat}(ht:s.toks≤t:=by first | exact Nat.le_refl _ | exact Nat.le_succ _ | exact Nat.le_add_right _ _ | assumption | omega):Grow g s g { s with toks:=t }:=⟨fun _ _ e=>e,rfl,id,rfl,fun _ _ e=>e,fun _ _ e=>.inl e,Nat.le_refl _,fun h=>Nat.le_trans h ht⟩
theorem Grow.push_{g:G}{s:Shared}{o:Obj}{t:Nat}(ht:s.toks≤t:=by first | exact Nat.le_refl _ | exact Nat.le_succ _ | exact Nat.le_add_right _ _ | assumption | omega):Grow g s g { s with heap:=s.heap.push o,toks:=t }:=
 Grow.heap_ (fun _ _ e=>Heap.get?_push_of_some _ e) ht
noncomputable def G.put(g:G)(a:Addr)(r:Role):G:=⟨g.own,fun b=>if b=a then some r else g.role b,g.tk⟩
theorem Grow.frz_{ly:List Loc}{g:G}{σ:St}{s:Shared}(R:Rel C ly g σ s){t:Nat}{a:Addr}(hk:∀ a o,s.heap.get? a=some o→h'.get? a=some o)(ha:s.heap.get? a=none)(ho:h'.get? a=some o)(ht:s.toks≤t:=by first | exact Nat.le_refl _ | exact Nat.le_succ _ | exact Nat.le_add_right _ _ | assumption | omega):Grow g s (g.put a (.frz o)) { s with heap:=h',toks:=t } where
 heap:=hk
 os:=rfl
 gens:=id
 tk:=Nat.le_refl _
 tkb:=fun h=>Nat.le_trans h ht
 own:=rfl
 role:=fun b r e=>by
  have:b≠a:=fun q=>by subst q;obtain⟨_,o',h⟩:=R.new b r e;rw[ha] at h;cases h
  simp only[G.put,if_neg this,e]
 new:=fun b r e=>by
  by_cases q:b=a
  ·subst q
   simp only[G.put,if_true] at e
   (first | refine s2 e ?_ | refine s1 e ?_ | cases e)
   exact .inr ⟨ha,o,rfl,ho⟩
  ·simp only[G.put,if_neg q] at e
   exact .inl e
theorem G.put_fz{g:G}{a:Addr}:(g.put a (.frz o)).fz C a o:=.inr (by simp [G.put])
end
variable{o' : AO}{C : Cx}{g g' g0 g1 g2 : G}{l : List (Option V)}{objs objs' : List AO}{ls ly : List Loc}{ys zs : List T}{us : List V}{key : Nat → T}{w10 w11 w4 w5 w6 w7 : Option V}{σ σ' σ1 σ2 σ3 σ4 : St}{Ln y z : T}{v1 v2 : V}
section
noncomputable abbrev Md(C:Cx):Model:=model C.prog C.w
structure Room(k:Nat)(A:Around):Prop where
 handled:A.handled=none
 depth:A.depth+k<1000
 units:A.units+8 * k<9900
theorem Room.in1(h:Room (k+1) A):Room k A.in1:=⟨h.handled,Nat.lt_of_succ_lt h.depth,Nat.lt_of_le_of_lt (by show A.units+1+8 * k≤A.units+(8 * k+8);rw[Nat.add_assoc,Nat.add_comm 1];exact Nat.add_le_add_left (Nat.add_le_add_left (by decide) _) _) h.units⟩
theorem Room.deeper(h:Room (k+1) A):Room k (A.deeper env):=⟨h.handled,by show A.depth+1+k<1000;rw[Nat.add_right_comm];exact h.depth,Nat.lt_of_le_of_lt (by show A.units+3+8 * k≤A.units+(8 * k+8);rw[Nat.add_assoc,Nat.add_comm 3];exact Nat.add_le_add_left (Nat.add_le_add_left (by decide) _) _) h.units⟩
theorem Room.rl(h:Room k A):A.depth<recursionLimit:=Nat.lt_of_le_of_lt (Nat.le_add_right _ _) h.depth
theorem Room.cl(h:Room k A):A.units<cLine:=Nat.lt_of_lt_of_le (Nat.lt_of_le_of_lt (Nat.le_add_right _ _) h.units) (by unfold cLine;decide)
structure Base(C:Cx):Prop where
 sys:∃ o,C.hb.get? sysModules=some o
 g:C.hb.Ns mainGlobals C.mg
 b:C.hb.Ns builtinsNs C.mb
 nolimit:C.hb.NoLimit
 builtins:∀ x:Str,x ≠ "__name__" → C.mb x=bootBuiltins x
theorem D3{n:Nat}(h:n<1000):n≤sizeLine:=Nat.le_trans (Nat.le_of_lt h) (by rw[sizeLine_eq];decide)
theorem A9x{n:Nat}(h:n<1000):(n:Int)<2 ^ 63:=Int.lt_trans (Int.ofNat_lt.mpr h) (by decide)
noncomputable def X4:Value→Shared→Prop:=fun _ _=>False
inductive Ev(C:Cx)(ly:List Loc)(g:G)(σ':St)(v:V)(x:Value)(s':Shared):Prop
 | mk (g':G) (l:g.le g') (R:Rel C ly g' σ' s') (V:RelV C g' v x)
noncomputable abbrev D:=St→Option (V×St)
noncomputable def Sd(C:Cx)(k:Nat)(ly:List Loc)(t:Sem Value)(d:D):Prop:=
 ∀ A,Room k A→∀ g σ s v σ',Rel C ly g σ s→d σ=some (v,σ')→wpAny (Md C) A t (Ev C ly g σ' v) X4 s
noncomputable abbrev SE(C:Cx)(k:Nat)(env:Env)(ly:List Loc)(e:Expr)(d:D):Prop:=Sd C k ly (eval e env) d
theorem Sd.use{t:Sem Value}{d:D}(h:Sd C k ly t d)(hA:Room k A){s:Shared}{v:V}(R:Rel C ly g σ s)(e:d σ=some (v,σ'))(q:∀ g' x s',g.le g'→Rel C ly g' σ' s'→RelV C g' v x→Q x s'):wpAny (Md C) A t Q E s:=
 wpAny_mono (h A hA g σ s v σ' R e) (fun x s' ⟨g',a,b,c⟩=>q g' x s' a b c) (fun _ _ x=>x.elim)
noncomputable abbrev DB:=St→Option (Bool×St)
inductive Eb(C:Cx)(ly:List Loc)(g:G)(σ':St)(b x:Bool)(s':Shared):Prop
 | mk (e:x=b) (g':G) (l:g.le g') (R:Rel C ly g' σ' s')
noncomputable def SB(C:Cx)(k:Nat)(ly:List Loc)(t:Sem Bool)(d:DB):Prop:=
 ∀ A,Room k A→∀ g σ s b σ',Rel C ly g σ s→d σ=some (b,σ')→wpAny (Md C) A t (Eb C ly g σ' b) X4 s
theorem SB.use{t:Sem Bool}{d:DB}(h:SB C k ly t d)(hA:Room k A){s:Shared}{v:Bool}(R:Rel C ly g σ s)(e:d σ=some (v,σ')){Q:Bool→Shared→Prop}(q:∀ g' s',g.le g'→Rel C ly g' σ' s'→Q v s'):wpAny (Md C) A t Q E s:=
 wpAny_mono (h A hA g σ s v σ' R e) (fun x s' ⟨e,g',a,b⟩=>e▸q g' s' a b) (fun _ _ x=>x.elim)
noncomputable def RelVs(C:Cx)(g:G):List V→List Value→Prop:=All2 (RelV C g)
theorem m8(h:g.le g')(x:List V)(v:List Value)(r:RelVs C g x v):RelVs C g' x v:=All2.mono (B6 h) r
noncomputable abbrev DL:=St→Option (List V×St)
inductive El(C:Cx)(ly:List Loc)(g:G)(σ':St)(v:List V)(x:List Value)(s':Shared):Prop
 | mk (g':G) (l:g.le g') (R:Rel C ly g' σ' s') (V:RelVs C g' v x)
noncomputable def Sl(C:Cx)(k:Nat)(ly:List Loc)(t:List (Bool×Sem Value))(d:DL):Prop:=
 ∀ A,Room k A→∀ g σ s v σ',Rel C ly g σ s→d σ=some (v,σ')→wpAny (Md C) A (spliced t) (El C ly g σ' v) X4 s
theorem Sl.use{t:List (Bool×Sem Value)}{d:DL}(h:Sl C k ly t d)(hA:Room k A){s:Shared}{v:List V}(R:Rel C ly g σ s)(e:d σ=some (v,σ')){Q:List Value→Shared→Prop}(q:∀ g' x s',g.le g'→Rel C ly g' σ' s'→RelVs C g' v x→Q x s'):wpAny (Md C) A (spliced t) Q E s:=
 wpAny_mono (h A hA g σ s v σ' R e) (fun x s' ⟨g',a,b,c⟩=>q g' x s' a b c) (fun _ _ x=>x.elim)
noncomputable def dNil:DL:=fun σ=>some ([],σ)
noncomputable def A2(a:D)(r:DL):DL:=fun σ=>(a σ).bind fun p=>(r p.2).bind fun q=>some (p.1::q.1,q.2)
theorem B3w:Sl C k ly [] dNil:=fun A hA g σ s v σ' R e=>by
 (first | refine s2 e ?_ | refine s1 e ?_ | cases e)
 exact Calls.spliced_nil ⟨g,.refl g,R,rfl⟩
theorem B1g{t:Sem Value}{r:List (Bool×Sem Value)}{a:D}{b:DL}(h:Sd C k ly t a)(hr:Sl C k ly r b):Sl C k ly ((false,t)::r) (A2 a b):=fun A hA g σ s v σ' R e=>by
 refine b2 e fun u σ1 e1 e => ?_
 refine b2 e fun us σ2 e2 e => ?_
 (first | refine s2 e ?_ | refine s1 e ?_ | cases e)
 refine Calls.spliced_cons (h.use hA R e1 fun g1 x s1 l1 R1 V1=>hr.use hA R1 e2 fun g2 xs s2 l2 R2 V2 => ?_)
 exact⟨g2,l1.trans l2,R2,x,xs,rfl,B6 l2 _ _ V1,V2⟩
inductive DwR{κ:Type}(D:Addr→List (κ×Value)→Prop)(ks:List κ)(P:List Value→Prop)(v:Value):Prop
 | mk (a:Addr) (kvs:List (κ×Value)) (e:v=.ref a) (d:D a kvs) (n:(a==sysModules)=false) (k:kvs.map (·.1)=ks) (r:P (kvs.map (·.2)))
inductive IwR{κ:Type}(I:Addr→Addr→Prop)(D:Addr→List (κ×Value)→Prop)(ks:List κ)(P:List Value→Prop)(v:Value):Prop
 | mk (b a:Addr) (kvs:List (κ×Value)) (e:v=.ref b) (i:I b a) (d:D a kvs) (n:(a==sysModules)=false) (k:kvs.map (·.1)=ks) (r:P (kvs.map (·.2)))
noncomputable def RelW(C:Cx)(g:G)(h:Heap):T→Value→Prop
 | .tup xs,v=>SqR (fun a o=>h.get? a=some o) "tuple" (RelTs C g xs) v
 | .lst xs,v=>SqR (fun a o=>h.get? a=some o) "list" (RelTs C g xs) v
 | .ds ks xs,v=>DwR (fun a kvs=>h.DictOf (strKind C.prog C.w) a kvs) ks (RelTs C g xs) v
 | .di ks xs,v=>DwR (fun a kvs=>h.DictOf (intKind C.prog C.w) a kvs) ks (RelTs C g xs) v
 | .rng a b,v=>∃ r t u w,v=.ref r∧IsRange h r a b 1 t u w
 | .itv ks xs,v=>IwR (fun r a=>h.IsItemsView r a) (fun a kvs=>h.DictOf (strKind C.prog C.w) a kvs) ks (RelTs C g xs) v
 | .none,v=>v=.none
 | .bool b,v=>v=.bool b
 | .int i,v=>∃ t,v=.int i t
 | .str s,v=>∃ t,v=.str s t
 | .ch s,v=>∃ t,v=.str s t
 | .cst c,v=>v=c
theorem RelW.of{x:T}{v:Value}(e:x=y)(r:RelW C g h x v):RelW C g h y v:=e▸r
noncomputable def F4(x:T):Option Int:=T.casesOn (motive_1:=fun _=>Option Int) x none (fun _=>none) some (fun _=>none) (fun _=>none) (fun _=>none) (fun _=>none) (fun _=>none) (fun _ _=>none) (fun _ _=>none) (fun _ _=>none) (fun _ _=>none)
noncomputable def G9(x:T):Option Str:=T.casesOn (motive_1:=fun _=>Option Str) x none (fun _=>none) (fun _=>none) some (fun _=>none) (fun _=>none) (fun _=>none) (fun _=>none) (fun _ _=>none) (fun _ _=>none) (fun _ _=>none) (fun _ _=>none)
noncomputable def B3r(x:T):Option Value:=T.casesOn (motive_1:=fun _=>Option Value) x none (fun _=>none) (fun _=>none) (fun _=>none) (fun _=>none) some (fun _=>none) (fun _=>none) (fun _ _=>none) (fun _ _=>none) (fun _ _=>none) (fun _ _=>none)
noncomputable def A02(x:T):Option (List T):=T.casesOn (motive_1:=fun _=>Option (List T)) x none (fun _=>none) (fun _=>none) (fun _=>none) (fun _=>none) (fun _=>none) some (fun _=>none) (fun _ _=>none) (fun _ _=>none) (fun _ _=>none) (fun _ _=>none)
noncomputable def U7(x:T):Option (List T):=T.casesOn (motive_1:=fun _=>Option (List T)) x none (fun _=>none) (fun _=>none) (fun _=>none) (fun _=>none) (fun _=>none) (fun _=>none) some (fun _ _=>none) (fun _ _=>none) (fun _ _=>none) (fun _ _=>none)
noncomputable def tDs(x:T):Option (List Str×List T):=T.casesOn (motive_1:=fun _=>Option (List Str×List T)) x none (fun _=>none) (fun _=>none) (fun _=>none) (fun _=>none) (fun _=>none) (fun _=>none) (fun _=>none) (fun a b=>some (a,b)) (fun _ _=>none) (fun _ _=>none) (fun _ _=>none)
noncomputable def tDi(x:T):Option (List Int×List T):=T.casesOn (motive_1:=fun _=>Option (List Int×List T)) x none (fun _=>none) (fun _=>none) (fun _=>none) (fun _=>none) (fun _=>none) (fun _=>none) (fun _=>none) (fun _ _=>none) (fun a b=>some (a,b)) (fun _ _=>none) (fun _ _=>none)
noncomputable def B5I(x:T):Option (List Str×List T):=T.casesOn (motive_1:=fun _=>Option (List Str×List T)) x none (fun _=>none) (fun _=>none) (fun _=>none) (fun _=>none) (fun _=>none) (fun _=>none) (fun _=>none) (fun _ _=>none) (fun _ _=>none) (fun _ _=>none) (fun a b=>some (a,b))
section
variable{x:T}
theorem D9{a:Int}(e:F4 x=some a):x=.int a:=by
 cases x
 case int=>exact s1 (P:=fun a=>_=T.int a) e rfl
 all_goals exact nn e
theorem F3{a:Str}(e:G9 x=some a):x=.str a:=by
 cases x
 case str=>exact s1 (P:=fun a=>_=T.str a) e rfl
 all_goals exact nn e
theorem A6W{a:Value}(e:B3r x=some a):x=.cst a:=by
 cases x
 case cst=>exact s1 (P:=fun a=>_=T.cst a) e rfl
 all_goals exact nn e
theorem K7{a:List T}(e:A02 x=some a):x=.tup a:=by
 cases x
 case tup=>exact s1 (P:=fun a=>_=T.tup a) e rfl
 all_goals exact nn e
theorem G1{a:List T}(e:U7 x=some a):x=.lst a:=by
 cases x
 case lst=>exact s1 (P:=fun a=>_=T.lst a) e rfl
 all_goals exact nn e
theorem Q0{a:List Str×List T}(e:tDs x=some a):x=.ds a.1 a.2:=by
 cases x
 case ds=>exact s1 (P:=fun a=>_=T.ds a.1 a.2) e rfl
 all_goals exact nn e
theorem A5S{a:List Int×List T}(e:tDi x=some a):x=.di a.1 a.2:=by
 cases x
 case di=>exact s1 (P:=fun a=>_=T.di a.1 a.2) e rfl
 all_goals exact nn e
theorem B1c{a:List Str×List T}(e:B5I x=some a):x=.itv a.1 a.2:=by
 cases x
 case itv=>exact s1 (P:=fun a=>_=T.itv a.1 a.2) e rfl
 all_goals exact nn e
end
noncomputable def B5H(x:T):Option Str:=T.casesOn (motive_1:=fun _=>Option Str) x none (fun _=>none) (fun _=>none) some some (fun _=>none) (fun _=>none) (fun _=>none) (fun _ _=>none) (fun _ _=>none) (fun _ _=>none) (fun _ _=>none)
noncomputable def tCh(x:T):Option Str:=T.casesOn (motive_1:=fun _=>Option Str) x none (fun _=>none) (fun _=>none) (fun _=>none) some (fun _=>none) (fun _=>none) (fun _=>none) (fun _ _=>none) (fun _ _=>none) (fun _ _=>none) (fun _ _=>none)
theorem B3s{x:T}{a:Str}(e:tCh x=some a):x=.ch a:=by
 cases x
 case ch=>exact s1 (P:=fun a=>_=T.ch a) e rfl
 all_goals exact nn e
noncomputable def vT(v:V):Option T:=V.casesOn (motive:=fun _=>Option T) v some (fun _=>none) (fun _ _ _=>none)
noncomputable def u7(v:V):Option Nat:=V.casesOn (motive:=fun _=>Option Nat) v (fun _=>none) some (fun _ _ _=>none)
theorem B3F{v:V}{x:T}(e:vT v=some x):v=.t x:=by
 cases v
 case t=>exact congrArg V.t (Option.some.inj e)
 all_goals exact nn e
theorem O0{v:V}{i:Nat}(e:u7 v=some i):v=.ref i:=by
 cases v
 case ref=>exact congrArg V.ref (Option.some.inj e)
 all_goals exact nn e
noncomputable def vOf{α:Type}(p:T→Option α)(v:V):Option α:=(vT v).bind p
theorem U1{α:Type}{p:T→Option α}{c:α→T}(hp:∀ {x a},p x=some a→x=c a){v:V}{a:α}(e:vOf p v=some a):v=.t (c a):=b1 e fun x e1 e=>(B3F e1).trans (congrArg V.t (hp e))
theorem RelV.of{x y:V}{v:Value}(e:x=y)(r:RelV C g x v):RelV C g y v:=e▸r
theorem H4{α:Type}{o:Option α}{P:Prop}(e:o.isSome=true)(h:∀ a,o=some a→P):P:=match o,e,h with
 | some a,_,h=>h a rfl
noncomputable def A1m(x:T):T:=T.casesOn (motive_1:=fun _=>T) x x (fun _=>x) (fun _=>x) (fun _=>x) .str (fun _=>x) (fun _=>x) (fun _=>x) (fun _ _=>x) (fun _ _=>x) (fun _ _=>x) (fun _ _=>x)
noncomputable def aoT(o:AO):Option T:=AO.casesOn (motive:=fun _=>Option T) o (fun xs=>some (.lst xs)) (fun ks xs=>some (.ds ks xs)) (fun ks xs=>some (.di ks xs)) none
noncomputable def view(σ:St)(v:V):Option T:=V.casesOn (motive:=fun _=>Option T) v (fun x=>some (A1m x)) (fun i=>(σ.objs[i]?).bind aoT) (fun _ _ _=>none)
theorem Q8(B:Base C){a:Addr}(h:C.hb.get? a=none):(a==sysModules)=false:=by
 obtain⟨o,ho⟩:=B.sys
 cases q:a==sysModules with
 | false=>rfl
 | true=>rw[eq_of_beq q,ho] at h;cases h
theorem Rel.relW(B:Base C){s:Shared}(R:Rel C ly g σ s):∀ {x:T} {v:Value},RelT C g x v→RelW C g s.heap (A1m x) v
 | .none,_,r=>r
 | .bool _,_,r=>r
 | .int _,_,r=>r
 | .str _,_,r=>r
 | .ch _,_,⟨t,e,_⟩=>⟨t,e⟩
 | .cst _,_,r=>r
 | .tup _,_,⟨a,items,n,e,z,r⟩=>⟨a,items,n,e,R.fz z,r⟩
 | .lst _,_,⟨a,items,n,e,z,r⟩=>⟨a,items,n,e,R.fz z,r⟩
 | .ds _ _,_,⟨a,o,kvs,e,z,d,k,r⟩=>⟨a,kvs,e,Heap.dictOf_iff.mpr ⟨o,R.frz _ _ z,d⟩,Q8 B (R.new _ _ z).1,k,r⟩
 | .di _ _,_,⟨a,o,kvs,e,z,d,k,r⟩=>⟨a,kvs,e,Heap.dictOf_iff.mpr ⟨o,R.frz _ _ z,d⟩,Q8 B (R.new _ _ z).1,k,r⟩
 | .rng _ _,_,⟨r,t,u,w,e,z⟩=>⟨r,t,u,w,e,R.frz _ _ z⟩
 | .itv _ _,_,⟨r,a,o,kvs,e,z',z,d,k,q⟩=>⟨r,a,kvs,e,⟨_,R.frz _ _ z',rfl,rfl⟩,Heap.dictOf_iff.mpr ⟨o,R.frz _ _ z,d⟩,Q8 B (R.new _ _ z).1,k,q⟩
theorem Rel.view(B:Base C){s:Shared}(R:Rel C ly g σ s){u:V}{v:Value}{x:T}(h:RelV C g u v)(e:view σ u=some x):RelW C g s.heap x v:=by
 cases u with
 | t y=>exact s1 (P:=fun x=>RelW C g s.heap x v) e (R.relW B h)
 | ref i=>
  refine I7 (h) fun a h1 hR2 => ?_
  subst hR2
  refine b1 e fun o q e => ?_
  cases o with
  | gone=>exact nn e
  | lst xs=>
   refine F1 (R.own i _ q (by nofun)) fun a' ob h2 h3 h4 h5 => ?_
   cases h1.symm.trans h2
   obtain⟨items,n,rfl,r⟩:=h5
   exact s1 e ⟨a,items,n,rfl,h4,r⟩
  | ds ks xs=>
   refine F1 (R.own i _ q (by nofun)) fun a' ob h2 h3 h4 h5 => ?_
   cases h1.symm.trans h2
   obtain⟨kvs,d,k,r⟩:=h5
   exact s1 e ⟨a,kvs,rfl,Heap.dictOf_iff.mpr ⟨ob,h4,d⟩,Q8 B (R.new _ _ h3).1,k,r⟩
  | di ks xs=>
   refine F1 (R.own i _ q (by nofun)) fun a' ob h2 h3 h4 h5 => ?_
   cases h1.symm.trans h2
   obtain⟨kvs,d,k,r⟩:=h5
   exact s1 e ⟨a,kvs,rfl,Heap.dictOf_iff.mpr ⟨ob,h4,d⟩,Q8 B (R.new _ _ h3).1,k,r⟩
 | obj c n v=>exact nn e
inductive A06(C:Cx)(g:G)(s:Shared)(z:T)(r:Value)(s':Shared):Prop
 | mk (g':G) (w:Grow g s g' s') (t:RelT C g' z r)
noncomputable def Pure1(C:Cx)(k:Nat)(sem:Value→Sem Value)(f:T→Option T):Prop:=
 ∀ A,Room k A→∀ ly g σ s x u z,Rel C ly g σ s→RelW C g s.heap x u→f x=some z→wpAny (Md C) A (sem u) (A06 C g s z) X4 s
noncomputable def Pure2(C:Cx)(k:Nat)(sem:Value→Value→Sem Value)(f:T→T→Option T):Prop:=
 ∀ A,Room k A→∀ ly g σ s x y u v z,Rel C ly g σ s→RelW C g s.heap x u→RelW C g s.heap y v→f x y=some z→wpAny (Md C) A (sem u v) (A06 C g s z) X4 s
noncomputable def o1{α:Type}(p:T→Option α)(f:α→Option T)(x:T):Option T:=(p x).bind f
noncomputable def o2{α β:Type}(p:T→Option α)(q:T→Option β)(f:α→β→Option T)(x y:T):Option T:=(p x).bind fun a=>(q y).bind (f a)
noncomputable def or1{α:Type}(p:T→Option α)(f:α→Option T)(g:T→Option T)(x:T):Option T:=(p x).elim (g x) f
noncomputable def or2{α β γ:Type}(p:T→Option α)(q:T→Option β)(f:α→β→Option γ)(g:T→T→Option γ)(x y:T):Option γ:=(p x).elim (g x y) fun a=>(q y).elim (g x y) (f a)
theorem S0{α γ:Type}{o:Option α}{f:α→Option γ}{g:Option γ}{r:γ}{P:Prop}(e:o.elim g f=some r)(h:∀ a,o=some a→f a=some r→P)(h':g=some r→P):P:=match o,e,h with
 | some a,e,h=>h a rfl e
 | none,e,_=>h' e
theorem O1{α β γ:Type}{p:T→Option α}{q:T→Option β}{f:α→β→Option γ}{g:T→T→Option γ}{x:T}{r:γ}{P:Prop}(e:or2 p q f g x y=some r)(h:∀ a b,p x=some a→q y=some b→f a b=some r→P)(h':g x y=some r→P):P:=S0 e (fun a ha e=>S0 e (fun b hb e=>h a b ha hb e) h') h'
section
variable{α β:Type}{p:T→Option α}{q:T→Option β}{c:α→T}{d:β→T}
theorem Pure1.or{sem:Value→Sem Value}{f:α→Option T}{g:T→Option T}(hf:Pure1 C k sem (o1 p f))(hg:Pure1 C k sem g):Pure1 C k sem (or1 p f g):=fun A hA ly g' σ s x u z R hx e=>S0 e (fun a ha e=>hf A hA ly g' σ s x u z R hx (by unfold o1;rw[ha];exact e)) (hg A hA ly g' σ s x u z R hx)
theorem Pure2.or{sem:Value→Value→Sem Value}{f:α→β→Option T}{g:T→T→Option T}(hf:Pure2 C k sem (o2 p q f))(hg:Pure2 C k sem g):Pure2 C k sem (or2 p q f g):=fun A hA ly g' σ s x y u v z R hx hy e=>O1 e (fun a b ha hb e=>hf A hA ly g' σ s x y u v z R hx hy (by unfold o2;rw[ha,hb];exact e)) (hg A hA ly g' σ s x y u v z R hx hy)
theorem Pure1.on{sem:Value→Sem Value}{f:α→Option T}(hp:∀ {x a},p x=some a→x=c a)(h:∀ A,Room k A→∀ ly g σ s a u z,Rel C ly g σ s→RelW C g s.heap (c a) u→f a=some z→wpAny (Md C) A (sem u) (A06 C g s z) X4 s):Pure1 C k sem (o1 p f):=fun A hA ly g σ s x u z R hx e=>by
 refine b1 e fun a ea e => ?_
 exact h A hA ly g σ s a u z R (hp ea▸hx) e
theorem Pure2.on{sem:Value→Value→Sem Value}{f:α→β→Option T}(hp:∀ {x a},p x=some a→x=c a)(hq:∀ {x a},q x=some a→x=d a)(h:∀ A,Room k A→∀ ly g σ s a b u v z,Rel C ly g σ s→RelW C g s.heap (c a) u→RelW C g s.heap (d b) v→f a b=some z→wpAny (Md C) A (sem u v) (A06 C g s z) X4 s):Pure2 C k sem (o2 p q f):=fun A hA ly g σ s x y u v z R hx hy e=>by
 refine b1 e fun a ea e => ?_
 refine b1 e fun b eb e => ?_
 exact h A hA ly g σ s a b u v z R (hp ea▸hx) (hq eb▸hy) e
theorem Pure1.i{sem:Value→Sem Value}{f:Int→Option T}(h:∀ A g s a t z,f a=some z→wpAny (Md C) A (sem (.int a t)) (A06 C g s z) X4 s):Pure1 C k sem (o1 F4 f):=.on D9 fun A _ _ g _ s a u z _ hu e=>Exists.elim hu fun t q=>q▸h A g s a t z e
theorem Pure1.s{sem:Value→Sem Value}{f:Str→Option T}(h:∀ A g s a t z,f a=some z→wpAny (Md C) A (sem (.str a t)) (A06 C g s z) X4 s):Pure1 C k sem (o1 G9 f):=.on F3 fun A _ _ g _ s a u z _ hu e=>Exists.elim hu fun t q=>q▸h A g s a t z e
theorem Pure2.i{sem:Value→Value→Sem Value}{f:Int→Int→Option T}(h:∀ A g s a b t t' z,f a b=some z→wpAny (Md C) A (sem (.int a t) (.int b t')) (A06 C g s z) X4 s):Pure2 C k sem (o2 F4 F4 f):=.on D9 D9 fun A _ _ g _ s a b u v z _ hu hv e=>Exists.elim hu fun t q=>Exists.elim hv fun t' q'=>q▸q'▸h A g s a b t t' z e
theorem Pure2.s{sem:Value→Value→Sem Value}{f:Str→Str→Option T}(h:∀ A g s a b t t' z,f a b=some z→wpAny (Md C) A (sem (.str a t) (.str b t')) (A06 C g s z) X4 s):Pure2 C k sem (o2 G9 G9 f):=.on F3 F3 fun A _ _ g _ s a b u v z _ hu hv e=>Exists.elim hu fun t q=>Exists.elim hv fun t' q'=>q▸q'▸h A g s a b t t' z e
end
noncomputable def d1(f:T→Option T)(a:D):D:=fun σ=>(a σ).bind fun p=>(view p.2 p.1).bind fun x=>(f x).bind fun z=>some (.t z,p.2)
noncomputable def d2(f:T→T→Option T)(a b:D):D:=fun σ=>(a σ).bind fun p=>(b p.2).bind fun q=>(view q.2 p.1).bind fun x=>(view q.2 q.1).bind fun y=>(f x y).bind fun z=>some (.t z,q.2)
section
variable{s:Shared}{a b c:D}{v:V}{ta tb tc:Sem Value}
theorem B0z{f:T→Option T}{sem:Value→Sem Value}(B:Base C)(ha:Sd C k ly ta a)(hf:Pure1 C k sem f)(hA:Room k A)(R:Rel C ly g σ s)(e:d1 f a σ=some (v,σ'))(q:∀ x s',Ev C ly g σ' v x s'→Q x s'):
  wpAny (Md C) A ta (fun x s1=>wpAny (Md C) A (sem x) Q E s1) E s:=by
 refine b2 e fun p σ1 e1 e => ?_
 refine b1 e fun x ex e => ?_
 refine b1 e fun z ez e => ?_
 cases e
 refine ha.use hA R e1 fun g1 u s1 l1 R1 V1 => ?_
 refine wpAny_mono (hf A hA ly g1 σ1 s1 x u z R1 (R1.view B V1 ex) ez) (fun r s2 ⟨g2,w,T2⟩=>q r s2 ⟨g2,l1.trans w.le,R1.grow w,T2⟩) (fun _ _ x=>x.elim)
theorem A2C{f:T→T→Option T}{sem:Value→Value→Sem Value}(B:Base C)(ha:Sd C k ly ta a)(hb:Sd C k ly tb b)(hf:Pure2 C k sem f)(hA:Room k A)(R:Rel C ly g σ s)(e:d2 f a b σ=some (v,σ'))(q:∀ x s',Ev C ly g σ' v x s'→Q x s'):
  wpAny (Md C) A ta (fun x s1=>wpAny (Md C) A tb (fun y s2=>wpAny (Md C) A (sem x y) Q E s2) E s1) E s:=by
 refine b2 e fun p σ1 e1 e => ?_
 refine b2 e fun q' σ2 e2 e => ?_
 refine b1 e fun x ex e => ?_
 refine b1 e fun y ey e => ?_
 refine b1 e fun z ez e => ?_
 cases e
 refine ha.use hA R e1 fun g1 u s1 l1 R1 V1=>hb.use hA R1 e2 fun g2 v s2 l2 R2 V2 => ?_
 refine wpAny_mono (hf A hA ly g2 σ2 s2 x y u v z R2 (R2.view B (B6 l2 _ _ V1) ex) (R2.view B V2 ey) ez) (fun r s3 ⟨g3,w,T3⟩=>q r s3 ⟨g3,(l1.trans l2).trans w.le,R2.grow w,T3⟩) (fun _ _ x=>x.elim)
end
section
variable{e1:Expr}{a b:D}
theorem B2{f:T→T→Option T}(B:Base C)(ha:SE C k env ly e1 a)(hb:SE C k env ly e2 b)(hf:Pure2 C k (binaryOp op) f):SE C k env ly (.BinOp e1 op e2 pos) (d2 f a b):=
 fun A hA g σ s v σ' R e=>wpAny_BinOp (A2C B ha hb hf hA R e fun x s' h=>h)
theorem K2{op:UnaryOp}{f:T→Option T}(B:Base C)(ha:SE C k env ly e1 a)(hf:Pure1 C k (unaryOp op) f):SE C k env ly (.UnaryOp op e1 pos) (d1 f a):=
 fun A hA g σ s v σ' R e=>wpAny_UnaryOp (B0z B ha hf hA R e fun x s' h=>h)
theorem A5c{op:CmpOp}{f:T→T→Option T}(B:Base C)(ha:SE C k env ly e1 a)(hb:SE C k env ly e2 b)(hf:Pure2 C k (compareOp op) f)(hm:behindInMarks op e2=false):SE C k env ly (.Compare e1 [op] [e2] pos) (d2 f a b):=
 fun A hA g σ s v σ' R e=>wpAny_Compare1 (A2C B ha hb hf hA R e fun x s' h=>h) hm
end
noncomputable def Bnd(env:Env)(ly:List Loc)(x:Str)(i:Nat):Prop:=
 env.scope.kind=.function∧(x==("__debug__" : Str))=false∧(x==("__classdict__" : Str))=false∧
 ((ly[i]?=some (.fr env.locals x)∧env.kindOf x=some .local)∨(∃ c,ly[i]?=some (.cl c)∧env.cells.lookup x=some c∧(env.kindOf x=some .cell∨env.kindOf x=some .free)))
noncomputable def A0(i:Nat):D:=fun σ=>(σ.loc[i]?).bind fun o=>o.bind fun v=>some (v,σ)
theorem A4X{x:Str}{i:Nat}(hb:Bnd env ly x i):Sd C k ly (loadName env x) (A0 i):=fun A hA g σ s v σ' R e=>by
 refine b1 e fun o e1 e => ?_
 refine b1 e fun u e2 e => ?_
 (first | refine s2 e ?_ | refine s1 e ?_ | cases e)
 subst e2
 refine B3g (hb) fun hk _ hcd hb => ?_
 rcases hb with ⟨hl,hn⟩|⟨c,hl,hc,hn⟩
 ·obtain⟨_,m,hm,y,ey,hy⟩:=R.slot i _ _ hl e1
  exact wpAny_loadName_local hk hn hm ey ⟨g,.refl g,R,hy⟩
 ·obtain⟨_,ov,hm,y,ey,hy⟩:=R.slot i _ _ hl e1
  subst ey
  rcases hn with hn | hn
  ·exact wpAny_loadName_cell hk hn hc hm ⟨g,.refl g,R,hy⟩
  ·exact wpAny_loadName_free hk hn hc hm ⟨g,.refl g,R,hy⟩ hcd
theorem A1{x:Str}{i:Nat}(hb:Bnd env ly x i):SE C k env ly (.Name x pos) (A0 i):=
 fun A hA g σ s v σ' R e=>wpAny_Name (A4X hb A hA g σ s v σ' R e) hb.2.1
noncomputable def dT(x:T):D:=fun σ=>some (.t x,σ)
theorem A3O{n:Str}{x:T}{v:Value}(B:Base C)(hg:env.globals=mainGlobals)(hk:env.scope.kind=.function)(hx:env.kindOf n=some .globalImplicit)(hv:C.mg n=some v)(hr:∀ g,RelT C g x v)(hd:(n==("__debug__" : Str))=false):SE C k env ly (.Name n pos) (dT x):=fun A hA g σ s v σ' R e=>by
 (first | refine s2 e ?_ | refine s1 e ?_ | cases e)
 exact Calls.Name_function_global hk hx (Calls.loadGlobal_global (by rw[hg];exact B.g.keeps R.old) hv ⟨g,.refl g,R,hr g⟩) hd
theorem Y3{n:Str}{x:T}{v:Value}(B:Base C)(hg:env.globals=mainGlobals)(hb:env.builtins=builtinsNs)(hk:env.scope.kind=.function)(hx:env.kindOf n=some .globalImplicit)(hn:C.mg n=none)(hv:bootBuiltins n=some v)(hne:n ≠ "__name__")(hr:∀ g,RelT C g x v)(hd:(n==("__debug__" : Str))=false):SE C k env ly (.Name n pos) (dT x):=fun A hA g σ s v σ' R e=>by
 (first | refine s2 e ?_ | refine s1 e ?_ | cases e)
 exact Calls.Name_function_global hk hx (Calls.loadGlobal_builtin (by rw[hg];exact B.g.keeps R.old) hn (by rw[hb];exact B.b.keeps R.old) ((B.builtins n hne).trans hv) ⟨g,.refl g,R,hr g⟩) hd
theorem A6{i:Int}{n:Nat}:SE C k env ly (.Constant (.int i) n pos) (dT (.int i)):=fun A hA g σ s v σ' R e=>by
 (first | refine s2 e ?_ | refine s1 e ?_ | cases e)
 exact fun _ _ _=>⟨g,.refl g,R.grow (.toks_ (t:=s.toks+1)),_,rfl⟩
theorem E4{i:Str}{n:Nat}:SE C k env ly (.Constant (.str i) n pos) (dT (.str i)):=fun A hA g σ s v σ' R e=>by
 (first | refine s2 e ?_ | refine s1 e ?_ | cases e)
 exact Calls.Constant_str ⟨g,.refl g,R.grow .toks_,_,rfl⟩
theorem N8{b:Bool}{n:Nat}:SE C k env ly (.Constant (.bool b) n pos) (dT (.bool b)):=fun A hA g σ s v σ' R e=>by
 (first | refine s2 e ?_ | refine s1 e ?_ | cases e)
 exact fun _ _ _=>⟨g,.refl g,R,rfl⟩
theorem j5{n:Nat}:SE C k env ly (.Constant .none n pos) (dT .none):=fun A hA g σ s v σ' R e=>by
 (first | refine s2 e ?_ | refine s1 e ?_ | cases e)
 exact fun _ _ _=>⟨g,.refl g,R,rfl⟩
noncomputable def A07(x:T):Option Bool:=T.casesOn (motive_1:=fun _=>Option Bool) x (some false) some (fun i=>some (i != 0)) (fun _=>none) (fun _=>none) (fun _=>none) (fun _=>none) (fun xs=>if xs.length<1000 then some (!xs.isEmpty) else none) (fun _ _=>none) (fun _ _=>none) (fun _ _=>none) (fun _ _=>none)
noncomputable def C1(a:D):DB:=fun σ=>(a σ).bind fun p=>(view p.2 p.1).bind fun x=>(A07 x).bind fun b=>some (b,p.2)
noncomputable def B48(a:DB):DB:=fun σ=>(a σ).bind fun p=>some (!p.1,p.2)
noncomputable def B1C(a b:DB):DB:=fun σ=>(a σ).bind fun p=>if p.1 then b p.2 else some (false,p.2)
noncomputable def bOr(a b:DB):DB:=fun σ=>(a σ).bind fun p=>if p.1 then some (true,p.2) else b p.2
noncomputable def G0(b:Bool):DB:=fun σ=>some (b,σ)
end
variable{b : D}
section
theorem A2d(B:Base C)(hA:Room k A){s:Shared}{x:T}{u:Value}{b:Bool}(R:Rel C ly g σ s)(h:RelW C g s.heap x u)(e:A07 x=some b):
  wpAny (Md C) A (truthy u) (fun y s'=>y=b∧Rel C ly g σ s') X4 s:=by
 cases x with
 | none=>obtain rfl:u=.none:=h;exact s1 e (truthy_none ⟨rfl,R⟩)
 | bool c=>obtain rfl:u=.bool c:=h;exact s1 e (wpAny_truthy_bool ⟨rfl,R⟩)
 | int i=>obtain⟨t,rfl⟩:=h;exact s1 e (PyProof.Rows.truthy_int ⟨rfl,R⟩)
 | lst xs=>
  obtain⟨a,items,n,rfl,ho,r⟩:=h
  refine iN e fun hl e => ?_
  refine s1 e ?_
  have hz:=r.length
  rw[Array.length_toList] at hz
  refine wpAny_truthy_list (l:=a) (items:=items) ⟨_,ho,rfl,n,rfl⟩ (hz.symm▸A9x hl) ⟨?_,R.grow .toks_⟩
  cases xs with
  | nil=>rw[Array.eq_empty_of_size_eq_zero hz];rfl
  | cons y ys=>
   have:items.isEmpty=false:=Array.isEmpty_eq_false_iff.mpr fun q=>by rw[q] at hz;exact nomatch hz
   rw[this];rfl
 | _=>exact nn e
section
variable{e1:Expr}{a:D}{p q:DB}
noncomputable abbrev ST(C:Cx)(k:Nat)(env:Env)(ly:List Loc)(e:Expr)(d:DB):Prop:=SB C k ly (isTrue e env (eval e env)) d
theorem Q1(B:Base C)(h:SE C k env ly e a)(he:isTrue e env (eval e env)=(do let v ← eval e env;standAt e.pos;holding [v] (truthy v))):ST C k env ly e (C1 a):=fun A hA g σ s b σ' R e'=>by
 refine b2 e' fun u σ1 e1 e' => ?_
 refine b1 e' fun x ex e' => ?_
 refine b1 e' fun z ez e' => ?_
 (first | refine s2 e' ?_ | refine s1 e' ?_ | cases e')
 refine wpAny_isTrue_value (h.use hA R e1 fun g1 u s1 l1 R1 V1 => ?_) he
 exact wpAny_mono (A2d B hA R1 (R1.view B V1 ex) ez) (fun y s' h=>⟨h.1,g1,l1,h.2⟩) fun _ _ x=>x.elim
theorem D2{op:CmpOp}{f:T→T→Option T}(B:Base C)(ha:SE C k env ly e1 a)(hb:SE C k env ly e2 b)(hf:Pure2 C k (compareOp op) f)(hm:behindInMarks op e2=false):ST C k env ly (.Compare e1 [op] [e2] pos) (C1 (d2 f a b)):=fun A hA g σ s b' σ' R e'=>by
 refine b2 e' fun u σ1 e1 e' => ?_
 refine b1 e' fun x ex e' => ?_
 refine b1 e' fun z ez e' => ?_
 (first | refine s2 e' ?_ | refine s1 e' ?_ | cases e')
 refine wpAny_isTrue_Compare1 (A2C B ha hb hf hA R e1 fun x s1 ⟨g1,l1,R1,V1⟩ => ?_) hm
 exact wpAny_mono (A2d B hA R1 (R1.view B V1 ex) ez) (fun y s' h=>⟨h.1,g1,l1,h.2⟩) fun _ _ x=>x.elim
theorem A84(h:ST C k env ly e p):ST C k env ly (.UnaryOp .Not e pos) (B48 p):=fun A hA g σ s b σ' R e'=>by
 refine b2 e' fun u σ1 e1 e' => ?_
 (first | refine s2 e' ?_ | refine s1 e' ?_ | cases e')
 exact wpAny_isTrue_Not (h.use hA R e1 fun g1 s1 l1 R1=>⟨rfl,g1,l1,R1⟩)
theorem A85{x y:Expr}(h:ST C k env ly x p)(h':ST C k env ly y q):ST C k env ly (.BoolOp .And [x,y] pos) (B1C p q):=fun A hA g σ s b σ' R e'=>by
 refine b2 e' fun u σ1 e1 e' => ?_
 refine wpAny_isTrue_BoolOp (wpAny_allTrue_And_cons (h.use hA R e1 fun g1 s1 l1 R1 => ?_))
 cases u with
 | false=>(first | refine s2 e' ?_ | refine s1 e' ?_ | cases e');exact⟨rfl,g1,l1,R1⟩
 | true=>
  refine wpAny_allTrue_And_cons (h'.use hA R1 e' fun g2 s2 l2 R2 => ?_)
  cases b with
  | false=>exact⟨rfl,g2,l1.trans l2,R2⟩
  | true=>exact wpAny_allTrue_And_nil ⟨rfl,g2,l1.trans l2,R2⟩
theorem B5J{x y:Expr}(h:ST C k env ly x p)(h':ST C k env ly y q):ST C k env ly (.BoolOp .Or [x,y] pos) (bOr p q):=fun A hA g σ s b σ' R e'=>by
 refine b2 e' fun u σ1 e1 e' => ?_
 refine wpAny_isTrue_BoolOp (wpAny_allTrue_Or_cons (h.use hA R e1 fun g1 s1 l1 R1 => ?_))
 cases u with
 | true=>(first | refine s2 e' ?_ | refine s1 e' ?_ | cases e');exact⟨rfl,g1,l1,R1⟩
 | false=>
  refine wpAny_allTrue_Or_cons (h'.use hA R1 e' fun g2 s2 l2 R2 => ?_)
  cases b with
  | true=>exact⟨rfl,g2,l1.trans l2,R2⟩
  | false=>exact wpAny_allTrue_Or_nil ⟨rfl,g2,l1.trans l2,R2⟩
theorem A83{x y z:Expr}{r:DB}(h:ST C k env ly x p)(h':ST C k env ly y q)(h'':ST C k env ly z r):ST C k env ly (.BoolOp .Or [x,y,z] pos) (bOr p (bOr q r)):=fun A hA g σ s b σ' R e'=>by
 refine b2 e' fun u σ1 e1 e' => ?_
 refine wpAny_isTrue_BoolOp (wpAny_allTrue_Or_cons (h.use hA R e1 fun g1 s1 l1 R1 => ?_))
 cases u with
 | true=>(first | refine s2 e' ?_ | refine s1 e' ?_ | cases e');exact⟨rfl,g1,l1,R1⟩
 | false=>
  refine b2 e' fun u σ2 e2 e' => ?_
  refine wpAny_allTrue_Or_cons (h'.use hA R1 e2 fun g2 s2 l2 R2 => ?_)
  cases u with
  | true=>(first | refine s2 e' ?_ | refine s1 e' ?_ | cases e');exact⟨rfl,g2,l1.trans l2,R2⟩
  | false=>
   refine wpAny_allTrue_Or_cons (h''.use hA R2 e' fun g3 s3 l3 R3 => ?_)
   cases b with
   | true=>exact⟨rfl,g3,(l1.trans l2).trans l3,R3⟩
   | false=>exact wpAny_allTrue_Or_nil ⟨rfl,g3,(l1.trans l2).trans l3,R3⟩
noncomputable def dIf(c:DB)(a b:D):D:=fun σ=>(c σ).bind fun p=>if p.1 then a p.2 else b p.2
theorem Q5{t x y:Expr}(h:ST C k env ly t p)(ha:SE C k env ly x a)(hb:SE C k env ly y b):SE C k env ly (.IfExp t x y pos) (dIf p a b):=fun A hA g σ s v σ' R e'=>by
 refine b2 e' fun u σ1 e1 e' => ?_
 refine wpAny_IfExp (h.use hA R e1 fun g1 s1 l1 R1 => ?_)
 cases u with
 | true=>exact ha.use hA R1 e' fun g2 x s2 l2 R2 V2=>⟨g2,l1.trans l2,R2,V2⟩
 | false=>exact hb.use hA R1 e' fun g2 x s2 l2 R2 V2=>⟨g2,l1.trans l2,R2,V2⟩
end
theorem C2{s:Shared}{r:Value}{t:Nat}(h:RelT C g z r)(ht:s.toks≤t:=by first | exact Nat.le_refl _ | exact Nat.le_succ _ | exact Nat.le_add_right _ _ | assumption | lia):A06 C g s z r { s with toks:=t }:=⟨g,.toks_ ht,h⟩
theorem C8{s:Shared}{r:Value}(h:RelT C g z r):A06 C g s z r s:=⟨g,.refl _ _,h⟩
noncomputable def fAdd:T→T→Option T:=or2 F4 F4 (fun a b=>some (.int (a+b))) (o2 G9 G9 fun a b=>if a.length+b.length<1000 then some (.str (a++b)) else none)
noncomputable def fSub:T→T→Option T:=o2 F4 F4 fun a b=>some (.int (a - b))
noncomputable def I9(a:Int):Bool:=a.natAbs<2 ^ 60
noncomputable def fMul:T→T→Option T:=o2 F4 F4 fun a b=>if I9 a||I9 b then some (.int (a * b)) else none
noncomputable def fDiv:T→T→Option T:=o2 F4 F4 fun a b=>if b≠0∧I9 b then some (.int (a.fdiv b)) else none
noncomputable def fMod:T→T→Option T:=o2 F4 F4 fun a b=>if b≠0 then some (.int (a.fmod b)) else none
noncomputable def fNeg:T→Option T:=o1 F4 fun a=>some (.int (-a))
section
theorem J3:Pure2 C k (binaryOp .Add) fAdd:=.or (.i fun A g s a b t t' z e=>s1 e (by with_reducible refine add_int ?_;exact C2 .int)) (.s fun A g s a b t t' z e=>by
 refine iN e fun hl e => ?_
 refine s1 e (wpAny_with_toks (Nat.le_refl s.toks) ?_)
 with_reducible refine add_str ?_ ?_
 ·exact fun t' tk h=>C2 .str h
 ·exact D3 hl)
theorem A6m:Pure2 C k (binaryOp .Sub) fSub:=.i fun A g s a b t t' z e=>s1 e (by with_reducible refine sub_int ?_;exact C2 .int)
theorem A0n:Pure1 C k (unaryOp .USub) fNeg:=.i fun A g s a t z e=>s1 e (by with_reducible refine neg_int ?_;exact C2 .int)
theorem S6{a:Int}(h:I9 a=true):Builtin.Int.intBits a≤64:=by
 have h:a.natAbs<2 ^ 60:=of_decide_eq_true h
 unfold Builtin.Int.intBits
 split
 ·exact Nat.zero_le _
 ·rename_i hz
  exact Nat.le_trans ((Nat.log2_lt fun q=>hz (beq_iff_eq.mpr (Int.natAbs_eq_zero.mp q))).mpr h) (by decide)
theorem A4O:Pure2 C k (binaryOp .Mult) fMul:=.i fun A g s a b t t' z e=>by
 refine iN e fun h e => ?_
 refine s1 e ?_
 with_reducible refine mul_int ?_ ?_
 ·exact C2 .int
 rcases Bool.or_eq_true_iff.mp h with h | h
 ·exact .of_left (S6 h)
 ·exact .of_right (S6 h)
theorem v5:Pure2 C k (binaryOp .Mod) fMod:=.i fun A g s a b t t' z e=>by
 refine iN e fun h e => ?_
 refine s1 e ?_
 with_reducible refine mod_int' h ?_;exact C2 .int
theorem A4T{a b:Int}(h:I9 b=true):Builtin.divisionGoesByPylong a b=false:=by
 have h:b.natAbs<2 ^ 60:=of_decide_eq_true h
 have hd:(if b==0 then 0 else b.natAbs.log2 / 30+1)≤300:=by
  split
  ·exact Nat.zero_le _
  ·rename_i hz
   exact Nat.succ_le_of_lt (Nat.lt_of_le_of_lt (Nat.div_le_self _ _) (Nat.lt_trans ((Nat.log2_lt fun q=>hz (beq_iff_eq.mpr (Int.natAbs_eq_zero.mp q))).mpr h) (by decide)))
 unfold Builtin.divisionGoesByPylong
 exact Bool.and_eq_false_imp.mpr fun q=>absurd (of_decide_eq_true q) (by lia)
theorem A1i:Pure2 C k (binaryOp .FloorDiv) fDiv:=.i fun A g s a b t t' z e=>by
 refine iN e fun h e => ?_
 refine s1 e ?_
 with_reducible refine floordiv_int h.1 ?_ (.inl (A4T h.2));exact C2 .int
noncomputable def fLt:T→T→Option T:=or2 F4 F4 (fun a b=>some (.bool (decide (a<b)))) (o2 G9 G9 fun a b=>some (.bool (decide (a.cps.toList<b.cps.toList))))
noncomputable def fGt:T→T→Option T:=or2 F4 F4 (fun a b=>some (.bool (decide (b<a)))) (o2 G9 G9 fun a b=>some (.bool (decide (b.cps.toList<a.cps.toList))))
noncomputable def fLe:T→T→Option T:=o2 F4 F4 fun a b=>some (.bool (decide (a≤b)))
theorem B1v:Pure2 C k (compareOp .Lt) fLt:=.or (.i fun A g s a b t t' z e=>s1 e (by with_reducible refine lt_int ?_;exact C8 .bool)) (.s fun A g s a b t t' z e=>s1 e (by with_reducible refine PyProof.Rows.lt_str ?_;exact C8 .bool))
theorem B5V:Pure2 C k (compareOp .Gt) fGt:=.or (.i fun A g s a b t t' z e=>s1 e (by with_reducible refine gt_int ?_;exact C8 .bool)) (.s fun A g s a b t t' z e=>s1 e (by with_reducible refine PySem.P.gt_str ?_;exact C8 .bool))
theorem B6T:Pure2 C k (compareOp .LtE) fLe:=.i fun A g s a b t t' z e=>s1 e (by with_reducible refine le_int ?_;exact C8 .bool)
noncomputable def A6y(x:T):Option T:=T.casesOn (motive_1:=fun _=>Option T) x (some (.bool true)) (fun _=>some (.bool false)) (fun _=>some (.bool false)) (fun _=>some (.bool false)) (fun _=>some (.bool false)) (fun _=>none) (fun _=>some (.bool false)) (fun _=>some (.bool false)) (fun _ _=>some (.bool false)) (fun _ _=>some (.bool false)) (fun _ _=>some (.bool false)) (fun _ _=>some (.bool false))
noncomputable def A8z(x:T):Option Unit:=T.casesOn (motive_1:=fun _=>Option Unit) x (some ()) (fun _=>none) (fun _=>none) (fun _=>none) (fun _=>none) (fun _=>none) (fun _=>none) (fun _=>none) (fun _ _=>none) (fun _ _=>none) (fun _ _=>none) (fun _ _=>none)
noncomputable def B3E(v:Value):Option String:=Value.casesOn (motive:=fun _=>Option String) v none none none (fun _=>none) (fun _ _=>none) (fun _ _=>none) (fun _ _=>none) (fun _ _=>none) some (fun _=>none) (fun _=>none)
noncomputable def A4B(x:T):Option String:=(B3r x).bind B3E
noncomputable def fIs(x y:T):Option T:=(A8z y).elim (o2 A4B A4B (fun a b=>some (.bool (a==b))) x y) fun _=>A6y x
noncomputable def B3R(x:T):Option T:=T.casesOn (motive_1:=fun _=>Option T) x none (fun b=>some (.bool !b)) (fun _=>none) (fun _=>none) (fun _=>none) (fun _=>none) (fun _=>none) (fun _=>none) (fun _ _=>none) (fun _ _=>none) (fun _ _=>none) (fun _ _=>none)
noncomputable def fIsNot:T→T→Option T:=fun x y=>(fIs x y).bind B3R
theorem A8K{x:T}{u:Value}(r:RelW C g h x u)(e:A6y x=some z):PySem.plainIs u .none=true∧z=.bool (u==.none):=by
 cases x with
 | none=>obtain rfl:u=.none:=r;exact s1 e ⟨rfl,rfl⟩
 | bool b=>obtain rfl:u=.bool b:=r;exact s1 e ⟨rfl,rfl⟩
 | int _=>obtain⟨t,rfl⟩:=r;exact s1 e ⟨rfl,rfl⟩
 | str _=>obtain⟨t,rfl⟩:=r;exact s1 e ⟨rfl,rfl⟩
 | ch _=>obtain⟨t,rfl⟩:=r;exact s1 e ⟨rfl,rfl⟩
 | cst c=>exact nn e
 | tup _=>obtain⟨a,_,_,rfl,_⟩:=r;exact s1 e ⟨rfl,rfl⟩
 | lst _=>obtain⟨a,_,_,rfl,_⟩:=r;exact s1 e ⟨rfl,rfl⟩
 | ds _ _=>obtain⟨a,_,rfl,_⟩:=r;exact s1 e ⟨rfl,rfl⟩
 | di _ _=>obtain⟨a,_,rfl,_⟩:=r;exact s1 e ⟨rfl,rfl⟩
 | rng _ _=>obtain⟨a,_,_,_,rfl,_⟩:=r;exact s1 e ⟨rfl,rfl⟩
 | itv _ _=>obtain⟨a,_,_,rfl,_⟩:=r;exact s1 e ⟨rfl,rfl⟩
theorem A8q{v:Value}{a:String}(e:B3E v=some a):v=.type a:=by
 cases v
 case type=>exact congrArg Value.type (Option.some.inj e)
 all_goals exact nn e
theorem s8{x:T}{a:String}(e:A4B x=some a):x=.cst (.type a):=b1 e fun v e1 e=>(A6W e1).trans (congrArg T.cst (A8q e))
theorem A4e{x:T}{u v:Value}(hx:RelW C g h x u)(hy:RelW C g h y v)(e:fIs x y=some z):PySem.plainIs u v=true∧z=.bool (u==v):=by
 refine S0 e (fun _ e1 e => ?_) fun e => ?_
 ·cases y
  case none=>obtain rfl:v=.none:=hy;exact A8K hx e
  all_goals exact nn e1
 ·refine b1 e fun a e1 e => ?_
  refine b1 e fun b e2 e => ?_
  obtain rfl:u=.type a:=hx.of (s8 e1)
  obtain rfl:v=.type b:=hy.of (s8 e2)
  refine s1 e ⟨rfl,congrArg T.bool (Bool.eq_iff_iff.mpr ?_)⟩
  rw[beq_iff_eq,beq_iff_eq]
  exact⟨congrArg _,Value.type.inj⟩
theorem B1y:Pure2 C k (compareOp .Is) fIs:=fun A hA ly g σ s x y u v z R hx hy e=>by
 obtain⟨h1,rfl⟩:=A4e hx hy e
 with_reducible refine wpAny_is_plain h1 ?_;exact C8 .bool
theorem A3S:Pure2 C k (compareOp .IsNot) fIsNot:=fun A hA ly g σ s x y u v z R hx hy e=>by
 refine b1 e fun w e1 e2 => ?_
 obtain⟨h1,rfl⟩:=A4e hx hy e1
 refine s1 e2 ?_
 with_reducible refine wpAny_isNot_plain h1 ?_;exact C8 .bool
end
end
section
theorem B4H{a:Addr}{m m':Str→Option Value}(x:h.Ns a m)(y:h.Ns a m'):m=m':=by
 refine A6P (x) fun o es ep e1 e2 _ e3 => ?_
 refine A6P (y) fun o' es' ep' f1 f2 _ f3 => ?_
 rw[e1] at f1;cases f1
 rw[e2] at f2;cases f2
 funext n
 rw[← e3,← f3]
section
variable{s:Shared}
theorem L7{a b:Addr}{r r':Role}(h:g.role a=some r)(h':g.role b=some r')(hne:r≠r'):a≠b:=by
 rintro rfl
 rw[h] at h'
 exact hne (Option.some.inj h')
theorem Rel.old'(R:Rel C ly g σ s){a:Addr}{r:Role}(ha:g.role a=some r)(hs:Heap.SameBut a s.heap h'):∀ b o,C.hb.get? b=some o→h'.get? b=some o:=fun b o e=>by
 refine(hs.2 b ?_).trans (R.old b o e)
 rintro rfl
 rw[(R.new _ _ ha).1] at e;(first | refine s2 e ?_ | refine s1 e ?_ | cases e)
theorem M8{α:Type}{l:List α}{i:Nat}{x y:α}(h:l[i]?=some x):(l.set i y)[i]?=some y:=by
 have:=(List.getElem?_eq_some_iff.mp h).1
 simp [this]
theorem Rel.setSlot(R:Rel C ly g σ s){i:Nat}{l:Loc}{v:V}{a:Addr}(hl:ly[i]?=some l)(hs:Heap.SameBut a s.heap h')(hr:g.role a=some .frame∨g.role a=some .cell)(hob:∃ ob,h'.get? a=some ob)(hnew:SlotOk C g h' l (some v))(hother:∀ (j:Nat) l' w,j≠i→ly[j]?=some l'→σ.loc[j]?=some w→SlotOk C g s.heap l' w→SlotOk C g h' l' w)(ht:s.toks≤tk:=by first | exact Nat.le_refl _ | exact Nat.le_succ _ | exact Nat.le_add_right _ _ | assumption | lia):
  Rel C ly g ⟨σ.loc.set i (some v),σ.objs⟩ { s with heap:=h',toks:=tk } where
 old:=by rcases hr with hr | hr <;> exact R.old' hr hs
 new:=fun b r e=>⟨(R.new b r e).1,by
  by_cases q:b=a
  ·exact q▸hob
  ·obtain⟨o,ho⟩:=(R.new b r e).2
   exact⟨o,(hs.2 b q).trans ho⟩⟩
 frz:=fun b o e=>(hs.2 b (by rcases hr with hr | hr <;> exact(L7 hr e (by nofun)).symm)).trans (R.frz b o e)
 kept:=fun b o e=>(hs.2 b (by rcases hr with hr | hr <;> exact(L7 hr e (by nofun)).symm)).trans (R.kept b o e)
 len:=by rw[List.length_set];exact R.len
 slot:=fun j l' w hj hw=>by
  by_cases q:j=i
  ·subst q
   rw[hl] at hj;cases hj
   have hlt:j<σ.loc.length:=by rw[R.len];exact(List.getElem?_eq_some_iff.mp hl).1
   simp only[List.getElem?_set_self hlt] at hw
   cases hw
   exact hnew
  ·simp only[List.getElem?_set_ne (Ne.symm q)] at hw
   exact hother j l' w q hj hw (R.slot j l' w hj hw)
 nodup:=R.nodup
 olen:=R.olen
 own:=fun j o hj hne=>by
  refine F1 (R.own j o hj hne) fun b ob h1 h2 h3 h4 => ?_
  exact⟨b,ob,h1,h2,(hs.2 b (by rcases hr with hr | hr <;> exact(L7 hr h2 (by nofun)).symm)).trans h3,h4⟩
 tab:=fun P pos q h=>by
  refine N4 (R.tab P pos q h) fun h1 ps h2 h3 => ?_
  exact⟨h1,ps,(hs.2 P (by rcases hr with hr | hr <;> exact(L7 hr h1 (by nofun)).symm)).trans h2,h3⟩
 os:=R.os
 gens:=R.gens
 tk:=⟨R.tk.1,Nat.le_trans R.tk.2 ht⟩
theorem A2q{α:Type}{l:List α}(h:l.Nodup){i:Nat}{x:α}(hi:l[i]?=some x)(hj:l[j]?=some x):i=j:=by
 obtain⟨hi,ei⟩:=List.getElem?_eq_some_iff.mp hi
 obtain⟨hj,ej⟩:=List.getElem?_eq_some_iff.mp hj
 rcases Nat.lt_trichotomy i j with q | q | q
 ·exact absurd (ei.trans ej.symm) (List.pairwise_iff_getElem.mp h i j hi hj q)
 ·exact q
 ·exact absurd (ej.trans ei.symm) (List.pairwise_iff_getElem.mp h j i hj hi q)
theorem A1P{k:Nat}{x:Str}{i:Nat}{v:V}{y:Value}{Q:Unit→Shared→Prop}(hb:Bnd env ly x i)(R:Rel C ly g σ s)(hv:RelV C g v y)(h:∀ s',Rel C ly g ⟨σ.loc.set i (some v),σ.objs⟩ s'→(env.kindOf x=some .local→0<s'.toks)→Q () s'):wpAny (Md C) A (storeName env x y) Q E s:=by
 refine B3g (hb) fun hk _ _ hb => ?_
 rcases hb with ⟨hl,hn⟩|⟨c,hl,hc,hn⟩
 ·obtain⟨w,hw⟩:∃ w,σ.loc[i]?=some w:=by
   have:=(List.getElem?_eq_some_iff.mp hl).1
   exact⟨_,List.getElem?_eq_getElem (by rw[R.len];exact this)⟩
  refine N4 (R.slot i _ _ hl hw) fun hr m hm _ => ?_
  refine wpAny_storeName_local hn hm (fun h' hn' hs=>h _ (R.setSlot hl hs (.inl hr) (let ⟨o,_,_,h,_⟩:=hn';⟨o,h⟩) ⟨hr,_,hn',?_⟩ ?_) (fun _=>Nat.succ_pos _)) ?_
  ·exact⟨y,by simp,hv⟩
  ·intro j l' w' hne hj hw' ok
   cases l' with
   | fr L z=>
    refine N4 (ok) fun r1 m' h1 h2 => ?_
    by_cases q:L=env.locals
    ·subst q
     refine⟨r1,_,hn',?_⟩
     have:z≠x:=fun e=>hne (A2q R.nodup hj (e▸hl))
     simp only[this,if_false]
     rw[B4H hm h1]
     exact h2
    ·exact⟨r1,m',h1.sameBut hs q,h2⟩
   | cl c=>
    refine N4 (ok) fun r1 ov h1 h2 => ?_
    exact⟨r1,ov,h1.sameBut hs (L7 r1 hr (by nofun)),h2⟩
  ·rw[hk];rfl
 ·obtain⟨w,hw⟩:∃ w,σ.loc[i]?=some w:=by
   have:=(List.getElem?_eq_some_iff.mp hl).1
   exact⟨_,List.getElem?_eq_getElem (by rw[R.len];exact this)⟩
  refine N4 (R.slot i _ _ hl hw) fun hr ov hm _ => ?_
  have key:∀ h',h'.IsCell c (some y)→Heap.SameBut c s.heap h'→∀ tk,s.toks≤tk→Rel C ly g ⟨σ.loc.set i (some v),σ.objs⟩ { s with heap:=h',toks:=tk }:=by
   intro h' hn' hs tk ht
   refine R.setSlot hl hs (.inr hr) (let ⟨o,h,_⟩:=hn';⟨o,h⟩) ⟨hr,_,hn',y,rfl,hv⟩ ?_
   intro j l' w' hne hj hw' ok
   cases l' with
   | fr L z=>
    refine N4 (ok) fun r1 m' h1 h2 => ?_
    exact⟨r1,m',h1.sameBut hs (L7 r1 hr (by nofun)),h2⟩
   | cl c'=>
    refine N4 (ok) fun r1 ov h1 h2 => ?_
    have:c'≠c:=fun e=>hne (A2q R.nodup hj (e▸hl))
    exact⟨r1,ov,h1.sameBut hs this,h2⟩
  rcases hn with hn | hn
  ·exact wpAny_storeName_cell hk hn hc hm fun h' hn' hs=>h _ (key h' hn' hs _ (Nat.le_refl _)) (fun q=>by rw[hn] at q;cases q)
  ·unfold storeName
   simp only[hn,hk]
   exact wpAny_bind (wpAny_cellOf hc (wpAny_cellSet hm fun h' hn' hs=>h _ (key h' hn' hs _ (Nat.le_refl _)) (fun q=>by rw[hn] at q;cases q)))
theorem U8{k:Nat}{x:Str}{i:Nat}{v:V}{y:Value}{Q:Unit→Shared→Prop}(hb:Bnd env ly x i)(R:Rel C ly g σ s)(hv:RelV C g v y)(h:∀ s',Rel C ly g ⟨σ.loc.set i (some v),σ.objs⟩ s'→Q () s'):wpAny (Md C) A (storeName env x y) Q E s:=A1P (k:=k) hb R hv fun s' R' _=>h s' R'
theorem Rel.upd(R:Rel C ly g σ s){i:Nat}{o:AO}{a:Addr}{ob':Obj}(hi:σ.objs[i]?=some o)(ha:g.own[i]?=some a)(hr:g.role a=some (.own i))(hs:Heap.SameBut a s.heap h')(ho:h'.get? a=some ob')(r:p8 C g o' ob')(ht:s.toks≤tk:=by first | exact Nat.le_refl _ | exact Nat.le_succ _ | exact Nat.le_add_right _ _ | assumption | lia):
  Rel C ly g ⟨σ.loc,σ.objs.set i o'⟩ { s with heap:=h',toks:=tk } where
 old:=R.old' hr hs
 new:=fun b r e=>⟨(R.new b r e).1,by
  by_cases q:b=a
  ·exact q▸⟨ob',ho⟩
  ·obtain⟨o,ho⟩:=(R.new b r e).2
   exact⟨o,(hs.2 b q).trans ho⟩⟩
 frz:=fun b o e=>(hs.2 b (L7 hr e (by nofun)).symm).trans (R.frz b o e)
 kept:=fun b o e=>(hs.2 b (L7 hr e (by nofun)).symm).trans (R.kept b o e)
 len:=R.len
 slot:=fun j l v hl hv=>by
  have:=R.slot j l v hl hv
  cases l with
  | fr L x=>exact⟨this.1,this.2.elim fun m hm=>⟨m,hm.1.sameBut hs (L7 this.1 hr (by nofun)),hm.2⟩⟩
  | cl c=>exact⟨this.1,this.2.elim fun m hm=>⟨m,hm.1.sameBut hs (L7 this.1 hr (by nofun)),hm.2⟩⟩
 nodup:=R.nodup
 olen:=by rw[List.length_set];exact R.olen
 own:=fun j o2 hj hne=>by
  by_cases q:j=i
  ·subst q
   have:=M8 (y:=o') hi
   simp only at hj
   rw[this] at hj
   cases hj
   exact⟨a,ob',ha,hr,ho,r⟩
  ·simp only[List.getElem?_set_ne (Ne.symm q)] at hj
   refine F1 (R.own j o2 hj hne) fun b ob h1 h2 h3 h4 => ?_
   exact⟨b,ob,h1,h2,(hs.2 b (L7 h2 hr (by rintro e;(first | refine s2 e ?_ | refine s1 e ?_ | cases e);exact q rfl))).trans h3,h4⟩
 tab:=fun P pos q h=>by
  refine N4 (R.tab P pos q h) fun h1 ps h2 h3 => ?_
  exact⟨h1,ps,(hs.2 P (L7 h1 hr (by nofun))).trans h2,h3⟩
 os:=R.os
 gens:=R.gens
 tk:=⟨R.tk.1,Nat.le_trans R.tk.2 ht⟩
noncomputable def G.add(g:G)(a:Addr):G:=⟨g.own++[a],fun b=>if b=a then some (.own g.own.length) else g.role b,g.tk⟩
theorem G.add_le{a:Addr}(h:g.role a=none):g.le (g.add a):=⟨⟨[a],rfl⟩,fun b o e=>by
 have:b≠a:=by rintro rfl;rw[h] at e;(first | refine s2 e ?_ | refine s1 e ?_ | cases e)
 simp only[G.add,if_neg this,e],fun b o e=>(by
 have:b≠a:=by rintro rfl;rw[h] at e;(first | refine s2 e ?_ | refine s1 e ?_ | cases e)
 simp only[G.add,if_neg this,e]),Nat.le_refl _⟩
theorem Rel.none_above(R:Rel C ly g σ s){a:Addr}(h:s.heap.objs.size≤a):g.role a=none:=by
 cases q:g.role a with
 | none=>rfl
 | some r=>exact absurd (R.lt q) (Nat.not_lt.mpr h)
theorem Rel.push(R:Rel C ly g σ s){o:AO}(hf:ob.isFreed=false)(r:p8 C g o ob)(ht:s.toks≤tk:=by first | exact Nat.le_refl _ | exact Nat.le_succ _ | exact Nat.le_add_right _ _ | assumption | lia):
  Rel C ly (g.add s.heap.objs.size) ⟨σ.loc,σ.objs++[o]⟩ { s with heap:=s.heap.push ob,toks:=tk }:=by
 have hn:g.role s.heap.objs.size=none:=R.none_above (Nat.le_refl _)
 have le:=G.add_le hn
 have ro:∀ b r,g.role b=some r→(g.add s.heap.objs.size).role b=some r:=fun b r e=>by
  have:b≠s.heap.objs.size:=by rintro rfl;rw[hn] at e;(first | refine s2 e ?_ | refine s1 e ?_ | cases e)
  simp only[G.add,if_neg this,e]
 have or:∀ b r,(g.add s.heap.objs.size).role b=some r→(b=s.heap.objs.size∧r=.own g.own.length)∨g.role b=some r:=fun b r e=>by
  by_cases q:b=s.heap.objs.size
  ·simp only[G.add,if_pos q] at e;(first | refine s2 e ?_ | refine s1 e ?_ | cases e);exact .inl ⟨q,rfl⟩
  ·simp only[G.add,if_neg q] at e;exact .inr e
 have up:∀ b x,s.heap.get? b=some x→(s.heap.push ob).get? b=some x:=fun b x e=>Heap.get?_push_of_some _ e
 refine⟨fun b x e=>up _ _ (R.old b x e),fun b r e => ?_,fun b x e => ?_,fun b x e => ?_,R.len,fun j l v hl hv => ?_,R.nodup,?_,fun j o2 hj hne => ?_,fun P pos q h => ?_,R.os,R.gens,R.tk.1,Nat.le_trans R.tk.2 ht⟩
 ·rcases or b r e with ⟨rfl,rfl⟩ | e
  ·exact⟨A8Q R.old (Nat.le_refl _),ob,Heap.get?_push_size _ hf⟩
  ·refine xAE (R.new b r e) fun q o ho => ?_
   exact⟨q,o,up _ _ ho⟩
 ·rcases or b _ e with ⟨_,q⟩ | e
  ·cases q
  ·exact up _ _ (R.frz b x e)
 ·rcases or b _ e with ⟨_,q⟩ | e
  ·cases q
  ·exact up _ _ (R.kept b x e)
 ·have:=R.slot j l v hl hv
  cases l with
  | fr L x=>exact⟨ro _ _ this.1,this.2.elim fun m hm=>⟨m,hm.1.keeps up,D1 le _ _ hm.2⟩⟩
  | cl c=>exact⟨ro _ _ this.1,this.2.elim fun m hm=>⟨m,hm.1.keeps up,D1 le _ _ hm.2⟩⟩
 ·show (σ.objs++[o]).length=(g.own++[s.heap.objs.size]).length
  rw[List.length_append,List.length_append,R.olen];rfl
 ·by_cases q:j<σ.objs.length
  ·have hj:(σ.objs++[o])[j]?=some o2:=hj
   rw[List.getElem?_append_left q] at hj
   refine F1 (R.own j o2 hj hne) fun b x h1 h2 h3 h4 => ?_
   exact⟨b,x,le.v.at h1,ro _ _ h2,up _ _ h3,G8 le _ _ h4⟩
  ·have hj:(σ.objs++[o])[j]?=some o2:=hj
   rw[List.getElem?_append_right (by lia)] at hj
   have e0:j - σ.objs.length=0:=by
    have:=(List.getElem?_eq_some_iff.mp hj).1
    simpa using this
   rw[e0] at hj
   cases hj
   have ej:j=g.own.length:=by rw[← R.olen];lia
   subst ej
   refine⟨s.heap.objs.size,ob,by simp [G.add],by simp [G.add],Heap.get?_push_size _ hf,G8 le _ _ r⟩
 ·refine N4 (R.tab P pos q h) fun h1 ps h2 h3 => ?_
  exact⟨ro _ _ h1,ps,up _ _ h2,J4 le h3⟩
theorem Rel.freeze(R:Rel C ly g σ s){i:Nat}{o:AO}{a:Addr}(hi:σ.objs[i]?=some o)(ha:g.own[i]?=some a)(hr:g.role a=some (.own i))(ho:s.heap.get? a=some ob):
  g.le (g.put a (.frz ob))∧Rel C ly (g.put a (.frz ob)) ⟨σ.loc,σ.objs.set i .gone⟩ s:=by
 have ro:∀ b r,r≠.own i→g.role b=some r→(g.put a (.frz ob)).role b=some r:=fun b r hne e=>by
  have:b≠a:=by rintro rfl;rw[hr] at e;cases e;exact hne rfl
  simp only[G.put,if_neg this,e]
 have or:∀ b r,(g.put a (.frz ob)).role b=some r→(b=a∧r=.frz ob)∨g.role b=some r:=fun b r e=>by
  by_cases q:b=a
  ·simp only[G.put,if_pos q] at e;(first | refine s2 e ?_ | refine s1 e ?_ | cases e);exact .inl ⟨q,rfl⟩
  ·simp only[G.put,if_neg q] at e;exact .inr e
 have le:g.le (g.put a (.frz ob)):=⟨⟨[],by simp [G.put]⟩,fun b x e=>ro b _ (by nofun) e,fun b x e=>ro b _ (by nofun) e,Nat.le_refl _⟩
 refine⟨le,R.old,fun b r e => ?_,fun b x e => ?_,fun b x e => ?_,R.len,fun j l v hl hv => ?_,R.nodup,?_,fun j o2 hj hne => ?_,fun P pos q h => ?_,R.os,R.gens,R.tk⟩
 ·rcases or b r e with ⟨rfl,rfl⟩ | e
  ·exact R.new _ _ hr
  ·exact R.new _ _ e
 ·rcases or b _ e with ⟨rfl,q⟩ | e
  ·cases q;exact ho
  ·exact R.frz b x e
 ·rcases or b _ e with ⟨_,q⟩ | e
  ·cases q
  ·exact R.kept b x e
 ·have:=R.slot j l v hl hv
  cases l with
  | fr L x=>exact⟨ro _ _ (by nofun) this.1,this.2.elim fun m hm=>⟨m,hm.1,D1 le _ _ hm.2⟩⟩
  | cl c=>exact⟨ro _ _ (by nofun) this.1,this.2.elim fun m hm=>⟨m,hm.1,D1 le _ _ hm.2⟩⟩
 ·rw[List.length_set];exact R.olen
 ·by_cases q:j=i
  ·subst q
   have:=M8 (y:=AO.gone) hi
   simp only at hj
   rw[this] at hj
   cases hj
   exact absurd rfl hne
  ·simp only[List.getElem?_set_ne (Ne.symm q)] at hj
   refine F1 (R.own j o2 hj hne) fun b x h1 h2 h3 h4 => ?_
   exact⟨b,x,h1,ro _ _ (by rintro e;(first | refine s2 e ?_ | refine s1 e ?_ | cases e);exact q rfl) h2,h3,G8 le _ _ h4⟩
 ·refine N4 (R.tab P pos q h) fun h1 ps h2 h3 => ?_
  exact⟨ro _ _ (by nofun) h1,ps,h2,J4 le h3⟩
noncomputable def toT(σ:St)(v:V):Option (T×St):=V.casesOn (motive:=fun _=>Option (T×St)) v (fun x=>some (x,σ)) (fun i=>(σ.objs[i]?).bind fun o=>(aoT o).bind fun x=>some (x,⟨σ.loc,σ.objs.set i .gone⟩)) (fun _ _ _=>none)
inductive ToT(C:Cx)(ly:List Loc)(g:G)(σ':St)(s:Shared)(P:G→Prop):Prop
 | mk (g':G) (l:g.le g') (R:Rel C ly g' σ' s) (r:P g')
theorem ToT.elim{s:Shared}{P:G→Prop}{Q:Prop}(h:ToT C ly g σ' s P)(k:∀ g',g.le g'→Rel C ly g' σ' s→P g'→Q):Q:=ToT.casesOn h k
theorem Rel.toT(R:Rel C ly g σ s){u:V}{v:Value}{x:T}(h:RelV C g u v)(e:toT σ u=some (x,σ')):ToT C ly g σ' s fun g'=>RelT C g' x v:=by
 cases u with
 | t y=>exact s2 (P:=fun x σ'=>ToT C ly g σ' s fun g'=>RelT C g' x v) e ⟨g,.refl g,R,h⟩
 | ref i=>
  refine I7 h fun a h1 hR2=>b1 e fun o q e=>b1 e fun x ex e => ?_
  subst hR2
  refine s2 e ?_
  refine F1 (R.own i _ q (by rintro rfl;exact nn ex)) fun a' ob h2 h3 h4 h5 => ?_
  cases h1.symm.trans h2
  obtain⟨le,R'⟩:=R.freeze q h1 h3 h4
  refine⟨_,le,R',?_⟩
  have h5:=G8 le _ _ h5
  cases o with
  | gone=>exact nn ex
  | lst xs=>
   obtain⟨items,n,rfl,r⟩:=h5
   exact s1 ex ⟨a,items,n,rfl,G.put_fz,r⟩
  | ds ks xs=>
   obtain⟨kvs,d,k,r⟩:=h5
   exact s1 ex ⟨a,ob,kvs,rfl,if_pos rfl,d,k,r⟩
  | di ks xs=>
   obtain⟨kvs,d,k,r⟩:=h5
   exact s1 ex ⟨a,ob,kvs,rfl,if_pos rfl,d,k,r⟩
 | obj c n v=>exact nn e
noncomputable def toTs(σ:St)(vs:List V):Option (List T×St):=List.rec (motive:=fun _=>St→Option (List T×St)) (fun σ=>some ([],σ)) (fun v _ go σ=>(Mine.toT σ v).bind fun p=>(go p.2).bind fun q=>some (p.1::q.1,q.2)) vs σ
theorem Rel.toTs:∀ {g:G} {σ:St} {vs:List Value} {xs:List T} {σ':St},Rel C ly g σ s→RelVs C g us vs→toTs σ us=some (xs,σ')→ToT C ly g σ' s fun g'=>RelTs C g' xs vs:=by
 induction us with
 | nil=>
  intro g σ vs xs σ' R h e
  exact s2 (P:=fun xs σ'=>ToT C ly g σ' s fun g'=>RelTs C g' xs vs) e ⟨g,.refl g,R,h⟩
 | cons u us ih=>
  intro g σ _ xs σ' R ⟨v,vs,e',h1,h2⟩ e
  refine b2 e fun x σ1 e1 e=>b2 e fun ys σ2 e2 e => ?_
  obtain⟨g1,l1,R1,T1⟩:=R.toT h1 e1
  obtain⟨g2,l2,R2,T2⟩:=ih R1 (m8 l1 _ _ h2) e2
  exact s2 (P:=fun xs σ'=>ToT C ly g σ' s fun g'=>RelTs C g' xs _) e ⟨g2,l1.trans l2,R2,v,vs,e',A0H l2 _ _ T1,T2⟩
end
end
section
theorem A1o{x:Obj}:∀ o,Role.frz x≠.kept o:=fun _ h=>by cases h
theorem x7:∀ o,Role.frame≠.kept o:=fun _ h=>by cases h
theorem A1B:∀ o,Role.cell≠.kept o:=fun _ h=>by cases h
theorem A3c{i:Nat}:∀ o,Role.own i≠.kept o:=fun _ h=>by cases h
theorem A2r{r:Role}(h:∀ o,r≠.kept o):r≠.kept ob:=h ob
theorem A3b:∀ o,Role.tab≠.kept o:=fun _ h=>by cases h
section
variable{s:Shared}
noncomputable def G.cover(g:G)(f:Addr→Option Obj):G:=⟨g.own,fun a=>match f a with | some o=>some (.kept o) | none=>g.role a,g.tk⟩
noncomputable def G.uncover(g g1:G)(f:Addr→Option Obj):G:=⟨g1.own,fun a=>match f a with | some _=>g.role a | none=>g1.role a,g1.tk⟩
theorem A2D{f:Addr→Option Obj}{a:Addr}(h:f a=some o):(g.cover f).role a=some (.kept o):=by simp only[G.cover,h]
theorem Z6{f:Addr→Option Obj}{a:Addr}(h:f a=none):(g.cover f).role a=g.role a:=by simp only[G.cover,h]
theorem r9{f:Addr→Option Obj}{a:Addr}(h:f a=some o):(g.uncover g1 f).role a=g.role a:=by simp only[G.uncover,h]
theorem P4{f:Addr→Option Obj}{a:Addr}(h:f a=none):(g.uncover g1 f).role a=g1.role a:=by simp only[G.uncover,h]
theorem Rel.cover(R:Rel C ly g σ s){f:Addr→Option Obj}(hf:∀ a o,f a=some o→s.heap.get? a=some o∧C.hb.get? a=none∧g.role a=none):g.lev (g.cover f)∧Rel C ly (g.cover f) σ s:=by
 have up:∀ a r,g.role a=some r→(g.cover f).role a=some r:=fun a r e=>by
  cases q:f a with
  | none=>rw[Z6 q,e]
  | some o=>rw[(hf a o q).2.2] at e;(first | refine s2 e ?_ | refine s1 e ?_ | cases e)
 have le:g.lev (g.cover f):=⟨⟨[],by simp [G.cover]⟩,fun a o e=>up a _ e,Nat.le_refl _⟩
 have dn:∀ a r,(g.cover f).role a=some r→g.role a=some r∨∃ o,f a=some o∧r=.kept o:=fun a r e=>by
  cases q:f a with
  | none=>rw[Z6 q] at e;exact .inl e
  | some o=>rw[A2D q] at e;(first | refine s2 e ?_ | refine s1 e ?_ | cases e);exact .inr ⟨o,rfl,rfl⟩
 refine⟨le,R.old,fun a r e => ?_,fun a o e => ?_,fun a o e => ?_,R.len,fun j l v hl hv => ?_,R.nodup,R.olen,fun j o2 hj hne => ?_,fun P pos q h => ?_,R.os,R.gens,R.tk⟩
 ·rcases dn a r e with e | ⟨o,e,_⟩
  ·exact R.new a r e
  ·exact⟨(hf a o e).2.1,o,(hf a o e).1⟩
 ·rcases dn a _ e with e | ⟨o',_,e⟩
  ·exact R.frz a o e
  ·(first | refine s2 e ?_ | refine s1 e ?_ | cases e)
 ·rcases dn a _ e with e | ⟨o',e,q⟩
  ·exact R.kept a o e
  ·cases q;exact(hf a o e).1
 ·have:=R.slot j l v hl hv
  cases l with
  | fr L x=>exact⟨up _ _ this.1,this.2.elim fun m hm=>⟨m,hm.1,D4 le _ _ hm.2⟩⟩
  | cl c=>exact⟨up _ _ this.1,this.2.elim fun m hm=>⟨m,hm.1,D4 le _ _ hm.2⟩⟩
 ·refine F1 (R.own j o2 hj hne) fun b x h1 h2 h3 h4 => ?_
  exact⟨b,x,h1,up _ _ h2,h3,K3 le _ _ h4⟩
 ·refine N4 (R.tab P pos q h) fun h1 ps h2 h3 => ?_
  exact⟨up _ _ h1,ps,h2,J1 le h3⟩
theorem Rel.uncover(R:Rel C ly g1 σ s){f:Addr→Option Obj}(hf:∀ a o,f a=some o→g.role a=none)(le:(g.cover f).le g1):
  g.le (g.uncover g1 f)∧g1.lev (g.uncover g1 f)∧Rel C ly (g.uncover g1 f) σ s∧(∀ a o,f a=some o→s.heap.get? a=some o)∧(∀ a o,f a=some o→(g.uncover g1 f).role a=none):=by
 have k1:∀ a o,f a=some o→g1.role a=some (.kept o):=fun a o e=>le.kept a o (A2D e)
 have nk:∀ a r,(∀ o,r≠.kept o)→g1.role a=some r→f a=none:=fun a r hr e=>by
  cases q:f a with
  | none=>rfl
  | some o=>rw[k1 a o q] at e;cases e;exact absurd rfl (hr o)
 have up:∀ a r,(∀ o,r≠.kept o)→g1.role a=some r→(g.uncover g1 f).role a=some r:=fun a r hr e=>by rw[P4 (nk a r hr e),e]
 have dn:∀ a r,(g.uncover g1 f).role a=some r→g1.role a=some r:=fun a r e=>by
  cases q:f a with
  | none=>rw[P4 q] at e;exact e
  | some o=>rw[r9 q,hf a o q] at e;(first | refine s2 e ?_ | refine s1 e ?_ | cases e)
 have lv:g1.lev (g.uncover g1 f):=⟨⟨[],by simp [G.uncover]⟩,fun a o e=>up a _ A1o e,Nat.le_refl _⟩
 have lg:g.le (g.uncover g1 f):=by
  refine⟨le.own,fun a o e => ?_,fun a o e => ?_,le.tk⟩
  ·cases q:f a with
   | none=>rw[P4 q];exact le.frz a o ((Z6 q).trans e)
   | some o'=>rw[hf a o' q] at e;(first | refine s2 e ?_ | refine s1 e ?_ | cases e)
  ·cases q:f a with
   | none=>rw[P4 q];exact le.kept a o ((Z6 q).trans e)
   | some o'=>rw[hf a o' q] at e;(first | refine s2 e ?_ | refine s1 e ?_ | cases e)
 refine⟨lg,lv,⟨R.old,fun a r e=>R.new a r (dn a r e),fun a o e=>R.frz a o (dn a _ e),fun a o e=>R.kept a o (dn a _ e),R.len,fun j l v hl hv => ?_,R.nodup,R.olen,fun j o2 hj hne => ?_,fun P pos q h => ?_,R.os,R.gens,R.tk⟩,(fun a o e=>R.kept a o (k1 a o e):∀ a o,f a=some o→s.heap.get? a=some o),fun a o e=>by rw[r9 e,hf a o e]⟩
 ·have:=R.slot j l v hl hv
  cases l with
  | fr L x=>exact⟨up _ _ x7 this.1,this.2.elim fun m hm=>⟨m,hm.1,D4 lv _ _ hm.2⟩⟩
  | cl c=>exact⟨up _ _ A1B this.1,this.2.elim fun m hm=>⟨m,hm.1,D4 lv _ _ hm.2⟩⟩
 ·refine F1 (R.own j o2 hj hne) fun b x h1 h2 h3 h4 => ?_
  exact⟨b,x,h1,up _ _ A3c h2,h3,K3 lv _ _ h4⟩
 ·refine N4 (R.tab P pos q h) fun h1 ps h2 h3 => ?_
  exact⟨up _ _ A3b h1,ps,h2,J1 lv h3⟩
theorem Rel.but(R:Rel C ly g σ s)(hk:∀ b o,b∉wr→s.heap.get? b=some o→h'.get? b=some o)(hw:∀ b∈wr,C.hb.get? b=none∧g.role b=none)(ht:s.toks≤tk:=by first | exact Nat.le_refl _ | exact Nat.le_succ _ | exact Nat.le_add_right _ _ | assumption | omega):Rel C ly g σ { s with heap:=h',toks:=tk }:=by
 have up:∀ a r o,g.role a=some r→s.heap.get? a=some o→h'.get? a=some o:=fun a r o e ho=>hk a o (fun hm=>by rw[(hw a hm).2] at e;cases e) ho
 refine⟨fun a o e=>hk a o (fun hm=>by rw[(hw a hm).1] at e;cases e) (R.old a o e),fun a r e => ?_,fun a o e=>up a _ _ e (R.frz a o e),fun a o e=>up a _ _ e (R.kept a o e),R.len,fun j l v hl hv => ?_,R.nodup,R.olen,fun j o2 hj hne => ?_,fun P pos q h => ?_,R.os,R.gens,R.tk.1,Nat.le_trans R.tk.2 ht⟩
 ·refine xAE (R.new a r e) fun q o ho => ?_
  exact⟨q,o,up a r o e ho⟩
 ·have:=R.slot j l v hl hv
  cases l with
  | fr L x=>exact⟨this.1,this.2.elim fun m hm=>⟨m,hm.1.at' (fun o e=>up _ _ o this.1 e),hm.2⟩⟩
  | cl c=>exact⟨this.1,this.2.elim fun m hm=>⟨m,let ⟨⟨o,h1,h2⟩,_⟩:=hm;⟨o,up _ _ o this.1 h1,h2⟩,hm.2⟩⟩
 ·refine F1 (R.own j o2 hj hne) fun b x h1 h2 h3 h4 => ?_
  exact⟨b,x,h1,h2,up _ _ _ h2 h3,h4⟩
 ·refine N4 (R.tab P pos q h) fun h1 ps h2 h3 => ?_
  exact⟨h1,ps,up _ _ _ h1 h2,h3⟩
theorem Rel.name(R:Rel C ly g σ s){a:Addr}(ha:C.hb.get? a=none)(hr:g.role a=none)(ho:s.heap.get? a=some o):g.le (g.put a (.frz o))∧Rel C ly (g.put a (.frz o)) σ s:=by
 have ne:∀ b r,g.role b=some r→b≠a:=fun b r e q=>by subst q;rw[hr] at e;(first | refine s2 e ?_ | refine s1 e ?_ | cases e)
 have up:∀ b r,g.role b=some r→(g.put a (.frz o)).role b=some r:=fun b r e=>by simp only[G.put,if_neg (ne b r e),e]
 have dn:∀ b r,(g.put a (.frz o)).role b=some r→(b=a∧r=.frz o)∨g.role b=some r:=fun b r e=>by
  by_cases q:b=a
  ·simp only[G.put,if_pos q] at e;(first | refine s2 e ?_ | refine s1 e ?_ | cases e);exact .inl ⟨q,rfl⟩
  ·simp only[G.put,if_neg q] at e;exact .inr e
 have le:g.le (g.put a (.frz o)):=⟨⟨[],by simp [G.put]⟩,fun b x e=>up b _ e,fun b x e=>up b _ e,Nat.le_refl _⟩
 refine⟨le,R.old,fun b r e => ?_,fun b x e => ?_,fun b x e => ?_,R.len,fun j l v hl hv => ?_,R.nodup,R.olen,fun j o2 hj hne => ?_,fun P pos q h => ?_,R.os,R.gens,R.tk⟩
 ·rcases dn b r e with ⟨rfl,rfl⟩ | e
  ·exact⟨ha,o,ho⟩
  ·exact R.new b r e
 ·rcases dn b _ e with ⟨rfl,q⟩ | e
  ·cases q;exact ho
  ·exact R.frz b x e
 ·rcases dn b _ e with ⟨rfl,q⟩ | e
  ·cases q
  ·exact R.kept b x e
 ·have:=R.slot j l v hl hv
  cases l with
  | fr L x=>exact⟨up _ _ this.1,this.2.elim fun m hm=>⟨m,hm.1,D1 le _ _ hm.2⟩⟩
  | cl c=>exact⟨up _ _ this.1,this.2.elim fun m hm=>⟨m,hm.1,D1 le _ _ hm.2⟩⟩
 ·refine F1 (R.own j o2 hj hne) fun b x h1 h2 h3 h4 => ?_
  exact⟨b,x,h1,up _ _ h2,h3,G8 le _ _ h4⟩
 ·refine N4 (R.tab P pos q h) fun h1 ps h2 h3 => ?_
  exact⟨up _ _ h1,ps,h2,J4 le h3⟩
theorem Rel.lock(R:Rel C ly g σ s){i:Nat}{o:AO}{a:Addr}(hi:σ.objs[i]?=some o)(ha:g.own[i]?=some a)(hr:g.role a=some (.own i))(ho:s.heap.get? a=some ob):
  g.lev (g.put a (.kept ob))∧Rel C ly (g.put a (.kept ob)) ⟨σ.loc,σ.objs.set i .gone⟩ s:=by
 have ro:∀ b r,r≠.own i→g.role b=some r→(g.put a (.kept ob)).role b=some r:=fun b r hne e=>by
  have:b≠a:=by rintro rfl;rw[hr] at e;cases e;exact hne rfl
  simp only[G.put,if_neg this,e]
 have or:∀ b r,(g.put a (.kept ob)).role b=some r→(b=a∧r=.kept ob)∨g.role b=some r:=fun b r e=>by
  by_cases q:b=a
  ·simp only[G.put,if_pos q] at e;(first | refine s2 e ?_ | refine s1 e ?_ | cases e);exact .inl ⟨q,rfl⟩
  ·simp only[G.put,if_neg q] at e;exact .inr e
 have le:g.lev (g.put a (.kept ob)):=⟨⟨[],by simp [G.put]⟩,fun b x e=>ro b _ (by nofun) e,Nat.le_refl _⟩
 refine⟨le,R.old,fun b r e => ?_,fun b x e => ?_,fun b x e => ?_,R.len,fun j l v hl hv => ?_,R.nodup,?_,fun j o2 hj hne => ?_,fun P pos q h => ?_,R.os,R.gens,R.tk⟩
 ·rcases or b r e with ⟨rfl,rfl⟩ | e
  ·exact R.new _ _ hr
  ·exact R.new _ _ e
 ·rcases or b _ e with ⟨rfl,q⟩ | e
  ·cases q
  ·exact R.frz b x e
 ·rcases or b _ e with ⟨rfl,q⟩ | e
  ·cases q;exact ho
  ·exact R.kept b x e
 ·have:=R.slot j l v hl hv
  cases l with
  | fr L x=>exact⟨ro _ _ (by nofun) this.1,this.2.elim fun m hm=>⟨m,hm.1,D4 le _ _ hm.2⟩⟩
  | cl c=>exact⟨ro _ _ (by nofun) this.1,this.2.elim fun m hm=>⟨m,hm.1,D4 le _ _ hm.2⟩⟩
 ·rw[List.length_set];exact R.olen
 ·by_cases q:j=i
  ·subst q
   have:=M8 (y:=AO.gone) hi
   simp only at hj
   rw[this] at hj
   cases hj
   exact absurd rfl hne
  ·simp only[List.getElem?_set_ne (Ne.symm q)] at hj
   refine F1 (R.own j o2 hj hne) fun b x h1 h2 h3 h4 => ?_
   exact⟨b,x,h1,ro _ _ (by rintro e;(first | refine s2 e ?_ | refine s1 e ?_ | cases e);exact q rfl) h2,h3,K3 le _ _ h4⟩
 ·refine N4 (R.tab P pos q h) fun h1 ps h2 h3 => ?_
  exact⟨ro _ _ (by nofun) h1,ps,h2,J1 le h3⟩
theorem Rel.unlock(R:Rel C ly g1 σ s){i:Nat}{o:AO}{a:Addr}(hi:σ.objs[i]?=some .gone)(ha:g.own[i]?=some a)(hr:g.role a=some (.own i))(ro:p8 C g o ob)(le:(g.put a (.kept ob)).le g1):
  g.le (g1.put a (.own i))∧g1.lev (g1.put a (.own i))∧Rel C ly (g1.put a (.own i)) ⟨σ.loc,σ.objs.set i o⟩ s:=by
 have k1:g1.role a=some (.kept ob):=le.kept a ob (by simp [G.put])
 have ro':∀ b r,r≠.kept ob→g1.role b=some r→(g1.put a (.own i)).role b=some r:=fun b r hne e=>by
  have:b≠a:=by rintro rfl;rw[k1] at e;cases e;exact hne rfl
  simp only[G.put,if_neg this,e]
 have or:∀ b r,(g1.put a (.own i)).role b=some r→(b=a∧r=.own i)∨g1.role b=some r:=fun b r e=>by
  by_cases q:b=a
  ·simp only[G.put,if_pos q] at e;(first | refine s2 e ?_ | refine s1 e ?_ | cases e);exact .inl ⟨q,rfl⟩
  ·simp only[G.put,if_neg q] at e;exact .inr e
 have lv:g1.lev (g1.put a (.own i)):=⟨⟨[],by simp [G.put]⟩,fun b x e=>ro' b _ (A2r A1o) e,Nat.le_refl _⟩
 have lg:g.le (g1.put a (.own i)):=by
  refine⟨le.own,fun b x e => ?_,fun b x e => ?_,le.tk⟩
  ·have:b≠a:=by rintro rfl;rw[hr] at e;cases e
   exact ro' b _ (A2r A1o) (le.frz b x (by simp only[G.put,if_neg this,e]))
  ·have:b≠a:=by rintro rfl;rw[hr] at e;cases e
   show (if b=a then _ else g1.role b)=_
   rw[if_neg this]
   exact le.kept b x (by simp only[G.put,if_neg this,e])
 refine⟨lg,lv,R.old,fun b r e => ?_,fun b x e => ?_,fun b x e => ?_,R.len,fun j l v hl hv => ?_,R.nodup,?_,fun j o2 hj hne => ?_,fun P pos q h => ?_,R.os,R.gens,R.tk⟩
 ·rcases or b r e with ⟨rfl,rfl⟩ | e
  ·exact R.new _ _ k1
  ·exact R.new _ _ e
 ·rcases or b _ e with ⟨rfl,q⟩ | e
  ·cases q
  ·exact R.frz b x e
 ·rcases or b _ e with ⟨rfl,q⟩ | e
  ·cases q
  ·exact R.kept b x e
 ·have:=R.slot j l v hl hv
  cases l with
  | fr L x=>exact⟨ro' _ _ (A2r x7) this.1,this.2.elim fun m hm=>⟨m,hm.1,D4 lv _ _ hm.2⟩⟩
  | cl c=>exact⟨ro' _ _ (A2r A1B) this.1,this.2.elim fun m hm=>⟨m,hm.1,D4 lv _ _ hm.2⟩⟩
 ·rw[List.length_set];exact R.olen
 ·by_cases q:j=i
  ·subst q
   have:=M8 (y:=o) hi
   simp only at hj
   rw[this] at hj
   cases hj
   exact⟨a,ob,lg.v.at ha,by simp [G.put],R.kept a ob k1,G8 lg _ _ ro⟩
  ·simp only[List.getElem?_set_ne (Ne.symm q)] at hj
   refine F1 (R.own j o2 hj hne) fun b x h1 h2 h3 h4 => ?_
   exact⟨b,x,h1,ro' _ _ (A2r A3c) h2,h3,K3 lv _ _ h4⟩
 ·refine N4 (R.tab P pos q h) fun h1 ps h2 h3 => ?_
  exact⟨ro' _ _ (A2r A3b) h1,ps,h2,J1 lv h3⟩
end
end
section
section
variable{K:Type}[DecidableEq K]
noncomputable def lk(ks:List K)(xs:List T)(k:K):Option T:=List.rec (motive:=fun _=>List T→Option T) (fun _=>none) (fun k' _ go xs=>List.casesOn (motive:=fun _=>Option T) xs none fun x xs=>if k'=k then some x else go xs) ks xs
theorem A3j{k' k:K}{ks:List K}{x:T}{xs:List T}:lk (k'::ks) (x::xs) k=if k'=k then some x else lk ks xs k:=rfl
noncomputable def stK(ks:List K)(k:K):List K:=if k∈ks then ks else ks++[k]
noncomputable def rep(ks:List K)(xs:List T)(k:K)(y:T):List T:=List.zipWith (fun k' x=>if k'=k then y else x) ks xs
noncomputable def stX(ks:List K)(xs:List T)(k:K)(y:T):List T:=if k∈ks then rep ks xs k y else xs++[y]
theorem B1p{k:K}{v:Value}(hv:RelT C g y v)(kvs:List (K×Value)):∀ (xs:List T),RelTs C g xs (kvs.map (·.2))→
  RelTs C g (rep (kvs.map (·.1)) xs k y) ((kvs.map (fun kv=>if kv.1=k then (kv.1,v) else kv)).map (·.2)):=by
 induction kvs with
 | nil=>
  intro xs r
  cases xs with
  | nil=>exact rfl
  | cons x xs=>obtain⟨_,_,e,_⟩:=r;cases e
 | cons p kvs ih=>
  intro xs r
  cases xs with
  | nil=>cases (show _=_ from r)
  | cons x xs=>
   obtain⟨u',us,e,h1,h2⟩:=r
   cases e
   by_cases q:p.1=k
   ·exact⟨v,_,by rw[List.map_cons,List.map_cons,if_pos q],by show RelT C g (if p.1=k then y else x) _;rw[if_pos q];exact hv,ih xs h2⟩
   ·exact⟨p.2,_,by rw[List.map_cons,List.map_cons,if_neg q],by show RelT C g (if p.1=k then y else x) _;rw[if_neg q];exact h1,ih xs h2⟩
theorem i0(kvs:List (K×Value))(k:K)(v:Value):(stored kvs k v).map (·.1)=stK (kvs.map (·.1)) k:=by
 unfold stored stK
 by_cases h:k∈kvs.map (·.1)
 ·rw[if_pos h,if_pos]
  ·rw[List.map_map]
   apply List.map_congr_left
   intro p _
   simp only[Function.comp]
   split <;> rfl
  ·refine I7 (List.mem_map.mp h) fun p hp e => ?_
   rw[List.any_eq_true]
   exact⟨p,hp,by simpa using e⟩
 ·rw[if_neg h,if_neg]
  ·simp
  ·intro q
   refine I7 (List.any_eq_true.mp q) fun p hp e => ?_
   exact h (List.mem_map.mpr ⟨p,hp,by simpa using e⟩)
theorem m7{kvs:List (K×Value)}{xs:List T}{k:K}{v:Value}(r:RelTs C g xs (kvs.map (·.2)))(hv:RelT C g y v):
  RelTs C g (stX (kvs.map (·.1)) xs k y) ((stored kvs k v).map (·.2)):=by
 unfold stX stored
 by_cases h:k∈kvs.map (·.1)
 ·rw[if_pos h,if_pos]
  ·exact B1p hv kvs xs r
  ·refine I7 (List.mem_map.mp h) fun p hp e => ?_
   rw[List.any_eq_true]
   exact⟨p,hp,by simpa using e⟩
 ·rw[if_neg h,if_neg]
  ·rw[List.map_append];exact r.append (.one hv)
  ·intro q
   refine I7 (List.any_eq_true.mp q) fun p hp e => ?_
   exact h (List.mem_map.mpr ⟨p,hp,by simpa using e⟩)
theorem A3E{p:K×Value}{kvs:List (K×Value)}{k:K}:valueAt (p::kvs) k=if p.1=k then some p.2 else valueAt kvs k:=by
 unfold valueAt
 by_cases q:p.1=k
 ·rw[if_pos q,List.find?_cons_of_pos (by simpa using q)];rfl
 ·rw[if_neg q,List.find?_cons_of_neg (by simpa using q)]
theorem B3O{k:K}(kvs:List (K×Value)):∀ (xs:List T),RelTs C g xs (kvs.map (·.2))→(∀ x,lk (kvs.map (·.1)) xs k=some x→∃ v,valueAt kvs k=some v∧RelT C g x v)∧(lk (kvs.map (·.1)) xs k=none→valueAt kvs k=none):=by
 induction kvs with
 | nil=>exact fun xs r=>⟨fun x e=>nn e,fun _=>rfl⟩
 | cons p kvs ih=>
  intro xs r
  cases xs with
  | nil=>cases (show _=_ from r)
  | cons x xs=>
   obtain⟨u',us,e',h1,h2⟩:=r
   cases e'
   rw[List.map_cons,A3j,A3E]
   by_cases q:p.1=k
   ·rw[if_pos q,if_pos q]
    exact⟨fun x e=>s1 e ⟨_,rfl,h1⟩,fun e=>by cases e⟩
   ·rw[if_neg q,if_neg q]
    exact ih xs h2
theorem n5{k:K}{x:T}(kvs:List (K×Value))(xs:List T)(r:RelTs C g xs (kvs.map (·.2)))(e:lk (kvs.map (·.1)) xs k=some x):∃ v,valueAt kvs k=some v∧RelT C g x v:=(B3O kvs xs r).1 x e
theorem A3i{k:K}(kvs:List (K×Value))(xs:List T)(r:RelTs C g xs (kvs.map (·.2)))(e:lk (kvs.map (·.1)) xs k=none):valueAt kvs k=none:=(B3O kvs xs r).2 e
end
section
variable{s:Shared}
theorem Rel.adopt(R:Rel C ly g σ s){o:AO}{a:Addr}(ha:C.hb.get? a=none)(hr:g.role a=none)(ho:s.heap.get? a=some ob)(r:p8 C g o ob):g.le (g.add a)∧Rel C ly (g.add a) ⟨σ.loc,σ.objs++[o]⟩ s:=by
 have le:=G.add_le hr
 have ro:∀ b r,g.role b=some r→(g.add a).role b=some r:=fun b r e=>by
  have:b≠a:=by rintro rfl;rw[hr] at e;(first | refine s2 e ?_ | refine s1 e ?_ | cases e)
  simp only[G.add,if_neg this,e]
 have or:∀ b r,(g.add a).role b=some r→(b=a∧r=.own g.own.length)∨g.role b=some r:=fun b r e=>by
  by_cases q:b=a
  ·simp only[G.add,if_pos q] at e;(first | refine s2 e ?_ | refine s1 e ?_ | cases e);exact .inl ⟨q,rfl⟩
  ·simp only[G.add,if_neg q] at e;exact .inr e
 refine⟨le,R.old,fun b r e => ?_,fun b x e => ?_,fun b x e => ?_,R.len,fun j l v hl hv => ?_,R.nodup,?_,fun j o2 hj hne => ?_,fun P pos q h => ?_,R.os,R.gens,R.tk⟩
 ·rcases or b r e with ⟨rfl,rfl⟩ | e
  ·exact⟨ha,ob,ho⟩
  ·exact R.new b r e
 ·rcases or b _ e with ⟨_,q⟩ | e
  ·cases q
  ·exact R.frz b x e
 ·rcases or b _ e with ⟨_,q⟩ | e
  ·cases q
  ·exact R.kept b x e
 ·have:=R.slot j l v hl hv
  cases l with
  | fr L x=>exact⟨ro _ _ this.1,this.2.elim fun m hm=>⟨m,hm.1,D1 le _ _ hm.2⟩⟩
  | cl c=>exact⟨ro _ _ this.1,this.2.elim fun m hm=>⟨m,hm.1,D1 le _ _ hm.2⟩⟩
 ·show (σ.objs++[o]).length=(g.own++[a]).length
  rw[List.length_append,List.length_append,R.olen];rfl
 ·by_cases q:j<σ.objs.length
  ·have hj:(σ.objs++[o])[j]?=some o2:=hj
   rw[List.getElem?_append_left q] at hj
   refine F1 (R.own j o2 hj hne) fun b x h1 h2 h3 h4 => ?_
   exact⟨b,x,le.v.at h1,ro _ _ h2,h3,G8 le _ _ h4⟩
  ·have hj:(σ.objs++[o])[j]?=some o2:=hj
   rw[List.getElem?_append_right (by lia)] at hj
   have e0:j - σ.objs.length=0:=by
    have:=(List.getElem?_eq_some_iff.mp hj).1
    simpa using this
   rw[e0] at hj
   cases hj
   have ej:j=g.own.length:=by rw[← R.olen];lia
   subst ej
   refine⟨a,ob,by simp [G.add],by simp [G.add],ho,G8 le _ _ r⟩
 ·refine N4 (R.tab P pos q h) fun h1 ps h2 h3 => ?_
  exact⟨ro _ _ h1,ps,h2,J4 le h3⟩
end
section
variable{e1:Expr}{a:D}
noncomputable abbrev SL(C:Cx)(k:Nat)(env:Env)(ly:List Loc)(elts:List Expr)(d:DL):Prop:=∀ pos,Sl C k ly (backTo pos (starEach elts env)) d
theorem B1:SL C k env ly [] dNil:=fun pos=>B3w
theorem A3{r:List Expr}{d:DL}(h:SE C k env ly e a)(hr:SL C k env ly r d)(hs:starEach (e::r) env=(false,eval e env)::starEach r env:=by rfl):SL C k env ly (e::r) (A2 a d):=fun pos=>by
 rw[hs]
 exact B1g h (hr pos)
theorem RelVs.length{vs:List Value}(r:RelVs C g us vs):vs.length=us.length:=All2.length r
noncomputable def E5(l:DL):D:=fun σ=>(l σ).bind fun p=>if p.1.length<1000 then (toTs p.2 p.1).bind fun q=>some (.t (.tup q.1),q.2) else none
noncomputable def L2(l:DL):D:=fun σ=>(l σ).bind fun p=>if p.1.length<1000 then (toTs p.2 p.1).bind fun q=>some (.t (.lst q.1),q.2) else none
noncomputable def A58(l:DL):D:=fun σ=>(l σ).bind fun p=>if p.1.length<1000 then (toTs p.2 p.1).bind fun q=>some (.ref q.2.objs.length,⟨q.2.loc,q.2.objs++[.lst q.1]⟩) else none
theorem B3:h.get? h.objs.size=none:=Heap.get?_none_of_le (Nat.le_refl _)
theorem C6{n:Nat}{l:DL}(h:SL C k env ly elts l):SE C k env ly (.Tuple elts n pos) (E5 l):=fun A hA g σ s v σ' R e=>by
 refine b2 e fun us σ1 e1 e => ?_
 refine iN e fun hl e => ?_
 ·refine b2 e fun xs σ2 e2 e => ?_
  (first | refine s2 e ?_ | refine s1 e ?_ | cases e)
  refine wpAny_Tuple ((h pos).use hA R e1 fun g1 x s1 l1 R1 V1=>⟨by rw[← V1.length] at hl;exact D3 hl,?_⟩)
  refine ToT.elim (R1.toTs V1 e2) fun g2 l2 R2 T2 => ?_
  have w:=Grow.frz_ (t:=s1.toks) R2 (h':=s1.heap.push (seqObj "tuple" x.toArray 0)) (fun _ _ e=>Heap.get?_push_of_some _ e) B3 (Heap.get?_push_size _ rfl)
  exact⟨_,(l1.trans l2).trans w.le,R2.grow w,.tup G.put_fz (F5 w.le _ _ T2)⟩
theorem J5{l:DL}(h:SL C k env ly elts l):SE C k env ly (.List elts pos) (L2 l):=fun A hA g σ s v σ' R e=>by
 refine b2 e fun us σ1 e1 e => ?_
 refine iN e fun hl e => ?_
 ·refine b2 e fun xs σ2 e2 e => ?_
  (first | refine s2 e ?_ | refine s1 e ?_ | cases e)
  refine wpAny_List ((h pos).use hA R e1 fun g1 x s1 l1 R1 V1=>⟨by rw[← V1.length] at hl;exact D3 hl,?_⟩)
  refine ToT.elim (R1.toTs V1 e2) fun g2 l2 R2 T2 => ?_
  have w:=Grow.frz_ (t:=s1.toks) R2 (h':=s1.heap.push (seqObj "list" x.toArray 0)) (fun _ _ e=>Heap.get?_push_of_some _ e) B3 (Heap.get?_push_size _ rfl)
  exact⟨_,(l1.trans l2).trans w.le,R2.grow w,.lst G.put_fz (F5 w.le _ _ T2)⟩
theorem u6{s:Shared}(R:Rel C ly g σ s){a:Addr}:RelV C (g.add a) (.ref σ.objs.length) (.ref a):=⟨a,by simp [G.add,R.olen],rfl⟩
theorem Q4{l:DL}(h:SL C k env ly elts l):SE C k env ly (.List elts pos) (A58 l):=fun A hA g σ s v σ' R e=>by
 refine b2 e fun us σ1 e1 e => ?_
 refine iN e fun hl e => ?_
 ·refine b2 e fun xs σ2 e2 e => ?_
  (first | refine s2 e ?_ | refine s1 e ?_ | cases e)
  refine wpAny_List ((h pos).use hA R e1 fun g1 x s1 l1 R1 V1=>⟨by rw[← V1.length] at hl;exact D3 hl,?_⟩)
  refine ToT.elim (R1.toTs V1 e2) fun g2 l2 R2 T2 => ?_
  have R3:=R2.push (tk:=s1.toks) (o:=.lst xs) (ob:=seqObj "list" x.toArray 0) rfl ⟨_,_,rfl,T2⟩
  exact⟨_,(l1.trans l2).trans (G.add_le (R2.none_above (Nat.le_refl _))),R3,u6 R2⟩
noncomputable def dNewDs:D:=fun σ=>some (.ref σ.objs.length,⟨σ.loc,σ.objs++[.ds [] []]⟩)
theorem V9:SE C k env ly (.Dict [] [] pos) dNewDs:=fun A hA g σ s v σ' R e=>by
 (first | refine s2 e ?_ | refine s1 e ?_ | cases e)
 refine wpAny_Dict_empty ?_
 have R3:=R.push (tk:=s.toks) (o:=.ds [] []) (ob:={ cls:=.type "dict", data:=.dict #[] }) rfl ⟨[],⟨#[],0,⟨rfl,rfl,rfl⟩,rfl,fun _ he=>by simp at he,.nil,List.nodup_nil⟩,rfl,rfl⟩
 exact⟨_,G.add_le (R.none_above (Nat.le_refl _)),R3,u6 R⟩
end
end
section
section
variable{e1:Expr}{a:D}
noncomputable def A5F:V→Option Str:=vOf G9
noncomputable def A5H:V→Option Int:=vOf F4
theorem A2I{u:V}{v:Value}{x:Str}(h:RelV C g u v)(e:A5F u=some x):∃ t,v=.str x t:=h.of (U1 F3 e)
theorem A2J{u:V}{v:Value}{x:Int}(h:RelV C g u v)(e:A5H u=some x):∃ t,v=.int x t:=h.of (U1 D9 e)
noncomputable def B0x(a b:D):D:=fun σ=>(a σ).bind fun p=>(A5F p.1).bind fun key=>(b p.2).bind fun q=>(toT q.2 q.1).bind fun r=>some (.ref r.2.objs.length,⟨r.2.loc,r.2.objs++[.ds [key] [r.1]]⟩)
noncomputable def B57(a b:D):D:=fun σ=>(a σ).bind fun p=>(A5H p.1).bind fun key=>(b p.2).bind fun q=>(toT q.2 q.1).bind fun r=>some (.ref r.2.objs.length,⟨r.2.loc,r.2.objs++[.di [key] [r.1]]⟩)
theorem emptyDict{K:Type}[DecidableEq K](knd:KeyKind C.prog C.w K):Obj.IsDictOf knd { cls:=.type "dict", data:=.dict #[] } []:=⟨#[],0,⟨rfl,rfl,rfl⟩,rfl,fun _ he=>by simp at he,.nil,List.nodup_nil⟩
theorem B3W{K:Type}[DecidableEq K]{knd:KeyKind C.prog C.w K}{asK:V→Option K}{mk:List K→List T→AO}(hA:Room k A){s:Shared}{v:V}(R:Rel C ly g σ s)(ok:∀ (g:G) (u:V) (v:Value) (x:K),RelV C g u v→asK u=some x→knd.is x v=true)(mkok:∀ (g:G) (ks:List K) (xs:List T) (o:Obj) (kvs:List (K×Value)),o.IsDictOf knd kvs→kvs.map (·.1)=ks→RelTs C g xs (kvs.map (·.2))→p8 C g (mk ks xs) o)(ha:SE C k env ly e1 a)(hb:SE C k env ly e2 b)(e:((a σ).bind fun p=>(asK p.1).bind fun key=>(b p.2).bind fun q=>(toT q.2 q.1).bind fun r=>some (.ref r.2.objs.length,⟨r.2.loc,r.2.objs++[mk [key] [r.1]]⟩))=some (v,σ')):
  wpAny (Md C) A (eval (.Dict [some e1] [e2] pos) env) (Ev C ly g σ' v) X4 s:=by
 refine b2 e fun p σ1 ea e => ?_
 refine b1 e fun key ek e => ?_
 refine b2 e fun q σ2 eb e => ?_
 refine b2 e fun x σ3 ex e => ?_
 (first | refine s2 e ?_ | refine s1 e ?_ | cases e)
 refine wpAny_Dict_walk (knd:=knd) rfl rfl (by simp) (by simp) ?_
 have hb0:C.hb.get? s.heap.objs.size=none:=D6 R.old B3
 have hf:∀ b o,(fun b=>if b=s.heap.objs.size then some { cls:=.type "dict", data:=.dict #[] } else none:Addr→Option Obj) b=some o→(s.heap.push { cls:=.type "dict", data:=.dict #[] }).get? b=some o∧C.hb.get? b=none∧g.role b=none:=by
  intro b o h
  by_cases q:b=s.heap.objs.size
  ·simp only[q,if_true] at h
   cases h
   subst q
   exact⟨Heap.get?_push_size _ rfl,hb0,(R.none_above (Nat.le_refl _):g.role s.heap.objs.size=none)⟩
  ·simp only[if_neg q] at h;cases h
 obtain⟨lv,Rc⟩:=(R.grow (Grow.push_ (g:=g) (s:=s) (o:={ cls:=.type "dict", data:=.dict #[] }) (t:=s.toks))).cover hf
 refine pairTrees_cons_walk (ha.use hA Rc ea fun g1 kv s1 l1 R1 V1=>hb.use hA R1 eb fun g2 vv s2 l2 R2 V2=>pairTrees_nil_walk ?_)
 refine ToT.elim (R2.toT V2 ex) fun g3 l3 R3 T3 => ?_
 refine A2c (R3.uncover (fun b o h=>(hf b o h).2.2) ((l1.trans l2).trans l3)) fun lg lv3 R4 hk hn => ?_
 have hD:s2.heap.get? s.heap.objs.size=some { cls:=.type "dict", data:=.dict #[] }:=hk _ _ (by simp)
 refine⟨[(key,vv)],⟨ok _ _ _ _ V1 ek,rfl,trivial⟩,Heap.dictOf_iff.mpr ⟨_,hD,emptyDict knd⟩,fun h' hd hs => ?_⟩
 refine I7 (Heap.dictOf_iff.mp hd) fun ob ho hd => ?_
 have hn':=hn s.heap.objs.size _ (by simp;rfl)
 have R5:=R4.but (wr:=[s.heap.objs.size]) (h':=h') (tk:=s2.toks+[(kv,vv)].length) (fun b o hb ho=>(hs.2 b (by simpa using hb)).trans ho) (fun b hb=>by simp at hb;subst hb;exact⟨hb0,hn'⟩)
 obtain⟨l6,R6⟩:=R5.adopt (o:=mk [key] [x]) hb0 hn' ho (mkok _ _ _ _ _ hd (by simp [merged,stored]) (by simp only[merged,stored,List.foldl_cons,List.foldl_nil,List.any_nil,List.nil_append];exact .one (H3 lv3 _ _ T3)))
 exact⟨_,lg.trans l6,R6,u6 R5⟩
theorem B32(ha:SE C k env ly e1 a)(hb:SE C k env ly e2 b):SE C k env ly (.Dict [some e1] [e2] pos) (B0x a b):=fun A hA g σ s v σ' R e=>
 B3W (knd:=PySem.strKind C.prog C.w) (asK:=A5F) (mk:=.ds) hA R (fun g u v x h q=>by obtain⟨t,rfl⟩:=A2I h q;simp [PySem.strKind,Value.isStrOf]) (fun g ks xs o kvs h1 h2 h3=>⟨kvs,h1,h2,h3⟩) ha hb e
theorem B33(ha:SE C k env ly e1 a)(hb:SE C k env ly e2 b):SE C k env ly (.Dict [some e1] [e2] pos) (B57 a b):=fun A hA g σ s v σ' R e=>
 B3W (knd:=PySem.intKind C.prog C.w) (asK:=A5H) (mk:=.di) hA R (fun g u v x h q=>by obtain⟨t,rfl⟩:=A2J h q;simp [PySem.intKind,Value.isInt]) (fun g ks xs o kvs h1 h2 h3=>⟨kvs,h1,h2,h3⟩) ha hb e
end
inductive Fl where
 | next
 | brk
 | cont
 | ret (v:V)
noncomputable def A3D(C:Cx)(g:G):Fl→Flow→Prop
 | .next,f=>f=.next
 | .brk,f=>f=.brk
 | .cont,f=>f=.cont
 | .ret v,f=>∃ y,f=.ret y∧RelV C g v y
theorem A0l(h:g.lev g'):∀ {x:Fl} {f:Flow},A3D C g x f→A3D C g' x f
 | .next,_,r=>r
 | .brk,_,r=>r
 | .cont,_,r=>r
 | .ret _,_,⟨y,e,r⟩=>⟨y,e,J6 h _ _ r⟩
noncomputable abbrev DS:=St→Option (Fl×St)
inductive Es(C:Cx)(ly:List Loc)(g:G)(σ':St)(f:Fl)(x:Flow)(s':Shared):Prop
 | mk (g':G) (l:g.le g') (R:Rel C ly g' σ' s') (V:A3D C g' f x)
noncomputable def Sf(C:Cx)(k:Nat)(ly:List Loc)(t:Sem Flow)(d:DS):Prop:=
 ∀ A,Room k A→∀ g σ s f σ',Rel C ly g σ s→d σ=some (f,σ')→wpAny (Md C) A t (Es C ly g σ' f) X4 s
noncomputable abbrev SS(C:Cx)(k:Nat)(env:Env)(ly:List Loc)(b:List Stmt)(d:DS):Prop:=Sf C k ly (execs b env) d
noncomputable abbrev S1(C:Cx)(k:Nat)(env:Env)(ly:List Loc)(b:Stmt)(d:DS):Prop:=Sf C k ly (exec b env) d
theorem Sf.use{t:Sem Flow}{d:DS}(h:Sf C k ly t d)(hA:Room k A){s:Shared}{f:Fl}(R:Rel C ly g σ s)(e:d σ=some (f,σ')){Q:Flow→Shared→Prop}(q:∀ g' x s',g.le g'→Rel C ly g' σ' s'→A3D C g' f x→Q x s'):wpAny (Md C) A t Q E s:=
 wpAny_mono (h A hA g σ s f σ' R e) (fun x s' ⟨g',a,b,c⟩=>q g' x s' a b c) (fun _ _ x=>x.elim)
section
variable{e1:Expr}{a:D}{p:DB}{d d':DS}{st:Stmt}{rest:List Stmt}
noncomputable def dNoS:DS:=fun _=>none
theorem A0j{b:List Stmt}:SS C k env ly b dNoS:=fun A hA g σ s v σ' R e=>by (first | refine s2 e ?_ | refine s1 e ?_ | cases e)
noncomputable def dSkip:DS:=fun σ=>some (.next,σ)
noncomputable def A9(a b:DS):DS:=fun σ=>(a σ).bind fun p=>Fl.casesOn (motive:=fun _=>Option (Fl×St)) p.1 (b p.2) (some (.brk,p.2)) (some (.cont,p.2)) fun v=>some (.ret v,p.2)
theorem H0:SS C k env ly [] dSkip:=fun A hA g σ s v σ' R e=>by
 (first | refine s2 e ?_ | refine s1 e ?_ | cases e)
 exact wpAny_execs_nil ⟨g,.refl g,R,rfl⟩
theorem A5(h:S1 C k env ly st d)(h':SS C k env ly rest d'):SS C k env ly (st::rest) (A9 d d'):=fun A hA g σ s v σ' R e=>by
 refine b2 e fun f σ1 e1 e => ?_
 refine wpAny_execs_cons (h.use hA R e1 fun g1 x s1 l1 R1 V1 => ?_)
 cases f with
 | next=>
  obtain rfl:_=_:=V1
  exact h'.use hA R1 e fun g2 x s2 l2 R2 V2=>⟨g2,l1.trans l2,R2,V2⟩
 | brk=>obtain rfl:_=_:=V1;(first | refine s2 e ?_ | refine s1 e ?_ | cases e);exact⟨g1,l1,R1,rfl⟩
 | cont=>obtain rfl:_=_:=V1;(first | refine s2 e ?_ | refine s1 e ?_ | cases e);exact⟨g1,l1,R1,rfl⟩
 | ret v=>obtain⟨y,rfl,V⟩:=V1;(first | refine s2 e ?_ | refine s1 e ?_ | cases e);exact⟨g1,l1,R1,y,rfl,V⟩
theorem B5(h:S1 C k env ly st d):SS C k env ly [st] d:=fun A hA g σ s v σ' R e=>by
 refine wpAny_execs_cons (h.use hA R e fun g1 x s1 l1 R1 V1 => ?_)
 cases v with
 | next=>obtain rfl:_=_:=V1;exact wpAny_execs_nil ⟨g1,l1,R1,rfl⟩
 | brk=>obtain rfl:_=_:=V1;exact⟨g1,l1,R1,rfl⟩
 | cont=>obtain rfl:_=_:=V1;exact⟨g1,l1,R1,rfl⟩
 | ret v=>obtain⟨y,rfl,V⟩:=V1;exact⟨g1,l1,R1,y,rfl,V⟩
noncomputable def St1(C:Cx)(ly:List Loc)(t:Value→Sem Unit)(i:Nat):Prop:=
 ∀ (A:Around) (E:Value→Shared→Prop) (Q:Unit→Shared→Prop) (g:G) (σ:St) (s:Shared) (v:V) (y:Value),Rel C ly g σ s→RelV C g v y→(∀ s',Rel C ly g ⟨σ.loc.set i (some v),σ.objs⟩ s'→Q () s')→wpAny (Md C) A (t y) Q E s
theorem C0{x:Str}{i:Nat}(hb:Bnd env ly x i):St1 C ly (assign (.Name x pos) env) i:=fun A E Q g σ s v y R V h=>assign_Name (U8 (k:=0) hb R V h)
theorem X9{x:Str}{i:Nat}(hb:Bnd env ly x i):St1 C ly (bindName env x) i:=fun A E Q g σ s v y R V h=>bindName_ (U8 (k:=0) hb R V h)
inductive Sts(C:Cx)(ly:List Loc):List (Value→Sem Unit)→List Nat→Prop
 | nil:Sts C ly [] []
 | cons {t:Value→Sem Unit} {i:Nat} {ts:List (Value→Sem Unit)} {is:List Nat}:St1 C ly t i→Sts C ly ts is→Sts C ly (t::ts) (i::is)
noncomputable def t9(l:List (Option V))(is:List Nat)(vs:List V):List (Option V):=(is.zip vs).foldl (fun l p=>l.set p.1 (some p.2)) l
theorem A09{Q:Unit→Shared→Prop}:∀ {ts:List (Value→Sem Unit)} {is:List Nat},Sts C ly ts is→∀ {σ:St} {s:Shared} {us:List V} {ys:List Value},us.length=is.length→Rel C ly g σ s→RelVs C g us ys→
  (∀ s',Rel C ly g ⟨t9 σ.loc is us,σ.objs⟩ s'→Q () s')→wpAny (Md C) A (assignInOrder ts ys) Q E s:=by
 intro ts is h
 induction h with
 | nil=>intro σ s us ys hl R V q;cases us with
  | nil=>exact assignInOrder_nil (q _ R)
  | cons _ _=>cases hl
 | cons h1 hr ih=>intro σ s us ys hl R V q;cases us with
  | nil=>cases hl
  | cons u us=>
   obtain⟨y,ys,rfl,V1,V2⟩:=V
   exact assignInOrder_cons (h1 _ _ _ _ _ _ _ _ R V1 fun s1 R1=>ih (σ:=⟨_,σ.objs⟩) (by simpa using hl) R1 V2 q)
noncomputable def B9(i:Nat)(a:D):DS:=fun σ=>(a σ).bind fun p=>some (.next,⟨p.2.loc.set i (some p.1),p.2.objs⟩)
theorem B7{x:Str}{i:Nat}(hb:Bnd env ly x i)(h:SE C k env ly e a)(hs:swapsWith e (some (.Name x pos')) pos.line env=pure false):S1 C k env ly (.Assign [.Name x pos'] e pos) (B9 i a):=fun A hA g σ s f σ' R e'=>by
 refine b2 e' fun p σ1 e1 e' => ?_
 (first | refine s2 e' ?_ | refine s1 e' ?_ | cases e')
 exact wpAny_Assign_Name (h.use hA R e1 fun g1 y s1 l1 R1 V1=>U8 (k:=0) hb R1 V1 fun s2 R2=>⟨g1,l1,R2,rfl⟩) hs
theorem A6i{xs:List T}:∀ {vs:List Value},RelTs C g xs vs→RelVs C g (xs.map .t) vs:=by
 induction xs with
 | nil=>exact id
 | cons x xs ih=>exact fun ⟨v,vs,e,h1,h2⟩=>⟨v,vs,e,h1,ih h2⟩
noncomputable def A7T:V→Option (List T):=vOf A02
noncomputable def A2A(is:List Nat)(a:D):DS:=fun σ=>(a σ).bind fun p=>(A7T p.1).bind fun xs=>if xs.length=is.length then some (.next,⟨t9 p.2.loc is (xs.map .t),p.2.objs⟩) else none
theorem A1W{n:Nat}(ht:(assignEach elts env).map (·.2)=ts)(hst:Sts C ly ts is)(h:SE C k env ly e a)(h1:(assignEach elts env).length=is.length)(h2:(assignEach elts env).findIdx? (·.1)=none)(hs:swapsWithSole [.Tuple elts n pos'] e pos.line env=pure false)(hw:swappedStores [.Tuple elts n pos'] e env=pure none):S1 C k env ly (.Assign [.Tuple elts n pos'] e pos) (A2A is a):=fun A hA g σ s f σ' R e'=>by
 refine b2 e' fun p σ1 e1 e' => ?_
 refine b1 e' fun xs e2 e' => ?_
 refine iN e' fun hl e' => ?_
 refine s2 e' ?_
 refine Assign_Tuple (h.use hA R e1 fun g1 y s1 l1 R1 V1 => ?_) hs hw
 obtain⟨t,items,m,rfl,hz,V⟩:=V1.of (U1 K7 e2)
 have hL:=V.length
 rw[Array.length_toList] at hL
 refine wpAny_assign_Tuple hA.handled ⟨_,R1.fz hz,rfl,m,rfl⟩ (by rw[h1,hL,hl]) h2 fun h' he => ?_
 rw[ht]
 have R2:=R1.grow (Grow.heap_ (g:=g1) (h':=h') (t:=s1.toks) fun b o q=>he b o (by rintro rfl;rw[B3] at q;exact nn q) q)
 exact A09 hst (by rw[List.length_map];exact hl) R2 (A6i V) fun s3 R3=>⟨g1,l1,R3,rfl⟩
noncomputable def B0u(is:List Nat)(l:DL):DS:=fun σ=>(l σ).bind fun p=>if p.1.length=is.length∧p.1.length<1000 then some (.next,⟨t9 p.2.loc is p.1,p.2.objs⟩) else none
noncomputable def Z3(is:List Nat)(l:DL):DS:=fun σ=>(l σ).bind fun p=>if p.1.length=is.length∧p.1.length<1000 then some (.next,⟨t9 p.2.loc is p.1.reverse,p.2.objs⟩) else none
theorem B1j{es:List Expr}{n:Nat}{pos'':Pos}{l:DL}(ht:(assignEach elts env).map (·.2)=ts)(hst:Sts C ly ts is)(h:SL C k env ly es l)(h1:(assignEach elts env).length=is.length)(h2:(assignEach elts env).findIdx? (·.1)=none)(hs:swapsWithSole [.Tuple elts n pos'] (.Tuple es m pos'') pos.line env=pure false)(hw:swappedStores [.Tuple elts n pos'] (.Tuple es m pos'') env=pure none):S1 C k env ly (.Assign [.Tuple elts n pos'] (.Tuple es m pos'') pos) (B0u is l):=fun A hA g σ s f σ' R e'=>by
 refine b2 e' fun us σ1 e1 e' => ?_
 refine iN e' fun hl e' => ?_
 ·(first | refine s2 e' ?_ | refine s1 e' ?_ | cases e')
  refine Assign_Tuple (wpAny_Tuple ((h _).use hA R e1 fun g1 x s1 l1 R1 V1=>⟨by have:=hl.2;rw[← V1.length] at this;exact D3 this,?_⟩)) hs hw
  refine wpAny_assign_Tuple (items:=x.toArray) hA.handled ⟨_,Heap.get?_push_size _ rfl,rfl,0,rfl⟩ (by rw[h1,List.size_toArray,V1.length,hl.1]) h2 fun h' he => ?_
  rw[ht]
  have R3:=(R1.grow (Grow.push_ (g:=g1) (s:=s1) (o:=seqObj "tuple" x.toArray 0) (t:=s1.toks))).grow (Grow.heap_ (g:=g1) (h':=h') (t:=s1.toks) fun b o q=>he b o (by rintro rfl;rw[B3] at q;cases q) q)
  exact A09 hst hl.1 R3 V1 fun s3 R4=>⟨g1,l1,R4,rfl⟩
theorem A1X{es:List Expr}{n:Nat}{pos'':Pos}{l:DL}(hst:Sts C ly (ns.reverse.map fun n=>bindName env n) is)(h:SL C k env ly es l)(h1:ns.length=is.length)(hs:swapsWithSole [.Tuple elts n pos'] (.Tuple es m pos'') pos.line env=pure false)(hw:swappedStores [.Tuple elts n pos'] (.Tuple es m pos'') env=pure (some ns)):S1 C k env ly (.Assign [.Tuple elts n pos'] (.Tuple es m pos'') pos) (Z3 is l):=fun A hA g σ s f σ' R e'=>by
 refine b2 e' fun us σ1 e1 e' => ?_
 refine iN e' fun hl e' => ?_
 ·refine s2 e' ?_
  refine Assign_Tuple_swapped (wpAny_Tuple ((h _).use hA R e1 fun g1 x s1 l1 R1 V1=>⟨by have:=hl.2;rw[← V1.length] at this;exact D3 this,?_⟩)) hs hw
  rw[← (by rw[List.size_toArray,V1.length,hl.1,h1]:x.toArray.size=ns.length)]
  refine wpAny_unpackItems_tuple hA.handled ⟨_,Heap.get?_push_size _ rfl,rfl,0,rfl⟩ fun h' he => ?_
  have R3:=(R1.grow (Grow.push_ (g:=g1) (s:=s1) (o:=seqObj "tuple" x.toArray 0) (t:=s1.toks))).grow (Grow.heap_ (g:=g1) (h':=h') (t:=s1.toks) fun b o q=>he b o (by rintro rfl;rw[B3] at q;cases q) q)
  exact A09 hst (by rw[List.length_reverse];exact hl.1) R3 (All2.reverse V1) fun s3 R4=>⟨g1,l1,R4,rfl⟩
noncomputable def H5(p:DB)(a b:DS):DS:=fun σ=>(p σ).bind fun q=>if q.1 then a q.2 else b q.2
theorem J2(h:ST C k env ly e p)(h1:SS C k env ly body d)(h2:SS C k env ly orelse d'):S1 C k env ly (.If e body orelse pos) (H5 p d d'):=fun A hA g σ s f σ' R e'=>by
 refine b2 e' fun u σ1 e1 e' => ?_
 refine wpAny_If (h.use hA R e1 fun g1 s1 l1 R1 => ?_)
 cases u with
 | true=>exact h1.use hA R1 e' fun g2 x s2 l2 R2 V2=>⟨g2,l1.trans l2,R2,V2⟩
 | false=>exact h2.use hA R1 e' fun g2 x s2 l2 R2 V2=>⟨g2,l1.trans l2,R2,V2⟩
noncomputable def G5(a:D):DS:=fun σ=>(a σ).bind fun p=>some (.ret p.1,p.2)
theorem E7(h:SE C k env ly e a):S1 C k env ly (.Return (some e) pos) (G5 a):=fun A hA g σ s f σ' R e'=>by
 refine b2 e' fun u σ1 e1 e' => ?_
 (first | refine s2 e' ?_ | refine s1 e' ?_ | cases e')
 exact wpAny_Return_some (h.use hA R e1 fun g1 x s1 l1 R1 V1=>⟨g1,l1,R1,x,rfl,V1⟩)
theorem B1k:S1 C k env ly (.Return none pos) (G5 (dT .none)):=fun A hA g σ s f σ' R e'=>by
 (first | refine s2 e' ?_ | refine s1 e' ?_ | cases e')
 exact wpAny_Return_none ⟨g,.refl g,R,.none,rfl,rfl⟩
noncomputable def B36(x:T):Bool:=T.casesOn (motive_1:=fun _=>Bool) x true (fun _=>true) (fun _=>true) (fun _=>true) (fun _=>false) (fun _=>false) (fun _=>false) (fun _=>false) (fun _ _=>false) (fun _ _=>false) (fun _ _=>false) (fun _ _=>false)
noncomputable def A5i(v:V):Bool:=V.casesOn (motive:=fun _=>Bool) v B36 (fun _=>false) (fun _ _ _=>false)
theorem A9P{u:V}{x:Value}(V:RelV C g u x)(h:A5i u=true):∀ a,x≠.ref a:=by
 cases u with
 | t y=>
  cases y with
  | none=>obtain rfl:x=.none:=V;exact nofun
  | bool b=>obtain rfl:x=.bool b:=V;exact nofun
  | int _=>obtain⟨t,rfl⟩:=V;exact nofun
  | str _=>obtain⟨t,rfl⟩:=V;exact nofun
  | _=>exact nb h
 | _=>exact nb h
noncomputable def Z5(a:D):DS:=fun σ=>(a σ).bind fun p=>if A5i p.1 then some (.next,p.2) else none
theorem Y4(h:SE C k env ly e a)(hi:interactive env=false)(hs:swapsWith e none pos.line env=pure false):S1 C k env ly (.Expr e pos) (Z5 a):=fun A hA g σ s f σ' R e'=>by
 refine b2 e' fun u σ1 e1 e' => ?_
 refine iN e' fun hp e' => ?_
 refine s2 e' ?_
 refine wpAny_Expr (h.use hA R e1 fun g1 x s1 l1 R1 V1 => ?_) hi hs
 have hn:=A9P V1 hp
 cases x
 case ref a=>exact absurd rfl (hn a)
 all_goals exact⟨g1,l1,R1,rfl⟩
noncomputable def y9(i:Nat)(f:T→T→Option T)(a:D):DS:=fun σ=>(d2 f (A0 i) a σ).bind fun p=>some (.next,⟨p.2.loc.set i (some p.1),p.2.objs⟩)
theorem A1Y{x:Str}{i:Nat}{f:T→T→Option T}(B:Base C)(hb:Bnd env ly x i)(h:SE C k env ly e a)(hf:Pure2 C k (inplaceOp op) f):S1 C k env ly (.AugAssign (.Name x pos') op e pos) (y9 i f a):=fun A hA g σ s fl σ' R e'=>by
 refine b2 e' fun u σ1 e1 e' => ?_
 (first | refine s2 e' ?_ | refine s1 e' ?_ | cases e')
 exact wpAny_AugAssign_Name (A2C B (A4X hb) h hf hA R e1 fun r s1 ⟨g1,l1,R1,V1⟩=>U8 (k:=0) hb R1 V1 fun s2 R2=>⟨g1,l1,R2,rfl⟩)
noncomputable def turn(f:Fl)(σ:St)(go:Option (Fl×St)):Option (Fl×St):=Fl.casesOn (motive:=fun _=>Option (Fl×St)) f go (some (.next,σ)) go fun v=>some (.ret v,σ)
noncomputable def dWh(p:DB)(d:DS):Nat→DS:=Nat.rec (fun _=>none) fun _ go σ=>(p σ).bind fun q=>if q.1 then (d q.2).bind fun r=>turn r.1 r.2 (go r.2) else some (.next,q.2)
theorem A9G{n:Nat}(h:ST C k env ly e p)(hd:SS C k env ly body d):S1 C k env ly (.While e body [] pos) (dWh p d n):=fun A hA g σ s f σ' R e'=>by
 refine wpAny_While (codeAny_whileLoop (fun m s'=>∃ g1 σ1,g.le g1∧Rel C ly g1 σ1 s'∧dWh p d m σ1=some (f,σ')) ?_ n ⟨g,σ,.refl g,R,e'⟩)
 rintro m s1 ⟨g1,σ1,l1,R1,e1⟩
 cases m with
 | zero=>exact nn e1
 | succ m=>
  refine b2 e1 fun u σ2 e2 e1 => ?_
  refine h.use hA R1 e2 fun g2 s2 l2 R2 => ?_
  cases u with
  | false=>exact Mine.s2 e1 (wpAny_execs_nil ⟨g2,l1.trans l2,R2,rfl⟩)
  | true=>
   refine b2 e1 fun fl σ3 e3 e1 => ?_
   refine hd.use hA R2 e3 fun g3 x s3 l3 R3 V3 => ?_
   cases fl with
   | next=>obtain rfl:_=_:=V3;exact⟨m,Nat.lt_succ_self m,g3,σ3,(l1.trans l2).trans l3,R3,e1⟩
   | cont=>obtain rfl:_=_:=V3;exact⟨m,Nat.lt_succ_self m,g3,σ3,(l1.trans l2).trans l3,R3,e1⟩
   | brk=>obtain rfl:_=_:=V3;refine Mine.s2 e1 ?_;exact⟨g3,(l1.trans l2).trans l3,R3,rfl⟩
   | ret v=>obtain⟨y,rfl,V⟩:=V3;refine Mine.s2 e1 ?_;exact⟨g3,(l1.trans l2).trans l3,R3,y,rfl,V⟩
end
end
variable{dd : DS}{fl : Fl}
section
noncomputable def G.hz(C:Cx)(g:G)(a:Addr)(o:Obj):Prop:=C.hb.get? a=some o∨g.role a=some (.frz o)∨g.role a=some (.kept o)
theorem G.fz.hz{a:Addr}:g.fz C a o→g.hz C a o
 | .inl h=>.inl h
 | .inr h=>.inr (.inl h)
theorem G.le.hz(h:g.le g'){a:Addr}:g.hz C a o→g'.hz C a o
 | .inl e=>.inl e
 | .inr (.inl e)=>.inr (.inl (h.frz a o e))
 | .inr (.inr e)=>.inr (.inr (h.kept a o e))
theorem Rel.hz{s:Shared}(R:Rel C ly g σ s){a:Addr}:g.hz C a o→s.heap.get? a=some o
 | .inl e=>R.old a o e
 | .inr (.inl e)=>R.frz a o e
 | .inr (.inr e)=>R.kept a o e
inductive DkR{κ:Type}(O:Addr→Obj→Prop)(D:Obj→List (κ×Value)→Prop)(ks:List κ)(P:List Value→Prop)(v:Value):Prop
 | mk (a:Addr) (o:Obj) (kvs:List (κ×Value)) (e:v=.ref a) (n:(a==sysModules)=false) (z:O a o) (d:D o kvs) (k:kvs.map (·.1)=ks) (r:P (kvs.map (·.2)))
noncomputable def A6K(C:Cx)(g:G)(x:T)(v:Value):Prop:=T.casesOn (motive_1:=fun _=>Prop) x (RelT C g x v) (fun _=>RelT C g x v) (fun _=>RelT C g x v) (fun _=>RelT C g x v) (fun _=>RelT C g x v) (fun _=>RelT C g x v)
 (fun xs=>SqR (g.hz C) "tuple" (RelTs C g xs) v) (fun xs=>SqR (g.hz C) "list" (RelTs C g xs) v)
 (fun ks xs=>DkR (g.hz C) (fun o kvs=>o.IsDictOf (PySem.strKind C.prog C.w) kvs) ks (RelTs C g xs) v) (fun ks xs=>DkR (g.hz C) (fun o kvs=>o.IsDictOf (PySem.intKind C.prog C.w) kvs) ks (RelTs C g xs) v) (fun _ _=>RelT C g x v) (fun _ _=>RelT C g x v)
theorem Rel.relK(B:Base C){s:Shared}(R:Rel C ly g σ s){x:T}{v:Value}(r:RelT C g x v):A6K C g (A1m x) v:=by
 cases x with
 | ch _=>obtain⟨t,e,_⟩:=r;exact⟨t,e⟩
 | tup _=>obtain⟨a,items,n,e,z,r⟩:=r;exact⟨a,items,n,e,z.hz,r⟩
 | lst _=>obtain⟨a,items,n,e,z,r⟩:=r;exact⟨a,items,n,e,z.hz,r⟩
 | ds _ _=>obtain⟨a,o,kvs,e,z,d,k,r⟩:=r;exact⟨a,o,kvs,e,Q8 B (R.new _ _ z).1,.inr (.inl z),d,k,r⟩
 | di _ _=>obtain⟨a,o,kvs,e,z,d,k,r⟩:=r;exact⟨a,o,kvs,e,Q8 B (R.new _ _ z).1,.inr (.inl z),d,k,r⟩
 | _=>exact r
noncomputable def B6L(C:Cx)(g:G)(h:Heap)(x:T)(v:Value):Prop:=∃ xs a items,x=.tup xs∧v=.ref a∧h.IsTuple a items∧RelTs C g xs items.toList
noncomputable def B3A(C:Cx)(g:G)(h:Heap)(st:Bool)(x:T)(v:Value):Prop:=RelT C g x v∨(st=false∧B6L C g h x v)
theorem G.lev.trans{g'':G}(h:g.lev g')(h':g'.lev g''):g.lev g'':=by
 obtain⟨⟨t,e⟩,f,n⟩:=h
 obtain⟨⟨t',e'⟩,f',n'⟩:=h'
 exact⟨⟨t++t',by rw[e',e,List.append_assoc]⟩,fun a o x=>f' a o (f a o x),Nat.le_trans n n'⟩
noncomputable def G.at(g:G)(n:Nat):G:=⟨g.own,g.role,n⟩
theorem Rel.at{s:Shared}(R:Rel C ly g σ s){n:Nat}(h1:g.tk≤n)(h2:n≤s.toks):g.le (g.at n)∧Rel C ly (g.at n) σ s:=by
 have w:Grow g s (g.at n) s:=⟨fun _ _ e=>e,rfl,id,rfl,fun _ _ e=>e,fun _ _ e=>.inl e,h1,fun _=>h2⟩
 exact⟨w.le,R.grow w⟩
inductive A0f(C:Cx)(A:Around)(target:Expr)(g:G)(s:Shared)(st:Bool)(xs:List T)(it:Value)(s':Shared):Prop
 | mk (I:Addr) (fp wr:List Addr) (n:Nat) (P Md:Nat→Value→Heap→Prop) (Tk:Nat→Value→Nat→Prop) (St:Nat→Heap→Prop)
  (e1:it=.ref I) (e2:n=xs.length) (W:KTurns C.prog C.w A target I fp wr n P Md St) (h0:St 0 s'.heap) (hG:Grow g s g s') (hw:∀ b∈wr,s.heap.get? b=none) (hf:∀ b∈fp,s.heap.get? b=none∨∃ o,g.hz C b o) (he:∀ i h,St i h→∀ b∈fp,∃ o,h.get? b=some o) (hs:st=true→∀ (i:Nat) (s:Shared) (Q E:Value→Shared→Prop),St i s.heap→Q (.ref I) s→wpAny (model C.prog C.w) A (pyIter (.ref I)) Q E s)
  (hn:∀ i (s:Shared) (Q:Option Value→Shared→Prop) (E:Value→Shared→Prop),i<n→St i s.heap→(∀ v h' tk,Md i v h'→Tk s.toks v tk→(∀ b o,b∉wr→s.heap.get? b=some o→h'.get? b=some o)→Q (some v) { s with heap:=h',toks:=tk })→wpAny (model C.prog C.w) A (pyNext (.ref I)) Q E s)
  (hi:∀ i v h x t0 t1,xs[i]?=some x→P i v h→Tk t0 v t1→C.lo≤t0→∀ g',g.lev g'→t1≤g'.tk→B3A C g' h st x v)
section
variable{e1:Expr}{a:D}{p:DB}{d d':DS}
noncomputable def Tg(C:Cx)(ly:List Loc)(env:Env)(target:Expr)(st:Bool)(d:T→St→Option St):Prop:=∀ (A:Around),A.handled=none→∀ (E:Value→Shared→Prop) (Q:Unit→Shared→Prop) (g:G) (σ:St) (s:Shared) (x:T) (v:Value) (σ':St),
 Rel C ly g σ s→B3A C g s.heap st x v→d x σ=some σ'→(∀ s',Rel C ly g σ' s'→Q () s')→wpAny (Md C) A (assign target env v) Q E s
noncomputable def tN(i:Nat):T→St→Option St:=fun x σ=>some ⟨σ.loc.set i (some (.t x)),σ.objs⟩
theorem A08{x:Str}{i:Nat}(hb:Bnd env ly x i):Tg C ly env (.Name x pos) true (tN i):=fun A hA E Q g σ s x v σ' R I e q=>by
 cases e
 rcases I with I | I
 ·exact assign_Name (U8 (k:=0) hb R (v:=.t x) I q)
 ·cases I.1
noncomputable def tT(is:List Nat)(x:T)(σ:St):Option St:=(A02 x).bind fun xs=>if xs.length=is.length then some ⟨t9 σ.loc is (xs.map .t),σ.objs⟩ else none
theorem B3q{n:Nat}(ht:(assignEach elts env).map (·.2)=ts)(hst:Sts C ly ts is)(h1:(assignEach elts env).length=is.length)(h2:(assignEach elts env).findIdx? (·.1)=none):Tg C ly env (.Tuple elts n pos) false (tT is):=fun A hA E Q g σ s x v σ' R I e q=>by
 refine b1 e fun xs ex e => ?_
 have I:B6L C g s.heap (.tup xs) v:=by
  rw[← K7 ex]
  rcases I with I | I
  ·rw[K7 ex] at I ⊢
   obtain⟨a,items,m,rfl,z,r⟩:=I
   exact⟨_,a,items,rfl,rfl,⟨_,R.fz z,rfl,m,rfl⟩,r⟩
  ·exact I.2
 obtain⟨_,a,items,h,rfl,hz,V⟩:=I
 cases h
 refine iN e fun hl e => ?_
 cases e
 have hL:=V.length
 rw[Array.length_toList] at hL
 refine wpAny_assign_Tuple hA hz (by rw[h1,hL,hl]) h2 fun h' he => ?_
 rw[ht]
 have R2:=R.grow (Grow.heap_ (g:=g) (h':=h') (t:=s.toks) fun b o q=>he b o (by rintro rfl;rw[B3] at q;exact nn q) q)
 exact A09 hst (by rw[List.length_map];exact hl) R2 (A6i V) q
noncomputable def M9(t:T→St→Option St)(b:DS)(xs:List T):DS:=List.rec (motive:=fun _=>DS) (fun σ=>some (.next,σ)) (fun x _ go σ=>(t x σ).bind fun σ1=>(b σ1).bind fun r=>turn r.1 r.2 (go r.2)) xs
inductive B1J(C:Cx)(ly:List Loc)(g0:G)(s0:Shared)(xs:List T)(fp:List Addr)(St:Nat→Heap→Prop)(go:List T→DS)(f:Fl)(σ':Mine.St)(m:Nat)(s:Shared):Prop
 | mk (i:Nat) (g:G) (σ:Mine.St) (e:m+i=xs.length+1) (hi:i≤xs.length) (l:g0.le g) (R:Rel C ly g σ s) (st:St i s.heap) (hro:∀ b∈fp,s0.heap.get? b=none→g.role b=none) (ei:go (xs.drop i) σ=some (f,σ'))
theorem Rel.none_role{s:Shared}(R:Rel C ly g σ s){b:Addr}(h:s.heap.get? b=none):g.role b=none:=by
 cases q:g.role b with
 | none=>rfl
 | some r=>obtain⟨_,o,ho⟩:=R.new b r q;exact nn (h.symm.trans ho)
theorem A4W(hA:Room k A){st:Bool}{t:T→St→Option St}(ht:Tg C ly env target st t)(hb:SS C k env ly body d){xs:List T}{σ0:St}{s0 s1:Shared}(R0:Rel C ly g0 σ0 s0){it:Value}(hI:A0f C A target g0 s0 st xs it s1){f:Fl}(e:M9 t d xs σ0=some (f,σ')){R:Result→Shared→Prop}(hR:∀ fl s',Es C ly g0 σ' f fl s'→R (.ok fl) s'):codeAny (Md C) A (.forLoop target it body [] env) R s1:=by
 obtain⟨I,fp,wr,n,P,Mid,Tk,St,rfl,rfl,W,hst,hG,hwr,hfp,hex,_,hitm,hit⟩:=hI
 refine codeAny_forLoop_any (B1J C ly g0 s0 xs fp St (M9 t d) f σ') ?_ (xs.length+1) ⟨0,g0,σ0,rfl,Nat.zero_le _,.refl _,R0.grow hG,hst,fun b _ h=>R0.none_role h,e⟩
 rintro m s ⟨i,g,σ,hm,hi,l0,R1,hsti,hro,ei⟩
 rcases Nat.eq_or_lt_of_le hi with rfl | hlt
 ·rw[List.drop_length] at ei
  cases ei
  exact wpAny_with_toks (Nat.le_refl s.toks) (W.done s _ _ hsti fun h' tk hk htk=>wpAny_execs_nil (hR _ _ ⟨g,l0,R1.but (wr:=wr) hk fun b hb=>⟨D6 R0.old (hwr b hb),hro b (W.sub b hb) (hwr b hb)⟩,rfl⟩))
 ·rw[List.drop_eq_getElem_cons hlt] at ei
  refine b1 ei fun σ1 e1 ei => ?_
  refine b2 ei fun fl σ2 e2 ei => ?_
  refine wpAny_with_toks (Nat.le_refl s.toks) (hitm i s _ _ hlt hsti fun v h1 tk hMd hTk hk1 htk => ?_)
  refine W.go i v _ _ _ hMd fun h2 hP hst2 hk2 => ?_
  refine xAA (show _∧_∧True from ⟨(R1.but (h':=h2) (tk:=tk) (wr:=wr) (fun b o hb ho=>hk2 b o hb (hk1 b o hb ho)) fun b hb=>⟨D6 R0.old (hwr b hb),hro b (W.sub b hb) (hwr b hb)⟩).at (n:=tk) (Nat.le_trans R1.tk.2 htk) (Nat.le_refl _),trivial,trivial⟩) fun lR _ _ => ?_
  obtain⟨lr,R2⟩:=lR
  have l0r:=l0.trans lr
  have hf:∀ b o,(fun b=>if b∈fp∧(s0.heap.get? b).isNone then h2.get? b else none:Addr→Option Obj) b=some o→h2.get? b=some o∧C.hb.get? b=none∧(g.at tk).role b=none:=fun b o h=>iN h fun q h=>by
   have hn:=Option.isNone_iff_eq_none.mp q.2
   exact⟨h,D6 R0.old hn,hro b q.1 hn⟩
  obtain⟨lv,Rc⟩:=R2.cover hf
  refine ht A hA.handled _ _ _ _ _ _ _ _ Rc (hit i v h2 _ _ _ (List.getElem?_eq_getElem hlt) hP hTk (Nat.le_trans R1.tk.1 R1.tk.2) _ (l0r.v.trans lv) lv.tk) e1 fun s3 R3 => ?_
  refine hb.use hA R3 e2 fun g4 x s4 l4 R4 V4 => ?_
  refine A2c (R4.uncover (g:=g.at tk) (fun b o h=>(hf b o h).2.2) l4) fun lg lv4 R5 hk hn => ?_
  have lh:=l0r.trans lg
  have fin:∀ e3:M9 t d (xs.drop (i+1)) σ2=some (f,σ'),∃ m',m'<m∧B1J C ly g0 s0 xs fp St (M9 t d) f σ' m' s4:=fun e3=>by
   cases m with
   | zero=>exact absurd hm (Nat.ne_of_lt (by rw[Nat.zero_add];exact Nat.lt_succ_of_le hi))
   | succ m=>
    refine⟨m,Nat.lt_succ_self m,i+1,_,σ2,(Nat.succ_add m i).symm.trans hm,hlt,lh,R5,W.frame _ _ _ hst2 fun b hb o ho => ?_,fun b hb hz => ?_,e3⟩
    ·rcases hfp b hb with hz | ⟨o',hz⟩
     ·exact hk b o ((if_pos ⟨hb,Option.isNone_iff_eq_none.mpr hz⟩).trans ho)
     ·cases ho.symm.trans (R2.hz (l0r.hz hz))
      exact R5.hz (lh.hz hz)
    ·rcases hfp b hb with _ | ⟨o',hz'⟩
     ·obtain⟨o,q⟩:=hex _ _ hst2 b hb
      exact hn b o ((if_pos ⟨hb,Option.isNone_iff_eq_none.mpr hz⟩).trans q)
     ·exact nn (hz.symm.trans (R0.hz hz'))
  cases fl with
  | next=>obtain rfl:x=.next:=V4;exact fin ei
  | cont=>obtain rfl:x=.cont:=V4;exact fin ei
  | brk=>obtain rfl:x=.brk:=V4;cases ei;exact hR _ _ ⟨_,lh,R5,rfl⟩
  | ret v=>obtain⟨y,rfl,V⟩:=V4;cases ei;exact hR _ _ ⟨_,lh,R5,y,rfl,J6 lv4 _ _ V⟩
end
end
section
noncomputable def A1v(s:Str):Bool:=s.cps.all (·<128)
noncomputable def A6D(s:Str):List T:=s.cps.toList.map fun c=>.ch ⟨#[c]⟩
noncomputable def A0G(a:Int)(n:Nat):List T:=(List.range n).map fun i=>.int (a+(i:Nat))
noncomputable def B1n(a b:Int):Option (List T):=if a.natAbs<1000∧b.natAbs<1000 then some (A0G a (b - a).toNat) else none
noncomputable def itN(x:T):Option (List T):=T.casesOn (motive_1:=fun _=>Option (List T)) x none (fun _=>none) (fun _=>none) (fun s=>if A1v s then some (A6D s) else none) (fun _=>none) (fun _=>none) some some (fun ks _=>some (ks.map .str)) (fun ks _=>some (ks.map .int)) B1n (fun _ _=>none)
noncomputable def prs(ks:List Str)(xs:List T):List T:=(ks.zip xs).map fun p=>.tup [.str p.1,p.2]
noncomputable def itT(x:T):Option (List T):=T.casesOn (motive_1:=fun _=>Option (List T)) x none (fun _=>none) (fun _=>none) (fun _=>none) (fun _=>none) (fun _=>none) some some (fun _ _=>none) (fun _ _=>none) (fun _ _=>none) fun ks xs=>some (prs ks xs)
section
variable{s:Shared}{u:Value}{x:T}{xs:List T}{st:Bool}
noncomputable def A7W:Nat→Value→Nat→Prop:=fun _ _ _=>True
theorem A3l{I:Addr}{n:Nat}{P Md:Nat→Value→Heap→Prop}{St:Nat→Heap→Prop}(W:KTurns C.prog C.w A target I fp wr n P Md St):
  ∀ i (s:Shared) (Q:Option Value→Shared→Prop) (E:Value→Shared→Prop),i<n→St i s.heap→(∀ v h' tk,Md i v h'→A7W s.toks v tk→(∀ b o,b∉wr→s.heap.get? b=some o→h'.get? b=some o)→Q (some v) { s with heap:=h',toks:=tk })→wpAny (model C.prog C.w) A (pyNext (.ref I)) Q E s:=
 fun i s Q E hi st q=>W.item i s Q E hi st fun v h' tk hMd hk=>q v h' tk hMd trivial hk
noncomputable def B5b:Nat→Value→Nat→Prop:=fun t0 v t1=>(∃ c,v=.str ⟨#[c]⟩ t0)∧t1=t0+1
theorem Y7{a:Addr}(e:h.get? a=some o):a≠h.objs.size:=Nat.ne_of_lt (Heap.lt_size e)
theorem A1D{o':Obj}{n:Nat}{P:Nat→Value→Prop}{St:Nat→Heap→Prop}(W:Walks C.prog C.w A s.heap.objs.size fp [s.heap.objs.size] n P St)(hgo:∀ i v (s':Shared) (Q:Unit→Shared→Prop) (E:Value→Shared→Prop),St i s'.heap→Q () s'→wpAny (model C.prog C.w) A (letOwnedTupleGo target (.ref s.heap.objs.size) v) Q E s')(hn:n=xs.length)(h0:St 0 (s.heap.push o'))(hf:∀ b∈fp,b=s.heap.objs.size∨∃ o,g.hz C b o)(he:∀ i h,St i h→∀ b∈fp,∃ o,h.get? b=some o)(hi:∀ i v x,xs[i]?=some x→P i v→∀ g',g.lev g'→RelT C g' x v):A0f C A target g s st xs (.ref s.heap.objs.size) { s with heap:=s.heap.push o' }:=
 ⟨_,_,_,_,_,_,A7W,_,rfl,hn,KTurns.ofWalks W hgo,h0,.push_,fun b hb=>by rw[List.mem_singleton.mp hb];exact B3,fun b hb=>(hf b hb).imp (fun e=>by rw[e];exact B3) id,he,fun _=>W.self,A3l (target:=target) (KTurns.ofWalks W hgo),fun i v _ x _ _ hx hp _ _ g' lg _=>.inl (hi i v x hx hp g' lg)⟩
theorem two{a:Addr}(hz:g.hz C a o):∀ b∈[s.heap.objs.size,a],b=s.heap.objs.size∨∃ o,g.hz C b o:=fun b hb=>by
 rcases List.mem_cons.mp hb with h | hb
 ·exact .inl h
 ·rw[List.mem_singleton.mp hb];exact .inr ⟨_,hz⟩
theorem A5D{I a:Addr}(h1:∃ o,h.get? I=some o)(h2:∃ o,h.get? a=some o):∀ b∈[I,a],∃ o,h.get? b=some o:=fun b hb=>by
 rcases List.mem_cons.mp hb with h | hb
 ·exact h▸h1
 ·rw[List.mem_singleton.mp hb];exact h2
theorem A6x{xs:List T}(r:RelTs C g xs items.toList)(i:Nat)(v:Value)(x:T)(hx:xs[i]?=some x)(hp:items[i]?=some v)(g':G)(lg:g.lev g'):RelT C g' x v:=by
 refine I7 (r.get hx) fun y hy ry => ?_
 rw[Array.getElem?_toList] at hy
 cases hp.symm.trans hy
 exact H3 lg _ _ ry
theorem A4c(hh:A.handled=none)(R:Rel C ly g σ s){a:Addr}{n:Nat}(hz:g.hz C a (seqObj "list" items n))(r:RelTs C g xs items.toList):wpAny (Md C) A (pyIter (.ref a)) (fun it s'=>A0f C A target g s st xs it s') E s:=by
 have ho:=R.hz hz
 have hl:s.heap.IsList a items:=⟨_,ho,rfl,n,rfl⟩
 exact wpAny_pyIter_list hl (A1D (Walks.list hh s.heap.objs.size a (Y7 ho) items) (fun i v s Q E st q=>letGo_listiter st.1 q) (Array.length_toList.symm.trans r.length) ⟨⟨_,Heap.get?_push_size _ rfl,rfl,rfl⟩,hl.at fun o e=>Heap.get?_push_of_some _ e⟩ (two hz)
  (fun i h q=>let ⟨o,h1,_⟩:=q.1;let ⟨o',h2,_⟩:=q.2;A5D ⟨o,h1⟩ ⟨o',h2⟩) (A6x r))
theorem A4b(hh:A.handled=none)(R:Rel C ly g σ s){a:Addr}{n:Nat}(hz:g.hz C a (seqObj "tuple" items n))(r:RelTs C g xs items.toList):wpAny (Md C) A (pyIter (.ref a)) (fun it s'=>A0f C A target g s st xs it s') E s:=by
 have ho:=R.hz hz
 have hl:s.heap.IsTuple a items:=⟨_,ho,rfl,n,rfl⟩
 exact wpAny_pyIter_tuple hl (A1D (Walks.tuple hh s.heap.objs.size a (Y7 ho) items) (fun i v s Q E st q=>letGo_tupleiter st.1 q) (Array.length_toList.symm.trans r.length) ⟨⟨_,Heap.get?_push_size _ rfl,rfl,rfl⟩,hl.at fun o e=>Heap.get?_push_of_some _ e⟩ (two hz)
  (fun i h q=>let ⟨o,h1,_⟩:=q.1;let ⟨o',h2,_⟩:=q.2;A5D ⟨o,h1⟩ ⟨o',h2⟩) (A6x r))
theorem only{I:Addr}(h1:∃ o,h.get? I=some o):∀ b∈[I],∃ o,h.get? b=some o:=fun b hb=>by rw[List.mem_singleton.mp hb];exact h1
theorem A99(hlo:0<C.lo)(hh:A.handled=none){x:Str}(ha:A1v x=true)(hgo:∀ it v,letOwnedTupleGo target it v=pure ()):wpAny (Md C) A (pyIter (.str x t)) (fun it s'=>A0f C A target g s st (A6D x) it s') E s:=by
 have W:=Walks.strAscii (prog:=C.prog) (w:=C.w) hh s.heap.objs.size x t
 refine wpAny_pyIter_ascii ha ⟨_,_,_,_,_,_,B5b,_,rfl,((List.length_map _).trans Array.length_toList).symm,KTurns.ofWalks W fun i v s Q E st q=>by rw[hgo];exact wpAny_pure q,⟨_,Heap.get?_push_size _ rfl,rfl,rfl⟩,.push_,fun b hb=>by rw[List.mem_singleton.mp hb];exact B3,fun b hb=>.inl (by rw[List.mem_singleton.mp hb];exact B3),fun i h q=>let ⟨o,h1,_⟩:=q;only ⟨o,h1⟩,fun _=>W.self,fun i s' Q E' hi st q => ?_,fun i v h y t0 t1 hx hp htk h0 g' lg h1 => ?_⟩
 ·have hc:=Array.getElem?_eq_getElem hi
  refine wpAny_pyNext_ascii_item st (c:=x.cps[i]) hc fun h' hit' hs' => ?_
  exact q _ h' (s'.toks+1) ⟨⟨_,_,hc,rfl⟩,hit'⟩ ⟨⟨_,rfl⟩,rfl⟩ fun b o hb e=>hs'.extBut b o (fun h=>hb (List.mem_singleton.mpr h)) e
 ·refine A5O (hp) fun c u hc hR3 => ?_
  subst hR3
  obtain⟨⟨c',e⟩,rfl⟩:=htk
  cases e
  unfold A6D at hx
  rw[List.getElem?_map,Array.getElem?_toList,hc] at hx
  cases hx
  exact .inl ⟨_,rfl,Nat.lt_of_lt_of_le hlo h0,h1⟩
theorem A2y{K:Type}[DecidableEq K]{knd:KeyKind C.prog C.w K}{mk:K→T}{ks:List K}(hh:A.handled=none)(R:Rel C ly g σ s){a:Addr}{kvs:List (K×Value)}(hz:g.hz C a o)(hs:(a==sysModules)=false)(hd:o.IsDictOf knd kvs)(e:kvs.map (·.1)=ks)(hk:∀ g k v,knd.is k v=true→RelT C g (mk k) v)(hgo:∀ it v,letOwnedTupleGo target it v=pure ()):wpAny (Md C) A (pyIter (.ref a)) (fun it s'=>A0f C A target g s st (ks.map mk) it s') E s:=by
 subst e
 have ho:=R.hz hz
 obtain⟨ep,hat⟩:=(Heap.dictOf_iff.mpr ⟨o,ho,hd⟩:s.heap.DictOf knd a kvs).dictAt
 refine wpAny_pyIter_dict hs hat (A1D (Walks.dictKeys (knd:=knd) hh s.heap.objs.size a (Y7 ho) kvs ep) (fun i v s Q E st q=>by rw[hgo];exact wpAny_pure q) ((List.length_map _).trans (List.length_map _)).symm ⟨⟨_,Heap.get?_push_size _ rfl,rfl,rfl⟩,hat.push _⟩ (two hz)
  (fun i h q=>let ⟨o,h1,_⟩:=q.1;let ⟨o',_,h2,_⟩:=q.2;A5D ⟨o,h1⟩ ⟨o',h2⟩) fun i v y hx hp g' lg => ?_)
 refine A5O (hp) fun k z hc hv => ?_
 rw[List.getElem?_map,List.getElem?_map,hc] at hx
 cases hx
 exact hk g' k v hv
theorem A65{i:Int}(h:i.natAbs<3000):Builtin.Range.rangeFitsLong i=true:=by
 have h2:i<3000:=Int.lt_of_le_of_lt Int.le_natAbs (Int.ofNat_lt.mpr h)
 have h1 : -i<3000:=Int.lt_of_le_of_lt Int.le_natAbs (Int.ofNat_lt.mpr (by rw[Int.natAbs_neg];exact h))
 have h3 : -(2 ^ 63:Int)≤i:=Int.le_trans (by decide) (Int.le_of_lt (Int.neg_lt_of_neg_lt h1))
 have h4:i<2 ^ 63:=Int.lt_trans h2 (by decide)
 unfold Builtin.Range.rangeFitsLong
 rw[decide_eq_true h3,decide_eq_true h4];rfl
theorem A5g(a b:Int):Builtin.Range.rangeSize a b 1=((b - a).toNat:Nat):=by
 unfold Builtin.Range.rangeSize
 rw[if_pos (by decide)]
 by_cases h:a<b
 ·rw[if_pos h,Int.ediv_one,Int.sub_add_cancel,Int.toNat_of_nonneg (Int.sub_nonneg_of_le (Int.le_of_lt h))]
 ·rw[if_neg h,Int.toNat_of_nonpos (Int.sub_nonpos_of_le (Int.not_lt.mp h))];rfl
theorem A2e(i:Int):i.toNat≤i.natAbs:=by cases i with | ofNat n=>exact Nat.le_refl _ | negSucc n=>exact Nat.zero_le _
theorem A0m{a b:Int}(ha:a.natAbs<1000)(hb:b.natAbs<1000):Builtin.Range.small a b 1=true∧Builtin.Range.rangeSize a b 1=((b - a).toNat:Nat):=by
 have e:=A5g a b
 refine⟨?_,e⟩
 unfold Builtin.Range.small
 rw[e,if_pos (by decide),show (1:Int) - 1=0 from rfl,Int.add_zero,A65 (Nat.lt_trans ha (by decide)),A65 (Nat.lt_trans hb (by decide)),show Builtin.Range.rangeFitsLong 1=true from A65 (by decide),A65 (i:=((b - a).toNat:Int)) (Nat.lt_of_le_of_lt (Nat.le_trans (A2e _) (Int.natAbs_sub_le _ _)) (Nat.lt_of_lt_of_le (Nat.add_lt_add hb ha) (by decide))),Bool.or_true]
 rfl
theorem B0A(hh:A.handled=none)(R:Rel C ly g σ s){a b:Int}(hu:RelT C g (.rng a b) u)(e:B1n a b=some xs)(hgo:∀ it v,letOwnedTupleGo target it v=pure ()):wpAny (Md C) A (pyIter u) (fun it s'=>A0f C A target g s st xs it s') E s:=by
 refine iN e fun hab e => ?_
 obtain⟨r,t,u,w,rfl,z⟩:=hu
 obtain⟨h1,h2⟩:=A0m hab.1 hab.2
 refine s1 e (wpAny_pyIter_range (R.frz _ _ z) h1 (A1D (Walks.range hh s.heap.objs.size a 1 (b - a).toNat) (fun i v s Q E st q=>by rw[hgo];exact wpAny_pure q) ((List.length_map _).trans List.length_range).symm ?_ (fun b hb=>.inl (List.mem_singleton.mp hb)) (fun i h q=>only ⟨_,q⟩) fun i v y hx hp g' lg => ?_))
 ·show IsRangeIter _ _ _ _ _
  rw[h2];simpa using Heap.get?_push_size _ rfl
 ·obtain⟨t,rfl⟩:=hp
  have hi:=(List.getElem?_eq_some_iff.mp hx).1
  unfold A0G at hx hi
  rw[List.length_map,List.length_range] at hi
  rw[List.getElem?_map,List.getElem?_range hi] at hx
  cases hx
  exact⟨t,by rw[Int.mul_one]⟩
theorem A6l{i:Nat}{x:T}(kvs:List (Str×Value))(xs:List T)(r:RelTs C g xs (kvs.map (·.2)))(e:(prs (kvs.map (·.1)) xs)[i]?=some x):∃ k y v,x=.tup [.str k,y]∧kvs[i]?=some (k,v)∧RelT C g y v:=by
 unfold prs at e
 rw[List.getElem?_map] at e
 refine I7 (Option.map_eq_some_iff.mp e) fun p hp e => ?_
 obtain⟨h1,h2⟩:=List.getElem?_zip_eq_some.mp hp
 rw[List.getElem?_map] at h1
 refine I7 (Option.map_eq_some_iff.mp h1) fun q hq h1 => ?_
 refine I7 (r.get h2) fun v hv rv => ?_
 rw[List.getElem?_map,hq] at hv
 cases hv
 exact⟨_,_,q.2,e.symm,h1▸hq,rv⟩
theorem A1e(kvs:List (Str×Value))(xs:List T)(r:RelTs C g xs (kvs.map (·.2))):(prs (kvs.map (·.1)) xs).length=kvs.length:=by
 have h:=r.length
 rw[List.length_map] at h
 unfold prs
 rw[List.length_map,List.length_zip,List.length_map,h,Nat.min_self]
theorem B0C(hh:A.handled=none)(R:Rel C ly g σ s){ks:List Str}(hu:RelT C g (.itv ks xs) u):wpAny (Md C) A (pyIter u) (fun it s'=>A0f C A (.Tuple elts kk pos) g s false (prs ks xs) it s') E s:=by
 obtain⟨r,a,o,kvs,rfl,z',z,hd,rfl,q⟩:=hu
 obtain⟨ep,hat⟩:=(Heap.dictOf_iff.mpr ⟨o,R.frz _ _ z,hd⟩:s.heap.DictOf _ a kvs).dictAt
 have W:=kti_itemsTurns (prog:=C.prog) (w:=C.w) (elts:=elts) (kk:=kk) (pos:=pos) (knd:=PySem.strKind C.prog C.w) hh s.heap.objs.size a (Y7 (R.frz _ _ z)) kvs ep
 refine wpAny_pyIter_items ⟨_,R.frz _ _ z',rfl,rfl⟩ hat ⟨_,_,_,_,_,_,A7W,_,rfl,(A1e kvs xs q).symm,W,⟨⟨.none,.none,Heap.get?_push_size _ rfl⟩,hat.push _⟩,.push_,fun b hb=>by rw[List.mem_singleton.mp hb];exact B3,fun b hb=>(two (s:=s) (.inr (.inl z)) b hb).imp (fun e=>by rw[e];exact B3) id,fun i h q=>let ⟨_,_,h1⟩:=q.1;let ⟨o,_,h2,_⟩:=q.2;A5D ⟨_,h1⟩ ⟨o,h2⟩,(fun h=>nomatch h),A3l (target:=.Tuple elts kk pos) W,fun i v h y t0 t1 hx hp _ _ g' lg _ => ?_⟩
 refine q7 (hp) fun T key k z hR4 hc hv ht => ?_
 subst hR4
 refine e9 (A6l kvs xs q hx) fun k' y' v' hR3 h1 h2 => ?_
 subst hR3
 cases hc.symm.trans h1
 exact .inr ⟨rfl,_,T,_,rfl,rfl,ht,_,_,rfl,Value.isStrOf_shape hv,_,_,rfl,H3 lg _ _ h2,rfl⟩
noncomputable def A3m(x:T):Bool:=(G9 x).isSome
noncomputable def A8m(C:Cx)(itf:T→Option (List T)):Prop:=∀ x xs,itf x=some xs→itN x=some xs∧(0<C.lo∨A3m x=false)
theorem F7(hlo:0<C.lo):A8m C itN:=fun _ _ e=>⟨e,.inl hlo⟩
noncomputable def itS(x:T):Option (List T):=if A3m x then none else itN x
theorem B4Q:A8m C itS:=fun x xs e=>by
 unfold itS at e
 cases h:A3m x with
 | true=>rw[h] at e;exact nn e
 | false=>rw[h] at e;exact⟨e,.inr rfl⟩
theorem A0N(hlo:0<C.lo∨A3m x=false)(hh:A.handled=none)(R:Rel C ly g σ s)(hu:A6K C g x u)(e:itN x=some xs)(hgo:∀ it v,letOwnedTupleGo target it v=pure ()):wpAny (Md C) A (pyIter u) (fun it s'=>A0f C A target g s st xs it s') E s:=by
 cases x with
 | tup ys=>obtain⟨a,items,n,rfl,z,r⟩:=hu;exact s1 e (A4b hh R z r)
 | lst ys=>obtain⟨a,items,n,rfl,z,r⟩:=hu;exact s1 e (A4c hh R z r)
 | str y=>
  obtain⟨t,rfl⟩:=hu
  refine iN e fun h e => ?_
  exact s1 e (A99 (hlo.resolve_right fun q=>nomatch q) hh h hgo)
 | ds ks ys=>obtain⟨a,o,kvs,rfl,hs,z,d,k,r⟩:=hu;exact s1 e (A2y (mk:=.str) hh R z hs d k (fun g k v h=>Value.isStrOf_shape h) hgo)
 | di ks ys=>obtain⟨a,o,kvs,rfl,hs,z,d,k,r⟩:=hu;exact s1 e (A2y (mk:=.int) hh R z hs d k (fun g k v h=>Value.isInt_shape h) hgo)
 | rng a b=>exact B0A hh R hu e hgo
 | _=>exact nn e
theorem A5s(hh:A.handled=none)(R:Rel C ly g σ s)(hu:A6K C g x u)(e:itT x=some xs):wpAny (Md C) A (pyIter u) (fun it s'=>A0f C A (.Tuple elts kk pos) g s false xs it s') E s:=by
 cases x with
 | tup ys=>obtain⟨a,items,n,rfl,z,r⟩:=hu;exact s1 e (A4b hh R z r)
 | lst ys=>obtain⟨a,items,n,rfl,z,r⟩:=hu;exact s1 e (A4c hh R z r)
 | itv ks ys=>exact s1 e (B0C hh R hu)
 | _=>exact nn e
noncomputable def lockV(v:V)(σ:St):St:=V.casesOn (motive:=fun _=>St) v (fun _=>σ) (fun i=>⟨σ.loc,σ.objs.set i .gone⟩) (fun _ _ _=>σ)
noncomputable def B1G(o:AO):Option Unit:=AO.casesOn (motive:=fun _=>Option Unit) o (fun _=>none) (fun _ _=>none) (fun _ _=>none) (some ())
noncomputable def L4(v:V)(σ0 σ1:St):Option St:=V.casesOn (motive:=fun _=>Option St) v (fun _=>some σ1) (fun i=>(σ0.objs[i]?).bind fun o=>(σ1.objs[i]?).bind fun o'=>(B1G o').bind fun _=>some ⟨σ1.loc,σ1.objs.set i o⟩) (fun _ _ _=>some σ1)
structure A6L(C:Cx)(ly:List Loc)(g g1:G)(σ σ1:St)(v:V)(s:Shared):Prop where
 lv:g.lev g1
 rel:Rel C ly g1 σ1 s
 back:∀ g2 σ2 σ3 s2,g1.le g2→Rel C ly g2 σ2 s2→L4 v σ σ2=some σ3→∃ g3,g.le g3∧g2.lev g3∧Rel C ly g3 σ3 s2
theorem Rel.lockV(B:Base C)(R:Rel C ly g σ s){w:V}(h:RelV C g w u)(e:Mine.view σ w=some x):∃ g1,A6L C ly g g1 σ (Mine.lockV w σ) w s∧A6K C g1 x u:=by
 cases w with
 | t y=>exact s1 (P:=fun x=>∃ g1,A6L C ly g g1 σ σ (.t y) s∧A6K C g1 x u) e ⟨g,⟨(G.le.refl g).v,R,fun g2 σ2 σ3 s2 l R2 e=>s1 (P:=fun σ3=>∃ g3,g.le g3∧g2.lev g3∧Rel C ly g3 σ3 s2) e ⟨g2,l,(G.le.refl g2).v,R2⟩⟩,R.relK B h⟩
 | obj c n v=>exact nn e
 | ref i=>
  refine I7 (h) fun a h1 hR2 => ?_
  subst hR2
  refine b1 e fun o q e => ?_
  have hne:o≠.gone:=by rintro rfl;exact nn e
  refine F1 (R.own i _ q hne) fun a' ob h2 h3 h4 h5 => ?_
  cases h1.symm.trans h2
  obtain⟨lv,R1⟩:=R.lock q h1 h3 h4
  refine⟨_,⟨lv,R1,fun g2 σ2 σ3 s2 l R2 e2 => ?_⟩,?_⟩
  ·refine b1 e2 fun o1 q1 e2 => ?_
   cases q.symm.trans q1
   refine b1 e2 fun o2 q2 e2 => ?_
   refine b1 e2 fun _ q3 e2 => ?_
   cases o2 with
   | gone=>obtain⟨l1,l2,R3⟩:=R2.unlock (g:=g) q2 h1 h3 h5 l;exact s1 (P:=fun σ3=>∃ g3,g.le g3∧g2.lev g3∧Rel C ly g3 σ3 s2) e2 ⟨_,l1,l2,R3⟩
   | _=>exact nn q3
  ·have hk:(g.put a (.kept ob)).hz C a ob:=.inr (.inr (if_pos rfl))
   cases o with
   | gone=>exact nn e
   | lst xs=>obtain⟨items,n,rfl,r⟩:=h5;exact s1 e ⟨a,items,n,rfl,hk,relTs_mono' lv _ _ r⟩
   | ds ks xs=>obtain⟨kvs,d,k,r⟩:=h5;exact s1 e ⟨a,ob,kvs,rfl,Q8 B (R.new _ _ h3).1,hk,d,k,relTs_mono' lv _ _ r⟩
   | di ks xs=>obtain⟨kvs,d,k,r⟩:=h5;exact s1 e ⟨a,ob,kvs,rfl,Q8 B (R.new _ _ h3).1,hk,d,k,relTs_mono' lv _ _ r⟩
end
section
variable{e1:Expr}{a:D}{p:DB}{d d':DS}
noncomputable def U6(itf:T→Option (List T))(a:D)(t:T→St→Option St)(b:DS):DS:=fun σ=>(a σ).bind fun p=>(view p.2 p.1).bind fun x=>(itf x).bind fun xs=>(M9 t b xs (lockV p.1 p.2)).bind fun r=>(L4 p.1 p.2 r.2).bind fun σ3=>some (r.1,σ3)
theorem A9H{st:Bool}{t:T→St→Option St}{itf:T→Option (List T)}(B:Base C)(h:SE C k env ly e a)(ht:Tg C ly env target st t)(hb:SS C k env ly body d)(hit:∀ (A:Around) (g:G) (σ:St) (s:Shared) (u:Value) (x:T) (xs:List T),A.handled=none→Rel C ly g σ s→A6K C g x u→itf x=some xs→wpAny (Md C) A (pyIter u) (fun it s'=>A0f C A target g s st xs it s') X4 s)(hs:∀ x,foldedSetIterable e env x=pure x):S1 C k env ly (.For target e body [] pos) (U6 itf a t d):=fun A hA g σ s f σ' R e'=>by
 refine b2 e' fun w σ1 e1 e' => ?_
 refine b1 e' fun x e2 e' => ?_
 refine b1 e' fun xs e3 e' => ?_
 refine b2 e' fun f' σ2 e4 e' => ?_
 refine b1 e' fun σ3 e5 e' => ?_
 refine s2 e' ?_
 refine wpAny_For (h.use hA R e1 fun g1 u s1 l1 R1 V1 => ?_) hs
 refine I7 (R1.lockV B V1 e2) fun g2 L K => ?_
 refine wpAny_mono (hit A g2 _ s1 u x xs hA.handled L.rel K e3) (fun it s2 I => ?_) fun _ _ x=>x.elim
 refine A4W hA ht hb L.rel I e4 fun fl s3 ⟨g3,l3,R3,V3⟩ => ?_
 refine q8 (L.back _ _ _ _ l3 R3 e5) fun g4 l4 lv R4 => ?_
 exact⟨g4,l1.trans l4,R4,A0l lv V3⟩
theorem N9{x:Str}{i:Nat}{p':Pos}{itf:T→Option (List T)}(B:Base C)(hi:A8m C itf)(h:SE C k env ly e a)(hx:Bnd env ly x i)(hb:SS C k env ly body d)(hs:∀ x,foldedSetIterable e env x=pure x):
  S1 C k env ly (.For (.Name x p') e body [] pos) (U6 itf a (tN i) d):=A9H B h (A08 hx) hb (fun A g σ s u x xs hh R K e=>A0N (hi _ _ e).2 hh R K (hi _ _ e).1 fun it v=>rfl) hs
theorem u4{n:Nat}{p':Pos}(B:Base C)(h:SE C k env ly e a)(ht:(assignEach elts env).map (·.2)=ts)(hst:Sts C ly ts is)(h1:(assignEach elts env).length=is.length)(h2:(assignEach elts env).findIdx? (·.1)=none)(hb:SS C k env ly body d)(hs:∀ x,foldedSetIterable e env x=pure x):
  S1 C k env ly (.For (.Tuple elts n p') e body [] pos) (U6 itT a (tT is) d):=A9H B h (B3q ht hst h1 h2) hb (fun A g σ s u x xs hh R K e=>A5s hh R K e) hs
end
end
section
noncomputable def Loc.addr:Loc→Addr
 | .fr L _=>L
 | .cl c=>c
noncomputable def Loc.rl:Loc→Role
 | .fr _ _=>.frame
 | .cl _=>.cell
section
variable{s:Shared}
theorem SlotOk.role{l:Loc}{v:Option V}(x:SlotOk C g h l v):g.role l.addr=some l.rl:=by
 cases l <;> exact x.1
theorem Rel.loc(R:Rel C ly g σ s){l:Loc}(h:ly[j]?=some l):g.role l.addr=some l.rl:=by
 have:∃ v,σ.loc[j]?=some v:=⟨_,List.getElem?_eq_getElem (by rw[R.len];exact((List.getElem?_eq_some_iff.mp h).1))⟩
 obtain⟨v,hv⟩:=this
 exact(R.slot j l v h hv).role
theorem SlotOk.mono{l:Loc}{v:Option V}(lv:g.lev g')(hr:g'.role l.addr=some l.rl)(x:SlotOk C g h l v):SlotOk C g' h l v:=by
 cases l with
 | fr L y=>exact⟨hr,x.2.elim fun m hm=>⟨m,hm.1,D4 lv _ _ hm.2⟩⟩
 | cl c=>exact⟨hr,x.2.elim fun m hm=>⟨m,hm.1,D4 lv _ _ hm.2⟩⟩
theorem A1d{a:Addr}{r0:Role}(hr:g.role a=none):∀ b r,g.role b=some r→(g.put a r0).role b=some r:=fun b r e=>by
 have:b≠a:=by rintro rfl;rw[hr] at e;(first | refine s2 e ?_ | refine s1 e ?_ | cases e)
 simp only[G.put,if_neg this,e]
theorem Q7{a:Addr}{r0:Role}:∀ b r,(g.put a r0).role b=some r→(b=a∧r=r0)∨g.role b=some r:=fun b r e=>by
 by_cases q:b=a
 ·simp only[G.put,if_pos q] at e;(first | refine s2 e ?_ | refine s1 e ?_ | cases e);exact .inl ⟨q,rfl⟩
 ·simp only[G.put,if_neg q] at e;exact .inr e
theorem m9{a:Addr}{r0:Role}(hr:g.role a=none):g.le (g.put a r0):=⟨⟨[],by simp [G.put]⟩,fun b x e=>A1d hr b _ e,fun b x e=>A1d hr b _ e,Nat.le_refl _⟩
theorem Rel.hold(R:Rel C ly g σ s){a:Addr}(ha:C.hb.get? a=none)(hr:g.role a=none)(ho:s.heap.get? a=some o):Rel C ly (g.put a (.kept o)) σ s:=by
 have le:=m9 (r0:=.kept o) hr
 have up:=A1d (r0:=.kept o) hr
 refine⟨R.old,fun b r e => ?_,fun b x e => ?_,fun b x e => ?_,R.len,fun j l v hl hv=>(R.slot j l v hl hv).mono le.v (up _ _ (R.loc hl)),R.nodup,R.olen,fun j o2 hj hne => ?_,fun P pos q h => ?_,R.os,R.gens,R.tk⟩
 ·rcases Q7 b r e with ⟨rfl,rfl⟩ | e
  ·exact⟨ha,o,ho⟩
  ·exact R.new b r e
 ·rcases Q7 b _ e with ⟨rfl,q⟩ | e
  ·cases q
  ·exact R.frz b x e
 ·rcases Q7 b _ e with ⟨rfl,q⟩ | e
  ·cases q;exact ho
  ·exact R.kept b x e
 ·refine F1 (R.own j o2 hj hne) fun b x h1 h2 h3 h4 => ?_
  exact⟨b,x,h1,up _ _ h2,h3,G8 le _ _ h4⟩
 ·refine N4 (R.tab P pos q h) fun h1 ps h2 h3 => ?_
  exact⟨up _ _ h1,ps,h2,J4 le h3⟩
theorem Rel.addSlot(R:Rel C ly g σ s){l:Loc}(ha:C.hb.get? l.addr=none)(hr:g.role l.addr=none)(ho:∃ o,s.heap.get? l.addr=some o)(hs:SlotOk C (g.put l.addr l.rl) s.heap l none):
  Rel C (ly++[l]) (g.put l.addr l.rl) ⟨σ.loc++[none],σ.objs⟩ s:=by
 have le:=m9 (r0:=l.rl) hr
 have up:=A1d (r0:=l.rl) hr
 refine⟨R.old,fun b r e => ?_,fun b x e => ?_,fun b x e => ?_,?_,fun j l' v hl hv => ?_,?_,R.olen,fun j o2 hj hne => ?_,fun P pos q h => ?_,R.os,R.gens,R.tk⟩
 ·rcases Q7 b r e with ⟨rfl,rfl⟩ | e
  ·exact⟨ha,ho⟩
  ·exact R.new b r e
 ·rcases Q7 b _ e with ⟨rfl,q⟩ | e
  ·cases l <;> cases q
  ·exact R.frz b x e
 ·rcases Q7 b _ e with ⟨rfl,q⟩ | e
  ·cases l <;> cases q
  ·exact R.kept b x e
 ·show (σ.loc++[none]).length=_
  rw[List.length_append,List.length_append,R.len];rfl
 ·by_cases q:j<ly.length
  ·rw[List.getElem?_append_left q] at hl
   have hv:(σ.loc++[none])[j]?=some v:=hv
   rw[List.getElem?_append_left (by rw[R.len];exact q)] at hv
   exact(R.slot j l' v hl hv).mono le.v (up _ _ (R.loc hl))
  ·rw[List.getElem?_append_right (by lia)] at hl
   have hv:(σ.loc++[none])[j]?=some v:=hv
   rw[List.getElem?_append_right (by rw[R.len];lia)] at hv
   have e0:j - ly.length=0:=by
    have:=(List.getElem?_eq_some_iff.mp hl).1
    simpa using this
   rw[R.len,e0] at hv
   rw[e0] at hl
   cases hl;cases hv
   exact hs
 ·rw[List.nodup_append]
  refine⟨R.nodup,by simp,fun x hx y hy => ?_⟩
  rw[List.mem_singleton] at hy
  subst hy
  rintro rfl
  obtain⟨j,hj⟩:=List.getElem?_of_mem hx
  rw[R.loc hj] at hr
  cases hr
 ·refine F1 (R.own j o2 hj hne) fun b x h1 h2 h3 h4 => ?_
  exact⟨b,x,h1,up _ _ h2,h3,G8 le _ _ h4⟩
 ·refine N4 (R.tab P pos q h) fun h1 ps h2 h3 => ?_
  exact⟨up _ _ h1,ps,h2,J4 le h3⟩
noncomputable def G.drop(g:G)(as:List Addr):G:=⟨g.own,fun b=>if b∈as then none else g.role b,g.tk⟩
noncomputable def A5N:Role→Prop
 | .frame=>True
 | .cell=>True
 | .kept _=>True
 | _=>False
theorem j1{a:Addr}(h:a∉as):(g.drop as).role a=g.role a:=by simp only[G.drop,if_neg h]
theorem A3z{a:Addr}{r:Role}(h:(g.drop as).role a=some r):g.role a=some r∧a∉as:=by
 by_cases q:a∈as
 ·simp only[G.drop,if_pos q] at h;cases h
 ·simp only[G.drop,if_neg q] at h;exact⟨h,q⟩
theorem A17(h:∀ a∈as,∀ r,g.role a=some r→A5N r):g.lev (g.drop as):=by
 refine⟨⟨[],by simp [G.drop]⟩,fun a o e => ?_,Nat.le_refl _⟩
 rw[j1,e]
 intro q
 exact h a q _ e
theorem A7E(h:∀ a∈as,g.role a=none)(l:g.le g1):g.le (g1.drop as):=by
 refine⟨l.own,fun a o e => ?_,fun a o e => ?_,l.tk⟩
 ·rw[j1,l.frz a o e]
  intro q
  rw[h a q] at e
  (first | refine s2 e ?_ | refine s1 e ?_ | cases e)
 ·rw[j1,l.kept a o e]
  intro q
  rw[h a q] at e
  (first | refine s2 e ?_ | refine s1 e ?_ | cases e)
theorem Rel.drop(R:Rel C (ly++ls) g σ s)(h:∀ a∈as,∀ r,g.role a=some r→A5N r)(hly:∀ l∈ly,l.addr∉as):
  Rel C ly (g.drop as) ⟨σ.loc.take ly.length,σ.objs⟩ s:=by
 have lv:=A17 h
 have keep:∀ a r,g.role a=some r→¬ A5N r→(g.drop as).role a=some r:=fun a r e n=>by
  rw[j1,e]
  intro q
  exact n (h a q r e)
 refine⟨R.old,fun b r e=>R.new b r (A3z e).1,fun b x e=>R.frz b x (A3z e).1,fun b x e=>R.kept b x (A3z e).1,?_,fun j l v hl hv => ?_,?_,R.olen,fun j o2 hj hne => ?_,fun P pos q hq => ?_,R.os,R.gens,R.tk⟩
 ·rw[List.length_take,R.len,List.length_append];lia
 ·have hj:=(List.getElem?_eq_some_iff.mp hl).1
  have hv:(σ.loc.take ly.length)[j]?=some v:=hv
  rw[List.getElem?_take_of_lt hj] at hv
  have hl':(ly++ls)[j]?=some l:=by rw[List.getElem?_append_left hj];exact hl
  have:=R.slot j l v hl' hv
  exact this.mono lv (by rw[j1 (hly l (List.mem_of_getElem? hl))];exact this.role)
 ·exact(List.nodup_append.mp R.nodup).1
 ·refine F1 (R.own j o2 hj hne) fun b x h1 h2 h3 h4 => ?_
  exact⟨b,x,h1,keep _ _ h2 (fun q=>q),h3,K3 lv _ _ h4⟩
 ·refine N4 (R.tab P pos q hq) fun h1 ps h2 h3 => ?_
  exact⟨keep _ _ h1 (fun q=>q),ps,h2,J1 lv h3⟩
end
noncomputable def A2F(p:DB)(d:D)(n:Nat)(xs:List T):St→List T→Option (List T×St):=List.rec (motive:=fun _=>St→List T→Option (List T×St)) (fun σ ys=>some (ys,σ))
 (fun x _ go σ ys=>(p ⟨σ.loc.set n (some (.t x)),σ.objs⟩).bind fun q=>if q.1 then (d q.2).bind fun r=>(toT r.2 r.1).bind fun z=>go z.2 (ys++[z.1]) else go q.2 ys) xs
theorem A8f{p:DB}{d:D}{n:Nat}{xs:List T}(e:A2F p d n xs σ ys=some (zs,σ')):ys.length≤zs.length:=by
 induction xs generalizing σ ys with
 | nil=>exact s2 e (Nat.le_refl _)
 | cons x xs ih=>
  refine b2 e fun b σ1 e1 e => ?_
  cases b with
  | false=>exact ih e
  | true=>
   refine b2 e fun v σ2 e2 e => ?_
   refine b2 e fun z σ3 e3 e => ?_
   exact Nat.le_trans (by rw[List.length_append];exact Nat.le_add_right _ _) (ih e)
noncomputable abbrev S8(ifs:List Expr)(env:Env):Sem Bool:=forIn ifs true fun c r=>if r=true then do let ok ← isTrue c env (eval c env);pure (ForInStep.yield ok) else pure (ForInStep.yield r)
theorem I4:SB C k ly (S8 [] env) (G0 true):=fun A hA g σ s b σ' R e=>by
 (first | refine s2 e ?_ | refine s1 e ?_ | cases e)
 exact wpAny_tests_nil ⟨rfl,g,.refl g,R⟩
theorem K1{c:Expr}{p:DB}(h:ST C k env ly c p):SB C k ly (S8 [c] env) p:=fun A hA g σ s b σ' R e=>
 wpAny_tests_one (h A hA g σ s b σ' R e)
structure Tmp(C:Cx)(g0:G)(fp wr tp:List Addr)(La:Addr):Prop where
 out:∀ b∈tp,C.hb.get? b=none∧g0.role b=none
 tf:∀ b∈tp,b∈fp∨b=La
 hw:∀ b∈wr,b∈tp
 ff:∀ b∈fp,b∈tp∨∃ o,g0.hz C b o
 Lt:La∈tp
 Lf:La∉fp
noncomputable def tpf(tp:List Addr)(h:Heap)(b:Addr):Option Obj:=if b∈tp then h.get? b else none
inductive B5C(C:Cx)(ly:List Loc)(g0:G)(xs:List T)(tp:List Addr)(La:Addr)(St:Nat→Heap→Prop)(go:List T→Mine.St→List T→Option (List T×Mine.St))(zs:List T)(σ':Mine.St)(m:Nat)(s:Shared):Prop
 | mk (i:Nat) (g:G) (σ:Mine.St) (items:Array Value) (ys:List T) (e:m+i=xs.length+1) (hi:i≤xs.length) (l:g0.le g) (R:Rel C ly g σ s) (st:St i s.heap) (hro:∀ b∈tp,g.role b=none) (hpl:s.heap.PlainList La items) (hys:RelTs C g ys items.toList) (ei:go (xs.drop i) σ ys=some (zs,σ'))
inductive B3C(C:Cx)(ly:List Loc)(g0:G)(tp:List Addr)(La:Addr)(zs:List T)(σ':Mine.St)(r:Result)(s':Shared):Prop
 | mk (g:G) (items:Array Value) (e:r=.ok .next) (l:g0.le g) (R:Rel C ly g σ' s') (hro:∀ b∈tp,g.role b=none) (hpl:s'.heap.PlainList La items) (hys:RelTs C g zs items.toList)
section
variable{e1:Expr}{a:D}{p:DB}{d d':D}
theorem Tmp.frame{g5:G}(X:Tmp C g0 fp wr tp La){σ5:St}{s s5:Shared}(l:g0.le g)(R:Rel C ly g σ s)(l5:g0.le g5)(R5:Rel C ly g5 σ5 s5)(hk:∀ b o,tpf tp s.heap b=some o→s5.heap.get? b=some o):∀ b∈fp,∀ o,s.heap.get? b=some o→s5.heap.get? b=some o:=fun b hb o ho=>by
 rcases X.ff b hb with hz | ⟨o',hz⟩
 ·exact hk b o ((if_pos hz).trans ho)
 ·cases ho.symm.trans (R.hz (l.hz hz))
  exact R5.hz (l5.hz hz)
theorem Tmp.none{g5:G}(X:Tmp C g0 fp wr tp La)(hex:∀ b∈fp,∃ o,h.get? b=some o)(hpl:h.PlainList La items)(hn:∀ b o,tpf tp h b=some o→g5.role b=none):∀ b∈tp,g5.role b=none:=fun b hb=>by
 have:∃ o,h.get? b=some o:=by
  rcases X.tf b hb with q | rfl
  ·exact hex b q
  ·obtain⟨n,h⟩:=hpl;exact⟨_,h⟩
 obtain⟨o,ho⟩:=this
 exact hn b o ((if_pos hb).trans ho)
theorem B01(hA:Room k A){iter:Expr}{x:Str}{pos:Pos}{scope:Scope}{nx:Nat}{I La:Addr}{xs:List T}{P Mid:Nat→Value→Heap→Prop}{Tk:Nat→Value→Nat→Prop}{St:Nat→Heap→Prop}(W:KTurns C.prog C.w A (.Name x px) I fp wr xs.length P Mid St)(hex:∀ i h,St i h→∀ b∈fp,∃ o,h.get? b=some o)(ht:Tg C ly cenv (.Name x px) true (tN nx))(hp:SB C k ly (S8 ifs cenv) p)(hd:Sd C k ly (eval elt cenv) d)(hitm:∀ i (s:Shared) (Q:Option Value→Shared→Prop) (E:Value→Shared→Prop),i<xs.length→St i s.heap→(∀ v h' tk,Mid i v h'→Tk s.toks v tk→(∀ b o,b∉wr→s.heap.get? b=some o→h'.get? b=some o)→Q (some v) { s with heap:=h',toks:=tk })→wpAny (model C.prog C.w) A (pyNext (.ref I)) Q E s){g0:G}(hit:∀ i v h x t0 t1,xs[i]?=some x→P i v h→Tk t0 v t1→C.lo≤t0→∀ g',g0.lev g'→t1≤g'.tk→B3A C g' h true x v){σ0:Mine.St}{s0:Shared}(R0:Rel C ly g0 σ0 s0)(hst:St 0 s0.heap){tp:List Addr}(X:Tmp C g0 fp wr tp La)(hL:s0.heap.PlainList La #[]){zs:List T}{σ':Mine.St}(hz:zs.length<1000)(e:A2F p d nx xs σ0 []=some (zs,σ')):
  codeAny (Md C) A (.compLoop (.ListComp elt [⟨.Name x px,iter,ifs,0⟩] scope pos) 0 (.ref I) (.ref La) cenv) (B3C C ly g0 tp La zs σ') s0:=by
 refine codeAny_compLoop_tests (B5C C ly g0 xs tp La St (A2F p d nx) zs σ') ?_ (xs.length+1) ⟨0,g0,σ0,#[],[],rfl,Nat.zero_le _,.refl _,R0,hst,fun b h=>(X.out b h).2,hL,rfl,e⟩ (fun v=>rfl)
 rintro m s ⟨i,g,σ,items,ys,hm,hi,l0,R1,hsti,hro,hpl,hys,ei⟩
 have hLw:La∉wr:=fun h=>X.Lf (W.sub _ h)
 rcases Nat.eq_or_lt_of_le hi with rfl | hlt
 ·rw[List.drop_length] at ei
  cases ei
  exact wpAny_with_toks (Nat.le_refl s.toks) (W.done s _ _ hsti fun h' tk hk htk=>⟨g,items,rfl,l0,R1.but (wr:=wr) hk fun b hb=>⟨(X.out b (X.hw b hb)).1,hro b (X.hw b hb)⟩,hro,hpl.at fun o ho=>hk La o hLw ho,hys⟩)
 ·have hlen:=A8f ei
  rw[List.drop_eq_getElem_cons hlt] at ei
  refine b2 ei fun bv σ1 e1 ei => ?_
  refine wpAny_with_toks (Nat.le_refl s.toks) (hitm i s _ _ hlt hsti fun v h0 tk hMd hTk hk0 htk => ?_)
  show wpAny _ _ (letOwnedTupleGo (.Name x px) (.ref I) v >>= fun _=>assign (.Name x px) cenv v) _ _ _
  refine wpAny_bind (W.go i v _ _ _ hMd fun h1 hP hst2 hk2 => ?_)
  have hk1:∀ b o,b∉wr→s.heap.get? b=some o→h1.get? b=some o:=fun b o hb ho=>hk2 b o hb (hk0 b o hb ho)
  have hpl2:h1.PlainList La items:=hpl.at fun o ho=>hk1 La o hLw ho
  obtain⟨lr,R2⟩:=(R1.but (h':=h1) (tk:=tk) (wr:=wr) hk1 fun b hb=>⟨(X.out b (X.hw b hb)).1,hro b (X.hw b hb)⟩).at (n:=tk) (Nat.le_trans R1.tk.2 htk) (Nat.le_refl _)
  have l0r:=l0.trans lr
  have hf:∀ b o,tpf tp h1 b=some o→h1.get? b=some o∧C.hb.get? b=none∧(g.at tk).role b=none:=fun b o h=>iN h fun q h=>⟨h,(X.out b q).1,hro b q⟩
  obtain⟨lv,Rc⟩:=R2.cover hf
  refine ht A hA.handled _ _ _ _ _ _ _ _ Rc (hit i v h1 _ _ _ (List.getElem?_eq_getElem hlt) hP hTk (Nat.le_trans R1.tk.1 R1.tk.2) _ (l0r.v.trans lv) lv.tk) rfl fun s3 R3 => ?_
  refine hp.use hA R3 e1 fun g4 s4 l4 R4 => ?_
  cases m with
  | zero=>exact absurd hm (Nat.ne_of_lt (by rw[Nat.zero_add];exact Nat.lt_succ_of_le hi))
  | succ m=>
   have hm:m+(i+1)=xs.length+1:=(Nat.succ_add m i).symm.trans hm
   cases bv with
   | false=>
    refine A2c (R4.uncover (g:=g.at tk) (fun b o h=>(hf b o h).2.2) l4) fun lg lv4 R5 hk hn => ?_
    exact⟨m,Nat.lt_succ_self m,i+1,_,σ1,items,ys,hm,hlt,l0r.trans lg,R5,W.frame _ _ _ hst2 (X.frame l0r R2 (l0r.trans lg) R5 hk),X.none (hex _ _ hst2) hpl2 hn,hpl2.at fun o ho=>hk La o ((if_pos X.Lt).trans ho),F5 (lr.trans lg) _ _ hys,ei⟩
   | true=>
    refine b2 ei fun v2 σ2 e2 ei => ?_
    refine b2 ei fun y σ3 e3 ei => ?_
    refine hd.use hA R4 e2 fun g6 w s6 l6 R6 V6 => ?_
    refine ToT.elim (R6.toT V6 e3) fun g7 l7 R7 T7 => ?_
    refine A2c (R7.uncover (g:=g.at tk) (fun b o h=>(hf b o h).2.2) ((l4.trans l6).trans l7)) fun lg lv4 R8 hk hn => ?_
    have tpn:=X.none (hex _ _ hst2) hpl2 hn
    refine wpAny_list_append_plain (hsz:=by rw[← Array.length_toList,hys.length];exact D3 (Nat.lt_of_le_of_lt hlen hz)) (hpl2.at fun o ho=>hk La o ((if_pos X.Lt).trans ho):s6.heap.PlainList La items) fun h9 hpl9 hs9 => ?_
    refine⟨m,Nat.lt_succ_self m,i+1,_,σ3,_,ys++[y],hm,hlt,l0r.trans lg,R8.but (wr:=[La]) (h':=h9) (tk:=s6.toks) (fun b o hb ho=>(hs9.2 b fun q=>hb (List.mem_singleton.mpr q)).trans ho) (fun b hb=>by rw[List.mem_singleton.mp hb];exact⟨(X.out _ X.Lt).1,tpn _ X.Lt⟩),W.frame _ _ _ hst2 (fun b hb o ho => ?_),tpn,hpl9,?_,ei⟩
    ·exact(hs9.2 b (by rintro rfl;exact X.Lf hb)).trans (X.frame l0r R2 (l0r.trans lg) R8 hk b hb o ho)
    ·rw[Array.toList_push]
     exact(F5 (lr.trans lg) _ _ hys).append (.one (H3 lv4 _ _ T7))
end
end
section
theorem A5o{M:Model}{A:Around}{E:Value→Shared→Prop}{s:Shared}{globals:Addr}{cl:List (Str×Addr)}{qual:Str}{outer:Env}{Q:Env→Shared→Prop}(h:Q { scope:=scope,locals:=s.heap.objs.size,globals:=globals,cells:=cellsFrom (s.heap.objs.size+1) scope.names cl,qual:=qual,func:=none,code:=outer.code,frame:=outer.frame,builtins:=outer.builtins }
   { s with heap:=pushCells (s.heap.push { cls:=.type "dict", data:=.dict #[] }) scope.names }):
  wpAny M A (newFunctionEnv scope globals cl [] qual none .none (some outer)) Q E s:=by
 simp only[newFunctionEnv,Option.isSome_some,if_true]
 refine wpAny_bind (wpAny_alloc ?_)
 refine wpAny_bind (wpAny_layCells _ (fun name kind cells=>by cases hkc:kind==NameKind.cell <;> simp [hkc]) _ _ _ _ ?_)
 rw[show ({ s with heap:=s.heap.push { cls:=.type "dict", data:=.dict #[] } }:Shared).heap.objs.size=s.heap.objs.size+1 from Heap.size_push ..]
 refine wpAny_bind ?_
 rw[List.forIn_nil]
 exact wpAny_pure (wpAny_pure h)
structure Own(scope:Scope)(x:Str)(cl:List (Str×Addr))(m:Nat)(ls:Addr→List Loc)(cs:Addr→List (Str×Addr)):Prop where
 cells:∀ n,cellsFrom (n+1) scope.names cl=cs n
 push:(∀ h:Heap,pushCells h scope.names=h)∧(ls=fun L=>[.fr L x])∧m=1∨(∀ h:Heap,pushCells h scope.names=h.push { cls:=.type "cell", data:=.cell none })∧(ls=fun L=>[.fr L x,.cl (L+1)])∧m=2
noncomputable def E3(m:Nat)(itf:T→Option (List T))(a:D)(p:DB)(d:D):D:=fun σ=>(a σ).bind fun q=>(view q.2 q.1).bind fun x=>(itf x).bind fun xs=>
 (A2F p d (q.2.loc.length+(m - 1)) xs ⟨(lockV q.1 q.2).loc++List.replicate m none,(lockV q.1 q.2).objs⟩ []).bind fun r=>if r.1.length<1000 then (L4 q.1 q.2 ⟨r.2.loc.take q.2.loc.length,r.2.objs⟩).bind fun σ3=>some (.t (.lst r.1),σ3) else none
theorem A78{v:V}:(lockV v σ).loc=σ.loc:=by cases v <;> rfl
theorem A5R{w:V}{σ6 σ7:St}(h:L4 w σ1 σ6=some σ7):σ7.loc=σ6.loc∧∀ l,L4 w σ1 ⟨l,σ6.objs⟩=some ⟨l,σ7.objs⟩:=by
 cases w with
 | t y=>cases h;exact⟨rfl,fun l=>rfl⟩
 | obj _ _ _=>cases h;exact⟨rfl,fun l=>rfl⟩
 | ref i=>
  refine b1 h fun o q h => ?_
  refine b1 h fun o' q' h => ?_
  refine b1 h fun u q2 h => ?_
  cases h
  refine⟨rfl,fun l => ?_⟩
  show (σ1.objs[i]?).bind _=_
  rw[q]
  show (σ6.objs[i]?).bind _=_
  rw[q']
  show (B1G o').bind _=_
  rw[q2];rfl
section
variable{a:D}{p:DB}{d:D}
theorem A9g{L:Addr}(e:h.get? L=some { cls:=.type "dict", data:=.dict #[] }):h.Ns L (fun _=>none):=by
 have:=Heap.Ns.new h (.type "dict")
 refine B5E (this) fun o es ep h1 h2 => ?_
 have h3:(Heap.push h { cls:=.type "dict", data:=.dict #[] }).get? h.objs.size=some { cls:=.type "dict", data:=.dict #[] }:=Heap.get?_push_size _ rfl
 rw[h3] at h1
 cases h1
 exact⟨_,es,ep,e,h2⟩
noncomputable abbrev P2(scope:Scope)(env:Env)(cs:Addr→List (Str×Addr))(L:Addr):Env:={ scope:=relabel scope env,locals:=L,globals:=env.globals,cells:=cs L,qual:=env.qual,func:=none,code:=env.code,frame:=env.frame,builtins:=env.builtins }
inductive B3B(C:Cx)(ly ls:List Loc)(m:Nat)(x:Str)(names:List (Str×NameKind))(g:G)(σ:St)(s:Shared):Prop
 | mk (g1:G) (le:g.le g1) (low:∀ b,g.role b=none→b<s.heap.objs.size→g1.role b=none) (hls:∀ l∈ls,g.role l.addr=none) (r:List Loc) (hfr:ls=.fr s.heap.objs.size x::r)
  (kp:∀ b o,s.heap.get? b=some o→(pushCells (s.heap.push { cls:=.type "dict", data:=.dict #[] }) names).get? b=some o)
  (R:Rel C (ly++ls) g1 ⟨σ.loc++List.replicate m none,σ.objs⟩ { s with heap:=pushCells (s.heap.push { cls:=.type "dict", data:=.dict #[] }) names })
theorem A3Q{a b:Addr}{r:Role}(h:b<a)(hb:g.role b=none):(g.put a r).role b=none:=(if_neg (Nat.ne_of_lt h)).trans hb
theorem A6A{s:Shared}(R:Rel C ly g σ s){x:Str}{cl:List (Str×Addr)}{ls:Addr→List Loc}{cs:Addr→List (Str×Addr)}(own:Own scope x cl m ls cs):B3B C ly (ls s.heap.objs.size) m x scope.names g σ s:=by
 have hr:=R.none_above (Nat.le_refl s.heap.objs.size)
 have hget:(s.heap.push { cls:=.type "dict", data:=.dict #[] }).get? s.heap.objs.size=some { cls:=.type "dict", data:=.dict #[] }:=Heap.get?_push_size _ rfl
 have R2:=(R.grow (Grow.push_ (g:=g) (s:=s) (o:={ cls:=.type "dict", data:=.dict #[] }) (t:=s.toks))).addSlot (l:=.fr s.heap.objs.size x) (D6 R.old B3) hr ⟨_,hget⟩ ⟨if_pos rfl,_,A9g hget,rfl⟩
 have lv:g.le (g.put s.heap.objs.size .frame):=m9 hr
 rcases own.push with ⟨h1,rfl,rfl⟩|⟨h1,rfl,rfl⟩
 ·exact⟨_,lv,fun b hb hlt=>A3Q hlt hb,fun l hl=>by rw[List.mem_singleton.mp hl];exact hr,[],rfl,fun b o e=>by rw[h1];exact Heap.get?_push_of_some _ e,by rw[h1];exact R2⟩
 ·have hsz:(s.heap.push { cls:=.type "dict", data:=.dict #[] }).objs.size=s.heap.objs.size+1:=Heap.size_push ..
  have hr3:=R2.none_above (a:=s.heap.objs.size+1) (Nat.le_of_eq hsz)
  have hget3:((s.heap.push { cls:=.type "dict", data:=.dict #[] }).push { cls:=.type "cell", data:=.cell none }).get? (s.heap.objs.size+1)=some { cls:=.type "cell", data:=.cell none }:=by
   rw[← hsz];exact Heap.get?_push_size _ rfl
  have R3:=(R2.grow (Grow.push_ (o:={ cls:=.type "cell", data:=.cell none }) (t:=s.toks))).addSlot (l:=.cl (s.heap.objs.size+1)) (D6 R2.old (Heap.get?_none_of_le (Nat.le_of_eq hsz)):C.hb.get? (s.heap.objs.size+1)=none) hr3 ⟨_,hget3⟩ ⟨if_pos rfl,none,⟨_,hget3,rfl⟩,rfl⟩
  refine⟨_,lv.trans (m9 (r0:=.cell) hr3),fun b hb hlt=>A3Q (Nat.lt_succ_of_lt hlt) (A3Q hlt hb),fun l hl => ?_,_,rfl,fun b o e=>by rw[h1];exact Heap.get?_push_of_some _ (Heap.get?_push_of_some _ e),?_⟩
  ·rcases List.mem_cons.mp hl with rfl | hl
   ·exact hr
   ·rw[List.mem_singleton.mp hl];exact R.none_above (Nat.le_succ _)
  ·rw[h1]
   rw[List.append_assoc,List.append_assoc] at R3
   exact R3
structure B3d(C:Cx)(ly ls:List Loc)(L:Addr)(g g6:G)(un:St→Option St):Prop where
 ns:∀ σ6 s6,Rel C (ly++ls) g6 σ6 s6→∃ m,s6.heap.Ns L m
 back:∀ σ6 s6,Rel C (ly++ls) g6 σ6 s6→∀ h',Heap.SameBut L s6.heap h'→∀ σ7,un ⟨σ6.loc.take ly.length,σ6.objs⟩=some σ7→∃ g7,g.le g7∧g6.lev g7∧Rel C ly g7 σ7 { s6 with heap:=h' }
theorem A6B{g6:G}{σL:St}{w:V}{s1 s3:Shared}(l1:g.le g1)(Lk:A6L C ly g1 g2 σ1 σL w s1)(R3:Rel C ly g2 σL s3){L:Addr}{x:Str}{r:List Loc}(hfr:ls=.fr L x::r)(hls:∀ l∈ls,g2.role l.addr=none)(hb:C.hb.get? L=none)(l6:g2.le g6):B3d C ly ls L g g6 (L4 w σ1) where
 ns:=fun σ6 s6 R7=>by
  have hi:(ly++ls)[ly.length]?=some (.fr L x):=by rw[List.getElem?_append_right (Nat.le_refl _),Nat.sub_self,hfr];rfl
  have hl:ly.length<σ6.loc.length:=by rw[R7.len];exact(List.getElem?_eq_some_iff.mp hi).1
  refine N4 (R7.slot _ _ _ hi (List.getElem?_eq_getElem hl)) fun _ m hm _ => ?_
  exact⟨m,hm⟩
 back:=fun σ6 s6 R7 h' hs' σ7 hu=>by
  have hr7:∀ a∈ls.map Loc.addr,∀ r,g6.role a=some r→A5N r:=fun a ha r hr=>by
   refine I7 (List.mem_map.mp ha) fun l hl e => ?_
   obtain⟨j,hj⟩:=List.getElem?_of_mem (List.mem_append_right ly hl)
   rw[← e,R7.loc hj] at hr
   cases hr
   cases l <;> trivial
  have hly:∀ l∈ly,l.addr∉ls.map Loc.addr:=fun l hl hm=>by
   refine I7 (List.mem_map.mp hm) fun l' hl' e => ?_
   obtain⟨j,hj⟩:=List.getElem?_of_mem hl
   have h1:=hls l' hl'
   rw[e,R3.loc hj] at h1
   exact nomatch h1
  have hLm:L∈ls.map Loc.addr:=List.mem_map.mpr ⟨_,by rw[hfr];exact List.mem_cons_self ..,rfl⟩
  have l8:=A7E (as:=ls.map Loc.addr) (fun a ha=>by obtain⟨l,hl,rfl⟩:=List.mem_map.mp ha;exact hls l hl) l6
  refine q8 (Lk.back _ _ _ _ l8 ((R7.drop hr7 hly).but (wr:=[L]) (h':=h') (tk:=s6.toks) (fun b o hb ho=>(hs'.2 b fun q=>hb (List.mem_singleton.mpr q)).trans ho) fun b hb'=>by rw[List.mem_singleton.mp hb'];exact⟨hb,if_pos hLm⟩) hu) fun g9 a1 a2 a3 => ?_
  exact⟨g9,l1.trans a1,⟨a2.own,fun a o h=>a2.frz a o ((A17 hr7).frz a o h),a2.tk⟩,a3⟩
theorem B02(hA:Room k A){iter:Expr}{x:Str}{pos:Pos}{scope:Scope}{nx:Nat}{I La L:Addr}{tp:List Addr}{xs:List T}{P Mid:Nat→Value→Heap→Prop}{Tk:Nat→Value→Nat→Prop}{St:Nat→Heap→Prop}(W:KTurns C.prog C.w A (.Name x px) I fp wr xs.length P Mid St)(hex:∀ i h,St i h→∀ b∈fp,∃ o,h.get? b=some o)(ht:Tg C (ly++ls) cenv (.Name x px) true (tN nx))(hp:SB C k (ly++ls) (S8 ifs cenv) p)(hd:Sd C k (ly++ls) (eval elt cenv) d)(hitm:∀ i (s:Shared) (Q:Option Value→Shared→Prop) (E:Value→Shared→Prop),i<xs.length→St i s.heap→(∀ v h' tk,Mid i v h'→Tk s.toks v tk→(∀ b o,b∉wr→s.heap.get? b=some o→h'.get? b=some o)→Q (some v) { s with heap:=h',toks:=tk })→wpAny (model C.prog C.w) A (pyNext (.ref I)) Q E s){g2 g4:G}(l4:g2.le g4)(hit:∀ i v h x t0 t1,xs[i]?=some x→P i v h→Tk t0 v t1→C.lo≤t0→∀ g',g2.lev g'→t1≤g'.tk→B3A C g' h true x v){σ4:Mine.St}{s4:Shared}(R4:Rel C (ly++ls) g4 σ4 s4)(hst:St 0 s4.heap)(X:Tmp C g4 fp wr tp La)(hL:s4.heap.PlainList La #[]){zs:List T}{σ2:Mine.St}(hz:zs.length<1000)(e:A2F p d nx xs σ4 []=some (zs,σ2)){use:Option (Value→Sem Unit)}(hQ:∀ g6 s5,g2.le g6→Rel C (ly++ls) g6 σ2 s5→RelV C g6 (.t (.lst zs)) (.ref La)→compPost (Md C) A E use Q (.ref La) L (.ok .next) s5):
  codeAny (Md C) A (.compLoop (.ListComp elt [⟨.Name x px,iter,ifs,0⟩] scope pos) 0 (.ref I) (.ref La) cenv) (compPost (Md C) A E use Q (.ref La) L) s4:=by
 refine codeAny_mono (B01 hA W hex ht hp hd hitm (g0:=g4) (fun i v h x t0 t1 hx hP hT h0 g' lg h1=>hit i v h x t0 t1 hx hP hT h0 g' (l4.v.trans lg) h1) R4 hst X hL hz e) ?_
 rintro rr s5 ⟨g5,items,rfl,l5,R5,hn5,⟨nn,hp5⟩,T5⟩
 obtain⟨l6,R6⟩:=R5.name (X.out _ X.Lt).1 (hn5 _ X.Lt) hp5
 exact hQ _ _ ((l4.trans l5).trans l6) R6 (.lst G.put_fz (F5 l6 _ _ T5))
theorem B3p{g4:G}{s1 s2:Shared}(R:Rel C ly g2 σ s1)(l4:g2.le g4)(hLa:s2.heap.objs.size=La)(h12:∀ b o,s1.heap.get? b=some o→s2.heap.get? b=some o)(low:∀ b,g2.role b=none→b<La+1→g4.role b=none)(rLa:g2.role La=none)(nb:C.hb.get? La=none)(hex:∀ b∈fp,∃ o,s2.heap.get? b=some o)(hsub:∀ b∈wr,b∈fp)(hwr:∀ b∈wr,s1.heap.get? b=none)(hfp:∀ b∈fp,s1.heap.get? b=none∨∃ o,g2.hz C b o):Tmp C g4 fp wr (La::fp.filter fun b=>(s1.heap.get? b).isNone) La:=by
 have fpl:∀ b∈fp,b<La:=fun b hb=>by obtain⟨o,ho⟩:=hex b hb;exact hLa▸Heap.lt_size ho
 have mf:∀ b∈fp,s1.heap.get? b=none→b∈La::fp.filter fun b=>(s1.heap.get? b).isNone:=fun b hb h=>List.mem_cons_of_mem _ (List.mem_filter.mpr ⟨hb,Option.isNone_iff_eq_none.mpr h⟩)
 refine⟨fun b hb => ?_,fun b hb => ?_,fun b hb=>mf b (hsub b hb) (hwr b hb),fun b hb=>(hfp b hb).imp (mf b hb) fun ⟨o,h⟩=>⟨o,l4.hz h⟩,List.mem_cons_self ..,fun h=>Nat.lt_irrefl _ (fpl _ h)⟩
 ·rcases List.mem_cons.mp hb with rfl | h
  ·exact⟨nb,low _ rLa (Nat.lt_succ_self _)⟩
  ·have h:=List.mem_filter.mp h
   have hn:=Option.isNone_iff_eq_none.mp h.2
   exact⟨D6 R.old hn,low _ (R.none_role hn) (Nat.lt_succ_of_lt (fpl b h.1))⟩
 ·rcases List.mem_cons.mp hb with h | h
  ·exact .inr h
  ·exact .inl (List.mem_filter.mp h).1
theorem A3B(hA:Room k A)(B:Base C){x:Str}{cpos:Pos}{cl:List (Str×Addr)}{ls:Addr→List Loc}{cs:Addr→List (Str×Addr)}(own:Own scope x cl m ls cs){itf:T→Option (List T)}(ha:SE C k env ly iter a)(hclos:closureFor scope env=pure cl)(hkind:scope.kind=.function)(hnames:∀ y∈scope.names,y.2=.local→scope.names.lookup y.1=some .local)(hit:∀ (A:Around) (g:G) (σ:St) (s:Shared) (u:Value) (y:T) (xs:List T),A.handled=none→Rel C ly g σ s→A6K C g y u→itf y=some xs→wpAny (Md C) A (pyIter u) (fun it s'=>A0f C A (.Name x px) g s true xs it s') X4 s)(ht:∀ L,Tg C (ly++ls L) (P2 scope env cs L) (.Name x px) true (tN (ly.length+(m - 1))))(hp:∀ L,SB C k (ly++ls L) (S8 ifs (P2 scope env cs L)) p)(hd:∀ L,Sd C k (ly++ls L) (eval elt (P2 scope env cs L)) d)(hs:∀ y,foldedSetIterable iter env y=pure y){s:Shared}{v:V}(R:Rel C ly g σ s)(e:E3 m itf a p d σ=some (v,σ')){use:Option (Value→Sem Unit)}(hQ:∀ (L La:Addr) (g6:G) (σ5:St) (s5:Shared) (w:V) (σ1:St),Rel C (ly++ls L) g6 σ5 s5→RelV C g6 v (.ref La)→L4 w σ1 ⟨σ5.loc.take ly.length,σ5.objs⟩=some σ'→B3d C ly (ls L) L g g6 (L4 w σ1)→compPost (Md C) A E use Q (.ref La) L (.ok .next) s5):
  wpAny (Md C) A (comprehension (.ListComp elt [⟨.Name x px,iter,ifs,0⟩] scope pos) scope env cpos (newList []) false (eval iter env) use) Q E s:=by
 refine b2 e fun w σ1 e1 e => ?_
 refine b1 e fun y e2 e => ?_
 refine b1 e fun xs e3 e => ?_
 refine b2 e fun zs σ2 e4 e => ?_
 refine iN e fun hz e => ?_
 refine b1 e fun σ3 e5 e => ?_
 cases e
 refine wpAny_comprehension_free (g:=⟨.Name x px,iter,ifs,0⟩) (gs:=[]) rfl hs hclos hkind hnames (ha.use hA R e1 fun g1 u s1 l1 R1 V1 => ?_)
 refine I7 (R1.lockV B V1 e2) fun g2 Lk K => ?_
 refine wpAny_mono (hit A g2 _ s1 u y xs hA.handled Lk.rel K e3) (fun it s2 hI => ?_) fun _ _ x=>x.elim
 obtain⟨I,fp,wr,n,P,Mid,Tk,St,rfl,rfl,W,hst,hG,hwr,hfp,hex,hself,hnx,hitm⟩:=hI
 refine wpAny_newObj_type ?_
 have R3:=(Lk.rel.grow hG).grow (Grow.push_ (g:=g2) (s:=s2) (o:=seqObj "list" #[] 0) (t:=s2.toks))
 obtain⟨g4,l4,low,hls,r,hfr,kp,R4⟩:=A6A R3 own
 refine A5o ?_
 rw[own.cells]
 have R2:=Lk.rel.grow hG
 have nb:C.hb.get? s2.heap.objs.size=none:=D6 R2.old B3
 have hsz:(s2.heap.push (seqObj "list" #[] 0)).objs.size=s2.heap.objs.size+1:=Heap.size_push ..
 have hst4:=W.frame 0 _ _ hst fun b _ o h=>kp _ _ (Heap.get?_push_of_some (seqObj "list" #[] 0) h)
 have hl:(Mine.lockV w σ1).loc=σ1.loc:=A78
 have run:=B02 (iter:=iter) (pos:=pos) (scope:=scope) (use:=use) (Q:=Q) (E:=E) (L:=(s2.heap.push (seqObj "list" #[] 0)).objs.size) hA W hex (ht _) (hp _) (hd _) hnx l4 hitm R4 hst4
  (B3p Lk.rel l4 rfl hG.heap (fun b h1 h2=>low b h1 (hsz.symm▸h2)) (R2.none_above (Nat.le_refl _)) nb (hex _ _ hst) W.sub hwr hfp) ⟨0,kp _ _ (Heap.get?_push_size (h:=s2.heap) (o:=seqObj "list" #[] 0) rfl)⟩ hz (by rw[← R1.len];exact e4)
  fun g6 s5 l6 R6 V6=>hQ _ _ _ _ _ w σ1 R6 V6 (by rw[← R1.len];exact e5) (A6B l1 Lk R3 hfr hls (D6 R3.old B3) l6)
 exact codeAny_compStart_list run (hself rfl 0 _ _ _ hst4 run)
theorem L6{itf:T→Option (List T)}(B:Base C)(hi:A8m C itf){x:Str}{cl:List (Str×Addr)}{ls:Addr→List Loc}{cs:Addr→List (Str×Addr)}(own:Own scope x cl m ls cs)(ha:SE C k env ly iter a)(hclos:closureFor scope env=pure cl)(hkind:scope.kind=.function)(hnames:∀ y∈scope.names,y.2=.local→scope.names.lookup y.1=some .local)(hx:∀ L,Bnd (P2 scope env cs L) (ly++ls L) x (ly.length+(m - 1)))(hp:∀ L,SB C k (ly++ls L) (S8 ifs (P2 scope env cs L)) p)(hd:∀ L,SE C k (P2 scope env cs L) (ly++ls L) elt d)(hs:∀ y,foldedSetIterable iter env y=pure y):SE C k env ly (.ListComp elt [⟨.Name x px,iter,ifs,0⟩] scope pos) (E3 m itf a p d):=fun A hA g σ s v σ' R e=>by
 rw[eval_ListComp]
 refine A3B hA B own ha hclos hkind hnames (fun A g σ s u y xs hh R K e=>A0N (hi _ _ e).2 hh R K (hi _ _ e).1 fun it v=>rfl) (fun L=>A08 (hx L)) hp hd hs R e ?_
 intro L La g6 σ5 s5 w σ1 R6 V6 hu cl
 obtain⟨m,hm⟩:=cl.ns _ _ R6
 refine⟨m,hm,fun h' hs' => ?_⟩
 refine q8 (cl.back _ _ R6 h' hs' _ hu) fun g7 l7 lv R7 => ?_
 exact⟨g7,l7,R7,J6 lv _ _ V6⟩
theorem Bnd.more{y:Str}{i:Nat}(h:Bnd env ly y i):Bnd env (ly++ls) y i:=by
 refine B3g (h) fun h1 h2 h3 h => ?_
 have up:∀ l,ly[i]?=some l→(ly++ls)[i]?=some l:=fun l e=>(List.getElem?_append_left (List.getElem?_eq_some_iff.mp e).1).trans e
 exact⟨h1,h2,h3,h.imp (fun h=>⟨up _ h.1,h.2⟩) fun ⟨c,h⟩=>⟨c,up _ h.1,h.2⟩⟩
theorem A0k{itf:T→Option (List T)}(B:Base C)(hi:A8m C itf){x y:Str}{i:Nat}{py spos:Pos}{cl:List (Str×Addr)}{ls:Addr→List Loc}{cs:Addr→List (Str×Addr)}(own:Own scope x cl m ls cs)(hy:Bnd env ly y i)(hsw:swapsWith (.ListComp elt [⟨.Name x px,iter,ifs,0⟩] scope pos) (some (.Name y py)) spos.line env=pure true)(ha:SE C k env ly iter a)(hclos:closureFor scope env=pure cl)(hkind:scope.kind=.function)(hnames:∀ y∈scope.names,y.2=.local→scope.names.lookup y.1=some .local)(hx:∀ L,Bnd (P2 scope env cs L) (ly++ls L) x (ly.length+(m - 1)))(hp:∀ L,SB C k (ly++ls L) (S8 ifs (P2 scope env cs L)) p)(hd:∀ L,SE C k (P2 scope env cs L) (ly++ls L) elt d)(hs:∀ y,foldedSetIterable iter env y=pure y)(hA:Room k A){s:Shared}{f:Fl}(R:Rel C ly g σ s)(e0:B9 i (E3 m itf a p d) σ=some (f,σ')):
  wpAny (Md C) A (exec (.Assign [.Name y py] (.ListComp elt [⟨.Name x px,iter,ifs,0⟩] scope pos) spos) env) (fun fl s'=>Es C ly g σ' f fl s'∧(env.kindOf y=some .local→0<s'.toks)) X4 s:=by
 refine b2 e0 fun v σ1 e e' => ?_
 (first | refine s2 e' ?_ | refine s1 e' ?_ | cases e')
 rw[exec_Assign_Name_used _ _ _ _ hsw]
 refine wpAny_bind (wpAny_standAt (wpAny_bind ?_))
 show wpAny _ A (do let _ ← comprehension (.ListComp elt [⟨.Name x px,iter,ifs,0⟩] scope pos) scope env _ (newList []) false (eval iter env) (some (assign (.Name y py) env))) _ _ s
 refine wpAny_bind (wpAny_mono (A3B hA B own ha hclos hkind hnames (fun A g σ s u y xs hh R K e=>A0N (hi _ _ e).2 hh R K (hi _ _ e).1 fun it v=>rfl) (fun L=>A08 (hx L)) hp hd hs R e (use:=some (assign (.Name y py) env))
  (Q:=fun _ s'=>Es C ly g ⟨σ1.loc.set i (some v),σ1.objs⟩ .next .next s'∧(env.kindOf y=some .local→0<s'.toks)) (E:=X4) ?_) (fun _ s' h=>wpAny_pure (wpAny_pure h)) fun _ _ x=>x)
 intro L La g6 σ5 s5 w σ0 R6 V6 hu cl
 refine assign_Name (A1P (k:=0) (hy.more (ls:=ls L)) R6 V6 fun s6 R7 hpos => ?_)
 obtain⟨m,hm⟩:=cl.ns _ _ R7
 refine⟨m,hm,fun h' hs' => ?_⟩
 obtain⟨q1,q2⟩:=A5R hu
 have q3:(σ5.loc.set i (some v)).take ly.length=σ1.loc.set i (some v):=by
  have q1:σ1.loc=σ5.loc.take ly.length:=q1
  rw[q1,List.take_set]
 obtain⟨g7,l7,lv,R8⟩:=cl.back _ _ R7 h' hs' ⟨σ1.loc.set i (some v),σ1.objs⟩ (by
  simp only[q3]
  exact q2 _)
 exact⟨⟨g7,l7,R8,rfl⟩,hpos⟩
theorem Q6{itf:T→Option (List T)}(B:Base C)(hi:A8m C itf){x y:Str}{i:Nat}{py spos:Pos}{cl:List (Str×Addr)}{ls:Addr→List Loc}{cs:Addr→List (Str×Addr)}(own:Own scope x cl m ls cs)(hy:Bnd env ly y i)(hsw:swapsWith (.ListComp elt [⟨.Name x px,iter,ifs,0⟩] scope pos) (some (.Name y py)) spos.line env=pure true)(ha:SE C k env ly iter a)(hclos:closureFor scope env=pure cl)(hkind:scope.kind=.function)(hnames:∀ y∈scope.names,y.2=.local→scope.names.lookup y.1=some .local)(hx:∀ L,Bnd (P2 scope env cs L) (ly++ls L) x (ly.length+(m - 1)))(hp:∀ L,SB C k (ly++ls L) (S8 ifs (P2 scope env cs L)) p)(hd:∀ L,SE C k (P2 scope env cs L) (ly++ls L) elt d)(hs:∀ y,foldedSetIterable iter env y=pure y):S1 C k env ly (.Assign [.Name y py] (.ListComp elt [⟨.Name x px,iter,ifs,0⟩] scope pos) spos) (B9 i (E3 m itf a p d)):=fun A hA g σ s f σ' R e0=>wpAny_mono (A0k B hi own hy hsw ha hclos hkind hnames hx hp hd hs hA R e0) (fun _ _ x=>x.1) fun _ _ x=>x
end
end
section
mutual
theorem A4K(h:∀ a o,g.role a=some (.frz o)→g'.role a=some (.frz o))(ht:g.tk≤g'.tk):∀ (x:T) (v:Value),RelT C g x v→RelT C g' x v
 | .none,v,r=>r
 | .bool b,v,r=>r
 | .int i,v,r=>r
 | .str s,v,r=>r
 | .ch s,v,⟨t,e,h1,h2⟩=>⟨t,e,h1,Nat.lt_of_lt_of_le h2 ht⟩
 | .cst c,v,r=>r
 | .tup xs,v,⟨a,items,n,e,z,r⟩=>⟨a,items,n,e,z.imp id (h _ _),relTs_frz h ht xs _ r⟩
 | .lst xs,v,⟨a,items,n,e,z,r⟩=>⟨a,items,n,e,z.imp id (h _ _),relTs_frz h ht xs _ r⟩
 | .ds ks xs,v,⟨a,o,kvs,e,z,d,k,r⟩=>⟨a,o,kvs,e,h _ _ z,d,k,relTs_frz h ht xs _ r⟩
 | .di ks xs,v,⟨a,o,kvs,e,z,d,k,r⟩=>⟨a,o,kvs,e,h _ _ z,d,k,relTs_frz h ht xs _ r⟩
 | .rng a b,v,⟨r,t,u,w,e,z⟩=>⟨r,t,u,w,e,h _ _ z⟩
 | .itv ks xs,v,⟨r,a,o,kvs,e,z',z,d,k,q⟩=>⟨r,a,o,kvs,e,h _ _ z',h _ _ z,d,k,relTs_frz h ht xs _ q⟩
theorem relTs_frz(h:∀ a o,g.role a=some (.frz o)→g'.role a=some (.frz o))(ht:g.tk≤g'.tk):∀ (x:List T) (v:List Value),RelTs C g x v→RelTs C g' x v
 | [],_,r=>r
 | x::xs,_,⟨v,vs,e,r,rs⟩=>⟨v,vs,e,A4K h ht x v r,relTs_frz h ht xs vs rs⟩
end
theorem A9N(h:∀ a o,g.role a=some (.frz o)→g'.role a=some (.frz o))(ht:g.tk≤g'.tk):∀ (x:AO) (o:Obj),p8 C g x o→p8 C g' x o
 | .lst xs,o,⟨items,n,d,r⟩=>⟨items,n,d,relTs_frz h ht xs _ r⟩
 | .ds ks xs,o,⟨kvs,d,k,r⟩=>⟨kvs,d,k,relTs_frz h ht xs _ r⟩
 | .di ks xs,o,⟨kvs,d,k,r⟩=>⟨kvs,d,k,relTs_frz h ht xs _ r⟩
 | .gone,_,r=>r
theorem A7i(h:∀ a o,g.role a=some (.frz o)→g'.role a=some (.frz o)){q:Str}(x:A2L C g pos q ps):A2L C g' pos q ps:=
 ⟨x.1,x.2.imp id fun ⟨c,o,vs,t,e,z,r⟩=>⟨c,o,vs,t,e,z.imp id (h _ _),r⟩⟩
noncomputable def Laid(C:Cx)(g:G)(s:Shared)(h:Heap)(l:Loc)(v:Option V):Prop:=s.heap.get? l.addr=none∧match l with
 | .fr L x=>∃ m,h.Ns L m∧L3 C g v (m x)
 | .cl c=>∃ ov,h.IsCell c ov∧L3 C g v ov
section
variable{ly':List Loc}{s s2:Shared}
noncomputable def G.enter(g:G)(ly ly':List Loc)(h:Heap):G:=⟨g.own,fun a=>match ly'.find? (fun l=>l.addr==a) with
 | some l=>some l.rl
 | none=>if a∈ly.map Loc.addr then (h.get? a).map .kept else g.role a,g.tk⟩
theorem Laid.rl{l l':Loc}{v v':Option V}(x:Laid C g s h l v)(x':Laid C g s h l' v')(e:l.addr=l'.addr):l.rl=l'.rl:=by
 cases l <;> cases l'
 ·rfl
 ·obtain⟨_,m,⟨o,es,ep,h1,h2,_⟩,_⟩:=x
  obtain⟨_,ov,⟨o',h3,h4⟩,_⟩:=x'
  have e:_=_:=e
  simp only[Loc.addr] at e
  subst e
  rw[h1] at h3;cases h3
  rw[h2] at h4;cases h4
 ·obtain⟨_,m,⟨o,es,ep,h1,h2,_⟩,_⟩:=x'
  obtain⟨_,ov,⟨o',h3,h4⟩,_⟩:=x
  have e:_=_:=e
  simp only[Loc.addr] at e
  subst e
  rw[h1] at h3;cases h3
  rw[h2] at h4;cases h4
 ·rfl
theorem Rel.enter(R:Rel C ly g σ s){loc':List (Option V)}(hk:∀ b o,s.heap.get? b=some o→h'.get? b=some o)(hlen:loc'.length=ly'.length)(hnd:ly'.Nodup)(hl:∀ (i:Nat) l v,ly'[i]?=some l→loc'[i]?=some v→Laid C g s h' l v)(ht:s.toks≤tk:=by first | exact Nat.le_refl _ | exact Nat.le_succ _ | exact Nat.le_add_right _ _ | assumption | lia):
  Rel C ly' (g.enter ly ly' s.heap) ⟨loc',σ.objs⟩ { s with heap:=h',toks:=tk }∧(∀ a o,g.role a=some (.frz o)→(g.enter ly ly' s.heap).role a=some (.frz o))∧
   (∀ l∈ly,∃ o,s.heap.get? l.addr=some o∧(g.enter ly ly' s.heap).role l.addr=some (.kept o))∧(∀ l∈ly',g.role l.addr=none)∧(∀ a o,g.role a=some (.kept o)→(g.enter ly ly' s.heap).role a=some (.kept o)):=by
 have new:∀ l∈ly',s.heap.get? l.addr=none:=fun l hm=>by
  obtain⟨i,hi⟩:=List.getElem?_of_mem hm
  have hlt:=(List.getElem?_eq_some_iff.mp hi).1
  exact(hl i l _ hi (List.getElem?_eq_getElem (by rw[hlen];exact hlt))).1
 have newr:∀ l∈ly',g.role l.addr=none:=fun l hm=>by
  cases q:g.role l.addr with
  | none=>rfl
  | some r=>obtain⟨_,o,ho⟩:=R.new _ r q;rw[new l hm] at ho;cases ho
 have nf:∀ a r,g.role a=some r→ly'.find? (fun l=>l.addr==a)=none:=fun a r e=>by
  rw[List.find?_eq_none]
  intro l hm q
  have q:l.addr=a:=by simpa using q
  subst q
  rw[newr l hm] at e;cases e
 have lyr:∀ l∈ly,g.role l.addr=some l.rl:=fun l hm=>by
  obtain⟨i,hi⟩:=List.getElem?_of_mem hm
  exact R.loc hi
 have notly:∀ a r,g.role a=some r→¬ A5N r∨(∃ o,r=.kept o)→a∉ly.map Loc.addr:=fun a r e hr hm=>by
  refine I7 (List.mem_map.mp hm) fun l hl hR2 => ?_
  subst hR2
  rw[lyr l hl] at e
  cases e
  rcases hr with hr | ⟨o,hr⟩
  ·exact hr (by cases l <;> trivial)
  ·cases l <;> cases hr
 have up:∀ a r,g.role a=some r→¬ A5N r∨(∃ o,r=.kept o)→(g.enter ly ly' s.heap).role a=some r:=fun a r e hr=>by
  simp only[G.enter,nf a r e,if_neg (notly a r e hr),e]
 have dn:∀ a r,(g.enter ly ly' s.heap).role a=some r→(∃ l∈ly',l.addr=a∧r=l.rl)∨(∃ o,s.heap.get? a=some o∧r=.kept o∧C.hb.get? a=none)∨g.role a=some r:=fun a r e=>by
  simp only[G.enter] at e
  cases q:ly'.find? (fun l=>l.addr==a) with
  | some l=>
   rw[q] at e
   (first | refine s2 e ?_ | refine s1 e ?_ | cases e)
   exact .inl ⟨l,List.mem_of_find?_eq_some q,by have:=List.find?_some q;simpa using this,rfl⟩
  | none=>
   rw[q] at e
   simp only at e
   split at e
   ·rename_i hm
    refine I7 (List.mem_map.mp hm) fun l hl hR2 => ?_
    subst hR2
    cases q2:s.heap.get? l.addr with
    | none=>rw[q2] at e;(first | refine s2 e ?_ | refine s1 e ?_ | cases e)
    | some o=>rw[q2] at e;(first | refine s2 e ?_ | refine s1 e ?_ | cases e);exact .inr (.inl ⟨o,rfl,rfl,(R.new _ _ (lyr l hl)).1⟩)
   ·exact .inr (.inr e)
 have lf:∀ a o,g.role a=some (.frz o)→(g.enter ly ly' s.heap).role a=some (.frz o):=fun a o e=>up a _ e (.inl fun h=>h)
 have slotr:∀ (i:Nat) l,ly'[i]?=some l→(g.enter ly ly' s.heap).role l.addr=some l.rl:=fun i l hi=>by
  have hm:=List.mem_of_getElem? hi
  cases q:ly'.find? (fun l'=>l'.addr==l.addr) with
  | none=>
   rw[List.find?_eq_none] at q
   exact absurd (by simp) (q l hm)
  | some l'=>
   simp only[G.enter,q]
   have e:l'.addr=l.addr:=by have:=List.find?_some q;simpa using this
   obtain⟨j,hj⟩:=List.getElem?_of_mem (List.mem_of_find?_eq_some q)
   have h1:=hl j l' _ hj (List.getElem?_eq_getElem (by rw[hlen];exact(List.getElem?_eq_some_iff.mp hj).1))
   have h2:=hl i l _ hi (List.getElem?_eq_getElem (by rw[hlen];exact(List.getElem?_eq_some_iff.mp hi).1))
   rw[h1.rl h2 e]
 have lv:g.lev (g.enter ly ly' s.heap):=⟨⟨[],by simp [G.enter]⟩,lf,Nat.le_refl _⟩
 refine⟨⟨fun a o e=>hk a o (R.old a o e),fun a r e => ?_,fun a o e => ?_,fun a o e => ?_,hlen,fun i l v hi hv => ?_,hnd,R.olen,fun j o hj hne => ?_,fun P pos q h => ?_,R.os,R.gens,R.tk.1,Nat.le_trans R.tk.2 ht⟩,lf,fun l hm => ?_,newr,fun a o e=>up a _ e (.inr ⟨o,rfl⟩)⟩
 ·rcases dn a r e with ⟨l,hm,rfl,rfl⟩|⟨o,h1,rfl,h2⟩ | h
  ·refine⟨D6 R.old (new l hm),?_⟩
   obtain⟨i,hi⟩:=List.getElem?_of_mem hm
   have h1:=(hl i l _ hi (List.getElem?_eq_getElem (by rw[hlen];exact(List.getElem?_eq_some_iff.mp hi).1))).2
   cases l with
   | fr L x=>obtain⟨m,⟨o,_,_,h,_⟩,_⟩:=h1;exact⟨o,h⟩
   | cl c=>obtain⟨m,⟨o,h,_⟩,_⟩:=h1;exact⟨o,h⟩
  ·exact⟨h2,o,hk _ _ h1⟩
  ·refine xAE (R.new a r h) fun h1 o h2 => ?_
   exact⟨h1,o,hk _ _ h2⟩
 ·rcases dn a _ e with ⟨l,hm,_,q⟩|⟨o',_,q,_⟩ | h
  ·cases l <;> cases q
  ·cases q
  ·exact hk _ _ (R.frz a o h)
 ·rcases dn a _ e with ⟨l,hm,_,q⟩|⟨o',h1,q,_⟩ | h
  ·cases l <;> cases q
  ·cases q;exact hk _ _ h1
  ·exact hk _ _ (R.kept a o h)
 ·have h1:=hl i l v hi hv
  cases l with
  | fr L x=>obtain⟨_,m,h2,h3⟩:=h1;exact⟨slotr i _ hi,m,h2,D4 lv _ _ h3⟩
  | cl c=>obtain⟨_,m,h2,h3⟩:=h1;exact⟨slotr i _ hi,m,h2,D4 lv _ _ h3⟩
 ·refine F1 (R.own j o hj hne) fun a ob h1 h2 h3 h4 => ?_
  exact⟨a,ob,h1,up _ _ h2 (.inl fun h=>h),hk _ _ h3,K3 lv _ _ h4⟩
 ·refine N4 (R.tab P pos q h) fun h1 ps h2 h3 => ?_
  exact⟨up _ _ h1 (.inl fun h=>h),ps,hk _ _ h2,J1 lv h3⟩
 ·obtain⟨o,ho⟩:=(R.new _ _ (lyr l hm)).2
  have:l.addr∈ly.map Loc.addr:=List.mem_map.mpr ⟨l,hm,rfl⟩
  refine⟨o,ho,?_⟩
  simp only[G.enter,nf _ _ (lyr l hm),if_pos this,ho,Option.map_some]
noncomputable def G.exit(g g2:G)(ly ly':List Loc)(m:Nat):G:=⟨g2.own.take m,fun a=>if a∈ly.map Loc.addr then g.role a else if a∈ly'.map Loc.addr then none else match g2.role a with
 | some (.own i)=>if i<m then some (.own i) else none
 | r=>r,g2.tk⟩
theorem Rel.exit(hm:σ.objs.length≤m)(R:Rel C ly g σ s)(R2:Rel C ly' g2 σ2 s2)(l2:(g.enter ly ly' s.heap).le g2)(hkept:∀ l∈ly,∃ o,s.heap.get? l.addr=some o∧(g.enter ly ly' s.heap).role l.addr=some (.kept o))(hnew:∀ l∈ly',g.role l.addr=none)(hf:∀ a o,g.role a=some (.frz o)→(g.enter ly ly' s.heap).role a=some (.frz o))(hkk:∀ a o,g.role a=some (.kept o)→(g.enter ly ly' s.heap).role a=some (.kept o)):
  g.le (g.exit g2 ly ly' m)∧(∀ a o,g2.role a=some (.frz o)→(g.exit g2 ly ly' m).role a=some (.frz o))∧Rel C ly (g.exit g2 ly ly' m) ⟨σ.loc,σ2.objs.take m⟩ s2:=by
 have lyr:∀ l∈ly,g.role l.addr=some l.rl:=fun l hm=>by
  obtain⟨i,hi⟩:=List.getElem?_of_mem hm
  exact R.loc hi
 have kept2:∀ l∈ly,∃ o,s.heap.get? l.addr=some o∧g2.role l.addr=some (.kept o):=fun l hm=>by
  refine I7 (hkept l hm) fun o h1 h2 => ?_
  exact⟨o,h1,l2.kept _ _ h2⟩
 have slot2:∀ l∈ly',g2.role l.addr=some l.rl:=fun l hm=>by
  obtain⟨i,hi⟩:=List.getElem?_of_mem hm
  exact R2.loc hi
 have apart:∀ a,a∈ly'.map Loc.addr→a∉ly.map Loc.addr:=fun a h1 h2=>by
  refine I7 (List.mem_map.mp h1) fun l hl hR2 => ?_
  subst hR2
  refine I7 (List.mem_map.mp h2) fun l' hl' e => ?_
  have:=lyr l' hl'
  rw[e,hnew l hl] at this
  cases this
 have up:∀ a r,g2.role a=some r→¬ A5N r→(∀ i,r=.own i→i<m)→(g.exit g2 ly ly' m).role a=some r:=fun a r e hr hi=>by
  have n1:a∉ly.map Loc.addr:=fun hm=>by
   refine I7 (List.mem_map.mp hm) fun l hl hR2 => ?_
   subst hR2
   refine I7 (kept2 l hl) fun o _ h => ?_
   rw[h] at e;cases e;exact hr trivial
  have n2:a∉ly'.map Loc.addr:=fun hm=>by
   refine I7 (List.mem_map.mp hm) fun l hl hR2 => ?_
   subst hR2
   rw[slot2 l hl] at e;cases e
   exact hr (by cases l <;> trivial)
  simp only[G.exit,if_neg n1,if_neg n2,e]
  cases r <;> first | rfl | (simp only[if_pos (hi _ rfl)])
 have frz:∀ a o,g2.role a=some (.frz o)→(g.exit g2 ly ly' m).role a=some (.frz o):=fun a o e=>up a _ e (fun h=>h) (fun i q=>by cases q)
 have dn:∀ a r,(g.exit g2 ly ly' m).role a=some r→(a∈ly.map Loc.addr∧g.role a=some r)∨(a∉ly.map Loc.addr∧g2.role a=some r):=fun a r e=>by
  simp only[G.exit] at e
  split at e
  ·rename_i h;exact .inl ⟨h,e⟩
  ·rename_i h
   split at e
   ·(first | refine s2 e ?_ | refine s1 e ?_ | cases e)
   ·split at e
    ·split at e
     ·rename_i h2 _;(first | refine s2 e ?_ | refine s1 e ?_ | cases e);exact .inr ⟨h,h2⟩
     ·(first | refine s2 e ?_ | refine s1 e ?_ | cases e)
    ·exact .inr ⟨h,e⟩
 have lyn:∀ a r,a∈ly.map Loc.addr→g.role a=some r→r=.frame∨r=.cell:=fun a r hm e=>by
  refine I7 (List.mem_map.mp hm) fun l hl hR2 => ?_
  subst hR2
  rw[lyr l hl] at e;(first | refine s2 e ?_ | refine s1 e ?_ | cases e)
  cases l
  ·exact .inl rfl
  ·exact .inr rfl
 have le:g.le (g.exit g2 ly ly' m):=by
  have ho:∃ t,(g.exit g2 ly ly' m).own=g.own++t:=by
   obtain⟨⟨t,ht⟩,_⟩:=l2
   have ht:g2.own=g.own++t:=ht
   refine⟨t.take (m - g.own.length),?_⟩
   show g2.own.take m=_
   have hle:g.own.length≤m:=by rw[← R.olen];exact hm
   rw[ht,List.take_append,List.take_of_length_le hle]
  refine⟨ho,fun a o e=>frz a o (l2.frz a o (hf a o e)),fun a o e => ?_,l2.tk⟩
  have e2:=l2.kept a o (hkk a o e)
  have n1:a∉ly.map Loc.addr:=fun hm=>by
   rcases lyn a _ hm e with h | h <;> cases h
  have n2:a∉ly'.map Loc.addr:=fun hm=>by
   refine I7 (List.mem_map.mp hm) fun l hl hR2 => ?_
   subst hR2
   rw[hnew l hl] at e;(first | refine s2 e ?_ | refine s1 e ?_ | cases e)
  simp only[G.exit,if_neg n1,if_neg n2,e2]
 have olen:σ.objs.length≤σ2.objs.length:=by
  rw[R.olen,R2.olen]
  obtain⟨⟨t,ht⟩,_⟩:=l2
  have:g2.own=g.own++t:=ht
  rw[this,List.length_append];lia
 refine⟨le,frz,R2.old,fun a r e => ?_,fun a o e => ?_,fun a o e => ?_,R.len,fun i l v hi hv => ?_,R.nodup,?_,fun j o hj hne => ?_,fun P pos q h => ?_,R2.os,R2.gens,R2.tk⟩
 ·rcases dn a r e with ⟨hm,h⟩|⟨_,h⟩
  ·refine I7 (List.mem_map.mp hm) fun l hl hR2 => ?_
   subst hR2
   refine I7 (kept2 l hl) fun o _ h2 => ?_
   exact R2.new _ _ h2
  ·exact R2.new _ _ h
 ·rcases dn a _ e with ⟨hm,h⟩|⟨_,h⟩
  ·rcases lyn a _ hm h with q | q <;> cases q
  ·exact R2.frz a o h
 ·rcases dn a _ e with ⟨hm,h⟩|⟨_,h⟩
  ·rcases lyn a _ hm h with q | q <;> cases q
  ·exact R2.kept a o h
 ·have hm:=List.mem_of_getElem? hi
  have hv:σ.loc[i]?=some v:=hv
  have hs:=R.slot i l v hi hv
  refine I7 (kept2 l hm) fun o h1 h2 => ?_
  have h3:=R2.kept _ _ h2
  have hr:(g.exit g2 ly ly' m).role l.addr=some l.rl:=by
   have:l.addr∈ly.map Loc.addr:=List.mem_map.mpr ⟨l,hm,rfl⟩
   simp only[G.exit,if_pos this,lyr l hm]
  cases l with
  | fr L x=>obtain⟨_,m,h4,h5⟩:=hs;exact⟨hr,m,h4.at' (fun o' e=>by have e2:=h1.symm.trans e;(first | refine s2 e2 ?_ | refine s1 e2 ?_ | cases e2);exact h3),D1 le _ _ h5⟩
  | cl c=>obtain⟨_,m,⟨o',h4,h6⟩,h5⟩:=hs;exact⟨hr,m,⟨o',by have e2:=h1.symm.trans h4;cases e2;exact⟨h3,h6⟩⟩,D1 le _ _ h5⟩
 ·show (σ2.objs.take m).length=(g2.own.take m).length
  rw[List.length_take,List.length_take,R2.olen]
 ·have hj:(σ2.objs.take m)[j]?=some o:=hj
  have hlt:j<m:=by
   have:=(List.getElem?_eq_some_iff.mp hj).1
   rw[List.length_take] at this;lia
  rw[List.getElem?_take_of_lt hlt] at hj
  refine F1 (R2.own j o hj hne) fun a ob h1 h2 h3 h4 => ?_
  refine⟨a,ob,?_,up a _ h2 (fun h=>h) (fun i q=>by cases q;exact hlt),h3,A9N frz (Nat.le_refl _) _ _ h4⟩
  show (g2.own.take m)[j]?=some a
  rw[List.getElem?_take_of_lt hlt]
  exact h1
 ·refine N4 (R2.tab P pos q h) fun h1 ps h2 h3 => ?_
  exact⟨up _ _ h1 (fun h=>h) (fun i q=>by cases q),ps,h2,A7i frz h3⟩
end
end
section
noncomputable def A0y(C:Cx)(g:G):List (Str×V)→List (Str×Value)→Prop
 | [],l=>l=[]
 | (n,x)::xs,l=>∃ v vs,l=(n,v)::vs∧RelV C g x v∧A0y C g xs vs
noncomputable abbrev Spec:=List V→List (Str×V)→List AO→Option (T×List AO)
noncomputable def H6(C:Cx)(k:Nat)(f:Value)(spec:Mine.Spec):Prop:=
 ∀ A,Room k A→∀ ly g σ s us vs kw kws v objs',Rel C ly g σ s→RelVs C g us vs→A0y C g kw kws→spec us kw σ.objs=some (v,objs')→wpAny (Md C) A (call f vs kws) (Ev C ly g ⟨σ.loc,objs'⟩ (.t v)) X4 s
noncomputable def A2i(f:Fl)(σ:St):Option (T×St):=Fl.casesOn (motive:=fun _=>Option (T×St)) f (some (.none,σ)) none none fun v=>toT σ v
noncomputable def C7(mk:List V→List (Str×V)→Option (List (Option V)))(d:DS):Mine.Spec:=fun us kw objs=>
 (mk us kw).bind fun loc=>(d ⟨loc,objs⟩).bind fun r=>(A2i r.1 r.2).bind fun q=>some (q.1,q.2.objs.take objs.length)
noncomputable def A0e(C:Cx)(g:G)(m:Str→Option Value):List Str→List (Option V)→Prop:=All2 fun x o=>L3 C g o (m x)
theorem Y1{m:Str→Option Value}{xs:List Str}(r:A0e C g m xs l):l.length=xs.length:=All2.length r
theorem Y2{m:Str→Option Value}{xs:List Str}(r:A0e C g m xs l){i:Nat}{x:Str}{v:Option V}(h:xs[i]?=some x)(h':l[i]?=some v):L3 C g v (m x):=All2.get r h h'
section
variable{K:Frag}{a:Addr}{sl:Array (Option Value)}{mk:List V→List (Str×V)→Option (List (Option V))}{d:DS}
theorem P7{L:Addr}{xs:List Str}(h:xs.Nodup):(xs.map fun x=>Loc.fr L x).Nodup:=by
 rw[List.Nodup,List.pairwise_map]
 exact h.imp fun hne e=>by (first | refine s2 e ?_ | refine s1 e ?_ | cases e);exact hne rfl
noncomputable def B5M:Flow→Value
 | .ret v=>v
 | _=>.none
theorem A0b{A:Around}{ly':List Loc}{s s1 s2:Shared}{f:Fl}{fl:Flow}{v:T}(R:Rel C ly g σ s)(hen:(g.enter ly ly' s.heap).le g1)(R2:Rel C ly' g1 σ2 s2)(V2:A3D C g1 f fl)(e:((A2i f σ2).bind fun q=>some (q.1,q.2.objs.take σ.objs.length))=some (v,objs'))(hkept:∀ l∈ly,∃ o,s.heap.get? l.addr=some o∧(g.enter ly ly' s.heap).role l.addr=some (.kept o))(hnew:∀ l∈ly',g.role l.addr=none)(hf:∀ a o,g.role a=some (.frz o)→(g.enter ly ly' s.heap).role a=some (.frz o))(hkk:∀ a o,g.role a=some (.kept o)→(g.enter ly ly' s.heap).role a=some (.kept o)):
  Ev C ly g ⟨σ.loc,objs'⟩ (.t v) (B5M fl) s2:=by
 refine b2 e fun x σ3 e1 e => ?_
 (first | refine s2 e ?_ | refine s1 e ?_ | cases e)
 cases f with
 | next=>
  obtain rfl:_=_:=V2
  (first | refine s2 e1 ?_ | refine s1 e1 ?_ | cases e1)
  refine xAA (R.exit (Nat.le_refl _) R2 hen hkept hnew hf hkk) fun l fz R3 => ?_
  exact⟨_,l,R3,rfl⟩
 | brk=>(first | refine s2 e1 ?_ | refine s1 e1 ?_ | cases e1)
 | cont=>(first | refine s2 e1 ?_ | refine s1 e1 ?_ | cases e1)
 | ret u=>
  refine I7 (V2) fun y hR1 V => ?_
  subst hR1
  refine ToT.elim (R2.toT V e1) fun g3 l3 R3 T3 => ?_
  refine xAA (R.exit (Nat.le_refl _) R3 (hen.trans l3) hkept hnew hf hkk) fun l fz R4 => ?_
  exact⟨_,l,R4,A4K fz (Nat.le_refl _) _ _ T3⟩
theorem L0(B:Base C)(X:K.In C.hb)(hK:List.lookup a K=some ⟨cls,dc,.func fd,sl⟩)(hb:fd.body=.stmts body)(hc:codeIn K fd.code fd.qualname=true){xs:List Str}(hx:xs.Nodup)(hcell:(fd.scope.names.all fun x=>x.2 != .cell)=true)(hmk:∀ us kw loc,mk us kw=some loc→∀ (g:G) (vs:List Value) (kws:List (Str×Value)) (s:Shared),K.In s.heap→RelVs C g us vs→A0y C g kw kws→∃ binds:List (Str×Value),BindsTo s fd ⟨vs,kws⟩ binds∧(binds.all fun x=>fd.scope.names.lookup x.1==some .local)=true∧A0e C g (fun x=>binds.reverse.lookup x) xs loc)(hd:∀ L,SS C k (callEnv fd L a) (xs.map fun x=>.fr L x) body d)(h1:fd.scope.isCoroutine=false)(h2:fd.scope.isGenerator=false)(h3:fd.scope.kind=.function):H6 C (k+1) (.ref a) (C7 mk d):=fun A hA ly g σ s us vs kw kws v objs' R hv hkw e=>by
 refine b1 e fun loc e1 e => ?_
 refine b2 e fun f σ2 e2 e => ?_
 have X1:=X.keeps R.old
 refine q8 (hmk us kw loc e1 g vs kws s X1 hv hkw) fun binds hB hall hS => ?_
 refine wpAny_call (codeAny_call_def hA.rl (X1 _ _ hK) rfl (B.nolimit.keeps R.old) (codeRec_of X1 hc) hb hB (fun x hx => ?_) (fun x hx => ?_) (fun h₀ hns hk => ?_) h1 h2 h3)
 ·exact bne_iff_ne.mp (List.all_eq_true.mp hcell x hx)
 ·exact eq_of_beq (List.all_eq_true.mp hall x hx)
 obtain⟨R1,hf,hkept,hnew,hkk⟩:=R.enter (ly':=xs.map fun x=>.fr s.heap.objs.size x) (loc':=loc) (h':=h₀) (tk:=s.toks+binds.length) hk (by rw[Y1 hS,List.length_map]) (P7 hx) (fun i l w hl hw=>by
  rw[List.getElem?_map] at hl
  cases q:xs[i]? with
  | none=>rw[q] at hl;cases hl
  | some x=>
   rw[q] at hl;cases hl
   exact⟨B3,_,hns,Y2 hS q hw⟩)
 refine wpAny_mono (hd _ _ hA.deeper _ _ _ _ _ R1 e2) (fun fl s2 ⟨g2,l2,R2,V2⟩ => ?_) fun _ _ x=>x.elim
 have q:=A0b (A:=A) (s1:=s) R l2 R2 V2 e hkept hnew hf hkk
 cases fl <;> exact q
noncomputable def A34(C:Cx)(g:G)(L:Addr)(m cm:Str→Option Value)(cs:List (Str×Addr)):List Loc→List (Option V)→Prop:=All2 fun x o=>(∃ n,x=.fr L n∧L3 C g o (m n))∨(∃ n c,x=.cl c∧cs.lookup n=some c∧L3 C g o (cm n))
theorem A1S{L:Addr}{m cm:Str→Option Value}{cs:List (Str×Addr)}{xs:List Loc}(r:A34 C g L m cm cs xs l):l.length=xs.length:=All2.length r
theorem A1T{L:Addr}{m cm:Str→Option Value}{cs:List (Str×Addr)}{xs:List Loc}(r:A34 C g L m cm cs xs l){i:Nat}{x:Loc}{o:Option V}(h:xs[i]?=some x)(h':l[i]?=some o):
  (∃ n,x=.fr L n∧L3 C g o (m n))∨(∃ n c,x=.cl c∧cs.lookup n=some c∧L3 C g o (cm n)):=All2.get r h h'
theorem y4(B:Base C)(X:K.In C.hb)(hK:List.lookup a K=some ⟨cls,dc,.func fd,sl⟩)(hb:fd.body=.stmts body)(hc:codeIn K fd.code fd.qualname=true){lyf:Addr→List Loc}(hnd:∀ L,(lyf L).Nodup)(hclo:fd.closure=[])(hmk:∀ us kw loc,mk us kw=some loc→∀ (g:G) (vs:List Value) (kws:List (Str×Value)) (s:Shared),K.In s.heap→RelVs C g us vs→A0y C g kw kws→kws=[]∧∃ binds:List (Str×Value),bindArgs fd ⟨vs,[]⟩=pure binds∧
   (∀ L,(binds.all fun x=>fd.scope.names.lookup x.1==some .local||(fd.scope.names.lookup x.1==some .cell&&((cellsFrom (L+1) fd.scope.names []).lookup x.1).isSome))=true)∧
   ∀ L,A34 C g L (bindL (callEnvC fd L a).kindOf binds fun _=>none) (bindC (callEnvC fd L a).kindOf binds fun _=>none) (callEnvC fd L a).cells (lyf L) loc)(hd:∀ L,SS C k (callEnvC fd L a) (lyf L) body d)(h1:fd.scope.isCoroutine=false)(h2:fd.scope.isGenerator=false)(h3:fd.scope.kind=.function):H6 C (k+1) (.ref a) (C7 mk d):=fun A hA ly g σ s us vs kw kws v objs' R hv hkw e=>by
 refine b1 e fun loc e1 e => ?_
 refine b2 e fun f σ2 e2 e => ?_
 have X1:=X.keeps R.old
 refine A6Q (hmk us kw loc e1 g vs kws s X1 hv hkw) fun hR0 binds hB hall hS => ?_
 subst hR0
 refine wpAny_call (codeAny_call_function hA.rl (X1 _ _ hK) rfl h1 h2 hb (codeRec_of X1 hc) ?_)
 rw[hB]
 refine wpAny_pure (wpAny_with_toks (Nat.le_refl s.toks) ?_)
 rw[hclo]
 refine wpAny_newFunctionEnv_cells h3 (fun x hx => ?_) (fun env he s₁ hin htk=>⟨?_,?_⟩)
 ·have:=List.all_eq_true.mp (hall s.heap.objs.size) x hx
  simpa using this
 ·exact(B.nolimit.keeps R.old).keeps hin.toInCall.keep
 subst he
 refine codeAny_func ?_
 obtain⟨h₀,tk,rfl⟩:=hin.toInCall.same
 have hS:=hS s.heap.objs.size
 obtain⟨R1,hf,hkept,hnew,hkk⟩:=R.enter (ly':=lyf s.heap.objs.size) (loc':=loc) (h':=h₀) (tk:=tk) hin.toInCall.keep (A1S hS) (hnd _) (fun i l w hl hw=>by
  rcases A1T hS hl hw with ⟨n,rfl,hn⟩|⟨n,c,rfl,hc,hn⟩
  ·exact⟨B3,_,hin.toInCall.ns,hn⟩
  ·exact⟨Heap.get?_none_of_le (Nat.le_of_lt (hin.above n c (mem_of_lookup hc))),_,hin.cell n c hc,hn⟩)
 refine wpAny_mono (hd _ _ hA.deeper _ _ _ _ _ R1 e2) (fun fl s2 ⟨g2,l2,R2,V2⟩ => ?_) fun _ _ x=>x.elim
 have q:=A0b (A:=A) (s1:=s) R l2 R2 V2 e hkept hnew hf hkk
 cases fl <;> exact q
end
section
variable{e1:Expr}{a:D}
noncomputable def F0(spec:Mine.Spec)(l:DL):D:=fun σ=>(l σ).bind fun p=>(spec p.1 [] p.2.objs).bind fun q=>some (.t q.1,⟨p.2.loc,q.2⟩)
theorem H7{K:Frag}(B:Base C)(X:K.In C.hb){x:Str}{f:Addr}{spec:Mine.Spec}{l:DL}(hg:env.globals=mainGlobals)(hk:env.scope.kind=.function)(hx:env.kindOf x=some .globalImplicit)(hv:nsIn K mainGlobals x=some (some (.ref f)))(hkeep:keepIn K (.ref f)=true)(h:H6 C k (.ref f) spec)(hl:SL C k env ly args l)(hne:∃ a r,args=a::r∧starEach (a::r) env=(false,eval a env)::starEach r env∧(backTo pos (starEach r env)).any (·.1)=false)(hd:(x==("__debug__" : Str))=false):
  SE C k env ly (.Call (.Name x np) args [] pos) (F0 spec l):=fun A hA g σ s v σ' R e=>by
 refine b2 e fun us σ1 e1 e => ?_
 refine b2 e fun w objs e2 e => ?_
 (first | refine s2 e ?_ | refine s1 e ?_ | cases e)
 refine A2b (hne) fun a r hR2 hs hpl => ?_
 subst hR2
 refine Call_ (Calls.Name_function_global hk hx (Calls.loadGlobal_global (by rw[hg];exact B.g.keeps R.old) (mg_of X B.g hv) ?_) hd)
 refine callWith_K X hkeep ((hl pos).use hA R e1 fun g1 vs s1 l1 R1 V1=>⟨X.keeps R1.old,?_⟩) hs hpl
 rw[List.nil_append]
 refine wpAny_mono (h A hA ly g1 σ1 s1 us vs [] [] w objs R1 V1 rfl e2) (fun y s2 ⟨g2,l2,R2,V2⟩=>⟨g2,l1.trans l2,R2,V2⟩) fun _ _ x=>x.elim
end
end
variable{spec : Mine.Spec}
section
section
variable{e1:Expr}{a:D}{K:Frag}
noncomputable def A71(c:Addr)(n:Str)(v:V):Option V:=V.casesOn (motive:=fun _=>Option V) v (fun _=>none) (fun _=>none) fun c' n' w=>if c'=c∧n'=n then some w else none
theorem A6q{c:Addr}{n:Str}{v w:V}(e:A71 c n v=some w):v=.obj c n w:=by
 cases v with
 | obj c' n' w'=>exact iN e fun h q=>by obtain⟨rfl,rfl⟩:=h;exact congrArg (V.obj _ _) (Option.some.inj q)
 | _=>exact nn e
noncomputable def A0s(c:Addr)(n:Str)(v:V):Bool:=(A71 c n v).isSome
inductive B6M(C:Cx)(g:G)(s:Shared)(c:Addr)(n:Str)(w:V)(x:Value):Prop
 | mk (i:Addr) (ox:Obj) (t:Tok) (y:Value) (kk:Nat) (e:x=.ref i) (r:RelV C g w y) (h:InstAt s.heap i ox c (some (dictOf [⟨PyData.keyHash C.w.params n,.str n t,y⟩] kk)))
theorem A6p{s:Shared}{v w:V}{x:Value}{c:Addr}{n:Str}(R:Rel C ly g σ s)(h:RelV C g v x)(e:A71 c n v=some w):B6M C g s c n w x:=by
 cases A6q e
 obtain⟨i,d,kk,t,y,sl,rfl,z,z',r⟩:=h
 exact⟨i,_,t,y,kk,rfl,r,⟨R.fz z,rfl,rfl,R.fz z'⟩⟩
theorem i7{s:Shared}{v:V}{x:Value}{c:Addr}{n:Str}(R:Rel C ly g σ s)(h:RelV C g v x)(e:A0s c n v=true):
  ∃ i ox t y kk w,x=.ref i∧v=.obj c n w∧RelV C g w y∧InstAt s.heap i ox c (some (dictOf [⟨PyData.keyHash C.w.params n,.str n t,y⟩] kk)):=H4 e fun w ew=>
 let ⟨i,ox,t,y,kk,e,r,q⟩:=A6p R h ew;⟨i,ox,t,y,kk,w,e,A6q ew,r,q⟩
theorem i4{n m:Str}{y:Value}(hne:(n==m)=false):shadowIn (some (dictOf [⟨PyData.keyHash P n,.str n t,y⟩] kk)) m=some false:=by
 have h2:(({ hash:=PyData.keyHash P n,key:=.str n t,val:=y }:DictEntry).refKey)=false:=rfl
 show (lookIn m _).map _=_
 rw[lookIn_dict]
 unfold getL
 simp [List.find?,(by simpa [Value.isStr] using hne:(Value.str n t).isStr m=false),h2]
theorem B0R{n:Str}{y:Value}:lookIn n (dictOf [⟨PyData.keyHash P n,.str n t,y⟩] kk)=some (some y):=by
 rw[lookIn_dict]
 unfold getL
 simp [List.find?,(by simp [Value.isStr]:(Value.str n t).isStr n=true)]
noncomputable def E9(c:Addr)(n:Str)(spec:Mine.Spec)(o:D)(l:DL)(ns:List Str)(kl:DL):D:=fun σ=>(o σ).bind fun p=>if A0s c n p.1 then (l p.2).bind fun q=>(kl q.2).bind fun r=>
 (spec (p.1::q.1) (ns.zip r.1) r.2.objs).bind fun z=>some (.t z.1,⟨r.2.loc,z.2⟩) else none
noncomputable def A6M(env:Env)(x:Str)(np:Pos)(m:Str)(apos pos:Pos)(args:List Expr)(kws:List Keyword):Prop:=∃ pl,eval (.Call (.Attribute (.Name x np) m apos) args kws pos) env=(do
 let ov ← eval (.Name x np) env
 standAt apos.atName
 let (f,first) ← holding [ov] (getMethod ov m pl)
 callWith pos f first (backTo pos (starEach args env)) (backToKw pos (keywordEach kws env)))
structure j4(K:Frag)(c:Addr)(n m:Str)(f:Addr):Prop where
 get:plainGet K c m=true
 find:findIn K (.ref c) m=some (some (.ref f))
 fn:isFn K (.ref f)=true
 keep:keepIn K (.ref f)=true
 ne:(n==m)=false
theorem P5(B:Base C)(X:K.In C.hb){x m n:Str}{c f:Addr}{l:DL}(M:j4 K c n m f)(ho:SE C k env ly (.Name x np) a)(hl:SL C k env ly args l)(h:H6 C k (.ref f) spec)(hne:∃ a r,args=a::r∧starEach (a::r) env=(false,eval a env)::starEach r env∧(backTo pos (starEach r env)).any (·.1)=false)(hm:A6M env x np m apos pos args []):
  SE C k env ly (.Call (.Attribute (.Name x np) m apos) args [] pos) (E9 c n spec a l [] dNil):=fun A hA g σ s v σ' R e=>by
 refine b2 e fun w σ1 e1 e => ?_
 refine iN e fun hobj e => ?_
 ·refine b2 e fun us σ2 e2 e => ?_
  refine b2 e fun zs σ3 e3 e => ?_
  cases e3
  refine b2 e fun z objs e4 e => ?_
  cases e
  refine A2b (hne) fun a' r hR2 hs hpl => ?_
  subst hR2
  obtain⟨pl,hm⟩:=hm
  refine MethodCall_ (pl:=pl) (he:=hm) (ho.use hA R e1 fun g1 u s1 l1 R1 V1 => ?_)
  refine P9 (i7 R1 V1 hobj) fun i ox t y kk w' hR6 hR7 Vw I => ?_
  subst hR6
  subst hR7
  refine method_fn (X.keeps R1.old) I (plainGet_of M.get).1 (plainGet_of M.get).2 M.find (beq_iff_eq.mp M.fn) (i4 M.ne) ?_
  refine callWith_K X M.keep ((hl pos).use hA R1 e2 fun g2 vs s2 l2 R2 V2=>⟨X.keeps R2.old,?_⟩) hs hpl
  have hV:RelVs C g2 (V.obj c n w'::us) (.ref i::vs):=⟨_,_,rfl,B6 l2 _ _ V1,V2⟩
  refine wpAny_mono (h A hA ly g2 σ2 s2 _ _ [] [] z objs R2 hV rfl e4) (fun y s3 ⟨g3,l3,R3,V3⟩=>⟨g3,(l1.trans l2).trans l3,R3,V3⟩) fun _ _ x=>x.elim
theorem B4N{vs:List Value}(h:RelVs C g us vs):∀ (ns:List Str),A0y C g (ns.zip us) (ns.zip vs):=by
 intro ns
 induction ns generalizing us vs with
 | nil=>exact rfl
 | cons n ns ih=>cases us with
  | nil=>obtain rfl:_=_:=h;exact rfl
  | cons u us=>obtain⟨v,vs,rfl,h1,h2⟩:=h;exact⟨v,_,rfl,h1,ih h2⟩
noncomputable def Kl(C:Cx)(k:Nat)(env:Env)(ly:List Loc)(kws:List Keyword)(d:DL):Prop:=∀ pos A,Room k A→∀ g σ s us σ',Rel C ly g σ s→d σ=some (us,σ')→wpAny (Md C) A (evalAll ((backToKw pos (keywordEach kws env)).map (·.2))) (El C ly g σ' us) X4 s
theorem A0M:Kl C k env ly [] dNil:=fun pos A hA g σ s us σ' R e=>by
 (first | refine s2 e ?_ | refine s1 e ?_ | cases e)
 exact wpAny_evalAll_nil ⟨g,.refl g,R,rfl⟩
theorem j9{kw:Keyword}{kws:List Keyword}{d:DL}(h:SE C k env ly kw.value a)(hr:Kl C k env ly kws d):Kl C k env ly (kw::kws) (A2 a d):=fun pos A hA g σ s us σ' R e=>by
 refine b2 e fun u σ1 e1 e => ?_
 refine b2 e fun us σ2 e2 e => ?_
 (first | refine s2 e ?_ | refine s1 e ?_ | cases e)
 obtain⟨nm,vl,kp⟩:=kw
 show wpAny _ _ (evalAll ((do let v ← eval vl env;standAt pos;pure v)::(backToKw pos (keywordEach kws env)).map (·.2))) _ _ _
 refine wpAny_evalAll_cons (wpAny_bind (h.use hA R e1 fun g1 x s1 l1 R1 V1=>wpAny_bind (wpAny_standAt (wpAny_pure ?_))))
 exact wpAny_mono (hr pos A hA g1 σ1 s1 _ _ R1 e2) (fun vs s2 ⟨g2,l2,R2,V2⟩=>⟨g2,l1.trans l2,R2,x,vs,rfl,B6 l2 _ _ V1,V2⟩) fun _ _ x=>x.elim
theorem V7(B:Base C)(X:K.In C.hb){x m n:Str}{kws:List Keyword}{c f:Addr}{l kl:DL}(M:j4 K c n m f)(ho:SE C k env ly (.Name x np) a)(hl:SL C k env ly args l)(hkl:Kl C k env ly kws kl)(h:H6 C k (.ref f) spec)(hne:∃ a r,args=a::r∧starEach (a::r) env=(false,eval a env)::starEach r env∧((backTo pos (starEach (a::r) env)).any (·.1)||(backToKw pos (keywordEach kws env)).any (·.1.isNone))=false)(hall:(backToKw pos (keywordEach kws env)).all (·.1.isSome)=true)(hns:(backToKw pos (keywordEach kws env)).filterMap (·.1)=ns)(hm:A6M env x np m apos pos args kws):
  SE C k env ly (.Call (.Attribute (.Name x np) m apos) args kws pos) (E9 c n spec a l ns kl):=fun A hA g σ s v σ' R e=>by
 refine b2 e fun w σ1 e1 e => ?_
 simp only at e
 split at e
 ·rename_i hobj
  refine b2 e fun us σ2 e2 e => ?_
  refine b2 e fun zs σ3 e3 e => ?_
  refine b2 e fun z objs e4 e => ?_
  (first | refine s2 e ?_ | refine s1 e ?_ | cases e)
  refine A2b (hne) fun a' r hR2 hs hpl => ?_
  subst hR2
  obtain⟨pl,hm⟩:=hm
  refine methodCall_KW (pl:=pl) (he:=hm) (ho.use hA R e1 fun g1 u s1 l1 R1 V1 => ?_)
  refine P9 (i7 R1 V1 hobj) fun i ox t y kk w' hR6 hR7 Vw I => ?_
  subst hR6
  subst hR7
  refine method_fn (X.keeps R1.old) I (plainGet_of M.get).1 (plainGet_of M.get).2 M.find (beq_iff_eq.mp M.fn) (i4 M.ne) ?_
  refine callWith_KW X M.keep hall ((hl pos).use hA R1 e2 fun g2 vs s2 l2 R2 V2=>wpAny_mono (hkl pos A hA g2 _ s2 _ _ R2 e3) (fun ks s3 ⟨g3,l3,R3,V3⟩=>⟨X.keeps R3.old,?_⟩) fun _ _ x=>x.elim) hpl hs
  rw[hns]
  have hV:RelVs C g3 (V.obj c n w'::us) (.ref i::vs):=⟨_,_,rfl,B6 (l2.trans l3) _ _ V1,m8 l3 _ _ V2⟩
  refine wpAny_mono (h A hA ly g3 σ3 s3 _ _ _ _ z objs R3 hV (B4N V3 ns) e4) (fun y s4 ⟨g4,l4,R4,V4⟩=>⟨g4,((l1.trans l2).trans l3).trans l4,R4,V4⟩) fun _ _ x=>x.elim
 ·(first | refine s2 e ?_ | refine s1 e ?_ | cases e)
noncomputable def B3Q(v:V):Bool:=V.casesOn (motive:=fun _=>Bool) v (fun x=>(U7 x).isSome) (fun _=>true) fun _ _ _=>false
noncomputable def U0(c:Addr)(n:Str)(a:D):D:=fun σ=>(a σ).bind fun p=>(A71 c n p.1).bind fun w=>if B3Q w then some (w,p.2) else none
theorem B0P{w:V}{y:Value}(V:RelV C g w y)(h:B3Q w=true):handedIn y=true:=by
 cases w with
 | ref i=>obtain⟨_,_,rfl⟩:=V;rfl
 | obj _ _ _=>exact nb h
 | t x=>
  refine H4 h fun xs e => ?_
  cases G1 e
  obtain⟨_,_,_,rfl,_⟩:=V
  rfl
theorem B1i(B:Base C)(X:K.In C.hb){c:Addr}{n:Str}{attr:Option Value}(hg:plainGet K c n=true)(hh:hasDictIn K c=true)(hf:findIn K (.ref c) n=some attr)(hn:noGet K attr=true)(ha:SE C k env ly e a)(he:∀ (A:Around) (E:Value→Shared→Prop) (Q:Value→Shared→Prop) (s:Shared),wpAny (Md C) A (eval e env) (fun o s₁=>wpAny (Md C) A (getAttr o n true) Q E s₁) E s→wpAny (Md C) A (eval (.Attribute e n pos) env) Q E s):
  SE C k env ly (.Attribute e n pos) (U0 c n a):=fun A hA g σ s v σ' R e=>by
 refine b2 e fun w σ1 e1 e => ?_
 refine b1 e fun w' ew e=>iN e fun hh' e => ?_
 refine s2 (P:=fun v σ'=>wpAny (Md C) A _ (Ev C ly g σ' v) X4 s) e ?_
 refine he _ _ _ _ (ha.use hA R e1 fun g1 u s1 l1 R1 V1 => ?_)
 obtain⟨i,ox,t,y,kk,rfl,Vw,I⟩:=A6p R1 V1 ew
 exact get_value (X.keeps R1.old) I (plainGet_of hg).1 (findObj_own hh hf hn B0R) (B0P Vw hh') ⟨g1,l1,R1.grow .toks_,Vw⟩
theorem Q2(B:Base C)(X:K.In C.hb){c:Addr}{n x:Str}{attr:Option Value}(hg:plainGet K c n=true)(hh:hasDictIn K c=true)(hf:findIn K (.ref c) n=some attr)(hn:noGet K attr=true)(ha:SE C k env ly (.Name x np) a):SE C k env ly (.Attribute (.Name x np) n pos) (U0 c n a):=B1i B X hg hh hf hn ha fun A E Q s h=>Attribute_Name_ h
end
end
section
section
variable{K:Frag}
theorem B1h{A:Around}{E:Value→Shared→Prop}{s:Shared}{x c dx:Addr}{n:Str}{v:Value}{Q:Unit→Shared→Prop}(X:K.In s.heap)(I:PySem.W.InstAt s.heap x (instObj c dx) c (some PySem.W.emptyDict))(hs:findIn K (.ref c) "__setattr__" = some (some (.builtin "object.__setattr__")))(hp:plainOver K c=true)(ht:takerIn K c n=some none)(hh:hasDictIn K c=true)(h:∀ h',Heap.SameBut dx s.heap h'→h'.get? dx=some (A1L C.w.params n 1 (s.toks+1) v)→Q () { s with heap:=h',toks:=s.toks+2 }):wpAny (Md C) A (setAttr (.ref x) n v) Q E s:=by
 refine set_plain X I hs (osa_open (s:={ s with toks:=s.toks+1 }) X I hp ht fun b => ?_)
 refine I7 (any_some hh) fun cd hc hd' => ?_
 have D:s.heap.get? dx=some PySem.W.emptyDict:=I.dict
 have e:Obj.putName n (PyData.keyHash C.w.params n) (.str n (s.toks+1)) v PySem.W.emptyDict=A1L C.w.params n 1 (s.toks+1) v:=putName_dict n (PyData.keyHash C.w.params n) (.str n (s.toks+1)) v [] 0
 have D':(s.heap.update dx (Obj.putName n (PyData.keyHash C.w.params n) (.str n (s.toks+1)) v)).get? dx=some (A1L C.w.params n 1 (s.toks+1) v):=by
  rw[Heap.get?_update_self _ D (by rw[e];rfl),e]
 obtain⟨hx,hcl,hn,-⟩:=I
 unfold Builtin.ObjectAttr.storeInOwnDict
 refine wpAny_bind (wpAny_pure (wpAny_bind (wpAny_bind (wpAny_loadPart hx (wpAny_bind (Looks.here (s:={ s with toks:=s.toks+1 }) (looks_clsIn X hc) ?_))))))
 rw[hd']
 refine wpAny_pure (a:=some dx) (wpAny_bind (wpAny_pure (wpAny_bind ?_)))
 unfold nsSet
 refine wpAny_bind (wpAny_bind (wpAny_askSetting (wpAny_pure (wpAny_bind (wpAny_mkText (wpAny_bind (wpAny_loadPart D ?_)))))))
 dsimp only
 refine wpAny_updatePart D ?_
 refine wpAny_bind (wpAny_lookBehind D' ?_ ?_)
 ·exact pastItsLine_dict (by simp)
 ·exact wpAny_pure (h _ (Heap.SameBut.update ..) D')
theorem Rel.refrz{s:Shared}(R:Rel C ly g σ s){a:Addr}{o':Obj}(hr:g.role a=some (.kept o))(hs:Heap.SameBut a s.heap h')(ho:h'.get? a=some o')(ht:s.toks≤tk:=by first | exact Nat.le_refl _ | exact Nat.le_succ _ | exact Nat.le_add_right _ _ | assumption | lia):
  g.lev (g.put a (.frz o'))∧Rel C ly (g.put a (.frz o')) σ { s with heap:=h',toks:=tk }:=by
 have up:∀ b r,(∀ o,r≠.kept o)→g.role b=some r→(g.put a (.frz o')).role b=some r:=fun b r hne e=>by
  have:b≠a:=by rintro rfl;rw[hr] at e;cases e;exact hne _ rfl
  simp only[G.put,if_neg this,e]
 have ne:∀ b r,(∀ o,r≠.kept o)→g.role b=some r→b≠a:=fun b r hne e=>by rintro rfl;rw[hr] at e;cases e;exact hne _ rfl
 have lv:g.lev (g.put a (.frz o')):=⟨⟨[],by simp [G.put]⟩,fun b x e=>up b _ A1o e,Nat.le_refl _⟩
 have k:∀ b x,b≠a→s.heap.get? b=some x→h'.get? b=some x:=fun b x hne e=>(hs.2 b hne).trans e
 refine⟨lv,R.old' hr hs,fun b r e => ?_,fun b x e => ?_,fun b x e => ?_,R.len,fun j l v hl hv => ?_,R.nodup,R.olen,fun j o2 hj hne => ?_,fun P pos q h => ?_,R.os,R.gens,R.tk.1,Nat.le_trans R.tk.2 ht⟩
 ·rcases Q7 b r e with ⟨rfl,rfl⟩ | e
  ·exact⟨(R.new _ _ hr).1,o',ho⟩
  ·by_cases q:b=a
   ·subst q;exact⟨(R.new _ _ hr).1,o',ho⟩
   ·refine xAE (R.new b r e) fun h1 x h2 => ?_
    exact⟨h1,x,k b x q h2⟩
 ·rcases Q7 b _ e with ⟨rfl,q⟩ | e
  ·cases q;exact ho
  ·exact k b x (ne b _ A1o e) (R.frz b x e)
 ·by_cases q:b=a
  ·subst q
   simp only[G.put,if_true] at e;cases e
  ·simp only[G.put,if_neg q] at e
   exact k b x q (R.kept b x e)
 ·have hs':=R.slot j l v hl hv
  have hne:l.addr≠a:=by
   have:=hs'.role
   cases l
   ·exact ne _ _ x7 this
   ·exact ne _ _ A1B this
  cases l with
  | fr L x=>exact⟨up _ _ x7 hs'.1,hs'.2.elim fun m hm=>⟨m,hm.1.sameBut hs hne,D4 lv _ _ hm.2⟩⟩
  | cl c=>exact⟨up _ _ A1B hs'.1,hs'.2.elim fun m hm=>⟨m,hm.1.sameBut hs hne,D4 lv _ _ hm.2⟩⟩
 ·refine F1 (R.own j o2 hj hne) fun b x h1 h2 h3 h4 => ?_
  exact⟨b,x,h1,up _ _ A3c h2,k b x (ne b _ A3c h2) h3,K3 lv _ _ h4⟩
 ·refine N4 (R.tab P pos q h) fun h1 ps h2 h3 => ?_
  exact⟨up _ _ A3b h1,ps,k _ _ (ne _ _ A3b h1) h2,J1 lv h3⟩
structure A2N(K:Frag)(c:Addr)(n:Str)(fI:Addr):Prop where
 set:findIn K (.ref c) "__setattr__" = some (some (.builtin "object.__setattr__"))
 over:plainOver K c=true
 taker:takerIn K c n=some none
 dict:hasDictIn K c=true
 makes:makesIn K c=true
 init:findIn K (.ref c) "__init__" = some (some (.ref fI))
 fn:typeIn K (.ref fI)=some (.type "function")
 keep:keepIn K (.ref c)=true
structure B6P(C:Cx)(g:G)(c x dx:Addr):Prop where
 inst:g.role x=some (.frz (instObj c dx))
 dict:g.role dx=some (.kept PySem.W.emptyDict)
theorem B0M{a:D}(X:K.In C.hb){c x dx:Addr}{n self:Str}{i:Nat}(T:A2N K c n fI)(hself:Bnd env ly self i)(ha:SE C k env ly e a)(hs:swapsWith e (some (.Attribute (.Name self np) n pos')) pos.line env=pure false)(hA:Room k A){s:Shared}(R:Rel C ly g σ s)(hb:B6P C g c x dx){w:V}(e1:a σ=some (w,σ'))(e2:σ'.loc[i]?=some (some (.t (.cst (.ref x))))){Q:Flow→Shared→Prop}(q:∀ g0 g' s',g.le g0→g0.role dx=some (.kept PySem.W.emptyDict)→(∃ o,g'=g0.put dx (.frz o))→g0.lev g'→Rel C ly g' σ' s'→RelV C g' (.obj c n w) (.ref x)→Q .next s'):wpAny (Md C) A (exec (.Assign [.Attribute (.Name self np) n pos'] e pos) env) Q E s:=by
 refine plainObj_wpAny_Assign_Attribute (ha.use hA R e1 fun g1 y s1 l1 R1 V1 => ?_) hs
 refine(A1 (C:=C) (k:=k) hself).use hA R1 (v:=.t (.cst (.ref x))) (σ':=σ') (by simp only[A0,e2,Option.bind_some]) fun g2 z s2 l2 R2 V2 => ?_
 obtain rfl:_=_:=V2
 have l12:=l1.trans l2
 refine B1h (C:=C) (dx:=dx) (X.keeps R2.old) ⟨(R2.frz _ _ (l12.frz _ _ hb.inst)),rfl,rfl,(R2.kept _ _ (l12.kept _ _ hb.dict))⟩ T.set T.over T.taker T.dict fun h' hs' ho => ?_
 obtain⟨lv,R3⟩:=R2.refrz (tk:=s2.toks+2) (l12.kept _ _ hb.dict) hs' ho
 refine q g2 _ _ l12 (l12.kept _ _ hb.dict) ⟨_,rfl⟩ lv R3 ⟨x,dx,1,s2.toks+1,y,#[],rfl,.inr ?_,.inr (by simp [G.put]),J6 lv _ _ (B6 l2 _ _ V1)⟩
 exact lv.frz _ _ (l12.frz _ _ hb.inst)
noncomputable def A0h(C:Cx)(k:Nat)(c fI:Addr)(n:Str)(ini:List V→List AO→Option (V×List AO)):Prop:=
 ∀ A,Room k A→∀ ly g σ s us vs x dx w objs',Rel C ly g σ s→g.role x=some (.frz (instObj c dx))→C.hb.get? dx=none→g.role dx=none→s.heap.get? dx=some PySem.W.emptyDict→RelVs C g us vs→ini us σ.objs=some (w,objs')→
  codeAny (Md C) A (.call (.ref fI) ⟨.ref x::vs,[]⟩) (fun r s'=>r=.ok (.ret .none)∧∃ g',g.le g'∧Rel C ly g' ⟨σ.loc,objs'⟩ s'∧RelV C g' (.obj c n w) (.ref x)) s
noncomputable def y8(c:Addr)(n:Str)(ini:List V→List AO→Option (V×List AO))(l:DL):D:=fun σ=>(l σ).bind fun p=>(ini p.1 p.2.objs).bind fun q=>some (.obj c n q.1,⟨p.2.loc,q.2⟩)
theorem Room.under{i:String}{as:Args}(h:Room (k+2) A)(hw:(Code.builtin i as).weight≤2)(hu:(Code.builtin i as).cUnits≤8):Room k (A.under (.builtin i as)):=
 ⟨h.handled,by have:=h.depth;show A.depth+_+k<1000;lia,by have:=h.units;show A.units+_+8 * k<9900;lia⟩
theorem A4U(X:K.In C.hb){c:Addr}{n:Str}{ini:List V→List AO→Option (V×List AO)}(T:A2N K c n fI)(h:A0h C k c fI n ini)(hA:Room (k+2) A){s:Shared}{vs:List Value}{w:V}(R:Rel C ly g σ s)(V1:RelVs C g us vs)(e:ini us σ.objs=some (w,objs'))(hw:∀ as,(Code.builtin "type.__call__" as).weight≤2∧(Code.builtin "type.__call__" as).cUnits≤8):wpAny (Md C) A (call (.ref c) vs) (Ev C ly g ⟨σ.loc,objs'⟩ (.obj c n w)) X4 s:=by
 obtain⟨hp,gn,dr,tk,os⟩:=s
 have X1:=X.keeps R.old
 refine wpAny_call (make_core (makes_of X1 T.makes) (looks_findIn X1 T.init) (fun self=>bind_fn X1 self T.fn) (.inl rfl) ?_)
 have hx:((hp.push PySem.W.emptyDict).push (instObj c hp.objs.size)).get? (hp.objs.size+1)=some (instObj c hp.objs.size):=by rw[← (Heap.size_push ..:(hp.push PySem.W.emptyDict).objs.size=hp.objs.size+1)];exact Heap.get?_push_size _ rfl
 obtain⟨l2,R2⟩:=((R.grow (Grow.push_ (o:=PySem.W.emptyDict) (t:=tk))).grow (Grow.push_ (o:=instObj c hp.objs.size) (t:=tk))).name (D6 R.old (Heap.get?_none_of_le (Nat.le_succ _)):C.hb.get? (hp.objs.size+1)=none) (R.none_above (a:=hp.objs.size+1) (Nat.le_succ _)) hx
 refine codeAny_mono (h _ (hA.under (hw _).1 (hw _).2) ly _ σ _ us vs (hp.objs.size+1) hp.objs.size w objs' R2 (by simp [G.put]) (D6 R.old (Heap.get?_none_of_le (Nat.le_refl _)):C.hb.get? hp.objs.size=none) (by simp only[G.put,if_neg (Nat.ne_of_lt (Nat.lt_succ_self _):hp.objs.size≠hp.objs.size+1)];exact(R.none_above (a:=hp.objs.size) (Nat.le_refl _))) (Heap.get?_push_of_some _ (Heap.get?_push_size _ rfl):((hp.push PySem.W.emptyDict).push (instObj c hp.objs.size)).get? hp.objs.size=some PySem.W.emptyDict) (m8 l2 _ _ V1) e) ?_
 rintro r s' ⟨rfl,g3,l3,R3,V3⟩
 exact⟨rfl,g3,l2.trans l3,R3,V3⟩
end
end
section
section
variable{K:Frag}
def B29(C:Cx)(k:Nat)(env:Env)(ly:List Loc)(pre:List Stmt)(d:DS):Prop:=∀ A,Room k A→∀ g σ s σ',Rel C ly g σ s→d σ=some (.next,σ')→∀ (rest:List Stmt) (Q:Flow→Shared→Prop),
 (∀ g' s',g.le g'→Rel C ly g' σ' s'→wpAny (Md C) A (execs rest env) Q X4 s')→wpAny (Md C) A (execs (pre++rest) env) Q X4 s
theorem A4D:B29 C k env ly [] dSkip:=fun A hA g σ s σ' R e rest Q q=>by cases e;exact q g s (.refl g) R
theorem A2f{st:Stmt}{pre:List Stmt}{a d:DS}(h:S1 C k env ly st a)(hr:B29 C k env ly pre d):B29 C k env ly (st::pre) (A9 a d):=fun A hA g σ s σ' R e rest Q q=>by
 refine b2 e fun f σ1 e1 e => ?_
 refine wpAny_execs_cons (h.use hA R e1 fun g1 x s1 l1 R1 V1 => ?_)
 cases f with
 | next=>
  obtain rfl:_=_:=V1
  exact hr A hA g1 σ1 s1 σ' R1 e rest Q fun g2 s2 l2 R2=>q g2 s2 (l1.trans l2) R2
 | brk=>cases e
 | cont=>cases e
 | ret v=>cases e
theorem A61{c:Addr}{n self:Str}{sl:Array (Option Value)}{pre post:List Stmt}{ve:Expr}{mk:Addr→List V→Option (List (Option V))}{d1 d2:DS}{a:D}{ini:List V→List AO→Option (V×List AO)}(B:Base C)(X:K.In C.hb)(T:A2N K c n fI)(hK:List.lookup fI K=some ⟨cls,dc,.func fd,sl⟩)(hb:fd.body=.stmts (pre++.Assign [.Attribute (.Name self np) n pos'] ve pos::post))(hc:codeIn K fd.code fd.qualname=true){xs:List Str}(hx:xs.Nodup)(hcell:(fd.scope.names.all fun x=>x.2 != .cell)=true)(hmk:∀ x us loc,mk x us=some loc→∀ (g:G) (vs:List Value) (s:Shared),K.In s.heap→RelVs C g us vs→∃ binds:List (Str×Value),BindsTo s fd ⟨.ref x::vs,[]⟩ binds∧(binds.all fun x=>fd.scope.names.lookup x.1==some .local)=true∧A0e C g (fun x=>binds.reverse.lookup x) xs loc)(hself:∀ L,Bnd (callEnv fd L fI) (xs.map fun x=>.fr L x) self 0)(hpre:∀ L,B29 C k (callEnv fd L fI) (xs.map fun x=>.fr L x) pre d1)(ha:∀ L,SE C k (callEnv fd L fI) (xs.map fun x=>.fr L x) ve a)(hpost:∀ L,SS C k (callEnv fd L fI) (xs.map fun x=>.fr L x) post d2)(hs:∀ L,swapsWith ve (some (.Attribute (.Name self np) n pos')) pos.line (callEnv fd L fI)=pure false)(hini:∀ x us objs w objs',ini us objs=some (w,objs')→∃ loc σ1 σ2 σ3,mk x us=some loc∧d1 ⟨loc,objs⟩=some (.next,σ1)∧a σ1=some (w,σ2)∧σ2.loc[0]?=some (some (.t (.cst (.ref x))))∧d2 σ2=some (.next,σ3)∧σ3.objs=objs'∧objs.length≤objs'.length)(h1:fd.scope.isCoroutine=false)(h2:fd.scope.isGenerator=false)(h3:fd.scope.kind=.function):A0h C (k+1) c fI n ini:=fun A hA ly g σ s us vs x dx w objs' R hxr hb1 hr1 hd1 hv e=>by
 refine A35 (hini x us _ _ _ e) fun loc σ1 σ2 σ3 e0 e1 e2 e3 e4 hR9 hle => ?_
 subst hR9
 have X1:=X.keeps R.old
 refine q8 (hmk x us loc e0 g vs s X1 hv) fun binds hB hall hS => ?_
 refine codeAny_call_def hA.rl (X1 _ _ hK) rfl (B.nolimit.keeps R.old) (codeRec_of X1 hc) hb hB (fun x hx => ?_) (fun x hx => ?_) (fun h₀ hns hk => ?_) h1 h2 h3
 ·have:=List.all_eq_true.mp hcell x hx
  simpa using this
 ·have:=List.all_eq_true.mp hall x hx
  simpa using this
 obtain⟨R1,hf,hkept,hnew,hkk⟩:=R.enter (ly':=xs.map fun x=>.fr s.heap.objs.size x) (loc':=loc) (h':=h₀) (tk:=s.toks+binds.length) hk (by rw[Y1 hS,List.length_map]) (P7 hx) (fun i l w hl hw=>by
  rw[List.getElem?_map] at hl
  cases q:xs[i]? with
  | none=>rw[q] at hl;cases hl
  | some x=>
   rw[q] at hl;cases hl
   exact⟨B3,_,hns,Y2 hS q hw⟩)
 let g1:=g.enter ly (xs.map fun x=>.fr s.heap.objs.size x) s.heap
 have hdx:g1.role dx=none:=by
  have n1:(xs.map fun x=>Loc.fr s.heap.objs.size x).find? (fun l=>l.addr==dx)=none:=by
   rw[List.find?_eq_none]
   intro l hl q
   refine I7 (List.mem_map.mp hl) fun y _ hR2 => ?_
   subst hR2
   have q:s.heap.objs.size=dx:=by simpa [Loc.addr] using q
   rw[← q,B3] at hd1;cases hd1
  have n2:dx∉ly.map Loc.addr:=fun hm=>by
   refine I7 (List.mem_map.mp hm) fun l hl hR2 => ?_
   subst hR2
   obtain⟨i,hi⟩:=List.getElem?_of_mem hl
   rw[R.loc hi] at hr1;cases hr1
  show (G.enter _ _ _ _).role dx=none
  simp only[G.enter,n1,if_neg n2,hr1]
 have l2:g1.le (g1.put dx (.kept PySem.W.emptyDict)):=m9 hdx
 have born:B6P C (g1.put dx (.kept PySem.W.emptyDict)) c x dx:=⟨l2.frz _ _ (hf _ _ hxr),by simp [G.put]⟩
 refine wpAny_mono (hpre _ _ hA.deeper _ _ _ _ (R1.hold hb1 hdx (hk _ _ hd1)) e1 _ _ fun g3 s3 l3 R3=>wpAny_execs_cons ?_) (fun _ _ h=>h) fun _ _ x=>x.elim
 refine B0M X T (hself _) (ha _) (hs _) hA.deeper R3 ⟨l3.frz _ _ born.inst,l3.kept _ _ born.dict⟩ e2 e3 fun g4 g5 s5 l4 hk4 ⟨o,h5⟩ lv5 R5 V5 => ?_
 subst h5
 refine(hpost _).use hA.deeper R5 e4 fun g6 fl s6 l6 R6 V6 => ?_
 obtain rfl:_=_:=V6
 have l04:(g1.put dx (.kept PySem.W.emptyDict)).le g4:=l3.trans l4
 have l16:g1.le g6:=by
  refine⟨?_,fun b y hb => ?_,fun b y hb => ?_,Nat.le_trans (Nat.le_trans l2.tk l04.tk) l6.tk⟩
  ·obtain⟨⟨t1,h1⟩,_⟩:=l04
   obtain⟨⟨t2,h2⟩,_⟩:=l6
   refine⟨t1++t2,?_⟩
   rw[h2]
   show g4.own++t2=_
   rw[h1]
   show g1.own++t1++t2=_
   rw[List.append_assoc]
  ·have h1:=l04.frz b y (l2.frz b y hb)
   have:b≠dx:=by rintro rfl;rw[hk4] at h1;cases h1
   exact l6.frz b y (by simp only[G.put,if_neg this,h1])
  ·have h1:=l04.kept b y (l2.kept b y hb)
   have:b≠dx:=by rintro rfl;rw[hdx] at hb;cases hb
   exact l6.kept b y (by simp only[G.put,if_neg this,h1])
 refine xAA (R.exit (m:=σ3.objs.length) hle R6 l16 hkept hnew hf hkk) fun l fz R7 => ?_
 rw[List.take_length] at R7
 have lv7:g6.lev (g.exit g6 ly (xs.map fun x=>.fr s.heap.objs.size x) σ3.objs.length):=⟨⟨[],by
  show g6.own.take σ3.objs.length=_
  rw[R6.olen,List.take_length,List.append_nil]⟩,fz,Nat.le_refl _⟩
 exact⟨rfl,_,l,R7,J6 lv7 _ _ (B6 l6 _ _ V5)⟩
theorem B30{x:Str}{c:Addr}{n:Str}{ini:List V→List AO→Option (V×List AO)}{l:DL}(B:Base C)(X:K.In C.hb)(hg:env.globals=mainGlobals)(hk:env.scope.kind=.function)(hx:env.kindOf x=some .globalImplicit)(hv:nsIn K mainGlobals x=some (some (.ref c)))(T:A2N K c n fI)(h:A0h C k c fI n ini)(hl:SL C (k+2) env ly args l)(hne:∃ a r,args=a::r∧starEach (a::r) env=(false,eval a env)::starEach r env∧(backTo pos (starEach r env)).any (·.1)=false)(hd:(x==("__debug__" : Str))=false)(hw:∀ as,(Code.builtin "type.__call__" as).weight≤2∧(Code.builtin "type.__call__" as).cUnits≤8):
  SE C (k+2) env ly (.Call (.Name x np) args [] pos) (y8 c n ini l):=fun A hA g σ s v σ' R e=>by
 refine b2 e fun us σ1 e1 e => ?_
 refine b2 e fun w objs e2 e => ?_
 (first | refine s2 e ?_ | refine s1 e ?_ | cases e)
 refine A2b (hne) fun a r hR2 hs hpl => ?_
 subst hR2
 refine Call_ (Calls.Name_function_global hk hx (Calls.loadGlobal_global (by rw[hg];exact B.g.keeps R.old) (mg_of X B.g hv) ?_) hd)
 refine callWith_K X T.keep ((hl pos).use hA R e1 fun g1 vs s1 l1 R1 V1=>⟨X.keeps R1.old,?_⟩) hs hpl
 rw[List.nil_append]
 exact wpAny_mono (A4U X T h hA R1 V1 e2 hw) (fun y s2 ⟨g2,l2,R2,V2⟩=>⟨g2,l1.trans l2,R2,V2⟩) fun _ _ x=>x.elim
theorem A6c{x:Str}{c:Addr}{n:Str}{ini:List V→List AO→Option (V×List AO)}(B:Base C)(X:K.In C.hb)(hg:env.globals=mainGlobals)(hk:env.scope.kind=.function)(hx:env.kindOf x=some .globalImplicit)(hv:nsIn K mainGlobals x=some (some (.ref c)))(T:A2N K c n fI)(h:A0h C k c fI n ini)(hd:(x==("__debug__" : Str))=false)(hw:∀ as,(Code.builtin "type.__call__" as).weight≤2∧(Code.builtin "type.__call__" as).cUnits≤8):
  SE C (k+2) env ly (.Call (.Name x np) [] [] pos) (y8 c n ini dNil):=fun A hA g σ s v σ' R e=>by
 refine b2 e fun us σ1 e1 e => ?_
 cases e1
 refine b2 e fun w objs e2 e => ?_
 cases e
 refine Call_ (Calls.Name_function_global hk hx (Calls.loadGlobal_global (by rw[hg];exact B.g.keeps R.old) (mg_of X B.g hv) ?_) hd)
 refine callWith_K0 (X.keeps R.old) T.keep ?_
 rw[List.nil_append]
 exact A4U X T h hA R (us:=[]) (vs:=[]) rfl e2 hw
end
end
section
structure A7a(s:Shared)(v:Value)(T:String)(id:String):Prop where
 ty:s.TypeIs v T
 look:typeLookup (.type T) "__getitem__" = pure (some (.builtin id))
noncomputable def A80(x:T):Bool:=T.casesOn (motive_1:=fun _=>Bool) x false (fun _=>false) (fun _=>false) (fun _=>true) (fun _=>false) (fun _=>false) (fun _=>true) (fun _=>true) (fun _ _=>true) (fun _ _=>true) (fun _ _=>false) (fun _ _=>false)
theorem A3o{s:Shared}{x:T}{v:Value}(h:RelW C g s.heap x v)(e:A80 x=true):∃ T id,A7a s v T id:=by
 cases x with
 | str y=>obtain⟨t,rfl⟩:=h;exact⟨_,_,typeIs_str s y t,F.slot_str_getitem.lookup⟩
 | tup xs=>obtain⟨a,items,n,rfl,ho,_⟩:=h;exact⟨_,_,⟨_,ho,rfl⟩,slot_tuple_getitem.lookup⟩
 | lst xs=>obtain⟨a,items,n,rfl,ho,_⟩:=h;exact⟨_,_,⟨_,ho,rfl⟩,slot_list_getitem.lookup⟩
 | ds ks xs=>obtain⟨a,kvs,rfl,hd,_⟩:=h;exact⟨_,_,hd.typeIs,slot_dict_getitem.lookup⟩
 | di ks xs=>obtain⟨a,kvs,rfl,hd,_⟩:=h;exact⟨_,_,hd.typeIs,slot_dict_getitem.lookup⟩
 | _=>exact nb e
section
variable{e1:Expr}{a:D}
theorem A1N{s:Shared}{value i:Expr}(hs:∀ o j,subscripted i false o j=operate [o,j] (getItem o j)∨subscripted i false o j=operate [j,o] (getItem o j))(h:wpAny (Md C) A (eval value env) (fun o s₁=>wpAny (Md C) A (eval i env) (fun j s₂=>(∃ T id,A7a s₂ o T id)∧wpAny (Md C) A (getItem o j) Q E s₂) E s₁) E s):
  wpAny (Md C) A (eval (.Subscript value i pos) env) Q E s:=by
 refine Subscript_ (wpAny_mono h (fun o s₁ h₁=>wpAny_mono h₁ (fun j s₂ h₂ => ?_) fun _ _ x=>x) fun _ _ x=>x)
 obtain⟨⟨T,id,hT,hl⟩,h₂⟩:=h₂
 unfold subscriptTail
 refine wpAny_bind ?_
 rw[getitemInPython_of_ne hT.not_modules]
 refine wpAny_bind (wpAny_specialOf hT hl ?_)
 have fin:wpAny (Md C) A (subscripted i false o j) (fun r s₃=>wpAny (Md C) A (letTemporaryGo value o r >>= fun _=>pure r) Q E s₃) E s₂:=by
  rcases hs o j with hs | hs <;> rw[hs] <;> exact wpAny_operating (wpAny_mono h₂ (fun r s₃ h₃=>wpAny_bind (wpAny_letTemporaryGo (wpAny_pure h₃))) fun _ _ x=>x)
 first
  | exact wpAny_pure (wpAny_bind fin)
  | exact wpAny_bind (wpAny_pure (wpAny_bind fin))
  | exact wpAny_bind fin
noncomputable def atI{α:Type}(f:Nat→Option α)(i:Int):Option α:=if 0≤i∧i<2 ^ 60 then f i.toNat else none
noncomputable def fItem:T→T→Option T:=or2 U7 F4 (fun xs=>atI (xs[·]?))<|or2 A02 F4 (fun xs=>atI (xs[·]?))<|or2 G9 F4 (fun s=>atI fun i=>(s.cps[i]?).map fun c=>.str ⟨#[c]⟩)<|or2 tDs G9 (fun p=>lk p.1 p.2)<|o2 tDi F4 fun p=>lk p.1 p.2
theorem u0{i:Int}{n:Nat}(h0:0≤i)(h1:i.toNat<n):seqIndex? i n=some i.toNat:=by
 obtain⟨m,rfl⟩:=Int.eq_ofNat_of_zero_le h0
 unfold seqIndex?
 have h2:((m:Int))<(n:Int):=Int.ofNat_lt.mpr h1
 simp only[if_neg (Int.not_lt.mpr h0),Int.natCast_nonneg,h2,and_self,if_true,decide_true,Bool.and_self]
theorem A9w{i:Int}(h:i<2 ^ 60):i<2 ^ 63:=Int.lt_trans h (by decide)
theorem A9a:Pure2 C k getItem fItem:=.or (.on G1 D9 fun A hA ly g σ s xs i u v z R hx hy e=>by
  obtain⟨a,items,n,rfl,ho,r⟩:=hx;obtain⟨t,rfl⟩:=hy
  refine iN e fun h e => ?_
  refine I7 (r.get e) fun v hv rv => ?_
  have hl:s.heap.IsList a items:=⟨_,ho,rfl,n,rfl⟩
  with_reducible refine wpAny_getItem_list hl h.1 (A9w h.2) (by rw[← Array.getElem?_toList];exact hv) ?_
  exact C8 rv)<|.or (.on K7 D9 fun A hA ly g σ s xs i u v z R hx hy e=>by
  obtain⟨a,items,n,rfl,ho,r⟩:=hx;obtain⟨t,rfl⟩:=hy
  refine iN e fun h e => ?_
  refine I7 (r.get e) fun v hv rv => ?_
  have hlt:=(List.getElem?_eq_some_iff.mp hv).1
  rw[Array.length_toList] at hlt
  have hl:IsTup s.heap a items:=⟨_,ho,rfl,n,rfl⟩
  with_reducible refine getItem_tuple hl (Int.le_trans (by decide) h.1) (A9w h.2) (u0 h.1 hlt) (by rw[← Array.getElem?_toList];exact hv) ?_
  exact C8 rv)<|.or (.on F3 D9 fun A hA ly g σ s x i u v z R hx hy e=>by
  obtain⟨t,rfl⟩:=hx;obtain⟨t',rfl⟩:=hy
  refine iN e fun h e => ?_
  refine I7 (Option.map_eq_some_iff.mp e) fun c hc e => ?_
  subst e
  have hlt:=(Array.getElem?_eq_some_iff.mp hc).1
  with_reducible refine PyProof.Rows.getItem_str ?_ (c:=c) ?_ ?_
  ·obtain⟨h1,h2⟩:=h;simp;lia
  ·show (seqIndex? _ (Array.size _)).bind _=_
   rw[u0 h.1 hlt];exact hc
  ·exact C2 .str)<|.or (.on Q0 F3 fun A hA ly g σ s p y u v z R hx hy e=>by
  obtain⟨a,kvs,rfl,hd,hs,h,r⟩:=hx;obtain⟨t,rfl⟩:=hy
  change lk p.1 p.2 y=some z at e
  rw[← h] at e
  refine I7 (n5 kvs _ r e) fun v hv rv => ?_
  with_reducible refine wpAny_getItem_of (strKind_is _ _ _ t) hd.mapOf hv ?_
  exact C2 rv)<|.on A5S D9 fun A hA ly g σ s p y u v z R hx hy e=>by
  obtain⟨a,kvs,rfl,hd,hs,h,r⟩:=hx;obtain⟨t,rfl⟩:=hy
  change lk p.1 p.2 y=some z at e
  rw[← h] at e
  refine I7 (n5 kvs _ r e) fun v hv rv => ?_
  with_reducible refine wpAny_getItem_of (intKind_is _ _ _ t) hd.mapOf hv ?_
  exact C2 rv
noncomputable def A7(a b:D):D:=fun σ=>(a σ).bind fun p=>(b p.2).bind fun q=>(view q.2 p.1).bind fun x=>(view q.2 q.1).bind fun y=>if A80 x then (fItem x y).bind fun z=>some (.t z,q.2) else none
theorem A8(B:Base C)(ha:SE C k env ly e1 a)(hb:SE C k env ly e2 b)(hs:∀ o j,subscripted e2 false o j=operate [o,j] (getItem o j)∨subscripted e2 false o j=operate [j,o] (getItem o j)):SE C k env ly (.Subscript e1 e2 pos) (A7 a b):=fun A hA g σ s v σ' R e=>by
 refine b2 e fun p σ1 ea e => ?_
 refine b2 e fun q σ2 eb e => ?_
 refine b1 e fun x ex e => ?_
 refine b1 e fun y ey e => ?_
 refine iN e fun hsub e => ?_
 ·refine b1 e fun z ez e => ?_
  refine s2 e ?_
  refine A1N hs (ha.use hA R ea fun g1 o s1 l1 R1 V1=>hb.use hA R1 eb fun g2 j s2 l2 R2 V2 => ?_)
  have W1:=R2.view B (B6 l2 _ _ V1) ex
  have W2:=R2.view B V2 ey
  refine⟨A3o W1 hsub,wpAny_mono (A9a (k:=k) A hA ly g2 _ s2 x y o j z R2 W1 W2 ez) (fun r s3 ⟨g3,w,T3⟩=>⟨g3,(l1.trans l2).trans w.le,R2.grow w,T3⟩) fun _ _ x=>x.elim⟩
noncomputable def o9(x:T):Option (Option Int):=T.casesOn (motive_1:=fun _=>Option (Option Int)) x (some none) (fun _=>none) (fun i=>some (some i)) (fun _=>none) (fun _=>none) (fun _=>none) (fun _=>none) (fun _=>none) (fun _ _=>none) (fun _ _=>none) (fun _ _=>none) (fun _ _=>none)
noncomputable def m0(xs:List T)(lo hi st:Option Int):List T:=(sliceRange (sliceBounds lo hi st xs.length).1 (sliceBounds lo hi st xs.length).2.1 (sliceBounds lo hi st xs.length).2.2).filterMap (xs[·]?)
noncomputable def slT(xs:List T)(lo hi st:Option Int):Option T:=hi.bind fun b=>if (lo=none∧st=none)∧0≤b∧b.toNat<xs.length∧xs.length<1000 then some (.tup (xs.take b.toNat)) else none
noncomputable def o6(x:T)(lo hi st:Option Int):Option T:=(U7 x).elim ((G9 x).elim ((A02 x).elim none fun xs=>slT xs lo hi st) fun s=>if st=none∧s.length<1000 then some (.str (Txt.slice s lo hi)) else none) fun xs=>if st≠some 0∧xs.length<1000 then some (.lst (m0 xs lo hi st)) else none
theorem A1b{xs:List T}(r:RelTs C g xs items.toList)(l:List Nat):RelTs C g (l.filterMap (xs[·]?)) (l.filterMap (items[·]?)):=by
 induction l with
 | nil=>rfl
 | cons i l ih=>
  rw[List.filterMap_cons,List.filterMap_cons]
  cases q:items[i]? with
  | none=>
   have q1:xs[i]?=none:=by
    rw[List.getElem?_eq_none_iff,← r.length,← List.getElem?_eq_none_iff,Array.getElem?_toList];exact q
   rw[q1];exact ih
  | some v=>
   refine I7 (r.get' (i:=i) (v:=v) (by rw[Array.getElem?_toList];exact q)) fun x hx rx => ?_
   rw[hx];exact⟨v,_,rfl,rx,ih⟩
inductive PartOk(v:Value)(p:Option Int):Prop
 | mk (q:Option (Int×Tok)) (h:v=partValue q) (e:q.map (·.1)=p)
theorem PartOk.part{v:Value}{p:Option Int}:PartOk v p→IsPart v p
 | ⟨none,h,e⟩=>h▸e▸.none
 | ⟨some q,h,e⟩=>h▸e▸.int ..
theorem A0O{x:T}{v:Value}{p:Option Int}(hx:RelW C g h x v)(e:o9 x=some p):PartOk v p:=by
 cases x with
 | none=>exact⟨none,hx,Option.some.inj e⟩
 | int i=>obtain⟨t,rfl⟩:=hx;exact⟨some (i,t),rfl,Option.some.inj e⟩
 | _=>exact nn e
theorem B3x{b n:Nat}(hb:b<n):Builtin.Slice.sliceAdjust none (some (b:Int)) 1 (n:Int)=(0,(b:Int)):=by
 unfold Builtin.Slice.sliceAdjust
 simp only[show ¬ ((1:Int)<0) from by decide,if_false,Int.not_lt.mpr (Int.natCast_nonneg b),Int.min_eq_left (Int.ofNat_le.mpr (Nat.le_of_lt hb))]
theorem B5L(b:Nat):Builtin.Slice.slicePlaces 0 (b:Int) 1=b:=by
 unfold Builtin.Slice.slicePlaces
 rw[if_pos (by decide)]
 cases b with
 | zero=>rfl
 | succ b=>rw[if_pos (show (0:Int)<((b+1:Nat):Int) from Int.ofNat_lt.mpr (Nat.succ_pos b)),Int.sub_zero,Int.ediv_one,Int.sub_add_cancel];rfl
theorem A0I{α:Type}(l:List α)(b:Nat):(List.range b).filterMap (fun k=>l[k]?)=l.take b:=by
 induction b with
 | zero=>rfl
 | succ b ih=>
  rw[List.range_succ,List.filterMap_append,ih,List.take_add_one]
  show _++(match l[b]? with | none=>[] | some x=>[x])=_
  cases l[b]? <;> rfl
theorem A0P{A:Around}{E:Value→Shared→Prop}{s:Shared}{t sl:Addr}{b:Nat}{u:Tok}(ht:IsTup s.heap t items)(hs:s.heap.IsSliceOf sl .none (.int b u) .none)(hb:b<items.size)(h:Q (.ref s.heap.objs.size) { s with heap:=s.heap.push (seqObj "tuple" (items.toList.take b).toArray 0) })(hsz:items.size≤sizeLine):wpAny (Md C) A (getItem (.ref t) (.ref sl)) Q E s:=by
 have hok:sizeOk (.seq (items.toList.take b).toArray):=by
  show (items.toList.take b).toArray.size≤sizeLine
  rw[List.size_toArray,List.length_take,Array.length_toList]
  exact Nat.le_trans (Nat.min_le_right _ _) hsz
 refine q8 (id hs) fun os hos hcs hds => ?_
 have hTs:s.TypeIs (.ref sl) "slice" := ⟨os,hos,hcs⟩
 have hpick:((List.range b).filterMap fun (k:Nat)=>items[((0:Int)+(k:Int) * 1).toNat]?)=items.toList.take b:=by
  rw[← A0I]
  congr 1
  funext k
  rw[Int.mul_one,Int.zero_add,Int.toNat_natCast,Array.getElem?_toList]
 unfold getItem
 try with_reducible refine wpAny_holding ?_
 first | refine wpAny_bind (wpAny_pure ?_) | skip
 refine wpAny_bind (wpAny_sequenceKey ht.typeIs (by decide) ?_)
 refine wpAny_bind (wpAny_callSpecial?_slot (name:=Str.ofString "__getitem__") ht.typeIs slot_tuple_getitem
  (wpAny_call_entry slot_tuple_getitem ht.typeIs entry_tuple_getitem ?_ (args_tuple_getitem _ _)))
 show wpAny _ _ (Builtin.Tuple.tupleItemsOf (.ref t) >>= _) _ _ s
 refine wpAny_bind (tupleItemsOf_ ht ?_)
 refine wpAny_bind (wpAny_typeOf hTs ?_)
 rw[if_pos (by decide)]
 refine wpAny_bind (m:=Builtin.Slice.sliceApplied (.ref sl) (pure (items.size:Int))) ?_
 ·unfold Builtin.Slice.sliceApplied Builtin.Slice.sliceFields
  refine wpAny_bind (wpAny_bind (wpAny_field hos hds (x:=.none) rfl (wpAny_bind (wpAny_field hos hds (x:=.int b u) rfl (wpAny_bind (wpAny_field hos hds (x:=.none) rfl (wpAny_pure ?_)))))))
  refine wpAny_bind (slicePart_none ?_)
  show wpAny _ _ (if ((1:Int)==0)=true then _ else _) _ _ s
  rw[if_neg (by decide)]
  refine wpAny_bind (slicePart_none (wpAny_bind (slicePart_int (wpAny_bind (wpAny_pure ?_)))))
  show wpAny _ _ (match Builtin.Slice.sliceAdjust none (some (b:Int)) 1 (items.size:Int) with | (lo,hi)=>pure (lo,(1:Int),Builtin.Slice.slicePlaces lo hi 1)) _ _ s
  rw[B3x hb]
  show wpAny _ _ (pure ((0:Int),(1:Int),Builtin.Slice.slicePlaces 0 (b:Int) 1)) _ _ s
  rw[B5L]
  refine wpAny_pure ?_
  have hno:¬ (((0:Int)==0&&(1:Int)==1&&b==items.size)=true):=by
   rw[beq_eq_false_iff_ne.mpr (Nat.ne_of_lt hb),Bool.and_false];exact Bool.false_ne_true
  show wpAny _ _ (if ((0:Int)==0&&(1:Int)==1&&b==items.size)=true then _ else _) _ _ s
  rw[if_neg hno,hpick]
  first
   | exact wpAny_bind (m:=Builtin.Tuple.tupleExact _) (wpAny_newObj_type (wpAny_pure ⟨_,rfl,wpAny_pure h⟩) hok)
   | exact wpAny_bind (m:=Builtin.Tuple.tupleExact _) (wpAny_newObj_type (wpAny_bind (wpAny_pure (wpAny_pure ⟨_,rfl,wpAny_pure h⟩))) hok)
   | exact wpAny_bind (wpAny_bind (m:=Builtin.Tuple.tupleExact _) (wpAny_newObj_type (wpAny_pure (wpAny_pure ⟨_,rfl,wpAny_pure h⟩)) hok))
   | exact wpAny_bind (wpAny_bind (m:=Builtin.Tuple.tupleExact _) (wpAny_newObj_type (wpAny_pure ⟨_,rfl,wpAny_pure h⟩) hok))
theorem A9B{s:Shared}{x:T}{u vl vu vs:Value}{lo hi st:Option Int}{sl:Addr}(R:Rel C ly g σ s)(hx:RelW C g s.heap x u)(hs:s.heap.IsSliceOf sl vl vu vs)(pl:PartOk vl lo)(pu:PartOk vu hi)(ps:PartOk vs st)(e:o6 x lo hi st=some z):wpAny (Md C) A (getItem u (.ref sl)) (A06 C g s z) X4 s:=by
 refine S0 e (fun xs ex e => ?_) fun e=>S0 e (fun y ex e => ?_) fun e=>S0 e (fun xs ex e => ?_) nn
 ·have hx:=RelW.of (G1 ex) hx
  obtain⟨a,items,n,rfl,ho,r⟩:=hx
  refine iN e fun h e => ?_
  have hl:=r.length
  rw[Array.length_toList] at hl
  refine s1 e (wpAny_getItem_list_slice ⟨_,ho,rfl,n,rfl⟩ hs pl.part pu.part ps.part h.1 ?_ (hl.symm▸D3 h.2))
  have w:=Grow.frz_ (t:=s.toks) R (h':=s.heap.push (seqObj "list" (slicePick items lo hi st) 0)) (fun _ _ e=>Heap.get?_push_of_some _ e) B3 (Heap.get?_push_size _ rfl)
  refine⟨_,w,.lst G.put_fz (F5 w.le _ _ ?_)⟩
  unfold slicePick m0
  rw[hl,List.toList_toArray]
  exact A1b r _
 ·have hx:=RelW.of (F3 ex) hx
  obtain⟨t,rfl⟩:=hx
  refine iN e fun h e => ?_
  refine s1 e ?_
  obtain⟨ql,rfl,rfl⟩:=pl
  obtain⟨qu,rfl,rfl⟩:=pu
  obtain⟨qs,rfl,h2⟩:=ps
  cases Option.map_eq_none_iff.mp (h2.trans h.1)
  refine wpAny_getItem_str_slice (l:=ql) (u:=qu) (st:=none) hs rfl ?_
  unfold sliceMade Txt.slice slicePicked
  simp only[Option.map_none,Option.getD_none,beq_self_eq_true,Bool.true_and]
  split
  ·exact C8 .str
  ·refine⟨?_,C2 .str⟩
   show (Array.size _)≤sizeLine
   rw[List.size_toArray]
   exact Nat.le_trans (List.length_filterMap_le (fun (i:Nat)=>y.cps[i]?) _) (Nat.le_trans (sliceIndices_le (ql.map (·.1)) (qu.map (·.1)) y.length) (D3 h.2))
 ·have hx:=RelW.of (K7 ex) hx
  obtain⟨a,items,n,rfl,ho,r⟩:=hx
  refine b1 e fun b hb e => ?_
  refine iN e fun h e => ?_
  obtain⟨⟨h1,h2⟩,h3,h4,h5⟩:=h
  obtain⟨b,rfl⟩:=Int.eq_ofNat_of_zero_le h3
  have hl:=r.length
  rw[Array.length_toList] at hl
  obtain⟨ql,rfl,q1⟩:=pl
  obtain⟨qu,rfl,q2⟩:=pu
  obtain⟨qs,rfl,q3⟩:=ps
  cases Option.map_eq_none_iff.mp (q1.trans h1)
  cases Option.map_eq_none_iff.mp (q3.trans h2)
  refine I7 (Option.map_eq_some_iff.mp (q2.trans hb)) fun q hq e3 => ?_
  subst hq
  obtain⟨i,t⟩:=q
  cases e3
  refine s1 e (A0P (b:=b) (u:=t) ⟨_,ho,rfl,n,rfl⟩ hs (hl.symm▸h4) ?_ (hl.symm▸D3 h5))
  have w:=Grow.frz_ (t:=s.toks) R (h':=s.heap.push (seqObj "tuple" (items.toList.take b).toArray 0)) (fun _ _ e=>Heap.get?_push_of_some _ e) B3 (Heap.get?_push_size _ rfl)
  exact⟨_,w,.tup G.put_fz (F5 w.le _ _ (by rw[List.toList_toArray];exact r.take b))⟩
noncomputable def dSl(a lo hi st:D):D:=fun σ=>(a σ).bind fun p=>(lo p.2).bind fun q=>(hi q.2).bind fun r=>(st r.2).bind fun t=>(view t.2 p.1).bind fun x=>(view t.2 q.1).bind fun y=>(view t.2 r.1).bind fun z=>(view t.2 t.1).bind fun w=>
 if A80 x then (o9 y).bind fun lo=>(o9 z).bind fun hi=>(o9 w).bind fun st=>(o6 x lo hi st).bind fun o=>some (.t o,t.2) else none
theorem H9:Sd C k ly (evalPart none env) (dT .none):=fun A hA g σ s v σ' R e=>by
 refine s2 e ?_
 exact wpAny_pure ⟨g,.refl g,R,rfl⟩
theorem K8{d:D}(h:SE C k env ly e d):Sd C k ly (evalPart (some e) env) d:=h
theorem Q3{lo hi st:Option Expr}{p:Pos}{dl dh ds:D}(B:Base C)(ha:SE C k env ly e1 a)(hl:Sd C k ly (evalPart lo env) dl)(hh:Sd C k ly (evalPart hi env) dh)(hst:Sd C k ly (evalPart st env) ds)(hs:∀ o j,subscripted (.Slice lo hi st p) false o j=operate [o,j] (getItem o j)∨subscripted (.Slice lo hi st p) false o j=operate [j,o] (getItem o j)):SE C k env ly (.Subscript e1 (.Slice lo hi st p) pos) (dSl a dl dh ds):=fun A hA g σ s v σ' R e=>by
 refine b2 e fun p1 σ1 ea e => ?_
 refine b2 e fun p2 σ2 el e => ?_
 refine b2 e fun p3 σ3 eh e => ?_
 refine b2 e fun p4 σ4 es e => ?_
 refine b1 e fun x ex e => ?_
 refine b1 e fun y ey e => ?_
 refine b1 e fun z ez e => ?_
 refine b1 e fun w ew e => ?_
 refine iN e fun hsub e => ?_
 ·refine b1 e fun lo' e5 e => ?_
  refine b1 e fun hi' e6 e => ?_
  refine b1 e fun st' e7 e => ?_
  refine b1 e fun o' e8 e => ?_
  refine s2 e ?_
  refine A1N hs (ha.use hA R ea fun g1 o s1 l1 R1 V1=>wpAny_Slice (hl.use hA R1 el fun g2 vl s2 l2 R2 V2=>hh.use hA R2 eh fun g3 vu s3 l3 R3 V3=>hst.use hA R3 es fun g4 vs s4 l4 R4 V4 => ?_))
  have R5:=R4.grow (Grow.push_ (g:=g4) (s:=s4) (o:={ cls:=.type "slice", data:=.fields #[vl,vu,vs] }) (t:=s4.toks))
  have W1:=R5.view B (B6 ((l2.trans l3).trans l4) _ _ V1) ex
  have W2:=R5.view B (B6 (l3.trans l4) _ _ V2) ey
  have W3:=R5.view B (B6 l4 _ _ V3) ez
  have W4:=R5.view B V4 ew
  refine⟨A3o W1 hsub,wpAny_mono (A9B R5 W1 (Heap.IsSliceOf.new ..) (A0O W2 e5) (A0O W3 e6) (A0O W4 e7) e8) (fun r s5 ⟨g5,w,T5⟩=>⟨g5,(((l1.trans l2).trans l3).trans l4).trans w.le,R5.grow w,T5⟩) fun _ _ x=>x.elim⟩
end
end
section
noncomputable def A32(f:T→T→Option Bool)(xs ys:List T):Option Bool:=(xs.zip ys).foldr (fun p r=>(f p.1 p.2).bind fun b=>r.bind fun c=>some (b&&c)) (some true)
noncomputable def eqS(f:T→T→Option Bool):T→T→Option Bool:=
 or2 F4 F4 (fun a b=>some (a==b))<|or2 G9 G9 (fun a b=>some (a==b))<|or2 A02 A02 (fun xs ys=>if xs.length=ys.length then A32 f xs ys else none) <|
 or2 U7 U7 (fun xs ys=>if xs.length=ys.length then A32 f xs ys else some false) fun _ _=>none
noncomputable def eqN:Nat→T→T→Option Bool:=Nat.rec (fun _ _=>none) fun _=>eqS
inductive EqK(f:T→T→Option Bool)(x y:T)(b:Bool):Prop
 | i (a c:Int) (h1:x=.int a) (h2:y=.int c) (e:(a==c)=b)
 | s (a c:Str) (h1:x=.str a) (h2:y=.str c) (e:(a==c)=b)
 | t (xs ys:List T) (h1:x=.tup xs) (h2:y=.tup ys) (hl:xs.length=ys.length) (e:A32 f xs ys=some b)
 | l (xs ys:List T) (h1:x=.lst xs) (h2:y=.lst ys) (hl:xs.length=ys.length) (e:A32 f xs ys=some b)
 | n (xs ys:List T) (h1:x=.lst xs) (h2:y=.lst ys) (hl:xs.length≠ys.length) (e:false=b)
theorem A67{f:T→T→Option Bool}{x:T}{b:Bool}(e:eqS f x y=some b):EqK f x y b:=
 O1 e (fun a c h1 h2 e=>.i a c (D9 h1) (D9 h2) (Option.some.inj e)) fun e=>O1 e (fun a c h1 h2 e=>.s a c (F3 h1) (F3 h2) (Option.some.inj e)) fun e=>
 O1 e (fun xs ys h1 h2 e=>iN e fun h e=>.t xs ys (K7 h1) (K7 h2) h e) fun e=>O1 e (fun xs ys h1 h2 e=>if h:xs.length=ys.length then .l xs ys (G1 h1) (G1 h2) h ((if_pos h).symm.trans e) else .n xs ys (G1 h1) (G1 h2) h (Option.some.inj ((if_neg h).symm.trans e))) nn
noncomputable def eAt(f:T→T→Option Bool)(xs ys:List T)(j:Nat):Bool:=((xs.zip ys)[j]?.bind fun p=>f p.1 p.2).getD false
theorem A7Y{f:T→T→Option Bool}{xs:List T}{b:Bool}(e:A32 f xs ys=some b):(∀ (j:Nat) p,(xs.zip ys)[j]?=some p→f p.1 p.2=some (eAt f xs ys j))∧b=(List.range (xs.zip ys).length).all (eAt f xs ys):=by
 unfold A32 at e
 unfold eAt
 generalize xs.zip ys=l at *
 induction l generalizing b with
 | nil=>exact s1 e ⟨fun j p h=>nn h,rfl⟩
 | cons p l ih=>
  refine b1 e fun c e1 e => ?_
  refine b1 e fun d e2 e => ?_
  refine s1 e ?_
  refine⟨fun j q h => ?_,?_⟩
  ·cases j with
   | zero=>refine s1 h ?_;show _=some ((f p.1 p.2).getD false);rw[e1];rfl
   | succ j=>exact(ih e2).1 j q h
  ·rw[List.length_cons,List.range_succ_eq_map,List.all_cons,List.all_map,(ih e2).2]
   show (c&&_)=((f p.1 p.2).getD false&&_)
   rw[e1];rfl
section
variable{s:Shared}
theorem A3C{f:T→T→Option Bool}(hf:∀ x y v b,RelT C g x v→RelT C g y v→f x y=some b→b=true){xs:List T}{vs:List Value}{b:Bool}(r:RelTs C g xs vs)(r':RelTs C g ys vs)(e:A32 f xs ys=some b):b=true:=by
 induction xs generalizing ys vs b with
 | nil=>exact s1 e rfl
 | cons x xs ih=>
  cases ys with
  | nil=>exact s1 e rfl
  | cons y ys=>
   obtain⟨v,vs,rfl,h1,h2⟩:=r
   obtain⟨v',vs',e',h3,h4⟩:=r'
   cases e'
   refine b1 e fun c e1 e => ?_
   refine b1 e fun d e2 e => ?_
   refine s1 e ?_
   rw[hf _ _ _ _ h1 h3 e1,ih h2 h4 e2];rfl
theorem A3N{kd:String}{P P':List Value→Prop}{v:Value}:SqR (fun a o=>h.get? a=some o) kd P v→SqR (fun a o=>h.get? a=some o) kd P' v→∃ l,P l∧P' l:=by
 rintro⟨a,items,m,rfl,z,r⟩ ⟨a',items',m',h,z',r'⟩
 cases h
 cases z.symm.trans z'
 exact⟨_,r,r'⟩
theorem Rel.relX(B:Base C)(R:Rel C ly g σ s){x:T}{v:Value}(h:RelT C g x v):RelW C g s.heap x v:=by
 cases x
 case ch=>obtain⟨t,e,_⟩:=h;exact⟨t,e⟩
 all_goals exact R.relW B h
theorem B0a(B:Base C)(R:Rel C ly g σ s)(n:Nat){x:T}{v:Value}{b:Bool}(hx:RelW C g s.heap x v)(hy:RelW C g s.heap y v)(e:eqN n x y=some b):b=true:=by
 induction n generalizing x y v b with
 | zero=>exact nn e
 | succ n ih=>
  rcases A67 (f:=eqN n) e with ⟨a,c,h1,h2,e⟩|⟨a,c,h1,h2,e⟩|⟨xs,ys,h1,h2,hl,e⟩|⟨xs,ys,h1,h2,hl,e⟩|⟨xs,ys,h1,h2,hl,_⟩
  ·obtain⟨t,rfl⟩:=hx.of h1;obtain⟨t',h⟩:=hy.of h2;cases h;exact e▸beq_self_eq_true _
  ·obtain⟨t,rfl⟩:=hx.of h1;obtain⟨t',h⟩:=hy.of h2;cases h;exact e▸beq_self_eq_true _
  ·exact I7 (A3N (hx.of h1) (hy.of h2)) fun l r r'=>A3C (fun _ _ _ _ h h'=>ih (R.relX B h) (R.relX B h')) r r' e
  ·exact I7 (A3N (hx.of h1) (hy.of h2)) fun l r r'=>A3C (fun _ _ _ _ h h'=>ih (R.relX B h) (R.relX B h')) r r' e
  ·exact I7 (A3N (hx.of h1) (hy.of h2)) fun l r r'=>absurd (r.length.symm.trans r'.length) hl
theorem A14{f:T→T→Option Bool}{xs:List T}{items2:Array Value}(r:RelTs C g xs items.toList)(r':RelTs C g ys items2.toList)(hf:∀ x y u v b,RelT C g x u→RelT C g y v→f x y=some b→SeqAt.EqAt A s u v b)(h2:∀ (j:Nat) p,(xs.zip ys)[j]?=some p→f p.1 p.2=some (eAt f xs ys j)):∀ j (h1:j<items.size) (h2:j<items2.size),SeqAt.EqAt A s items[j] items2[j] (eAt f xs ys j):=fun j h1 h3=>by
 refine I7 (r.get' (i:=j) (v:=items[j]) (by rw[Array.getElem?_toList];exact Array.getElem?_eq_getElem h1)) fun x hx rx => ?_
 refine I7 (r'.get' (i:=j) (v:=items2[j]) (by rw[Array.getElem?_toList];exact Array.getElem?_eq_getElem h3)) fun y hy ry => ?_
 exact hf _ _ _ _ _ rx ry (h2 j (x,y) (List.getElem?_zip_eq_some.mpr ⟨hx,hy⟩))
structure B6O(A:Around)(s:Shared)(u v:Value)(b:Bool):Prop where
 eq:SeqAt.RcAt A s u v b
 ne:SeqAt.RcNeAt A s u v !b
 at':SeqAt.EqAt A s u v b∨∃ a a',u=.ref a∧v=.ref a'
theorem A6O{xs:List T}(h:xs.length=ys.length):(xs.zip ys).length=xs.length:=by rw[List.length_zip,h,Nat.min_self]
theorem B0b{n:Nat}(hu:A.units<cLine)(ih:∀ x y u v b,RelT C g x u→RelT C g y v→eqN n x y=some b→SeqAt.EqAt A.in1 s u v b){x:T}{u v:Value}{b:Bool}(hx:RelW C g s.heap x u)(hy:RelW C g s.heap y v)(e:eqN (n+1) x y=some b):B6O A s u v b:=by
 rcases A67 (f:=eqN n) e with ⟨a,c,h1,h2,e⟩|⟨a,c,h1,h2,e⟩|⟨xs,ys,h1,h2,hl,e⟩|⟨xs,ys,h1,h2,hl,e⟩|⟨xs,ys,h1,h2,hl,e⟩
 ·obtain⟨t,rfl⟩:=hx.of h1;obtain⟨t',rfl⟩:=hy.of h2;exact e▸⟨SeqAt.RcAt.int_int _ _ _ _,SeqAt.RcNeAt.int_int _ _ _ _,.inl (SeqAt.EqAt.int_int _ _ _ _)⟩
 ·obtain⟨t,rfl⟩:=hx.of h1;obtain⟨t',rfl⟩:=hy.of h2;exact e▸⟨SeqAt.RcAt.str_str _ _ _ _,SeqAt.RcNeAt.str_str _ _ _ _,.inl (SeqAt.EqAt.str_str _ _ _ _)⟩
 ·obtain⟨a,items,m,rfl,z,r⟩:=hx.of h1
  obtain⟨a',items',m',rfl,z',r'⟩:=hy.of h2
  obtain⟨h3,h4⟩:=A7Y e
  have q:=A14 r r' ih h3
  have hb:b=((List.range (min items.size items'.size)).all (eAt (eqN n) xs ys)&&items.size==items'.size):=by
   rw[h4,A6O hl,← Array.length_toList,← Array.length_toList,r.length,r'.length,← hl,Nat.min_self,beq_self_eq_true,Bool.and_true]
  rw[hb]
  exact⟨SeqAt.RcAt.tuples ⟨_,z,rfl,m,rfl⟩ ⟨_,z',rfl,m',rfl⟩ hu q,SeqAt.RcNeAt.tuples ⟨_,z,rfl,m,rfl⟩ ⟨_,z',rfl,m',rfl⟩ hu q,.inr ⟨_,_,rfl,rfl⟩⟩
 ·obtain⟨a,items,m,rfl,z,r⟩:=hx.of h1
  obtain⟨a',items',m',rfl,z',r'⟩:=hy.of h2
  have l1:=Array.length_toList.symm.trans r.length;have l2:=Array.length_toList.symm.trans r'.length
  obtain⟨h3,h4⟩:=A7Y e
  have q:=A14 r r' ih h3
  rw[h4,A6O hl,← l1]
  exact⟨SeqAt.RcAt.lists ⟨_,z,rfl,m,rfl⟩ ⟨_,z',rfl,m',rfl⟩ (l1.trans (hl.trans l2.symm)) hu q,SeqAt.RcNeAt.lists ⟨_,z,rfl,m,rfl⟩ ⟨_,z',rfl,m',rfl⟩ (l1.trans (hl.trans l2.symm)) hu q,.inr ⟨_,_,rfl,rfl⟩⟩
 ·obtain⟨a,items,m,rfl,z,r⟩:=hx.of h1
  obtain⟨a',items',m',rfl,z',r'⟩:=hy.of h2
  have hs:(items.size != items'.size)=true:=by rw[Array.length_toList.symm.trans r.length,Array.length_toList.symm.trans r'.length];exact bne_iff_ne.mpr hl
  exact e▸⟨SeqAt.RcAt.lists_lengths ⟨_,z,rfl,m,rfl⟩ ⟨_,z',rfl,m',rfl⟩ hs hu,SeqAt.RcNeAt.lists_lengths ⟨_,z,rfl,m,rfl⟩ ⟨_,z',rfl,m',rfl⟩ hs hu,.inr ⟨_,_,rfl,rfl⟩⟩
theorem B4c(B:Base C)(R:Rel C ly g σ s)(n:Nat){A:Around}(hA:A.units+n<cLine){x y:T}{u v:Value}{b:Bool}(hx:RelW C g s.heap x u)(hy:RelW C g s.heap y v)(e:eqN n x y=some b):SeqAt.EqAt A s u v b:=by
 induction n generalizing A x y u v b with
 | zero=>exact nn e
 | succ n ih=>
  have ih := @ih A.in1 (by show A.units+1+n<cLine;rwa [Nat.add_right_comm])
  rcases(B0b (Nat.lt_of_le_of_lt (Nat.le_add_right _ _) hA) (fun _ _ _ _ _ h h'=>ih (R.relX B h) (R.relX B h')) hx hy e) with ⟨h1,_,h | ⟨a,a',rfl,rfl⟩⟩
  ·exact h
  ·by_cases q:a=a'
   ·subst q
    rw[B0a B R _ hx hy e]
    exact SeqAt.EqAt.same _
   ·exact .of_refs q h1
noncomputable def A5K(f:T→T→Bool)(xs ys:List T):Bool:=xs.length==ys.length&&(xs.zip ys).all fun p=>f p.1 p.2
noncomputable def A8k(f:T→T→Bool)(ks':List Str)(ys:List T)(ks:List Str)(xs:List T):Bool:=(ks.zip xs).all fun p=>(lk ks' ys p.1).elim false (f p.2)
noncomputable def B5v(f:T→T→Bool):T→T→Option Bool:=or2 F4 F4 (fun a b=>some (a==b))<|or2 G9 G9 (fun a b=>some (a==b))<|or2 A02 A02 (fun xs ys=>some (A5K f xs ys)) <|
 or2 tDs tDs (fun a b=>some (a.2.length==b.2.length&&A8k f b.1 b.2 a.1 a.2)) fun _ _=>none
noncomputable def eqY:Nat→T→T→Bool:=Nat.rec (fun _ _=>false) fun _ f x y=>(B5v f x y).getD false
inductive EqL(f:T→T→Bool)(x y:T):Prop
 | i (a c:Int) (h1:x=.int a) (h2:y=.int c) (e:(a==c)=true)
 | s (a c:Str) (h1:x=.str a) (h2:y=.str c) (e:(a==c)=true)
 | t (xs ys:List T) (h1:x=.tup xs) (h2:y=.tup ys) (e:A5K f xs ys=true)
 | d (p q:List Str×List T) (h1:x=.ds p.1 p.2) (h2:y=.ds q.1 q.2) (e:(p.2.length==q.2.length&&A8k f q.1 q.2 p.1 p.2)=true)
theorem B0T{o:Option Bool}(e:o.getD false=true):o=some true:=by
 cases o with
 | none=>exact nb e
 | some b=>exact congrArg some e
theorem B2c{f:T→T→Bool}{x:T}(e:(B5v f x y).getD false=true):EqL f x y:=
 O1 (B0T e) (fun a c h1 h2 e=>.i a c (D9 h1) (D9 h2) (Option.some.inj e)) fun e=>O1 e (fun a c h1 h2 e=>.s a c (F3 h1) (F3 h2) (Option.some.inj e)) fun e=>
 O1 e (fun xs ys h1 h2 e=>.t xs ys (K7 h1) (K7 h2) (Option.some.inj e)) fun e=>O1 e (fun p q h1 h2 e=>.d p q (Q0 h1) (Q0 h2) (Option.some.inj e)) nn
noncomputable def X7(C:Cx)(A:Around)(s:Shared)(u v:Value):Prop:=∀ (E:Value→Shared→Prop) (Q:Bool→Shared→Prop),Q true s→wpAny (Md C) A (eqBool u v) Q E s
theorem A52(u:Value):X7 C A s u u:=fun E Q h=>SeqAt.EqAt.same u _ _ _ _ h
theorem A12{a b:Addr}(h:∀ (E:Value→Shared→Prop) (Q:Value→Shared→Prop),Q (.bool true) s→wpAny (Md C) A (richCompare .Eq (.ref a) (.ref b)) Q E s):X7 C A s (.ref a) (.ref b):=fun E Q hq=>by
 by_cases hne:a=b
 ·subst hne;exact A52 _ E Q hq
 unfold eqBool
 refine wpAny_holding ?_
 refine wpAny_ite_split (fun hab=>absurd (by have:=eq_of_beq hab;injection this) hne) (fun _ => ?_)
 exact wpAny_bind (h E _ (wpAny_truthy_bool hq))
theorem A7g{a b:Addr}{items2:Array Value}{n:Nat}(ha:s.heap.get? a=some (seqObj "tuple" items n))(hb:s.heap.get? b=some (seqObj "tuple" items2 m))(hsz:items.size=items2.size)(hu:A.units<cLine)(he:∀ p∈items.toList.zip items2.toList,X7 C A.in1 s p.1 p.2):X7 C A s (.ref a) (.ref b):=A12 fun E Q hq=>by
 refine wpAny_richCompare_same_room (op:=.Eq) ⟨_,ha,rfl⟩ ⟨_,hb,rfl⟩ PySem.F.slot_tuple_eq (wpAny_call_entry PySem.F.slot_tuple_eq ⟨_,ha,rfl⟩ PySem.F.entry_tuple_eq ?_ (PySem.F.args_tuple_eq_2 _ _)) hu
 obtain⟨hp,gn,dr,tk,os⟩:=s
 have f2:=AutoSeq1.sub_tuple_tuple
 wp_walk using wpAny_loadPart' ha,wpAny_loadPart' hb,wpAny_forIn_list _ (fun rest b s'=>b.1=none∧s'=⟨hp,gn,dr,tk,os⟩∧∀ p∈rest,X7 C A.in1 ⟨hp,gn,dr,tk,os⟩ p.1 p.2) _
 case turn=>
  rintro⟨y,x⟩ rest b s' ⟨hb',rfl,hz⟩
  refine wpAny_bind (hz _ (List.mem_cons_self ..) _ _ ?_)
  wp_walk
  exact⟨rfl,rfl,fun p hp=>hz p (List.mem_cons_of_mem _ hp)⟩
 case fin=>
  rintro⟨b1,b2⟩ s' ⟨hb',rfl,hz⟩
  simp only at hb'
  subst hb'
  wp_walk
  refine⟨_,rfl,?_⟩
  simpa [Builtin.Tuple.tupleCompareSizes,hsz] using hq
 case h=>
  exact⟨rfl,rfl,he⟩
theorem k9{nm:String}{a b:Addr}(ha:(a==sysModules)=false)(hb:(b==sysModules)=false)(da:s.heap.DictOf (PySem.strKind C.prog C.w) a ka)(db:s.heap.DictOf (PySem.strKind C.prog C.w) b kb)(hl:ka.length=kb.length)(he:∀ p∈ka,∃ y,valueAt kb p.1=some y∧X7 C A s p.2 y){Q:Bool→Shared→Prop}(hq:Q true s):wpAny (Md C) A (Builtin.Dict.samePairs nm a b) Q E s:=by
 refine A2a (da) fun oa es ep hoa _ hda hka hpa _ => ?_
 refine A2a (db) fun ob es' ep' hob _ hdb hkb hpb _ => ?_
 have hla:es.size=ka.length:=by rw[← hpa.length];exact Array.length_toList.symm
 have hlb:es'.size=kb.length:=by rw[← hpb.length];exact Array.length_toList.symm
 refine wpAny_mono (Q:=fun r s'=>r=true∧s'=s) (E:=fun _ _=>False) ?_ (fun r s' h=>by obtain⟨rfl,rfl⟩:=h;exact hq) fun _ _ h=>h.elim
 unfold Builtin.Dict.samePairs Builtin.Dict.showsAll
 rw[if_neg (show ¬ (a==sysModules)=true by rw[ha];exact Bool.false_ne_true),if_neg (show ¬ (b==sysModules)=true by rw[hb];exact Bool.false_ne_true)]
 refine wpAny_bind (wpAny_pure (wpAny_bind (wpAny_pure (wpAny_bind (wpAny_dictEntries hoa hda ?_)))))
 dsimp only
 refine wpAny_bind (wpAny_dictEntries hob hdb ?_)
 rw[if_neg (by rw[(by rw[hla,hlb,hl]:es.size=es'.size)];simp)]
 refine wpAny_bind (wpAny_dictEpoch hoa hda (wpAny_bind ?_))
 rw[Std.Legacy.Range.forIn_eq_forIn_range']
 simp only[Std.Legacy.Range.size,Nat.sub_zero,Nat.add_sub_cancel,Nat.div_one]
 refine wpAny_forIn_list _ (fun rest q s'=>s'=s∧q=(none,())∧∀ x∈rest,x<es.size) _ ?_ ?_ _ _ ⟨rfl,rfl,fun x hx=>by have:=List.mem_range'.mp hx;lia⟩
 ·rintro x rest q s' ⟨rfl,rfl,hx⟩
  have hlt:=hx x (List.mem_cons_self ..)
  have hlt':x<ka.length:=by rw[← hla];exact hlt
  refine wpAny_bind (wpAny_dictEntries hoa hda ?_)
  rw[Array.getElem?_eq_getElem hlt]
  obtain⟨hkey,hval⟩:=hpa.get? (i:=x) (e:=es[x]) (k:=ka[x].1) (v:=ka[x].2) (by rw[Array.getElem?_toList];exact Array.getElem?_eq_getElem hlt) (List.getElem?_eq_getElem hlt')
  refine I7 (hka es[x] (Array.getElem_mem hlt)) fun k' hk' hh => ?_
  rw[(KeyKind.inj _ _ _ _ hk' hkey)] at hh
  refine I7 (he ka[x] (List.getElem_mem hlt')) fun y hy heq => ?_
  show wpAny _ _ (holding [es[x].key,es[x].val] _ >>= _) _ _ _
  rw[hh]
  refine wpAny_bind (wpAny_holding (wpAny_bind (wpAny_dictFind_of hkey hob hdb hkb ?_)))
  have hf:findBy (PySem.strKind C.prog C.w).is es' ka[x].1=some y:=by
   have hf:=hpb.find ka[x].1
   rw[hy] at hf
   rw[← hf]
   generalize es'=l
   obtain⟨l⟩:=l
   simp [findBy]
  rw[findBy_of_findIdx?] at hf
  cases hj:es'.findIdx? fun e=>(PySem.strKind C.prog C.w).is ka[x].1 e.key with
  | none=>rw[hj] at hf;cases hf
  | some j=>
   rw[hj] at hf
   simp only at hf
   cases hje:es'[j]? with
   | none=>rw[hje] at hf;cases hf
   | some f=>
    rw[hje] at hf
    refine wpAny_bind (wpAny_dictEntries hob hdb ?_)
    rw[hje]
    refine wpAny_holding ?_
    rw[hval,(Option.some.inj hf:f.val=y)]
    refine heq _ _ ?_
    show wpAny _ _ (if (!true)=true then _ else _) _ _ _
    rw[if_neg (by decide)]
    refine wpAny_bind (wpAny_dictEpoch hoa hda ?_)
    rw[if_neg (by simp)]
    exact wpAny_pure ⟨rfl,rfl,fun z hz=>hx z (List.mem_cons_of_mem _ hz)⟩
 ·rintro q s' ⟨rfl,rfl,hx⟩
  exact wpAny_pure ⟨rfl,rfl⟩
theorem A0w{a b:Addr}(ha:(a==sysModules)=false)(hb:(b==sysModules)=false)(da:s.heap.DictOf (PySem.strKind C.prog C.w) a ka)(db:s.heap.DictOf (PySem.strKind C.prog C.w) b kb)(hl:ka.length=kb.length)(hu:A.units<cLine)(he:∀ p∈ka,∃ y,valueAt kb p.1=some y∧X7 C A.in1 s p.2 y)(hq:Q (.bool true) s):wpAny (Md C) A (richCompare .Eq (.ref a) (.ref b)) Q E s:=by
 refine wpAny_richCompare_same_room (op:=.Eq) da.typeIs db.typeIs PySem.F.slot_dict_eq (wpAny_call_entry PySem.F.slot_dict_eq da.typeIs PySem.F.entry_dict_eq ?_ (PySem.F.args_dict_eq_2 _ _)) hu
 show wpAny _ _ (Builtin.Dict.dictSlotArgs "__eq__" ⟨[.ref a,.ref b],[]⟩ >>= _) _ _ s
 refine wpAny_bind ?_
 unfold Builtin.Dict.dictSlotArgs
 refine wpAny_bind (wpAny_notOrdered_dict da.typeIs ?_)
 show wpAny _ _ (pure (Value.ref a,Value.ref b)) _ _ s
 refine wpAny_pure (wpAny_bind (wpAny_isInstance (T := "dict") db.typeIs PySem.F.sub_dict_dict ?_))
 simp only[Bool.not_true,Bool.false_eq_true,if_false]
 refine wpAny_bind (wpAny_pure (wpAny_bind (wpAny_pure (wpAny_bind (k9 ha hb da db hl he ?_)))))
 exact wpAny_pure ⟨_,rfl,fun x=>(nomatch x),by simpa using hq⟩
theorem A4x{a b:Addr}(ha:(a==sysModules)=false)(hb:(b==sysModules)=false)(da:s.heap.DictOf (PySem.strKind C.prog C.w) a ka)(db:s.heap.DictOf (PySem.strKind C.prog C.w) b kb)(hl:ka.length=kb.length)(hu:A.units<cLine)(he:∀ p∈ka,∃ y,valueAt kb p.1=some y∧X7 C A.in1 s p.2 y)(hq:Q (.bool false) s):wpAny (Md C) A (richCompare .NotEq (.ref a) (.ref b)) Q E s:=by
 refine wpAny_richCompare_same_room (op:=.NotEq) da.typeIs db.typeIs PySem.F.slot_dict_ne (wpAny_call_entry PySem.F.slot_dict_ne da.typeIs PySem.F.entry_dict_ne ?_ (PySem.F.args_dict_ne_2 _ _)) hu
 show wpAny _ _ (Builtin.Dict.dictSlotArgs "__ne__" ⟨[.ref a,.ref b],[]⟩ >>= _) _ _ s
 refine wpAny_bind ?_
 unfold Builtin.Dict.dictSlotArgs
 refine wpAny_bind (wpAny_notOrdered_dict da.typeIs ?_)
 show wpAny _ _ (pure (Value.ref a,Value.ref b)) _ _ s
 refine wpAny_pure (wpAny_bind (wpAny_isInstance (T := "dict") db.typeIs PySem.F.sub_dict_dict ?_))
 simp only[Bool.not_true,Bool.false_eq_true,if_false]
 refine wpAny_bind (wpAny_pure (wpAny_bind (wpAny_pure (wpAny_bind (k9 ha hb da db hl he ?_)))))
 exact wpAny_pure ⟨_,rfl,fun x=>(nomatch x),by simpa using hq⟩
theorem B0o{a b:Addr}(ha:(a==sysModules)=false)(hb:(b==sysModules)=false)(da:s.heap.DictOf (PySem.strKind C.prog C.w) a ka)(db:s.heap.DictOf (PySem.strKind C.prog C.w) b kb)(hl:ka.length=kb.length)(hu:A.units<cLine)(he:∀ p∈ka,∃ y,valueAt kb p.1=some y∧X7 C A.in1 s p.2 y):X7 C A s (.ref a) (.ref b):=A12 fun E Q hq=>A0w ha hb da db hl hu he hq
theorem A7X{f:T→T→Bool}(hy:RelTs C g ys (kb.map (·.2))){P:Value→Value→Prop}(hf:∀ x y u v,RelT C g x u→RelT C g y v→f x y=true→P u v){xs:List T}(r:RelTs C g xs (ka.map (·.2)))(e:A8k f (kb.map (·.1)) ys (ka.map (·.1)) xs=true):∀ p∈ka,∃ y,valueAt kb p.1=some y∧P p.2 y:=fun p h=>by
 obtain⟨j,hj⟩:=List.mem_iff_getElem?.mp h
 refine I7 (r.get' (i:=j) (v:=p.2) (by rw[List.getElem?_map,hj];rfl)) fun x hx rx => ?_
 have e:=List.all_eq_true.mp e (p.1,x) (List.mem_of_getElem? (i:=j) (List.getElem?_zip_eq_some.mpr ⟨by rw[List.getElem?_map,hj];rfl,hx⟩))
 cases q:lk (kb.map (·.1)) ys p.1 with
 | none=>rw[q] at e;exact nb e
 | some y=>
  rw[q] at e
  refine I7 (n5 kb ys hy q) fun u hu ru => ?_
  exact⟨u,hu,hf _ _ _ _ rx ru e⟩
theorem B27{f:T→T→Bool}{P:Value→Value→Prop}(hf:∀ x y u v,RelT C g x u→RelT C g y v→f x y=true→P u v){xs:List T}{us vs:List Value}(r:RelTs C g xs us)(r':RelTs C g ys vs)(e:A5K f xs ys=true):us.length=vs.length∧∀ p∈us.zip vs,P p.1 p.2:=by
 obtain⟨h1,h2⟩:=Bool.and_eq_true_iff.mp e
 refine⟨by rw[r.length,r'.length];exact eq_of_beq h1,fun p hp => ?_⟩
 obtain⟨j,hj⟩:=List.mem_iff_getElem?.mp hp
 obtain⟨h3,h4⟩:=List.getElem?_zip_eq_some.mp hj
 refine I7 (r.get' h3) fun x hx rx => ?_
 refine I7 (r'.get' h4) fun y hy ry => ?_
 exact hf _ _ _ _ rx ry (List.all_eq_true.mp h2 (x,y) (List.mem_of_getElem? (i:=j) (List.getElem?_zip_eq_some.mpr ⟨hx,hy⟩)))
theorem B4b(B:Base C)(R:Rel C ly g σ s)(n:Nat){A:Around}(hA:A.units+n<cLine){x y:T}{u v:Value}(hx:RelW C g s.heap x u)(hy:RelW C g s.heap y v)(e:eqY n x y=true):X7 C A s u v:=by
 induction n generalizing A x y u v with
 | zero=>exact nb e
 | succ n ih=>
  have ih := @ih A.in1 (by show A.units+1+n<cLine;rwa [Nat.add_right_comm])
  have ih:∀ x y u v,RelT C g x u→RelT C g y v→eqY n x y=true→X7 C A.in1 s u v:=fun _ _ _ _ h h'=>ih (R.relX B h) (R.relX B h')
  have hu:A.units<cLine:=Nat.lt_of_le_of_lt (Nat.le_add_right _ _) hA
  rcases B2c (f:=eqY n) e with ⟨a,c,h1,h2,e⟩|⟨a,c,h1,h2,e⟩|⟨xs,ys,h1,h2,e⟩|⟨p,q,h1,h2,e⟩
  ·obtain⟨t,rfl⟩:=hx.of h1;obtain⟨t',rfl⟩:=hy.of h2
   exact fun E Q h=>SeqAt.EqAt.int_int _ _ _ _ _ _ _ _ (by rw[e];exact h)
  ·obtain⟨t,rfl⟩:=hx.of h1;obtain⟨t',rfl⟩:=hy.of h2
   exact fun E Q h=>SeqAt.EqAt.str_str _ _ _ _ _ _ _ _ (by rw[e];exact h)
  ·obtain⟨a,items,m,rfl,z,r⟩:=hx.of h1
   obtain⟨a',items',m',rfl,z',r'⟩:=hy.of h2
   obtain⟨h1,h2⟩:=B27 ih r r' e
   exact A7g z z' h1 hu h2
  ·obtain⟨a,kvs,rfl,d,hs,k1,r⟩:=hx.of h1
   obtain⟨a',kvs',rfl,d',hs',k2,r'⟩:=hy.of h2
   obtain⟨e1,e2⟩:=Bool.and_eq_true_iff.mp e
   rw[← k1,← k2] at e2
   exact B0o hs hs' d d' (by rw[← List.length_map (f:=(·.2)),r.length,eq_of_beq e1,← r'.length,List.length_map]) hu (A7X r' ih r e2)
noncomputable def A8U:T→T→Option Bool:=or2 tDs tDs (fun a b=>if a.2.length=b.2.length∧A8k (eqY 6) b.1 b.2 a.1 a.2=true then some true else none) (eqN 7)
noncomputable def fEq(x y:T):Option T:=(A8U x y).map .bool
noncomputable def fNe(x y:T):Option T:=(A8U x y).map fun b=>.bool (!b)
theorem Room.room(h:Room k A){n:Nat}(hn:n≤8 * k):A.units+n<cLine:=Nat.lt_of_le_of_lt (Nat.add_le_add_left hn _) h.units
inductive B6g(C:Cx)(A:Around)(s:Shared)(u v:Value)(b:Bool):Prop
 | d {a a':Addr} {ka kb:List (Str×Value)} (e:u=.ref a) (e':v=.ref a') (e2:b=true) (ha:(a==sysModules)=false) (hb:(a'==sysModules)=false) (da:s.heap.DictOf (PySem.strKind C.prog C.w) a ka) (db:s.heap.DictOf (PySem.strKind C.prog C.w) a' kb) (hl:ka.length=kb.length)
   (he:∀ p∈ka,∃ y,valueAt kb p.1=some y∧X7 C A.in1 s p.2 y)
 | o (h:B6O A s u v b)
theorem A6e(B:Base C)(hA:Room (k+1) A)(R:Rel C ly g σ s){x:T}{u v:Value}{b:Bool}(hx:RelW C g s.heap x u)(hy:RelW C g s.heap y v)(e:A8U x y=some b):B6g C A s u v b:=by
 have h7:A.in1.units+6<cLine:=Nat.lt_of_le_of_lt (Nat.le_of_eq (Nat.add_right_comm _ 1 6)) (hA.room (n:=7) (Nat.le_trans (by decide) (Nat.mul_le_mul_left 8 (Nat.succ_le_succ (Nat.zero_le k)))))
 refine O1 e (fun p q h1 h2 e => ?_) fun e=>.o (B0b hA.cl (fun _ _ _ _ _ h h'=>B4c B R 6 h7 (R.relX B h) (R.relX B h')) hx hy e)
 have hx:=RelW.of (Q0 h1) hx;have hy:=RelW.of (Q0 h2) hy
 obtain⟨a,kvs,rfl,d,hs,k1,r⟩:=hx
 obtain⟨a',kvs',rfl,d',hs',k2,r'⟩:=hy
 refine iN e fun h e => ?_
 obtain⟨e1,e2⟩:=h
 rw[← k1,← k2] at e2
 exact s1 e (.d rfl rfl rfl hs hs' d d' (by rw[← List.length_map (f:=(·.2)),r.length,e1,← r'.length,List.length_map]) (A7X r' (fun _ _ _ _ h h'=>B4b B R 6 h7 (R.relX B h) (R.relX B h')) r e2))
theorem v7(B:Base C):Pure2 C (k+1) (compareOp .Eq) fEq:=fun A hA ly g σ s x y u v z R hx hy e=>by
 refine I7 (Option.map_eq_some_iff.mp e) fun b eb e => ?_
 subst e
 rcases A6e B hA R hx hy eb with ⟨rfl,rfl,rfl,ha,hb,da,db,hl,he⟩ | h
 ·exact A0w ha hb da db hl hA.cl he (C8 .bool)
 ·exact h.eq _ _ _ _ (C8 .bool)
theorem A2O(B:Base C):Pure2 C (k+1) (compareOp .NotEq) fNe:=fun A hA ly g σ s x y u v z R hx hy e=>by
 refine I7 (Option.map_eq_some_iff.mp e) fun b eb e => ?_
 subst e
 rcases A6e B hA R hx hy eb with ⟨rfl,rfl,rfl,ha,hb,da,db,hl,he⟩ | h
 ·exact A4x ha hb da db hl hA.cl he (C8 .bool)
 ·exact h.ne _ _ _ _ (C8 .bool)
end
end
section
section
variable{e1:Expr}{a c:D}
inductive Fn:Value→Prop
 | b (id:String):Fn (.builtin id)
 | t (T:String):Fn (.type T)
structure A00(C:Cx)(env:Env)(x:Str)(v:Value):Prop where
 gl:env.globals=mainGlobals
 bl:env.builtins=builtinsNs
 kind:env.scope.kind=.function
 imp:env.kindOf x=some .globalImplicit
 none:C.mg x=none
 boot:bootBuiltins x=some v
 ne:x ≠ "__name__"
 nd:(x==("__debug__" : Str))=false
 fn:Fn v
theorem A0K{s:Shared}{x:Str}{v:Value}(B:Base C)(N:A00 C env x v)(R:Rel C ly g σ s)(q:Q v s):wpAny (Md C) A (eval (.Name x pos) env) Q E s:=
 Calls.Name_function_global N.kind N.imp (Calls.loadGlobal_builtin (by rw[N.gl];exact B.g.keeps R.old) N.none (by rw[N.bl];exact B.b.keeps R.old) ((B.builtins x N.ne).trans N.boot) q) N.nd
theorem O5{s:Shared}{v:Value}{rest:List Expr}(hf:Fn v)(h:wpAny (Md C) A (spliced (backTo pos (starEach (e::rest) env))) (fun vs s₁=>wpAny (Md C) A (call v vs) Q E s₁) E s)(he:starEach (e::rest) env=(false,eval e env)::starEach rest env)(hp:(backTo pos (starEach rest env)).any (·.1)=false):wpAny (Md C) A (callWith pos v [] (backTo pos (starEach (e::rest) env)) []) Q E s:=by
 cases hf with
 | b id=>exact PyProof.Rows.callWith_builtin1 h he hp
 | t T=>exact PyProof.Rows.callWith_type1 h he hp
theorem H1{x:Str}{v:Value}{f:T→Option T}(B:Base C)(N:A00 C env x v)(ha:SE C k env ly e a)(hf:Pure1 C k (fun u=>call v [u]) f)(he:starEach [e] env=[(false,eval e env)]):SE C k env ly (.Call (.Name x np) [e] [] pos) (d1 f a):=fun A hA g σ s w σ' R e'=>by
 refine Call_ (A0K B N R (O5 N.fn ?_ (by rw[he];rfl) rfl))
 rw[he]
 show wpAny _ _ (spliced [(false,eval e env)]) _ _ _
 exact Calls.spliced_cons (wpAny_mono (B0z B ha hf hA R e' fun x s1 h=>h) (fun x s1 h=>Calls.spliced_nil h) fun _ _ x=>x.elim)
theorem A4H{x:Str}{v:Value}{f:T→T→Option T}(B:Base C)(N:A00 C env x v)(ha:SE C k env ly e1 a)(hb:SE C k env ly e2 b)(hf:Pure2 C k (fun u w=>call v [u,w]) f)(he:starEach [e1,e2] env=[(false,eval e1 env),(false,eval e2 env)]):SE C k env ly (.Call (.Name x np) [e1,e2] [] pos) (d2 f a b):=fun A hA g σ s w σ' R e'=>by
 have he1:starEach [e1,e2] env=(false,eval e1 env)::starEach [e2] env:=by
  have:∀ (e:Expr) (r:List Expr),(∃ x p,e=.Starred x p∧starEach (e::r) env=(true,eval x env)::starEach r env)∨starEach (e::r) env=(false,eval e env)::starEach r env:=fun e r=>by
   cases e <;> first | exact .inr rfl | exact .inl ⟨_,_,rfl,rfl⟩
  rcases this e1 [e2] with ⟨x,p,_,h⟩ | h
  ·rw[h] at he;cases he
  ·exact h
 have hp:(backTo pos (starEach [e2] env)).any (·.1)=false:=by
  rw[he1] at he
  have:starEach [e2] env=[(false,eval e2 env)]:=(List.cons.inj he).2
  rw[this];rfl
 refine Call_ (A0K B N R (O5 N.fn ?_ he1 hp))
 rw[he]
 show wpAny _ _ (spliced [(false,eval e1 env),(false,eval e2 env)]) _ _ _
 exact Calls.spliced_cons (wpAny_mono (A2C B ha hb hf hA R e' fun x s1 h=>h) (fun x s1 h=>Calls.spliced_cons (wpAny_mono h (fun y s2 h=>Calls.spliced_nil h) fun _ _ x=>x.elim)) fun _ _ x=>x.elim)
structure X5(T:String)(name:Str)(id:String):Prop where
 plain:PlainAttrs T
 slot:Slot T name id
 ty:typeOf (.builtin id)=pure (.type "method_descriptor")
noncomputable def A2K(C:Cx)(T:String)(f:Mine.T→Bool):Prop:=∀ (g:G) (s:Shared) (x:Mine.T) (u:Value),RelW C g s.heap x u→f x=true→s.TypeIs u T∧∀ a,u=.ref a→∃ ob,s.heap.get? a=some ob∧ob.dict=none
noncomputable def isStrT(x:T):Bool:=(G9 x).isSome
noncomputable def isLstT(x:T):Bool:=(U7 x).isSome
noncomputable def isDsT(x:T):Bool:=(tDs x).isSome
noncomputable def isIntT(x:T):Bool:=(F4 x).isSome
theorem E0:A2K C "str" isStrT:=fun g s x u h e=>H4 e fun y ey=>by
 obtain⟨t,rfl⟩:=h.of (F3 ey)
 exact⟨typeIs_str s _ t,fun a h=>nomatch h⟩
theorem A0C:A2K C "int" isIntT:=fun g s x u h e=>H4 e fun y ey=>by
 obtain⟨t,rfl⟩:=h.of (D9 ey)
 exact⟨typeIs_int s _ t,fun a h=>nomatch h⟩
theorem A7c:A2K C "list" isLstT:=fun g s x u h e=>H4 e fun y ey=>by
 obtain⟨a,items,n,rfl,ho,r⟩:=h.of (G1 ey)
 exact⟨⟨_,ho,rfl⟩,fun b h=>Value.ref.inj h▸⟨_,ho,rfl⟩⟩
theorem A37:A2K C "dict" isDsT:=fun g s x u h e=>H4 e fun y ey=>by
 obtain⟨a,kvs,rfl,hd,_⟩:=h.of (Q0 ey)
 refine⟨hd.typeIs,fun b h => ?_⟩
 refine e9 (hd) fun o es ep ho hc _ => ?_
 exact⟨o,Value.ref.inj h▸ho,hc.2.1⟩
structure X6(env:Env)(o:Expr)(name:Str)(apos pos:Pos):Prop where
 base:attributeBase o name env (eval o env)=eval o env
 line:(apos.endLine==pos.line)=true
noncomputable def P1(ok:T→Bool)(f:T→Option T)(a:D):D:=fun σ=>(a σ).bind fun p=>(view p.2 p.1).bind fun x=>if ok x then (f x).bind fun z=>some (.t z,p.2) else none
theorem M3{name:Str}{T:String}{ok:Mine.T→Bool}{f:Mine.T→Option Mine.T}(B:Base C)(F:X6 env e name apos pos)(M:X5 T name id)(hT:A2K C T ok)(ha:SE C k env ly e a)(hf:Pure1 C k (fun u=>call (.builtin id) [u]) f):
  SE C k env ly (.Call (.Attribute e name apos) [] [] pos) (P1 ok f a):=fun A hA g σ s w σ' R e'=>by
 refine b2 e' fun p σ1 e1 e' => ?_
 refine b1 e' fun x ex e' => ?_
 refine iN e' fun hok e' => ?_
 ·refine b1 e' fun z ez e' => ?_
  refine s2 e' ?_
  refine wpAny_Call_method0_late F.base F.line (ha.use hA R e1 fun g1 u s1 l1 R1 V1 => ?_)
  have W:=R1.view B V1 ex
  obtain⟨h1,h2⟩:=hT g1 s1 x u W hok
  refine⟨T,id,M.plain,M.slot,M.ty,h1,h2,Calls.callWith_builtin (args:=[]) rfl (PyProof.Rows.evalArgs_none ?_)⟩
  exact wpAny_mono (hf A hA ly g1 _ s1 x u z R1 W ez) (fun r s2 ⟨g2,w,T2⟩=>⟨g2,l1.trans w.le,R1.grow w,T2⟩) fun _ _ x=>x.elim
noncomputable def dM1(ok:T→Bool)(f:T→T→Option T)(a b:D):D:=fun σ=>(a σ).bind fun p=>(view p.2 p.1).bind fun x0=>if ok x0 then (b p.2).bind fun q=>(view q.2 p.1).bind fun x=>(view q.2 q.1).bind fun y=>(f x y).bind fun z=>some (.t z,q.2) else none
theorem A6d{name:Str}{T:String}{ok:Mine.T→Bool}{f:Mine.T→Mine.T→Option Mine.T}(B:Base C)(F:X6 env e1 name apos pos)(M:X5 T name id)(hT:A2K C T ok)(ha:SE C k env ly e1 a)(hb:SE C k env ly e2 b)(hf:Pure2 C k (fun u v=>call (.builtin id) [u,v]) f)(hs:starEach [e2] env=[(false,eval e2 env)]):SE C k env ly (.Call (.Attribute e1 name apos) [e2] [] pos) (dM1 ok f a b):=fun A hA g σ s w σ' R e'=>by
 refine b2 e' fun p σ1 ea e' => ?_
 refine b1 e' fun x0 ex0 e' => ?_
 refine iN e' fun hok e' => ?_
 ·refine b2 e' fun q σ2 eb e' => ?_
  refine b1 e' fun x ex e' => ?_
  refine b1 e' fun y ey e' => ?_
  refine b1 e' fun z ez e' => ?_
  refine s2 e' ?_
  refine wpAny_Call_method1_late F.base F.line (by rw[hs];rfl) (ha.use hA R ea fun g1 u s1 l1 R1 V1 => ?_)
  obtain⟨h1,h2⟩:=hT g1 s1 x0 u (R1.view B V1 ex0) hok
  refine⟨T,id,M.plain,M.slot,M.ty,h1,h2,Calls.callWith_builtin rfl (Calls.evalArgs_plain ?_)⟩
  refine Calls.spliced_cons (hb.use hA R1 eb fun g2 v s2 l2 R2 V2=>Calls.spliced_nil ?_)
  exact wpAny_mono (hf A hA ly g2 _ s2 x y u v z R2 (R2.view B (B6 l2 _ _ V1) ex) (R2.view B V2 ey) ez) (fun r s3 ⟨g3,w,T3⟩=>⟨g3,(l1.trans l2).trans w.le,R2.grow w,T3⟩) fun _ _ x=>x.elim
noncomputable def B56(chk:St→V→Bool)(op:V→D)(a:D):D:=fun σ=>(a σ).bind fun p=>if chk p.2 p.1 then op p.1 p.2 else none
noncomputable def B2t(chk:St→V→Bool)(op:V→V→D)(a b:D):D:=fun σ=>(a σ).bind fun p=>if chk p.2 p.1 then (b p.2).bind fun q=>op p.1 q.1 q.2 else none
noncomputable def B2s(chk:St→V→Bool)(op:V→V→V→D)(a b c:D):D:=fun σ=>(a σ).bind fun p=>if chk p.2 p.1 then (b p.2).bind fun q=>(c q.2).bind fun r=>op p.1 q.1 r.1 r.2 else none
inductive TyR(s:Shared)(T:String)(u:Value):Prop
 | mk (h1:s.TypeIs u T) (h2:∀ a,u=.ref a→∃ ob,s.heap.get? a=some ob∧ob.dict=none)
noncomputable def Chk(C:Cx)(T:String)(chk:St→V→Bool):Prop:=∀ ly g σ s v u,Rel C ly g σ s→RelV C g v u→chk σ v=true→TyR s T u
noncomputable def B2v(f:T→Bool)(σ:St)(v:V):Bool:=(view σ v).elim false f
theorem B3Y(B:Base C){T:String}{f:Mine.T→Bool}(h:A2K C T f):Chk C T (B2v f):=fun ly g σ s v u R V e=>by
 unfold B2v at e
 cases q:view σ v with
 | none=>rw[q] at e;exact nb e
 | some x=>rw[q] at e;obtain⟨h1,h2⟩:=h g s x u (R.view B V q) e;exact⟨h1,h2⟩
section
variable{name:Str}{T:String}{chk:St→V→Bool}
theorem B31{op:V→D}(F:X6 env e1 name apos pos)(M:X5 T name id)(hT:Chk C T chk)(ha:SE C k env ly e1 a)(hop:∀ A,Room k A→∀ g σ s p u w σ',Rel C ly g σ s→RelV C g p u→op p σ=some (w,σ')→wpAny (Md C) A (call (.builtin id) [u]) (Ev C ly g σ' w) X4 s):
  SE C k env ly (.Call (.Attribute e1 name apos) [] [] pos) (B56 chk op a):=fun A hA g σ s w σ' R e'=>by
 refine b2 e' fun p σ1 ea e' => ?_
 refine iN e' fun hok e' => ?_
 refine wpAny_Call_method0_late F.base F.line (ha.use hA R ea fun g1 u s1 l1 R1 V1 => ?_)
 obtain⟨h1,h2⟩:=hT _ _ _ _ _ _ R1 V1 hok
 refine⟨T,id,M.plain,M.slot,M.ty,h1,h2,Calls.callWith_builtin (args:=[]) rfl (PyProof.Rows.evalArgs_none ?_)⟩
 exact wpAny_mono (hop A hA g1 σ1 s1 p u w σ' R1 V1 e') (fun r s3 ⟨g3,l3,R3,V3⟩=>⟨g3,l1.trans l3,R3,V3⟩) fun _ _ x=>x
theorem A9E{op:V→V→D}(F:X6 env e1 name apos pos)(M:X5 T name id)(hT:Chk C T chk)(ha:SE C k env ly e1 a)(hb:SE C k env ly e2 b)(hs:starEach [e2] env=[(false,eval e2 env)])(hop:∀ A,Room k A→∀ g σ s p q u v w σ',Rel C ly g σ s→RelV C g p u→RelV C g q v→op p q σ=some (w,σ')→wpAny (Md C) A (call (.builtin id) [u,v]) (Ev C ly g σ' w) X4 s):
  SE C k env ly (.Call (.Attribute e1 name apos) [e2] [] pos) (B2t chk op a b):=fun A hA g σ s w σ' R e'=>by
 refine b2 e' fun p σ1 ea e' => ?_
 refine iN e' fun hok e' => ?_
 refine b2 e' fun q σ2 eb e' => ?_
 refine wpAny_Call_method1_late F.base F.line (by rw[hs];rfl) (ha.use hA R ea fun g1 u s1 l1 R1 V1 => ?_)
 obtain⟨h1,h2⟩:=hT _ _ _ _ _ _ R1 V1 hok
 refine⟨T,id,M.plain,M.slot,M.ty,h1,h2,Calls.callWith_builtin rfl (Calls.evalArgs_plain ?_)⟩
 refine Calls.spliced_cons (hb.use hA R1 eb fun g2 v s2 l2 R2 V2=>Calls.spliced_nil ?_)
 exact wpAny_mono (hop A hA g2 σ2 s2 p q u v w σ' R2 (B6 l2 _ _ V1) V2 e') (fun r s3 ⟨g3,l3,R3,V3⟩=>⟨g3,(l1.trans l2).trans l3,R3,V3⟩) fun _ _ x=>x
theorem A5b{op:V→V→V→D}(F:X6 env e1 name apos pos)(M:X5 T name id)(hT:Chk C T chk)(ha:SE C k env ly e1 a)(hb:SE C k env ly e2 b)(hc:SE C k env ly e3 c)(hs:starEach [e2,e3] env=[(false,eval e2 env),(false,eval e3 env)])(hop:∀ A,Room k A→∀ g σ s p q r u v y w σ',Rel C ly g σ s→RelV C g p u→RelV C g q v→RelV C g r y→op p q r σ=some (w,σ')→wpAny (Md C) A (call (.builtin id) [u,v,y]) (Ev C ly g σ' w) X4 s):
  SE C k env ly (.Call (.Attribute e1 name apos) [e2,e3] [] pos) (B2s chk op a b c):=fun A hA g σ s w σ' R e'=>by
 refine b2 e' fun p σ1 ea e' => ?_
 refine iN e' fun hok e' => ?_
 refine b2 e' fun q σ2 eb e' => ?_
 refine b2 e' fun r σ3 ec e' => ?_
 refine wpAny_Call_method2_late F.base F.line (by rw[hs];rfl) (ha.use hA R ea fun g1 u s1 l1 R1 V1 => ?_)
 obtain⟨h1,h2⟩:=hT _ _ _ _ _ _ R1 V1 hok
 refine⟨T,id,M.plain,M.slot,M.ty,h1,h2,Calls.callWith_builtin rfl (Calls.evalArgs_plain ?_)⟩
 refine Calls.spliced_cons (hb.use hA R1 eb fun g2 v s2 l2 R2 V2=>Calls.spliced_cons (hc.use hA R2 ec fun g3 y s3 l3 R3 V3=>Calls.spliced_nil ?_))
 exact wpAny_mono (hop A hA g3 σ3 s3 p q r u v y w σ' R3 (B6 (l2.trans l3) _ _ V1) (B6 l3 _ _ V2) V3 e') (fun r s4 ⟨g4,l4,R4,V4⟩=>⟨g4,((l1.trans l2).trans l3).trans l4,R4,V4⟩) fun _ _ x=>x
end
end
end
section
open PySem.Builtin PySem.Builtin.Str
theorem A9O{s:Shared}{xs:List T}{t:Nat}(R:Rel C ly g σ s)(ht:s.toks≤t)(r:RelTs C g xs items.toList):A06 C g s (.tup xs) (.ref s.heap.objs.size) { s with toks:=t,heap:=s.heap.push { cls:=.type "tuple", data:=.seq items } }:=by
 have w:=Grow.frz_ (t:=t) R (h':=s.heap.push (seqObj "tuple" items 0)) (fun _ _ e=>Heap.get?_push_of_some _ e) B3 (Heap.get?_push_size _ rfl) ht
 exact⟨_,w,.tup G.put_fz (F5 w.le _ _ r)⟩
noncomputable def A1U(x:Str):Option T:=if x.length<1000 then some (.str x) else none
theorem tl{n:Nat}(h:n<1000):PySem.Builtin.Str.tooLong n=false:=
 decide_eq_false (Nat.not_lt.mpr (D3 h))
noncomputable def fUpper:T→Option T:=o1 G9 fun x=>A1U (Txt.upper x)
noncomputable def fLower:T→Option T:=o1 G9 fun x=>A1U (Txt.lower x)
noncomputable def fSwap:T→Option T:=o1 G9 fun x=>A1U (Txt.swapcase x)
noncomputable def fIsLower:T→Option T:=o1 G9 fun x=>some (.bool (Txt.islower x))
noncomputable def fStarts:T→T→Option T:=o2 G9 G9 fun x y=>some (.bool (Txt.startswith x y))
noncomputable def fEnds:T→T→Option T:=o2 G9 G9 fun x y=>some (.bool (Txt.endswith x y))
noncomputable def fIndex:T→T→Option T:=o2 G9 G9 fun x y=>(occurrences x y 0 x.length 1).head?.map fun (i:Nat)=>.int i
noncomputable def fBits:T→Option T:=o1 F4 fun a=>some (.int (Builtin.Int.intBits a))
noncomputable def fOrd:T→Option T:=o1 G9 fun x=>if x.length=1 then some (.int (x.cps.getD 0 0:Nat)) else none
noncomputable def B2E(n:Nat):Option T:=if n<1000 then some (.int n) else none
noncomputable def fLen:T→Option T:=or1 G9 (fun x=>B2E x.length)<|or1 U7 (fun xs=>B2E xs.length)<|or1 tDs (fun p=>B2E p.2.length)<|o1 tDi fun p=>B2E p.2.length
noncomputable def fStr:T→Option T:=o1 F4 fun a=>if I9 a then some (.str (toString a)) else none
noncomputable def fDivmod:T→T→Option T:=o2 F4 F4 fun a b=>if b≠0∧I9 b then some (.tup [.int (a.fdiv b),.int (a.fmod b)]) else none
noncomputable def fIsInt:T→T→Option T:=o2 F4 A4B fun _ b=>if b = "int" then some (.bool true) else none
theorem j7:Pure1 C k (fun u=>call (.builtin "str.upper") [u]) fUpper:=.s fun A g s a t z e=>iN e fun h e=>s1 e (by with_reducible refine SC.upper (tl h) ?_;exact C2 .str)
theorem Y6:Pure1 C k (fun u=>call (.builtin "str.lower") [u]) fLower:=.s fun A g s a t z e=>iN e fun h e=>s1 e (by with_reducible refine SC.lower (tl h) ?_;exact C2 .str)
theorem A9U:Pure1 C k (fun u=>call (.builtin "str.swapcase") [u]) fSwap:=.s fun A g s a t z e=>iN e fun h e=>s1 e (by with_reducible refine SC.swapcase (tl h) ?_;exact C2 .str)
theorem A7y:Pure1 C k (fun u=>call (.builtin "str.islower") [u]) fIsLower:=.s fun A g s a t z e=>s1 e (by with_reducible refine SC.islower ?_;exact C8 .bool)
theorem A9W:Pure2 C k (fun u v=>call (.builtin "str.startswith") [u,v]) fStarts:=.s fun A g s a b t t' z e=>s1 e (by with_reducible refine SC.startswith ?_;exact C8 .bool)
theorem B4A:Pure2 C k (fun u v=>call (.builtin "str.endswith") [u,v]) fEnds:=.s fun A g s a b t t' z e=>s1 e (by with_reducible refine SC.endswith ?_;exact C8 .bool)
theorem B1z:Pure2 C k (fun u v=>call (.builtin "str.index") [u,v]) fIndex:=.s fun A g s a b t t' z e=>I7 (Option.map_eq_some_iff.mp e) fun i h e=>by
 subst e
 obtain⟨l,h⟩:=List.head?_eq_some_iff.mp h
 with_reducible refine SC.index h ?_;exact C2 .int
theorem A5k:Pure1 C k (fun u=>call (.builtin "int.bit_length") [u]) fBits:=.i fun A g s a t z e=>s1 e (by with_reducible refine call_int_bit_length ?_;exact C2 .int)
theorem B5S:Pure1 C k (fun u=>call (.builtin "ord") [u]) fOrd:=.s fun A g s a t z e=>iN e fun h e=>s1 e (by with_reducible refine ord_of_one h ?_;exact C2 .int)
theorem A0o:Pure1 C k (fun u=>call (.builtin "len") [u]) fLen:=.or (.s fun A g s a t z e=>iN e fun h e=>s1 e (by
  with_reducible refine PyProof.Rows.len_str (Int.not_le.mpr (A9x h)) ?_;exact C2 .int))<|.or (.on G1 fun A hA ly g σ s xs u z R hu e=>iN e fun h e=>s1 e (by
  obtain⟨a,items,n,rfl,ho,r⟩:=hu
  have hl:s.heap.IsList a items:=⟨_,ho,rfl,n,rfl⟩
  have hn:=Array.length_toList.symm.trans r.length
  with_reducible refine PyProof.Rows.len_list hl (hn.symm▸A9x h) ?_
  rw[hn];exact C2 .int))<|.or (.on Q0 fun A hA ly g σ s xs u z R hu e=>iN e fun h e=>s1 e (by
  obtain⟨a,kvs,rfl,hd,hs,_,r⟩:=hu
  have hn:=(List.length_map _).symm.trans r.length
  with_reducible refine call_len_dict hs hd (hn.symm▸A9x h) ?_
  rw[hn];exact C2 .int))<|.on A5S fun A hA ly g σ s xs u z R hu e=>iN e fun h e=>s1 e (by
  obtain⟨a,kvs,rfl,hd,hs,_,r⟩:=hu
  have hn:=(List.length_map _).symm.trans r.length
  with_reducible refine call_len_dict hs hd (hn.symm▸A9x h) ?_
  rw[hn];exact C2 .int)
theorem B3H:Pure1 C k (fun u=>call (.type "str") [u]) fStr:=.i fun A g s a t z e=>iN e fun h e=>s1 e (by
 refine PySem.P.str_of_int ?_ (C2 .str)
 by_cases h0:a.natAbs=0
 ·rw[h0];decide
 ·exact Nat.lt_trans ((Nat.log2_lt h0).mpr (of_decide_eq_true h)) (by decide))
theorem A9c:Pure2 C k (fun u v=>call (.builtin "divmod") [u,v]) fDivmod:=.on D9 D9 fun A hA ly g σ s a b u v z R hu hv e=>iN e fun h e=>s1 e (by
 obtain⟨t,rfl⟩:=hu;obtain⟨t',rfl⟩:=hv
 with_reducible refine divmod_int h.1 ?_ (.inl ?_)
 ·exact A9O R (Nat.le_add_right _ 2) ⟨_,_,rfl,.int,_,_,rfl,.int,rfl⟩
 ·exact A4T h.2)
theorem B1x:Pure2 C k (fun u v=>call (.builtin "isinstance") [u,v]) fIsInt:=.on D9 s8 fun A hA ly g σ s a b u v z R hu hv e=>iN e fun h e=>s1 e (by
 subst h
 obtain⟨t,rfl⟩:=hu
 obtain rfl:v=_:=hv
 with_reducible refine PySem.IsiPair.int_int ?_;exact C8 .bool)
end
section
open PySem.Builtin PySem.Builtin.Str
theorem A8j{α:Type}[BEq α][LawfulBEq α](a b:α):(a==b)=(b==a):=by
 rw[Bool.eq_iff_iff,beq_iff_eq,beq_iff_eq];exact eq_comm
noncomputable def O6(xs:List T):Option (List Str):=xs.foldr (fun x r=>(B5H x).bind fun y=>r.map (y :: ·)) (some [])
noncomputable def B6Q(v:Value):Option Str:=Value.casesOn (motive:=fun _=>Option Str) v none none none (fun _=>none) (fun _ _=>none) (fun _ _=>none) (fun x _=>some x) (fun _ _=>none) (fun _=>none) (fun _=>none) (fun _=>none)
noncomputable def isS(y:Str)(v:Value):Bool:=(B6Q v).elim false (·==y)
theorem B1b{x:T}{v:Value}{y:Str}(e:B5H x=some y)(r:RelT C g x v):∃ t,v=.str y t:=by
 cases x
 case str=>exact s1 (P:=fun y=>∃ t,v=.str y t) e r
 case ch=>obtain⟨t,h,_⟩:=r;exact s1 (P:=fun y=>∃ t,v=.str y t) e ⟨t,h⟩
 all_goals exact nn e
theorem A5T{xs:List T}{vs:List Value}{l:List Str}(r:RelTs C g xs vs)(e:O6 xs=some l):∃ ts:List Tok,vs=(l.zip ts).map (fun p=>.str p.1 p.2)∧ts.length=l.length:=by
 induction xs generalizing vs l with
 | nil=>obtain rfl:vs=[]:=r;exact s1 e ⟨[],rfl,rfl⟩
 | cons x xs ih=>
  obtain⟨v,us,rfl,h1,h2⟩:=r
  refine b1 e fun y e1 e => ?_
  refine I7 (Option.map_eq_some_iff.mp e) fun l' e2 e => ?_
  subst e
  obtain⟨ts,rfl,hl⟩:=ih h2 e2
  obtain⟨t,rfl⟩:=B1b e1 h1
  exact⟨t::ts,rfl,congrArg (·+1) hl⟩
theorem A7V{y:Str}{l:List Str}{ts:List Tok}(h:ts.length=l.length):((l.zip ts).map (fun p=>Value.str p.1 p.2)).any (isS y)=l.contains y:=by
 induction l generalizing ts with
 | nil=>rfl
 | cons x l ih=>
  cases ts with
  | nil=>exact nomatch h
  | cons t ts=>
   show (x==y||((l.zip ts).map fun p=>Value.str p.1 p.2).any (isS y))=(x::l).contains y
   rw[ih (Nat.succ.inj h),A8j x y,List.contains_cons]
theorem A1O{s:Shared}{y:Str}{u:Tok}{l:List Str}{ts:List Tok}:∀ v∈(l.zip ts).map (fun p=>Value.str p.1 p.2),SeqAt.EqAt A s v (.str y u) (isS y v):=fun v hv=>by
 refine I7 (List.mem_map.mp hv) fun p _ hR2 => ?_
 subst hR2
 exact SeqAt.EqAt.str_str _ _ _ _
noncomputable def fIn:T→T→Option T:=or2 G9 U7 (fun y xs=>(O6 xs).map fun l=>.bool (l.contains y))<|or2 G9 tDs (fun y p=>some (.bool (lk p.1 p.2 y).isSome))<|o2 F4 tDi fun y p=>some (.bool (lk p.1 p.2 y).isSome)
noncomputable def fNotIn:T→T→Option T:=o2 G9 U7 fun y xs=>(O6 xs).map fun l=>.bool (!l.contains y)
inductive B6K(s:Shared)(l:List Str)(v:Value):Prop
 | mk (a:Addr) (items:Array Value) (n:Nat) (e:v=.ref a) (ho:s.heap.get? a=some (seqObj "list" items n)) (ts:List Tok) (h1:items.toList=(l.zip ts).map (fun p=>.str p.1 p.2)) (h2:ts.length=l.length)
theorem A3G{s:Shared}{xs:List T}{v:Value}{l:List Str}(hy:RelW C g s.heap (.lst xs) v)(e:O6 xs=some l):B6K s l v:=by
 obtain⟨a,items,n,rfl,ho,r⟩:=hy
 refine I7 (A5T r e) fun ts h1 h2 => ?_
 exact⟨a,items,n,rfl,ho,ts,h1,h2⟩
theorem A6v{K:Type}[DecidableEq K]{ks:List K}{xs:List T}{kvs:List (K×Value)}(hk:kvs.map (·.1)=ks)(r:RelTs C g xs (kvs.map (·.2)))(q:K):(valueAt kvs q).isSome=(lk ks xs q).isSome:=by
 subst hk
 cases h:lk (kvs.map (·.1)) xs q with
 | some z=>obtain⟨v,hv,_⟩:=n5 kvs _ r h;rw[hv];rfl
 | none=>rw[A3i kvs _ r h];rfl
theorem B6U:Pure2 C k (compareOp .In) fIn:=.or (.on F3 G1 fun A hA ly g σ s q xs u v z R hx hy e=>I7 (Option.map_eq_some_iff.mp e) fun l e1 e=>by
  subst e
  obtain⟨t,rfl⟩:=hx
  obtain⟨a,items,n,rfl,ho,ts,h1,h2⟩:=A3G hy e1
  refine SeqAt.in_listAt (isS q) ⟨_,ho,rfl,n,rfl⟩ (fun v hv=>A1O (l:=l) (ts:=ts) v (by rw[← h1];exact Array.mem_toList_iff.mpr hv)) ?_
  rw[← Array.any_toList,h1,A7V h2]
  exact C8 .bool)<|.or (.on F3 Q0 fun A hA ly g σ s q p u v z R hx hy e=>s1 e (by
  obtain⟨t,rfl⟩:=hx;obtain⟨a,kvs,rfl,hd,hs,hk,r⟩:=hy
  with_reducible refine wpAny_in_of (strKind_is _ _ _ t) hs hd.mapOf ?_
  rw[A6v hk r];exact C2 .bool))<|.on D9 A5S fun A hA ly g σ s q p u v z R hx hy e=>s1 e (by
  obtain⟨t,rfl⟩:=hx;obtain⟨a,kvs,rfl,hd,hs,hk,r⟩:=hy
  with_reducible refine wpAny_in_of (intKind_is _ _ _ t) hs hd.mapOf ?_
  rw[A6v hk r];exact C2 .bool)
theorem A6n:Pure2 C k (compareOp .NotIn) fNotIn:=.on F3 G1 fun A hA ly g σ s q xs u v z R hx hy e=>I7 (Option.map_eq_some_iff.mp e) fun l e1 e=>by
 subst e
 obtain⟨t,rfl⟩:=hx
 obtain⟨a,items,n,rfl,ho,ts,h1,h2⟩:=A3G hy e1
 refine SeqAt.notIn_listAt (isS q) ⟨_,ho,rfl,n,rfl⟩ (fun v hv=>A1O (l:=l) (ts:=ts) v (by rw[← h1];exact Array.mem_toList_iff.mpr hv)) ?_
 rw[← Array.any_toList,h1,A7V h2]
 exact C8 .bool
noncomputable def fFind:T→T→Option T:=o2 U7 G9 fun xs y=>(O6 xs).bind fun l=>if y∈l∧l.length<1000 then some (.int (l.idxOf y)) else none
theorem B39:Pure2 C k (fun u v=>call (.builtin "list.index") [u,v]) fFind:=.on G1 F3 fun A hA ly g σ s xs q u v z R hx hy e=>b1 e fun l e1 e=>iN e fun h e=>s1 e (by
 obtain⟨t,rfl⟩:=hy
 obtain⟨a,items,n,rfl,ho,ts,h1,h2⟩:=A3G hx e1
 have hi:l.idxOf q<l.length:=List.idxOf_lt_length_iff.mpr h.1
 have hsz:items.size=l.length:=by rw[← Array.length_toList,h1,List.length_map,List.length_zip,h2,Nat.min_self]
 have hat:∀ m (hm:m<items.size),isS q items[m]=(l[m]?==some q):=fun m hm=>by
  have e2:items.toList[m]?=some items[m]:=by rw[Array.getElem?_toList];exact Array.getElem?_eq_getElem hm
  rw[h1,List.getElem?_map] at e2
  refine I7 (Option.map_eq_some_iff.mp e2) fun p e3 e4 => ?_
  rw[← e4,(List.getElem?_zip_eq_some.mp e3).1]
  rfl
 have h63:(l.idxOf q:Int)<2 ^ 63 - 1:=Int.lt_trans (Int.ofNat_lt.mpr (Nat.lt_trans hi h.2)) (by decide)
 refine call_meets F.slot_list_index ⟨_,ho,rfl⟩ F.entry_list_index (F.args_list_index_2 _ _) (SeqAt.list_indexAt a items n none #[] (.str q t) (isS q) (l.idxOf q) (hsz.symm▸hi) h63 ?_ ?_) ⟨ho,fun v hv=>A1O (l:=l) (ts:=ts) v (by rw[← h1];exact Array.mem_toList_iff.mpr hv),C2 .int⟩
 ·rw[hat,List.getElem?_eq_getElem hi,List.getElem_idxOf hi];exact beq_self_eq_true _
 ·intro m hm hlt
  rw[hat,List.getElem?_eq_getElem (Nat.lt_trans hlt hi)]
  exact List.not_of_lt_findIdx (p:=fun x=>x==q) (xs:=l) (i:=m) hlt)
end
section
open PySem.Builtin PySem.Builtin.Str
noncomputable def G.puts(g:G)(l:List Addr)(h:Heap):G:=⟨g.own,fun b=>if b∈l then (h.get? b).map .frz else g.role b,g.tk⟩
theorem Grow.frzs{s:Shared}(R:Rel C ly g σ s){t:Nat}{l:List Addr}(hk:∀ a o,s.heap.get? a=some o→h'.get? a=some o)(ha:∀ b∈l,s.heap.get? b=none∧∃ o,h'.get? b=some o)(ht:s.toks≤t):Grow g s (g.puts l h') { s with heap:=h',toks:=t } where
 heap:=hk
 os:=rfl
 gens:=id
 tk:=Nat.le_refl _
 tkb:=fun h=>Nat.le_trans h ht
 own:=rfl
 role:=fun b r e=>by
  have:b∉l:=fun q=>by obtain⟨_,o',h⟩:=R.new b r e;rw[(ha b q).1] at h;cases h
  simp only[G.puts,if_neg this,e]
 new:=fun b r e=>by
  by_cases q:b∈l
  ·simp only[G.puts,if_pos q] at e
   refine xAE (ha b q) fun h1 o h2 => ?_
   rw[h2] at e
   exact s1 e (.inr ⟨h1,o,rfl,h2⟩)
  ·simp only[G.puts,if_neg q] at e
   exact .inl e
theorem G.puts_fz{l:List Addr}{a:Addr}(m:a∈l)(e:h.get? a=some o):(g.puts l h).fz C a o:=.inr (by simp [G.puts,m,e])
theorem Grow.moved{s s2:Shared}(hk:∀ a o,s.heap.get? a=some o→s2.heap.get? a=some o)(hw:∀ b∈wr,s.heap.get? b=none)(ho:s2.os=s.os)(hg:s2.gens=s.gens)(ht:s.toks≤s2.toks)(m:Moved wr (fun a b=>b=a) s2 s'):Grow g s g s' where
 heap:=fun a o e=>m.heap a o (fun q=>by rw[hw a q] at e;cases e) (hk a o e)
 os:=m.os.trans ho
 gens:=fun x=>by rw[show s'.gens=s2.gens from m.gens,hg];exact x
 own:=rfl
 role:=fun _ _ e=>e
 new:=fun _ _ e=>.inl e
 tk:=Nat.le_refl _
 tkb:=fun h=>Nat.le_trans h (Nat.le_trans ht m.toks)
noncomputable def fRange1:T→Option T:=o1 F4 fun b=>some (.rng 0 b)
noncomputable def fRange2:T→T→Option T:=o2 F4 F4 fun a b=>some (.rng a b)
theorem M5:Pure1 C k (fun u=>call (.type "range") [u]) fRange1:=.on D9 fun A hA ly g σ s a u z R hu e=>s1 e (by
 obtain⟨t,rfl⟩:=hu
 refine call_range_1 ?_
 exact⟨_,Grow.frz_ R (fun _ _ e=>Heap.get?_push_of_some _ e) B3 (Heap.get?_push_size _ rfl) (Nat.le_add_right _ 2),_,_,_,_,rfl,if_pos rfl⟩)
theorem A9Z:Pure2 C k (fun u v=>call (.type "range") [u,v]) fRange2:=.on D9 D9 fun A hA ly g σ s a b u v z R hu hv e=>s1 e (by
 obtain⟨t,rfl⟩:=hu;obtain⟨t',rfl⟩:=hv
 refine call_range_2 ?_
 exact⟨_,Grow.frz_ R (fun _ _ e=>Heap.get?_push_of_some _ e) B3 (Heap.get?_push_size _ rfl) (Nat.le_add_right _ 1),_,_,_,_,rfl,if_pos rfl⟩)
noncomputable def N6(xs:List T):Option (List Int):=xs.foldr (fun x r=>(F4 x).bind fun y=>r.map (y :: ·)) (some [])
theorem A1w{xs:List T}{vs:List Value}{l:List Int}(r:RelTs C g xs vs)(e:N6 xs=some l):l.length=vs.length∧∀ (i:Nat) v,vs[i]?=some v→∃ t,v=.int (l.getD i 0) t:=by
 induction xs generalizing vs l with
 | nil=>obtain rfl:vs=[]:=r;exact s1 e ⟨rfl,fun i v h=>nn h⟩
 | cons x xs ih=>
  obtain⟨v,us,rfl,h1,h2⟩:=r
  refine b1 e fun y e1 e => ?_
  refine I7 (Option.map_eq_some_iff.mp e) fun l' e2 e => ?_
  subst e
  obtain⟨hl,h3⟩:=ih h2 e2
  have h1:∃ t,v=.int y t:=by cases D9 e1;exact h1
  refine⟨congrArg (·+1) hl,fun i w h => ?_⟩
  cases i with
  | zero=>exact Option.some.inj h▸h1
  | succ i=>exact h3 i w h
theorem A4M(l:List Int)(n:Nat)(h:n≤l.length):preSum (fun i=>l.getD i 0) n=(l.take n).sum:=by
 induction n with
 | zero=>rfl
 | succ n ih=>
  have e:l[n]?=some l[n]:=List.getElem?_eq_getElem h
  show preSum _ n+l.getD n 0=_
  rw[ih (Nat.le_of_lt h),List.take_add_one,e,List.getD_eq_getElem?_getD,e]
  show _=(l.take n++[l[n]]).sum
  rw[List.sum_append,List.sum_singleton]
  rfl
inductive B6N(s:Shared)(l:List Int)(v:Value):Prop
 | mk (a:Addr) (items:Array Value) (n:Nat) (e:v=.ref a) (ho:s.heap.get? a=some (seqObj "list" items n)) (h1:l.length=items.size) (h2:∀ (i:Nat) v,items[i]?=some v→∃ t,v=.int (l.getD i 0) t)
theorem A6z{s:Shared}{xs:List T}{v:Value}{l:List Int}(hy:RelW C g s.heap (.lst xs) v)(e:N6 xs=some l):B6N s l v:=by
 obtain⟨a,items,n,rfl,ho,r⟩:=hy
 obtain⟨h1,h2⟩:=A1w r e
 exact⟨a,items,n,rfl,ho,h1.trans Array.length_toList,fun i v h=>h2 i v (by rw[Array.getElem?_toList];exact h)⟩
theorem B0H{a:Addr}{o':Obj}(ho:h.get? a=some o):∀ b∈[h.objs.size,a],b<(h.push o').objs.size:=fun b hb=>by
 rw[Heap.size_push]
 rcases List.mem_cons.mp hb with rfl | hb
 ·exact Nat.lt_succ_self _
 ·rw[List.mem_singleton.mp hb];exact Nat.lt_succ_of_lt (Heap.lt_size ho)
theorem B0G:∀ b∈[h.objs.size],h.get? b=none:=fun b hb=>by rw[List.mem_singleton.mp hb];exact B3
noncomputable def fSum:T→Option T:=o1 U7 fun xs=>(N6 xs).map fun l=>.int l.sum
theorem A9V:Pure1 C k (fun u=>call (.builtin "sum") [u]) fSum:=.on G1 fun A hA ly g σ s xs u z R hx e=>I7 (Option.map_eq_some_iff.mp e) fun l e1 e=>by
 subst e
 obtain⟨a,items,n,rfl,ho,hl,hv⟩:=A6z hx e1
 have hil:s.heap.IsList a items:=⟨_,ho,rfl,n,rfl⟩
 refine call_sum_walkAnyS (wpAny_pyIter_list hil ⟨_,_,_,_,_,_,_,fun i=>l.getD i 0,rfl,(Walks.list (A:=A.in1) hA.handled s.heap.objs.size a (Y7 ho) items).toS,⟨⟨_,Heap.get?_push_size _ rfl,rfl,rfl⟩,hil.push _⟩,B0H ho,fun i v hp=>hv i v hp,fun s' t' m => ?_⟩)
 refine⟨g,Grow.moved (s2:={ s with heap:=s.heap.push { cls:=.type "list_iterator", data:=.fields #[Value.ref a,Value.int 0 0] } }) (fun _ _ e=>Heap.get?_push_of_some _ e) B0G rfl rfl (Nat.le_refl _) m,t',?_⟩
 rw[A4M _ _ (Nat.le_of_eq hl.symm),List.take_of_length_le (Nat.le_of_eq hl)]
noncomputable def fMax:T→Option T:=o1 U7 fun xs=>(N6 xs).bind fun l=>if l≠[] then some (T.int (l.getD (argBest (fun i j=>decide (l.getD i 0>l.getD j 0)) (l.length - 1)) 0)) else none
theorem B5T:Pure1 C k (fun u=>call (.builtin "max") [u]) fMax:=.on G1 fun A hA ly g σ s xs u z R hx e=>b1 e fun l e1 e=>iN e fun hne e=>s1 e (by
 obtain⟨a,items,n,rfl,ho,hl,hv⟩:=A6z hx e1
 have hil:s.heap.IsList a items:=⟨_,ho,rfl,n,rfl⟩
 refine call_max_walkS (wpAny_pyIter_list hil ⟨_,_,_,_,_,_,_,_,rfl,(Walks.list (A:=A.in1) hA.handled s.heap.objs.size a (Y7 ho) items).toS,⟨⟨_,Heap.get?_push_size _ rfl,rfl,rfl⟩,hil.push _⟩,B0H ho,by rw[← hl];exact List.length_pos_iff.mpr hne,CmpOf.ints_gt (fun i=>l.getD i 0) hv,fun v s' hp m => ?_⟩)
 exact⟨g,Grow.moved (s2:={ s with heap:=s.heap.push { cls:=.type "list_iterator", data:=.fields #[Value.ref a,Value.int 0 0] } }) (fun _ _ e=>Heap.get?_push_of_some _ e) B0G rfl rfl (Nat.le_refl _) m,by rw[hl];exact hv _ v hp⟩)
theorem A38{s:Shared}{x:Str}(hq:Q (.type "str") s):wpAny (Md C) A (call (.type "type") [.str x t]) Q E s:=by
 refine wpAny_call (codeAny_of_tree ?_)
 show wpAny _ _ (callAny (.type "type") ⟨[.str x t],[]⟩) _ _ _
 simp only[callAny]
 refine wpAny_pure ⟨Code.quiet_builtin _ (by decide +kernel),codeAny_builtin entry_type_call ?_⟩
 unfold Builtin.«type.__call__»
 dsimp only
 unfold shownTypeOf
 repeat wp_step
 exact hq
theorem A39{s:Shared}{x:Int}(hq:Q (.type "int") s):wpAny (Md C) A (call (.type "type") [.int x t]) Q E s:=by
 refine wpAny_call (codeAny_of_tree ?_)
 show wpAny _ _ (callAny (.type "type") ⟨[.int x t],[]⟩) _ _ _
 simp only[callAny]
 refine wpAny_pure ⟨Code.quiet_builtin _ (by decide +kernel),codeAny_builtin entry_type_call ?_⟩
 unfold Builtin.«type.__call__»
 dsimp only
 unfold shownTypeOf
 repeat wp_step
 exact hq
noncomputable def fType:T→Option T:=or1 U7 (fun _=>some (.cst (.type "list")))<|or1 G9 (fun _=>some (.cst (.type "str")))<|o1 F4 fun _=>some (.cst (.type "int"))
theorem A9T:Pure1 C k (fun u=>call (.type "type") [u]) fType:=.or (.on G1 fun A hA ly g σ s xs u z R hx e=>s1 e (by
 obtain⟨a,items,n,rfl,ho,r⟩:=hx
 exact kto_cont ⟨_,ho,rfl⟩ (by decide) (C8 .cst)))<|.or (.s fun A g s a t z e=>s1 e (A38 (C8 .cst))) (.i fun A g s a t z e=>s1 e (A39 (C8 .cst)))
noncomputable def fList:T→Option T:=or1 tDs (fun p=>if p.1.length<1000 then some (.lst (p.1.map .str)) else none)<|o1 B5I fun p=>if p.1.length<1000 then some (.lst (prs p.1 p.2)) else none
theorem A72{b:Addr}(hb:h.objs.size≤b):h.get? b=none:=by
 cases q:h.get? b with
 | none=>rfl
 | some o=>exact absurd (Heap.lt_size q) (Nat.not_lt.mpr hb)
theorem B37:Pure1 C k (fun u=>call (.type "list") [u]) fList:=.or (.on Q0 fun A hA ly g σ s p u z R hx e=>iN e fun hlen e=>s1 e (by
  obtain⟨a,kvs,rfl,hd,hs,hk1,r⟩:=hx
  obtain⟨ep,hat⟩:=hd.dictAt
  rw[← hk1,List.length_map] at hlen
  rw[← hk1]
  refine wpAny_with_toks (Nat.le_refl s.toks) ?_
  refine kdl_call (kdl_dict (knd:=PySem.strKind C.prog C.w) hs) hA.handled hat (D3 hlen) fun h' tk acc c hk hS hacc ht => ?_
  have w:=Grow.frz_ (t:=tk) R hk B3 hS ht
  refine⟨_,w,.lst G.put_fz (RelTs.of_get ?_ fun i x v hx hv => ?_)⟩
  ·rw[List.length_map,List.length_map,Array.length_toList];exact hacc.1.symm
  ·rw[Array.getElem?_toList] at hv
   refine A5O (hacc.2 i v hv) fun k' y h1 h2 => ?_
   rw[List.getElem?_map,List.getElem?_map,h1] at hx
   cases hx
   exact Value.isStrOf_shape h2))<|.on B1c fun A hA ly g σ s p u z R hx e=>iN e fun hlen e=>s1 e (by
  obtain⟨rr,a,kvs,rfl,hv,hd,hs,hk1,r⟩:=hx
  obtain⟨ep,hat⟩:=hd.dictAt
  rw[← hk1,List.length_map] at hlen
  rw[← hk1]
  refine wpAny_with_toks (Nat.le_refl s.toks) ?_
  refine kdx_call (knd:=PySem.strKind C.prog C.w) hA.handled hv hat (D3 hlen) fun h' tk acc c as hk hS hl hG hacc ht => ?_
  have w:=Grow.frzs (t:=tk) (l:=s.heap.objs.size::as) R hk (fun b hb=>by
   rcases List.mem_cons.mp hb with rfl | hb
   ·exact⟨B3,_,hS⟩
   ·obtain⟨j,hj⟩:=List.mem_iff_getElem?.mp hb
    refine e9 (hG.pairs j b hj) fun _ _ _ _ _ e => ?_
    exact⟨A72 (Nat.le_of_lt (hG.above b hb)),_,e⟩) ht
  refine⟨_,w,.lst (G.puts_fz List.mem_cons_self hS) (RelTs.of_get ?_ fun i x v hx hv => ?_)⟩
  ·rw[A1e kvs _ r,hacc,List.length_map,hl]
  ·rw[hacc,List.getElem?_map] at hv
   refine I7 (Option.map_eq_some_iff.mp hv) fun b hb hR2 => ?_
   subst hR2
   refine e9 (hG.pairs i b hb) fun key k' y h1 h2 h3 => ?_
   refine e9 (A6l kvs _ r hx) fun k2 x2 v2 hR3 h4 h5 => ?_
   subst hR3
   cases h1.symm.trans h4
   refine .tup (G.puts_fz (List.mem_cons_of_mem _ (List.mem_of_getElem? hb)) h3) ?_
   exact⟨_,_,rfl,Value.isStrOf_shape h2,_,_,rfl,A0H w.le _ _ h5,rfl⟩)
end
section
open PySem.Builtin PySem.Builtin.Str
theorem A1k{s:Shared}{i:Nat}{u:Value}{o:AO}(R:Rel C ly g σ s)(V:RelV C g (.ref i) u)(h:σ.objs[i]?=some o)(hne:o≠.gone):
  ∃ a ob,u=.ref a∧g.own[i]?=some a∧g.role a=some (.own i)∧s.heap.get? a=some ob∧p8 C g o ob:=by
 refine I7 (V) fun a h1 hR2 => ?_
 subst hR2
 refine F1 (R.own i o h hne) fun a' ob h2 h3 h4 h5 => ?_
 rw[h1] at h2;cases h2
 exact⟨a,ob,rfl,h1,h3,h4,h5⟩
noncomputable def aoL(o:AO):Option (List T):=AO.casesOn (motive:=fun _=>Option (List T)) o some (fun _ _=>none) (fun _ _=>none) none
noncomputable def Q9(σ:St)(i:Nat):Option (List T):=(σ.objs[i]?).bind aoL
noncomputable def objL(σ:St)(v:V):Bool:=(u7 v).elim false fun i=>(Q9 σ i).isSome
theorem W6{i:Nat}{xs:List T}(h:Q9 σ i=some xs):σ.objs[i]?=some (.lst xs):=by
 refine b1 h fun o q e => ?_
 cases o
 case lst ys=>exact s1 e q
 all_goals exact nn e
inductive B6h(C:Cx)(g:G)(s:Shared)(i:Nat)(xs:List T)(u:Value):Prop
 | mk (a:Addr) (items:Array Value) (n:Nat) (e:u=.ref a) (o1:g.own[i]?=some a) (o2:g.role a=some (.own i)) (o3:s.heap.get? a=some (seqObj "list" items n)) (r:RelTs C g xs items.toList)
theorem A9d{s:Shared}{i:Nat}{u:Value}{xs:List T}(R:Rel C ly g σ s)(V:RelV C g (.ref i) u)(h:Q9 σ i=some xs):B6h C g s i xs u:=by
 obtain⟨a,ob,rfl,h1,h2,h3,items,n,rfl,r⟩:=A1k R V (W6 h) (by nofun)
 exact⟨a,items,n,rfl,h1,h2,h3,r⟩
theorem B04:Chk C "list" objL:=fun ly g σ s v u R V e=>by
 unfold objL at e
 cases q:u7 v with
 | none=>rw[q] at e;exact nb e
 | some i=>
  rw[q] at e
  refine H4 e fun xs h => ?_
  obtain⟨a,items,n,rfl,_,_,h3,_⟩:=A9d R (V.of (O0 q)) h
  exact⟨⟨_,h3,rfl⟩,fun b e=>Value.ref.inj e▸⟨_,h3,rfl⟩⟩
section
variable{e1:Expr}{a c:D}
theorem u8{s:Shared}{i:Nat}{a:Addr}{its':Array Value}{n:Nat}{xs xs':List T}{f:Array Value→Array Value}(R:Rel C ly g σ s)(hi:σ.objs[i]?=some (.lst xs))(ha:g.own[i]?=some a)(hr:g.role a=some (.own i))(ho:s.heap.get? a=some (seqObj "list" items n))(hf:f items=its')(r:RelTs C g xs' its'.toList):Rel C ly g ⟨σ.loc,σ.objs.set i (.lst xs')⟩ { s with heap:=s.heap.update a (Obj.mapSeq f),toks:=s.toks }:=by
 obtain⟨m,h1⟩:∃ m,Obj.mapSeq f (seqObj "list" items n)=seqObj "list" its' m:=by
  simp only[Obj.mapSeq,seqObj,hf]
  exact⟨_,rfl⟩
 exact R.upd hi ha hr (Heap.SameBut.update ..) (by rw[Heap.get?_update_self _ ho (by rw[h1];rfl),h1]) ⟨its',m,rfl,r⟩
noncomputable def B5a(p q:V):D:=fun σ=>(toT σ q).bind fun r=>(u7 p).bind fun i=>(Q9 r.2 i).bind fun xs=>if xs.length<1000 then some (.t .none,⟨r.2.loc,r.2.objs.set i (.lst (xs++[r.1]))⟩) else none
noncomputable def A0a:D→D→D:=B2t objL B5a
theorem A3f:X5 "list" (Str.ofString "append") "list.append" := ⟨F.plainAttrs_list,F.slot_list_append,F.type_list_append⟩
theorem n8{xs:List T}(r:RelTs C g xs items.toList)(h:xs.length<1000):items.size≤sizeLine:=by rw[← Array.length_toList,r.length];exact D3 h
theorem V8(B:Base C)(Fm:X6 env e1 (Str.ofString "append") apos pos)(ha:SE C k env ly e1 a)(hb:SE C k env ly e2 b)(hs:starEach [e2] env=[(false,eval e2 env)]):
  SE C k env ly (.Call (.Attribute e1 (Str.ofString "append") apos) [e2] [] pos) (A0a a b):=A9E Fm A3f B04 ha hb hs fun A hA g σ s p q u v w σ' R V1 V2 e=>by
 refine b2 e fun x σ1 et e => ?_
 refine b1 e fun i ei e => ?_
 refine b1 e fun xs ex e => ?_
 refine iN e fun hlen e => ?_
 refine s2 e ?_
 refine ToT.elim (R.toT V2 et) fun g3 l3 R3 T3 => ?_
 obtain⟨ad,items,n,rfl,o1,o2,o3,r⟩:=A9d R3 (B6 l3 _ _ (V1.of (O0 ei))) ex
 refine call_meets F.slot_list_append ⟨_,o3,rfl⟩ F.entry_list_append (F.args_list_append_2 _ _) (AutoListH.list_append_list_val_0 ad items n v (n8 r hlen)) ⟨o3,?_⟩
 exact⟨g3,l3,u8 R3 (W6 ex) o1 o2 o3 rfl (by rw[Array.toList_push];exact r.append (.one T3)),rfl⟩
theorem A4h{v:Value}{n:Nat}(h:n≤items.size):((items.extract 0 n).push v++items.extract n).toList=items.toList.take n++v::items.toList.drop n:=by
 have e1:List.take (items.size - n) (List.drop n items.toList)=List.drop n items.toList:=List.take_of_length_le (by rw[List.length_drop,Array.length_toList];exact Nat.le_refl _)
 rw[Array.toList_append,Array.toList_push,Array.toList_extract,Array.toList_extract,List.extract_eq_take_drop,List.extract_eq_take_drop,List.append_assoc,e1]
 rfl
noncomputable def B5Y(p q t:V):D:=fun σ=>(toT σ t).bind fun r=>(u7 p).bind fun i=>(A5H q).bind fun j=>(Q9 r.2 i).bind fun xs=>if xs.length<1000∧0≤j∧j<1000 then some (.t .none,⟨r.2.loc,r.2.objs.set i (.lst (xs.take j.toNat++r.1::xs.drop j.toNat))⟩) else none
noncomputable def B2u:D→D→D→D:=B2s objL B5Y
theorem A3e:X5 "list" (Str.ofString "insert") "list.insert" := ⟨F.plainAttrs_list,F.slot_list_insert,F.type_list_insert⟩
theorem B4R{items:Array Value}{v:Value}{j:Int}(h0:0≤j):(have k:=if j<0 then (j+((items.size:Nat):Int)).toNat else min j.toNat items.size;(items.extract 0 k).push v++items.extract k).toList=items.toList.take j.toNat++v::items.toList.drop j.toNat:=by
 rw[if_neg (Int.not_lt.mpr h0)]
 generalize j.toNat=j
 show ((items.extract 0 (min j items.size)).push v++items.extract (min j items.size)).toList=_
 rcases Nat.le_total j items.size with h | h
 ·rw[Nat.min_eq_left h];exact A4h h
 ·rw[← Array.length_toList] at h
  rw[Nat.min_eq_right (by rw[← Array.length_toList];exact h),A4h (Nat.le_refl _),← Array.length_toList,List.take_of_length_le (Nat.le_refl _),List.take_of_length_le h,List.drop_eq_nil_of_le (Nat.le_refl _),List.drop_eq_nil_of_le h]
theorem A7o(B:Base C)(Fm:X6 env e1 (Str.ofString "insert") apos pos)(ha:SE C k env ly e1 a)(hb:SE C k env ly e2 b)(hc:SE C k env ly e3 c)(hs:starEach [e2,e3] env=[(false,eval e2 env),(false,eval e3 env)]):
  SE C k env ly (.Call (.Attribute e1 (Str.ofString "insert") apos) [e2,e3] [] pos) (B2u a b c):=A5b Fm A3e B04 ha hb hc hs fun A hA g σ s p q t u v y w σ' R V1 V2 V3 e=>by
 refine b2 e fun x σ1 et e => ?_
 refine b1 e fun i ei e => ?_
 refine b1 e fun j ej e => ?_
 refine b1 e fun xs ex e => ?_
 refine iN e fun hlen e => ?_
 refine s2 e ?_
 refine ToT.elim (R.toT V3 et) fun g3 l3 R3 T3 => ?_
 obtain⟨tt,rfl⟩:=A2J V2 ej
 obtain⟨ad,items,n,rfl,o1,o2,o3,r⟩:=A9d R3 (B6 l3 _ _ (V1.of (O0 ei))) ex
 obtain⟨h1,h2,h3⟩:=hlen
 have hj:¬(!Builtin.List.listFitsIndex j)=true:=by
  have h4 : -(2 ^ 63:Int)≤j:=Int.le_trans (by decide) h2
  have h5:j<2 ^ 63:=Int.lt_trans h3 (by decide)
  unfold Builtin.List.listFitsIndex
  rw[decide_eq_true h4,decide_eq_true h5]
  exact Bool.false_ne_true
 refine call_meets F.slot_list_insert ⟨_,o3,rfl⟩ F.entry_list_insert (F.args_list_insert_3 _ _ _) (AutoListH.list_insert_list_int_val_1 ad items n j tt y hj (n8 r h1)) ⟨o3,?_⟩
 exact⟨g3,l3,u8 R3 (W6 ex) o1 o2 o3 rfl (by rw[B4R h2];exact(r.take _).append ⟨_,_,rfl,T3,r.drop _⟩),rfl⟩
noncomputable def B5X(p:V):D:=fun σ=>(u7 p).bind fun i=>(Q9 σ i).bind fun xs=>if xs.length<1000 then some (.t .none,⟨σ.loc,σ.objs.set i (.lst xs.reverse)⟩) else none
noncomputable def B4r:D→D:=B56 objL B5X
theorem RelTs.rev{xs:List T}{vs:List Value}(r:RelTs C g xs vs):RelTs C g xs.reverse vs.reverse:=by
 induction xs generalizing vs with
 | nil=>obtain rfl:vs=[]:=r;exact RelTs.nil
 | cons x xs ih=>
  obtain⟨v,vs,rfl,h,r⟩:=r
  rw[List.reverse_cons,List.reverse_cons];exact(ih r).append (.one h)
theorem A2S:X5 "list" (Str.ofString "reverse") "list.reverse" := ⟨F.plainAttrs_list,F.slot_list_reverse,F.type_list_reverse⟩
theorem A5Z(B:Base C)(Fm:X6 env e1 (Str.ofString "reverse") apos pos)(ha:SE C k env ly e1 a):
  SE C k env ly (.Call (.Attribute e1 (Str.ofString "reverse") apos) [] [] pos) (B4r a):=B31 Fm A2S B04 ha fun A hA g σ s p u w σ' R V1 e=>by
 refine b1 e fun i ei e => ?_
 refine b1 e fun xs ex e => ?_
 refine iN e fun hlen e => ?_
 refine s2 e ?_
 obtain⟨ad,items,n,rfl,o1,o2,o3,r⟩:=A9d R (V1.of (O0 ei)) ex
 refine call_meets F.slot_list_reverse ⟨_,o3,rfl⟩ F.entry_list_reverse (F.args_list_reverse_1 _) (AutoListH.list_reverse_list_0 ad items n (n8 r hlen)) ⟨o3,?_⟩
 exact⟨g,.refl g,u8 R (W6 ex) o1 o2 o3 rfl (by rw[Array.toList_reverse];exact r.rev),rfl⟩
end
end
section
open PySem.Builtin PySem.Builtin.Str
theorem A3T:Pure2 C k (inplaceOp .Add) fAdd:=.or (.i fun A g s a b t t' z e=>s1 e (by with_reducible refine iadd_int ?_;exact C2 .int)) (.s fun A g s a b t t' z e=>iN e fun hl e=>s1 e (wpAny_with_toks (Nat.le_refl s.toks) (SB.iadd (fun t' tk h=>C2 .str h) (D3 hl))))
theorem B38:Pure2 C k (inplaceOp .Sub) fSub:=.i fun A g s a b t t' z e=>s1 e (by with_reducible refine isub_int ?_;exact C2 .int)
theorem A9b:Pure2 C k (inplaceOp .Mult) fMul:=.i fun A g s a b t t' z e=>iN e fun h e=>s1 e (by
 with_reducible refine imul_int ?_ ?_
 ·exact C2 .int
 rcases Bool.or_eq_true_iff.mp h with h | h
 ·exact .of_left (S6 h)
 ·exact .of_right (S6 h))
noncomputable def O7(o:AO)(kx x:T):Option AO:=AO.casesOn (motive:=fun _=>Option AO) o
 (fun xs=>(F4 kx).bind fun j=>if 0≤j∧j<2 ^ 60∧j.toNat<xs.length then some (.lst (xs.set j.toNat x)) else none)
 (fun ks xs=>(G9 kx).bind fun y=>if ks.length<1000 then some (.ds (stK ks y) (stX ks xs y x)) else none)
 (fun ks xs=>(F4 kx).bind fun y=>if ks.length<1000 then some (.di (stK ks y) (stX ks xs y x)) else none) none
section
variable{e1:Expr}{a c:D}
theorem A5Y{A:Around}{E:Value→Shared→Prop}{s:Shared}{l:Addr}{n:Nat}{j:Int}{t:Tok}{v:Value}{Q:Unit→Shared→Prop}(ho:s.heap.get? l=some (seqObj "list" items n))(h0:0≤j)(hfit:j<2 ^ 63)(hn:j.toNat<items.size)(hQ:Q () { s with heap:=s.heap.update l (Obj.mapSeq (·.setIfInBounds j.toNat v)) }):wpAny (Md C) A (setItem (.ref l) (.int j t) v) Q E s:=by
 have hT:s.TypeIs (.ref l) "list" := ⟨_,ho,rfl⟩
 unfold setItem
 refine wpAny_holding (wpAny_bind (wpAny_sequenceKey hT (by decide) (wpAny_bind (wpAny_callSpecial?_slot (name:=Str.ofString "__setitem__") hT slot_list_setitem (wpAny_call_entry slot_list_setitem hT entry_list_setitem ?_ (args_list_setitem _ _ _))))))
 show wpAny _ _ (Builtin.List.listSubscript? (.int j t) >>= _) _ _ s
 refine wpAny_bind (wpAny_listSubscript_int (fitsIndex_of h0 hfit) ?_)
 obtain⟨m,rfl⟩:=Int.eq_ofNat_of_zero_le h0
 have hm:m<items.size:=hn
 show wpAny _ _ ((seqItemAt l m >>= fun r=>pure (r.map (m,·))) >>= _) _ _ s
 refine wpAny_bind (wpAny_bind (wpAny_seqItemAt ho rfl (wpAny_pure ?_)))
 rw[Array.getElem?_eq_getElem hm]
 show wpAny _ _ (setSeqItemAt l m v >>= _) _ _ s
 refine wpAny_bind (wpAny_setSeqItemAt ho rfl ?_)
 first
  | exact wpAny_bind (wpAny_pure (wpAny_pure ⟨.none,rfl,wpAny_pure hQ⟩))
  | exact wpAny_pure ⟨.none,rfl,wpAny_pure hQ⟩
theorem A6a(B:Base C){s:Shared}{i:Nat}{u kv v:Value}{o:AO}{kx x:T}{Q:Unit→Shared→Prop}(R:Rel C ly g σ s)(V:RelV C g (.ref i) u)(hi:σ.objs[i]?=some o)(hk:RelW C g s.heap kx kv)(hx:RelT C g x v)(e:O7 o kx x=some o'):(∀ s',Rel C ly g ⟨σ.loc,σ.objs.set i o'⟩ s'→Q () s')→wpAny (Md C) A (setItem u kv v) Q E s:=by
 cases o with
 | gone=>exact nn e
 | lst xs=>
  refine b1 e fun j ej e => ?_
  refine iN e fun h e => ?_
  obtain⟨t,rfl⟩:=hk.of (D9 ej)
  obtain⟨a,ob,rfl,o1,o2,o3,items,n,rfl,r⟩:=A1k R V hi (by nofun)
  refine s1 e fun q=>A5Y o3 h.1 (A9w h.2.1) (by rw[← Array.length_toList,r.length];exact h.2.2) (q _ ?_)
  exact u8 R hi o1 o2 o3 rfl (by rw[Array.toList_setIfInBounds];exact r.set _ hx)
 | ds ks xs=>
  refine b1 e fun y ey e => ?_
  refine iN e fun h e => ?_
  obtain⟨t,rfl⟩:=hk.of (F3 ey)
  obtain⟨a,ob,rfl,o1,o2,o3,kvs,d,rfl,r⟩:=A1k R V hi (by nofun)
  refine s1 e fun q=>wpAny_setItem_pairs (strKind_is _ _ _ t) (Heap.dictOf_iff.mpr ⟨ob,o3,d⟩) (fun h' hm' hs' => ?_) (D3 (by rwa [List.length_map] at h))
  refine I7 (Heap.dictOf_iff.mp hm') fun ob' p1 p2 => ?_
  exact q _ (R.upd hi o1 o2 hs' p1 ⟨_,p2,i0 _ _ _,m7 r hx⟩)
 | di ks xs=>
  refine b1 e fun y ey e => ?_
  refine iN e fun h e => ?_
  obtain⟨t,rfl⟩:=hk.of (D9 ey)
  obtain⟨a,ob,rfl,o1,o2,o3,kvs,d,rfl,r⟩:=A1k R V hi (by nofun)
  refine s1 e fun q=>wpAny_setItem_pairs (intKind_is _ _ _ t) (Heap.dictOf_iff.mpr ⟨ob,o3,d⟩) (fun h' hm' hs' => ?_) (D3 (by rwa [List.length_map] at h))
  refine I7 (Heap.dictOf_iff.mp hm') fun ob' p1 p2 => ?_
  exact q _ (R.upd hi o1 o2 hs' p1 ⟨_,p2,i0 _ _ _,m7 r hx⟩)
noncomputable def O9(a b c:D):DS:=fun σ=>(a σ).bind fun p=>(b p.2).bind fun q=>(c q.2).bind fun r=>(toT r.2 p.1).bind fun t=>(u7 q.1).bind fun i=>(view t.2 r.1).bind fun kx=>(t.2.objs[i]?).bind fun o=>(O7 o kx t.1).bind fun o'=>some (.next,⟨t.2.loc,t.2.objs.set i o'⟩)
theorem U2(B:Base C)(ha:SE C k env ly e1 a)(hb:SE C k env ly e2 b)(hc:SE C k env ly e3 c)(hs:swapsWith e1 (some (.Subscript e2 e3 pos')) pos.line env=pure false):S1 C k env ly (.Assign [.Subscript e2 e3 pos'] e1 pos) (O9 a b c):=fun A hA g σ s f σ' R e=>by
 refine b2 e fun p σ1 ea e => ?_
 refine b2 e fun q σ2 eb e => ?_
 refine b2 e fun r σ3 ec e => ?_
 refine b2 e fun x σ4 et e => ?_
 refine b1 e fun i ei e => ?_
 refine b1 e fun kx ek e => ?_
 refine b1 e fun o eo e => ?_
 refine b1 e fun o' eo' e => ?_
 refine s2 e ?_
 have V0:=fun {g:G} {u:Value} (V:RelV C g _ u)=>V.of (O0 ei)
 refine wpAny_Assign_Subscript (ha.use hA R ea fun g1 v s1 l1 R1 V1=>hb.use hA R1 eb fun g2 u s2 l2 R2 V2=>hc.use hA R2 ec fun g3 kv s3 l3 R3 V3 => ?_) hs
 refine ToT.elim (R3.toT (B6 (l2.trans l3) _ _ V1) et) fun g4 l4 R4 T4 => ?_
 exact A6a B R4 (V0 (B6 (l3.trans l4) _ _ V2)) eo (R4.view B (B6 l4 _ _ V3) ek) T4 eo' fun s' R'=>⟨g4,((l1.trans l2).trans l3).trans l4,R',rfl⟩
noncomputable def A0Z(f:T→T→Option T)(b c a:D):DS:=fun σ=>(b σ).bind fun q=>(c q.2).bind fun r=>(view r.2 q.1).bind fun x0=>(view r.2 r.1).bind fun kx0=>(fItem x0 kx0).bind fun old=>(a r.2).bind fun p=>(view p.2 p.1).bind fun y=>(f (A1m old) y).bind fun new=>(u7 q.1).bind fun i=>(view p.2 r.1).bind fun kx=>(p.2.objs[i]?).bind fun o=>(O7 o kx new).bind fun o'=>some (.next,⟨p.2.loc,p.2.objs.set i o'⟩)
theorem A4I{f:T→T→Option T}(B:Base C)(hb:SE C k env ly e2 b)(hc:SE C k env ly e3 c)(ha:SE C k env ly e1 a)(hf:Pure2 C k (inplaceOp op) f)(hi:∀ ov iv new,augStore e3 ov iv new=(do holding [new,ov,iv] (setItem ov iv new);release [new,ov,iv] [];pure .next)):S1 C k env ly (.AugAssign (.Subscript e2 e3 pos') op e1 pos) (A0Z f b c a):=fun A hA g σ s fl σ' R e=>by
 refine b2 e fun q σ1 eb e => ?_
 refine b2 e fun r σ2 ec e => ?_
 refine b1 e fun x0 ex0 e => ?_
 refine b1 e fun kx0 ek0 e => ?_
 refine b1 e fun old eold e => ?_
 refine b2 e fun p σ3 ea e => ?_
 refine b1 e fun y ey e => ?_
 refine b1 e fun new enew e => ?_
 refine b1 e fun i ei e => ?_
 refine b1 e fun kx ek e => ?_
 refine b1 e fun o eo e => ?_
 refine b1 e fun o' eo' e => ?_
 refine s2 e ?_
 have V0:=fun {g:G} {u:Value} (V:RelV C g _ u)=>V.of (O0 ei)
 refine wpAny_AugAssign_SubscriptAny (hb.use hA R eb fun g1 u s1 l1 R1 V1=>hc.use hA R1 ec fun g2 kv s2 l2 R2 V2 => ?_) hi
 refine wpAny_mono (A9a (k:=k) A hA ly g2 _ s2 x0 kx0 u kv old R2 (R2.view B (B6 l2 _ _ V1) ex0) (R2.view B V2 ek0) eold) (fun ov s3 ⟨g3,w3,T3⟩ => ?_) fun _ _ x=>x.elim
 refine ha.use hA (R2.grow w3) ea fun g4 v s4 l4 R4 V4 => ?_
 refine wpAny_mono (hf A hA ly g4 _ s4 (A1m old) y ov v new R4 (R4.relW B (A0H l4 _ _ T3)) (R4.view B V4 ey) enew) (fun nv s5 ⟨g5,w5,T5⟩ => ?_) fun _ _ x=>x.elim
 have R5:=R4.grow w5
 have l25:=(w3.le.trans l4).trans w5.le
 exact A6a B R5 (V0 (B6 (l2.trans l25) _ _ V1)) eo (R5.view B (B6 l25 _ _ V2) ek) T5 eo' fun s' R'=>⟨g5,(l1.trans l2).trans l25,R',rfl⟩
end
end
section
open PySem.Builtin PySem.Builtin.Str
noncomputable def fShl:T→T→Option T:=o2 F4 F4 fun a n=>if 0≤n∧n<1000∧I9 a then some (.int (a * 2 ^ n.toNat)) else none
noncomputable def fShr:T→T→Option T:=o2 F4 F4 fun a n=>if 0≤n then some (.int (a.fdiv (2 ^ n.toNat))) else none
noncomputable def fXor:T→T→Option T:=o2 F4 F4 fun a n=>some (.int (Builtin.bitXor a n))
theorem A9Y:Pure2 C k (binaryOp .LShift) fShl:=.i fun A g s a b t t' z e=>iN e fun h e=>s1 e (by
 have:=S6 h.2.2
 have:=h.2.1
 with_reducible refine lshift_int h.1 (by lia) ?_;exact C2 .int)
theorem A9X:Pure2 C k (binaryOp .RShift) fShr:=.i fun A g s a b t t' z e=>iN e fun h e=>s1 e (by with_reducible refine rshift_int h ?_;exact C2 .int)
theorem B5R:Pure2 C k (binaryOp .BitXor) fXor:=.i fun A g s a b t t' z e=>s1 e (by with_reducible refine xor_int ?_;exact C2 .int)
section
variable{e1:Expr}{a c:D}
noncomputable def B5Z(p q r:V):D:=fun σ=>(view σ p).bind fun x=>(tDs x).bind fun d=>(A5F q).bind fun y=>(lk d.1 d.2 y).elim (some (r,σ)) fun z=>some (.t z,σ)
noncomputable def A59:D→D→D→D:=B2s (B2v isDsT) B5Z
theorem A73:X5 "dict" (Str.ofString "get") "dict.get" := ⟨F.plainAttrs_dict,F.slot_dict_get,F.type_dict_get⟩
theorem A9F(B:Base C)(Fm:X6 env e1 (Str.ofString "get") apos pos)(ha:SE C k env ly e1 a)(hb:SE C k env ly e2 b)(hc:SE C k env ly e3 c)(hs:starEach [e2,e3] env=[(false,eval e2 env),(false,eval e3 env)]):
  SE C k env ly (.Call (.Attribute e1 (Str.ofString "get") apos) [e2,e3] [] pos) (A59 a b c):=A5b Fm A73 (B3Y B A37) ha hb hc hs fun A hA g σ s p q r u v y w σ' R V1 V2 V3 e=>by
 refine b1 e fun x ex e => ?_
 refine b1 e fun d ed e => ?_
 refine b1 e fun n en e => ?_
 obtain⟨t,rfl⟩:=A2I V2 en
 obtain⟨ad,kvs,rfl,hd,hs',hk,rr⟩:=(R.view B V1 ex).of (Q0 ed)
 rw[← hk] at e
 refine call_meetsIn F.slot_dict_get hd.typeIs F.entry_dict_get (F.args_dict_get_3 _ _ _) (meets_dict_get_default (PySem.strKind C.prog C.w) ad (strKind_is _ _ n t) hs' y) ⟨_,hd.mapOf,?_⟩
 cases q:lk (kvs.map (·.1)) d.2 n with
 | some z=>
  rw[q] at e
  refine I7 (n5 kvs _ rr q) fun v hv rv => ?_
  rw[hv]
  exact s2 e ⟨g,.refl g,R.grow .toks_,rv⟩
 | none=>
  rw[q] at e
  rw[A3i kvs _ rr q]
  exact s2 e ⟨g,.refl g,R.grow .toks_,V3⟩
noncomputable def B6e:V→Option Str:=vOf tCh
noncomputable def B4C(p q:V):D:=fun σ=>(view σ p).bind fun x=>(G9 x).bind fun x=>(B6e q).bind fun y=>if x.length<1000∧y.length=1 then some (.t (.str (Txt.replace x y ⟨#[]⟩)),σ) else none
noncomputable def A43:D→D→D:=B2t (B2v isStrT) B4C
theorem mname_replace:X5 "str" (Str.ofString "replace") "str.replace" := ⟨F.plainAttrs_str,F.slot_str_replace,F.type_str_replace⟩
theorem A5a{n:Nat}(B:Base C)(Fm:X6 env e1 (Str.ofString "replace") apos pos)(ha:SE C k env ly e1 a)(hb:SE C k env ly e2 b)(hs:starEach [e2,.Constant (.str ⟨#[]⟩) n pos'] env=[(false,eval e2 env),(false,eval (.Constant (.str ⟨#[]⟩) n pos') env)]):
  SE C k env ly (.Call (.Attribute e1 (Str.ofString "replace") apos) [e2,.Constant (.str ⟨#[]⟩) n pos'] [] pos) (A43 a b):=fun A hA g σ s w σ' R e'=>by
 refine b2 e' fun p σ1 ea e' => ?_
 refine iN e' fun hok e' => ?_
 refine b2 e' fun q σ2 eb e' => ?_
 refine b1 e' fun x ex e' => ?_
 refine b1 e' fun x' ex' e' => ?_
 refine b1 e' fun y ey e' => ?_
 refine iN e' fun hlen e' => ?_
 refine wpAny_Call_method2_late Fm.base Fm.line (by rw[hs];rfl) (ha.use hA R ea fun g1 u s1 l1 R1 V1 => ?_)
 obtain⟨h1,h2⟩:=B3Y B E0 _ _ _ _ _ _ R1 V1 hok
 refine⟨"str", "str.replace", mname_replace.plain,mname_replace.slot,mname_replace.ty,h1,h2,Calls.callWith_builtin rfl (Calls.evalArgs_plain ?_)⟩
 refine Calls.spliced_cons (hb.use hA R1 eb fun g2 v s2 l2 R2 V2=>Calls.spliced_cons (Calls.Constant_str (Calls.spliced_nil ?_)))
 obtain⟨t,rfl,t0,t1⟩:=V2.of (U1 B3s ey)
 obtain⟨t2,rfl⟩:=(R2.view B (B6 l2 _ _ V1) ex).of (F3 ex')
 refine Mine.s2 e' (wpAny_with_toks (n:=s2.toks) (Nat.le_succ _) ?_)
 refine SC.replace (Nat.ne_of_gt t0) (Nat.ne_of_gt (Nat.lt_of_lt_of_le (Nat.lt_trans t0 t1) R2.tk.2)) (Nat.ne_of_lt (Nat.lt_of_lt_of_le t1 R2.tk.2)) ?_ (D3 hlen.1) fun t' tk h => ?_
 ·rw[beq_eq_false_iff_ne];rintro rfl;exact absurd hlen.2 (by decide)
 ·exact⟨g2,l1.trans l2,R2.grow (.toks_ h),_,rfl⟩
end
end
section
open PySem.Builtin PySem.Builtin.Str
noncomputable def Signs(x:Str)(acc:Array Value)(i lo hi:Nat):Prop:=acc.size=i∧∀ (j:Nat) (v:Value),acc[j]?=some v→∃ (c:Nat) (u:Nat),x.cps[j]?=some c∧v=Value.str ⟨#[c]⟩ u∧lo≤u∧u<hi
theorem Signs.push{x:Str}{acc:Array Value}{i lo hi c:Nat}(h:Signs x acc i lo hi)(hc:x.cps[i]?=some c)(hl:lo≤hi):Signs x (acc.push (.str ⟨#[c]⟩ hi)) (i+1) lo (hi+1):=by
 refine⟨by rw[Array.size_push,h.1],fun j v hj => ?_⟩
 rw[Array.getElem?_push] at hj
 split at hj
 ·rename_i q
  cases hj
  rw[q,h.1]
  exact⟨c,hi,hc,rfl,hl,Nat.lt_succ_self _⟩
 ·refine F1 (h.2 j v hj) fun c' u h1 h2 h3 h4 => ?_
  exact⟨c',u,h1,h2,h3,Nat.lt_succ_of_lt h4⟩
theorem B2a{R:Result→Shared→Prop}{x:Str}{S I:Addr}{res:Value}{lo:Nat}(hh:A.handled=none)(hSI:S≠I)(hn:x.cps.size≤sizeLine):∀ (m i:Nat) (s:Shared) (acc:Array Value) (c:Nat),x.cps.size - i=m→i≤x.cps.size→s.heap.IsStrIter I "str_ascii_iterator" x t i→s.heap.get? S=some (seqObj "list" acc c)→Signs x acc i lo s.toks→lo≤s.toks→
  (∀ h' tk acc' c',(∀ b o,b≠S→b≠I→s.heap.get? b=some o→h'.get? b=some o)→h'.get? S=some (seqObj "list" acc' c')→Signs x acc' x.cps.size lo tk→s.toks≤tk→R (.ok (.ret res)) { s with heap:=h',toks:=tk })→
  codeAny (Md C) A (.builtin "list.extend.loop" ⟨[.ref S,.ref I,res],[]⟩) R s:=by
 intro m
 induction m with
 | zero=>
  intro i s acc c hk hi hit hS hacc hlo hR
  have hin:i=x.cps.size:=Nat.le_antisymm hi (Nat.le_of_sub_eq_zero hk)
  subst hin
  refine codeAny_builtin PySem.F.entry_extend_loop ?_
  rw[Around.under_plainId PySem.F.plain_extend_loop _]
  show wpAny _ A.in1 (pyNext (.ref I) >>= _) _ _ s
  refine wpAny_bind (wpAny_pyNext_ascii_end hh hit (by simp) fun h' hs' => ?_)
  exact wpAny_pure (hR h' s.toks acc c (fun b o _ hb e=>hs' b o hb e) (hs' S _ hSI hS) hacc (Nat.le_refl _))
 | succ m ih=>
  intro i s acc c hk hi hit hS hacc hlo hR
  have hlt:i<x.cps.size:=Nat.lt_of_sub_pos (hk▸Nat.succ_pos m)
  refine codeAny_builtin PySem.F.entry_extend_loop ?_
  rw[Around.under_plainId PySem.F.plain_extend_loop _]
  show wpAny _ A.in1 (pyNext (.ref I) >>= _) _ _ s
  refine wpAny_bind (wpAny_pyNext_ascii_item hit (c:=x.cps[i]) (by simp [hlt]) fun h' hit' hs' => ?_)
  have hS':h'.get? S=some (seqObj "list" acc c):=(hs'.2 S hSI).trans hS
  show wpAny _ A.in1 (updateSeq S (·.push _) >>= _) _ _ _
  refine wpAny_bind ?_
  refine wpAny_updateSeq hS' rfl (wpAny_pure ⟨plainId_quiet PySem.F.plain_extend_loop _,ih (i+1) _ (acc.push (.str ⟨#[x.cps[i]]⟩ s.toks)) _ (by rw[Nat.sub_succ,hk];rfl) hlt ?_ (Heap.get?_update_self _ hS' rfl) (hacc.push (by simp [hlt]) hlo) (Nat.le_succ_of_le hlo) fun h2 tk acc' c' hk' hS2 hacc' ht => ?_⟩)
   (by rw[hacc.1];exact Nat.le_trans hi hn) (by show (acc.push _).size≤sizeLine+1;rw[Array.size_push,hacc.1];exact Nat.succ_le_succ (Nat.le_trans hi hn))
  ·refine I7 (hit') fun o ho r => ?_
   exact⟨o,(Heap.get?_update_other _ _ hSI).trans ho,r⟩
  ·refine hR h2 tk acc' c' (fun b o h1 h3 e=>hk' b o h1 h3 ((Heap.get?_update_other _ _ (Ne.symm h1)).trans ((hs'.2 b h3).trans e))) hS2 hacc' (Nat.le_trans (Nat.le_succ _) ht)
theorem A50{s:Shared}{R:Result→Shared→Prop}(hh:A.handled=none){x:Str}{t:Tok}(ha:A1v x=true)(S:Addr)(res:Value)(c₀:Nat)(hS:s.heap.get? S=some (seqObj "list" #[] c₀))(hn:x.cps.size≤sizeLine)(hR:∀ h' tk acc' c',(∀ b o,b≠S→s.heap.get? b=some o→h'.get? b=some o)→h'.get? S=some (seqObj "list" acc' c')→Signs x acc' x.cps.size s.toks tk→s.toks≤tk→R (.ok (.ret res)) { s with heap:=h',toks:=tk }):
  wpAny (Md C) A.in1 (Builtin.List.listExtendWith (.ref S) (.str x t) res)
   (fun fin s'=>match fin with | .done f=>R (.ok f) s' | .again c'=>c'.quiet=true∧codeAny (Md C) A c' R s') (fun e s'=>R (.error e) s') s:=by
 unfold Builtin.List.listExtendWith
 refine wpAny_bind (wpAny_typeOf (T := "str") (v:=.str x t) rfl ?_)
 simp only[(rfl:Builtin.List.listSameRef (.ref S) (.str x t)=false),(by decide:(Value.type "str" == Value.type "list")=false),(by decide:(Value.type "str" == Value.type "tuple")=false),Bool.or_false,Bool.false_eq_true,if_false]
 refine wpAny_bind (wpAny_pyIter_ascii ha ?_)
 refine wpAny_bind (wpAny_holding ?_)
 unfold Builtin.List.listLengthHint
 refine wpAny_bind (wpAny_specialOf (T := "str") (v:=.str x t) rfl PySem.F.str_len ?_)
 wp_delta
 refine wpAny_bind (wpAny_isInstance (T := "str") (v:=.str x t) (b:=true) rfl (by rw[isSubtype_type];kernel_rfl) ?_)
 show wpAny _ _ (typeOf (Value.str x t) >>= _) _ _ _
 refine wpAny_bind (wpAny_typeOf (T := "str") (v:=.str x t) rfl ?_)
 refine wpAny_pure ?_
 rw[if_neg (by decide)]
 refine wpAny_pure ⟨plainId_quiet PySem.F.plain_extend_loop _,B2a (lo:=s.toks) hh (Nat.ne_of_lt (Heap.lt_size hS):S≠s.heap.objs.size) hn x.cps.size 0 _ #[] c₀ rfl (Nat.zero_le _) ⟨_,Heap.get?_push_size _ rfl,rfl,rfl⟩ (Heap.get?_push_of_some _ hS) ⟨rfl,fun j v h=>by simp at h⟩ (Nat.le_refl _) fun h' tk acc' c' hk hS' hacc ht => ?_⟩
 exact hR h' tk acc' c' (fun b o hb e=>hk b o hb (Nat.ne_of_lt (Heap.lt_size e)) (Heap.get?_push_of_some _ e)) hS' hacc ht
theorem A2Y{s:Shared}{E:Value→Shared→Prop}(hh:A.handled=none){x:Str}{t:Tok}(ha:A1v x=true)(hn:x.cps.size≤sizeLine)(hQ:∀ h' tk acc' c',(∀ b o,s.heap.get? b=some o→h'.get? b=some o)→h'.get? s.heap.objs.size=some (seqObj "list" acc' c')→Signs x acc' x.cps.size s.toks tk→s.toks≤tk→Q (.ref s.heap.objs.size) { s with heap:=h',toks:=tk }):
  wpAny (Md C) A (call (.type "list") [.str x t]) Q E s:=by
 refine callType_codes (Q₁:=fun obj s₁=>obj=.ref s.heap.objs.size∧s₁={ s with heap:=s.heap.push { cls:=.type "list", data:=.seq #[] } }) PySem.F.called_list (PySem.F.typeCall_list_1 _) PySem.F.entry_list_init
  (code_list_new _ ⟨rfl,rfl⟩) fun obj s₁ h₁ => ?_
 obtain⟨rfl,rfl⟩:=h₁
 have hS:(s.heap.push { cls:=.type "list", data:=.seq #[] }).get? s.heap.objs.size=some (seqObj "list" #[] 0):=Heap.get?_push_size _ rfl
 refine⟨⟨_,hS,rfl⟩,PySem.F.args_list_init_2 _ _,?_⟩
 show wpAny _ _ (do let old ← Builtin.List.listItems (.ref s.heap.objs.size);Builtin.List.listUpdate (.ref s.heap.objs.size) (fun _ => #[]);letGo old.toList.reverse;Builtin.List.listExtendWith (.ref s.heap.objs.size) (.str x t) .none) _ _ _
 refine wpAny_bind ?_
 unfold Builtin.List.listItems
 refine wpAny_bind (wpAny_seqItems hS rfl (wpAny_pure ?_))
 show wpAny _ _ (updateSeq s.heap.objs.size (fun _ => #[]) >>= fun _=>letGo (#[]:Array Value).toList.reverse >>= fun _=>Builtin.List.listExtendWith (.ref s.heap.objs.size) (.str x t) .none) _ _ _
 refine wpAny_bind (wpAny_updateSeq hS rfl ?_)
 refine wpAny_bind (wpAny_letGo ?_)
 refine A50 (A:=A.in1) hh ha _ .none _ (Heap.get?_update_self _ hS rfl) hn fun h' tk acc' c' hk hS' hacc ht => ?_
 exact⟨rfl,hQ h' tk acc' c' (fun b o e=>hk b o (Nat.ne_of_lt (Heap.lt_size e)) ((Heap.get?_update_other _ _ (Nat.ne_of_gt (Heap.lt_size e))).trans (Heap.get?_push_of_some _ e))) hS' hacc ht⟩
noncomputable def fListS:T→Option T:=or1 G9 (fun x=>if A1v x=true∧x.length<1000 then some (.lst (A6D x)) else none) fList
theorem v6(hlo:0<C.lo):Pure1 C k (fun u=>call (.type "list") [u]) fListS:=.or (.on F3 fun A hA ly g σ s x u z R hx e=>iN e fun h e=>s1 e (by
 obtain⟨t,rfl⟩:=hx
 refine A2Y hA.handled h.1 (D3 h.2) fun h' tk acc c hk hS hs ht => ?_
 have w:=Grow.frz_ (t:=tk) R hk B3 hS ht
 refine⟨⟨g.own,(g.put s.heap.objs.size (.frz (seqObj "list" acc c))).role,tk⟩,⟨w.heap,w.os,w.gens,w.own,w.role,w.new,Nat.le_trans R.tk.2 ht,fun _=>Nat.le_refl _⟩,.lst (items:=acc) (n:=c) (.inr (if_pos rfl)) (RelTs.of_get ?_ fun i y v hy hv => ?_)⟩
 ·exact(((List.length_map _).trans Array.length_toList).trans hs.1.symm).trans Array.length_toList.symm
 ·rw[Array.getElem?_toList] at hv
  refine F1 (hs.2 i v hv) fun c' u h1 hR3 h3 h4 => ?_
  subst hR3
  unfold A6D at hy
  rw[List.getElem?_map,Array.getElem?_toList,h1] at hy
  cases hy
  exact⟨u,rfl,Nat.lt_of_lt_of_le (Nat.lt_of_lt_of_le hlo (Nat.le_trans R.tk.1 R.tk.2)) h3,h4⟩)) B37
end
section
open PySem.Builtin PySem.Builtin.Str
set_option maxHeartbeats 4000000
noncomputable def B6c:Str:=⟨#[123,37,115,125]⟩
noncomputable def B6b:Str:=⟨#[37,115,58,37,100,40,37,115,41]⟩
noncomputable def tri(xs:List T):Option (Str×Int×Str):=(xs[0]?.bind G9).bind fun a=>(xs[1]?.bind F4).bind fun n=>(xs[2]?.bind G9).bind fun c=>if xs.length=3 then some (a,n,c) else none
noncomputable def fFmt:T→T→Option T:=or2 G9 G9 (fun f y=>if f=B6c∧y.length<1000 then some (.str ((Str.ofString "{" ++ y)++Str.ofString "}")) else none)<|o2 G9 A02 fun f xs=>(tri xs).bind fun p=>
 if f=B6b∧p.1.length<1000∧p.2.2.length<1000∧0≤p.2.1∧p.2.1<10 ^ 10 then some (.str (((((p.1++Str.ofString ":")++Str.ofString (toString p.2.1))++Str.ofString "(")++p.2.2)++Str.ofString ")")) else none
theorem B3m{xs:List T}{p:Str×Int×Str}(e:tri xs=some p):xs=[.str p.1,.int p.2.1,.str p.2.2]:=by
 refine b1 e fun a e1 e=>b1 e fun n e2 e=>b1 e fun c e3 e=>iN e fun h e => ?_
 obtain⟨x,y,z,rfl⟩:=A90 h
 rw[F3 (x:=x) e1,D9 (x:=y) e2,F3 (x:=z) e3]
 exact s1 (P:=fun p:Str×Int×Str=>[T.str a,.int n,.str c]=[T.str p.1,.int p.2.1,.str p.2.2]) e rfl
theorem A5y{u:Tok}:∀ z:PySem.Str,z.length≤1000000→Meets (PySem.Builtin.«str.__mod__» ⟨[.str ⟨#[123,37,115,125]⟩ t,.str z u],[]⟩) (fun _ R s=>∀ t' k,R (.ok (.ret (.str ((Str.ofString "{" ++ z)++Str.ofString "}") t'))) { s with toks:=k }):=by
 intro z hz
 kpc_run_s
theorem A5x{t1 t2 t3:Tok}{a c:Str}{n:Int}{b:Addr}(h1:a.length≤1000000)(h2:c.length≤1000000)(hn0:0≤n)(hn1:n<10 ^ 10):Meets (PySem.Builtin.«str.__mod__» ⟨[.str ⟨#[37,115,58,37,100,40,37,115,41]⟩ t,.ref b],[]⟩) (fun _ R s=>IsTup s.heap b #[.str a t1,.int n t2,.str c t3]∧∀ t' k,R (.ok (.ret (.str (((((a++Str.ofString ":")++Str.ofString (toString n))++Str.ofString "(")++c)++Str.ofString ")") t'))) { s with toks:=k }):=by
 kpt_run
end
section
open PySem.Builtin PySem.Builtin.Str
theorem B3I:Pure2 C k (binaryOp .Mod) fFmt:=.or (.s fun A g s f y t t' z e=>iN e fun h e=>s1 e (by
 obtain⟨rfl,h⟩:=h
 refine wpAny_with_toks (Nat.le_refl s.toks) ?_
 exact KPc.mod_str (T:=fun z=>(Str.ofString "{" ++ z)++Str.ofString "}") rfl (Nat.le_trans (Nat.le_of_lt h) (by decide)) (fun z hz=>A5y z hz) fun t' k h=>C2 .str h))<|.on F3 K7 fun A hA ly g σ s f xs u v z R hx hy e=>b1 e fun p ep e=>iN e fun h e=>s1 e (by
 obtain⟨t,rfl⟩:=hx
 obtain⟨b,items,n,rfl,ho,r⟩:=hy
 refine A2c (h) fun hR0 h1 h2 h3 h4 => ?_
 subst hR0
 rw[B3m ep] at r
 obtain⟨v1,l1,e1,⟨t1,rfl⟩,v2,l2,rfl,⟨t2,rfl⟩,v3,l3,rfl,⟨t3,rfl⟩,e4⟩:=r
 cases (show l3=[] from e4)
 cases Array.toList_inj.mp (e1.trans (show _=(#[Value.str p.1 t1,Value.int p.2.1 t2,Value.str p.2.2 t3]:Array Value).toList from rfl))
 refine wpAny_with_toks (Nat.le_refl s.toks) ?_
 exact KPt.bin_left (T := "str") (U := "tuple") (op:=.Mod) (by decide) (typeIs_str s _ t) ⟨_,ho,rfl⟩ PySem.F.fills_str_mod KPt.fills_tuple PySem.F.slot_str_mod
  (call_meets PySem.F.slot_str_mod (typeIs_str s _ t) PySem.F.entry_str_mod (PySem.F.args_str_mod_2 _ _) (A5x (Nat.le_trans (Nat.le_of_lt h1) (by decide)) (Nat.le_trans (Nat.le_of_lt h2) (by decide)) h3 h4) ⟨⟨_,ho,rfl,n,rfl⟩,fun t' k=>⟨(fun e=>nomatch e),fun h=>C2 .str h⟩⟩))
section
variable{e1:Expr}{a c:D}
noncomputable def B4Y:T→T→Option T:=o2 U7 F4 fun xs n=>if xs.length * n.toNat<1000∧n<1000 ∧ -1000<n then some (.lst (List.replicate n.toNat xs).flatten) else none
noncomputable def B4s(a b:D):D:=fun σ=>(d2 B4Y a b σ).bind fun p=>(vOf U7 p.1).bind fun xs=>some (.ref p.2.objs.length,⟨p.2.loc,p.2.objs++[.lst xs]⟩)
theorem A7s{xs:List T}{vs:List Value}(r:RelTs C g xs vs)(n:Nat):RelTs C g (List.replicate n xs).flatten (List.replicate n vs).flatten:=by
 induction n with
 | zero=>exact RelTs.nil
 | succ n ih=>rw[List.replicate_succ,List.replicate_succ,List.flatten_cons,List.flatten_cons];exact r.append ih
theorem A8S{l:List (Array Value)}{z:Array Value}:(List.foldl (fun x1 x2=>x1++x2) z l).toList=z.toList++(l.map Array.toList).flatten:=by
 induction l generalizing z with
 | nil=>exact(List.append_nil _).symm
 | cons a l ih=>rw[List.foldl_cons,ih,Array.toList_append,List.append_assoc];rfl
theorem A9L(items:Array Value)(n:Nat):(List.foldl (fun x1 x2=>x1++x2) #[] (List.replicate (if items.isEmpty=true then 0 else n) items)).toList=(List.replicate n items.toList).flatten:=by
 rw[A8S]
 by_cases he:items.isEmpty=true
 ·cases Array.isEmpty_iff.mp he
  exact(List.flatten_replicate_nil).symm
 ·rw[if_neg he,List.map_replicate];rfl
theorem B3z(B:Base C)(ha:SE C k env ly e1 a)(hb:SE C k env ly e2 b):SE C k env ly (.BinOp e1 .Mult e2 pos) (B4s a b):=fun A hA g σ s v σ' R e=>by
 refine b2 e fun p σ1 e1 e => ?_
 refine b2 e1 fun p0 σ0 ea e1 => ?_
 refine b2 e1 fun q0 σ2 eb e1 => ?_
 refine b1 e1 fun x ex e1 => ?_
 refine b1 e1 fun y ey e1 => ?_
 refine b1 e1 fun z ez e1 => ?_
 refine b1 ez fun xs exs ez => ?_
 refine b1 ez fun n en ez => ?_
 refine iN ez fun h ez => ?_
 cases ez
 cases e1
 cases e
 refine wpAny_BinOp (ha.use hA R ea fun g1 u s1 l1 R1 V1=>hb.use hA R1 eb fun g2 w s2 l2 R2 V2 => ?_)
 obtain⟨ad,items,m,rfl,ho,r⟩:=(R2.view B (B6 l2 _ _ V1) ex).of (G1 exs)
 obtain⟨t,rfl⟩:=(R2.view B V2 ey).of (D9 en)
 have hl:=r.length
 rw[Array.length_toList] at hl
 obtain⟨h1,h2,h3⟩:=h
 have h4 : -(2 ^ 63:Int)≤n:=Int.le_trans (by decide) (Int.le_of_lt h3)
 have h5:n<2 ^ 63:=Int.lt_trans h2 (by decide)
 have hf:¬(!Builtin.List.listFitsIndex n)=true:=by
  unfold Builtin.List.listFitsIndex
  rw[decide_eq_true h4,decide_eq_true h5]
  exact Bool.false_ne_true
 have hs:items.size * n.toNat≤sizeLine:=hl.symm▸D3 h1
 refine wpAny_binaryOp_repeat_ref (T := "list") (U := "int") (by decide) ⟨_,ho,rfl⟩ (fun s'=>typeIs_int s' n t) noFill_list_mul PySem.F.fills_int_mul PySem.F.slot_int_rmul repeat_list PySem.F.slot_int_index.lookup
  (call_meets PySem.F.slot_int_rmul (typeIs_int s2 n t) PySem.F.entry_int_rmul (PySem.F.args_int_rmul_2 _ _) (int___rmul___int_list n t ad items m) ⟨ho,rfl,⟨_,ho,rfl⟩,?_⟩)
 refine call_meets PySem.F.slot_list_mul ⟨_,ho,rfl⟩ PySem.F.entry_list_mul (PySem.F.args_list_mul_2 _ _)
  (AutoListH.list___mul___list_int_3 ad items m n t hf (by first | exact hs | (rw[hl];have:=hl▸hs;lia)) (by first | exact Nat.not_lt.mpr hs | (unfold Builtin.List.listTooLong;rw[decide_eq_false (Nat.not_lt.mpr hs)];exact Bool.false_ne_true))) ⟨ho,?_⟩
 have hr:=R2.push (o:=.lst (List.replicate n.toNat xs).flatten) (ob:={ cls:=.type "list", data:=.seq (List.foldl (fun x1 x2=>x1++x2) #[] (List.replicate (if items.isEmpty=true then 0 else n.toNat) items)) }) (tk:=s2.toks) rfl ⟨_,_,rfl,by rw[A9L];exact A7s r _⟩
 exact⟨_,(l1.trans l2).trans (G.add_le (R2.none_above (Nat.le_refl _))),hr,u6 R2⟩
end
end
section
open PySem.Builtin PySem.Builtin.Str
noncomputable def codeN:Array Nat := #[14,10,4,1,1,22,0,31,16,127,0,13,7,22,0,31,16,127,0,1]
noncomputable def codeV:Array Nat := #[14,14,4,1,1,9,4294966783,0,0,2147483648,0,0,0,0,0,13,11,9,4294966783,0,0,2147483648,0,0,0,0,0,1]
noncomputable def M4(c:Nat):Bool:=32≤c&&c<127
theorem B1t{c:Nat}(h:M4 c=true):¬ (decide (0≤c)&&decide (c≤31))=true:=fun x=>Nat.not_succ_le_self _ (Nat.le_trans (of_decide_eq_true (Bool.and_eq_true_iff.mp h).1) (of_decide_eq_true (Bool.and_eq_true_iff.mp x).2))
theorem A9Q{c:Nat}(h:M4 c=true):¬ (c==127)=true:=fun x=>Nat.ne_of_lt (of_decide_eq_true (Bool.and_eq_true_iff.mp h).2) (eq_of_beq x)
theorem B4T{c:Nat}(h:M4 c=true)(seen:Sre.Seen):∃ seen',Sre.inSet codeN c codeN.size 5 true seen=.ok (false,seen'):=
 ⟨_,Eq.trans (b:=if (decide (0≤c)&&decide (c≤31))=true then .ok (true,seen.add 22) else if (c==127)=true then .ok (true,(seen.add 22).add 16) else .ok (false,((seen.add 22).add 16).add 0)) rfl ((if_neg (B1t h)).trans (if_neg (A9Q h)))⟩
theorem B22:∀ c,c<127→M4 c=true→(codeV.getD (5+(1+c / 32)) 0).testBit (c % 32)=false:=by decide +kernel
theorem B4S{c:Nat}(h:M4 c=true)(seen:Sre.Seen):∃ seen',Sre.inSet codeV c codeV.size 5 true seen=.ok (false,seen'):=
 ⟨_,Eq.trans (b:=if (decide (c<256)&&(codeV.getD (5+(1+c / 32)) 0).testBit (c % 32))=true then .ok (true,seen.add 9) else .ok (false,(seen.add 9).add 0)) rfl (if_neg fun x=>Bool.noConfusion ((B22 c (of_decide_eq_true (Bool.and_eq_true_iff.mp h).2) h).symm.trans (Bool.and_eq_true_iff.mp x).2))⟩
noncomputable def k5(code:Array Nat):Prop:=∀ c,M4 c=true→∀ seen,∃ seen',Sre.inSet code c code.size 5 true seen=.ok (false,seen')
theorem B49{m:Sre.M}{fuel s:Nat}{seen s':Sre.Seen}{r}(h:¬ s ≥ m.lim)(e:Sre.inSet m.code (m.text.getD s 0) m.code.size 5 true seen=.ok (false,s'))(er:Sre.M.admitted m fuel (s+1) s'=r):Sre.M.admitted m (fuel+1) s seen=r:=(if_neg h).trans ((congrArg (fun o=>Sre.M.admitted.match_1 (fun _=>Except String (Option Nat×Sre.Seen)) o (fun q=>.ok (some s,q)) (fun q=>Sre.M.admitted m fuel (s+1) q) (fun w=>.error w)) e).trans er)
theorem A2Z{m:Sre.M}(hc:k5 m.code)(ht:∀ s,s<m.lim→M4 (m.text.getD s 0)=true)(fuel:Nat):∀ (s:Nat) (seen:Sre.Seen),∃ seen',Sre.M.admitted m fuel s seen=.ok (none,seen'):=by
 induction fuel with
 | zero=>exact fun s seen=>⟨seen,rfl⟩
 | succ fuel ih=>
  intro s seen
  by_cases hs:s ≥ m.lim
  ·exact⟨seen,if_pos hs⟩
  ·obtain⟨q,e⟩:=hc _ (ht s (Nat.lt_of_not_le hs)) seen
   obtain⟨q',e'⟩:=ih (s+1) q
   exact⟨q',B49 hs e e'⟩
structure B1I(m:Sre.M):Prop where
 ans:m.answer=some false
 frames:m.frames=[]
 out:m.outcome=none
noncomputable def B0V(code text:Array Nat)(lim:Nat):Sre.M:={ code,text,lim,start:=0,pc:=(Sre.header code).2,pos:=0,handed:=0,marks:=Array.replicate (2 * 0) none,mustAdvance:=false,seen:=if (Sre.header code).2==0 then {} else ({}:Sre.Seen).add 14 }
theorem A3q{code text:Array Nat}{lim:Nat}:Sre.forSearch code text 0 0 lim false=(if 0>lim||lim - 0<(Sre.header code).1 then (B0V code text lim).say false
 else Sre.M.attemptFrom { B0V code text lim with lastStart:=if (Sre.header code).1>1 && !((Sre.header code).2 != 0&&code.getD 2 0 &&& 5 != 0) then max 0 (lim - ((Sre.header code).1 - 1)) else lim } 0 true):=rfl
theorem A76{m:Sre.M}(hc:k5 m.code)(h0:Sre.ops[m.code.getD 0 0]?=some .INFO)(h2:m.code.getD 2 0=4)(ht:∀ s,s<m.lim→M4 (m.text.getD s 0)=true)(hf:m.frames=[])(ho:m.outcome=none):B1I (m.attemptFrom 0 true):=by
 have h:m.hasFirstSet=true:=by unfold Sre.M.hasFirstSet;rw[h0,h2];rfl
 obtain⟨seen',e⟩:=A2Z (m:=m) hc ht (m.lim+1 - 0) 0 m.seen
 unfold Sre.M.attemptFrom
 rw[h,e]
 exact⟨rfl,hf,ho⟩
theorem A4G{code text:Array Nat}{lim:Nat}(hc:k5 code)(h0:Sre.ops[code.getD 0 0]?=some .INFO)(h2:code.getD 2 0=4)(ht:∀ s,s<lim→M4 (text.getD s 0)=true):B1I (Sre.forSearch code text 0 0 lim false):=by
 rw[A3q]
 split
 ·exact⟨rfl,rfl,rfl⟩
 ·exact A76 hc h0 h2 ht rfl rfl
theorem A9J{m:Sre.M}(h:B1I m):(m.runFor 4).outcome=some .failed:=by
 obtain⟨h1,h2,h3⟩:=h
 cases m
 cases h1
 cases h2
 cases h3
 rfl
theorem A0u{s:Shared}{f:Nat→PUnit→Sem (ForInStep PUnit)}(hf:∀ i (Q:ForInStep PUnit→Shared→Prop),Q (.yield ⟨⟩) s→wpAny (Md C) A (f i ⟨⟩) Q E s):∀ {l:List Nat} {Q:PUnit→Shared→Prop},Q ⟨⟩ s→wpAny (Md C) A (forIn l ⟨⟩ f) Q E s
 | [],Q,hq=>by rw[List.forIn_nil];exact wpAny_pure hq
 | i::l,Q,hq=>by rw[List.forIn_cons];exact wpAny_bind (hf i _ (A0u hf hq))
theorem A5f{s:Shared}{m:Sre.M}{Q:Option Sre.M→Shared→Prop}(h:B1I m)(hq:Q none s):wpAny (Md C) A (Builtin.Re.reRunToEnd m) Q E s:=by
 have ho:=A9J h
 unfold Builtin.Re.reRunToEnd
 have e:Builtin.Re.reDrive (2 ^ 64) m=pure (m.runFor 4):=by
  show (if ((m.runFor 4).outcome.isSome=true) then _ else _)=_
  rw[ho];rfl
 rw[e]
 refine wpAny_bind (wpAny_pure ?_)
 generalize m.runFor 4=m' at ho
 refine wpAny_bind (A0u (fun i Q hq => ?_) ?_)
 ·split
  ·exact wpAny_bind (wpAny_rule (wpAny_pure hq))
  ·first | exact wpAny_pure hq | exact wpAny_bind (wpAny_pure (wpAny_pure hq))
 ·rw[ho]
  exact wpAny_pure hq
end
section
open PySem.Builtin PySem.Builtin.Str
theorem A1g:PlainAttrs "re.Pattern" :=
 ⟨⟨"object.__getattribute__", by rw[typeLookup_type,builtinLookup_eq_fast];kernel_rfl,by decide +kernel⟩,by rw[typeLookup_type,builtinLookup_eq_fast];kernel_rfl⟩
theorem A7z:Manifest.owners.lookup (String.ofList ['n','r','e','t','t','a','P','.','e','r'].reverse)=some Manifest.sig_re_Pattern:=by kernel_rfl
theorem Z8:Slot "re.Pattern" "search" "re.Pattern.search" :=
 .of (owner := "re.Pattern") (n := "search") (by rw[typeLookup_type,builtinLookup_eq_fast];kernel_rfl) (by decide +kernel) (by decide +kernel) (by decide +kernel)
  (by first | exact .inl (by decide +kernel) | exact .inr (by decide +kernel)) (by rw[isSubtype_type];kernel_rfl)
theorem A01:typeOf (.builtin "re.Pattern.search")=pure (.type "method_descriptor"):=by show builtinType _=_;rw[builtinType_eq_fast];kernel_rfl
theorem A0T:entryFor table "re.Pattern.search" = some Builtin.«re.Pattern.search»:=entryFor_of_tree (by kernel_rfl)
theorem A0A(a b:Value):argsOk "re.Pattern.search" ⟨[a,b],[]⟩:=by
 unfold argsOk;rw[signature?_of (id := "re.Pattern.search") (n:=['h','c','r','a','e','s']) (o:=['n','r','e','t','t','a','P','.','e','r']) (by kernel_rfl) A7z];kernel_rfl
structure PatAt(h:Heap)(p:Addr)(code:Array Nat):Prop where
 obj:∃ (pat fl:Value) (ct:Addr) (items:Array Value) (n:Nat),h.get? p=some { cls:=.type "re.Pattern", data:=.fields #[pat,fl,.int 0 0,.none,.none,.ref ct,.int 0 0] }∧h.get? ct=some (seqObj "tuple" items n)∧(items.map Builtin.Re.reRawOf).map (·.toNat)=code
 nop:k5 code
 info:Sre.ops[code.getD 0 0]?=some .INFO
 flag:code.getD 2 0=4
theorem A5A{s:Shared}{p:Addr}{code:Array Nat}{x:Str}(P:PatAt s.heap p code)(hx:x.cps.all M4=true)(hn:x.length<1000)(hq:Q .none s):
  wpAny (Md C) A (call (.builtin "re.Pattern.search") [.ref p,.str x t]) Q E s:=by
 refine A8o (P.obj) fun pat fl ct items n hp hc hcode => ?_
 refine wpAny_call_entry Z8 ⟨_,hp,rfl⟩ A0T ?_ (A0A _ _)
 unfold Builtin.«re.Pattern.search»
 have ht:∀ i,i<x.cps.size→M4 (x.cps.getD i 0)=true:=fun i hi=>by
  rw[Array.all_eq_true] at hx
  have:=hx i hi
  simpa [Array.getD,hi] using this
 refine wpAny_bind ?_
 unfold Builtin.Re.reTarget
 dsimp only
 refine wpAny_bind (wpAny_of_eq (a:=[some (Value.str x t),none,none]) ?_ ?_)
 ·kernel_rfl
 refine wpAny_bind (wpAny_pure ?_)
 refine wpAny_bind (wpAny_pure ?_)
 refine wpAny_bind (wpAny_fieldsOf hp rfl ?_)
 refine wpAny_bind (wpAny_of_eq (a:=(x.cps,0)) (by kernel_rfl) ?_)
 dsimp only
 have hw:Builtin.Re.reRawNat ((#[pat,fl,.int 0 0,.none,.none,.ref ct,.int 0 0]:Array Value).getD 6 .none)=0:=rfl
 rw[hw]
 refine wpAny_bind (wpAny_of_eq (a:=()) (by kernel_rfl) ?_)
 show wpAny _ _ (Builtin.Re.reRawItems (.ref ct) >>= _) _ _ s
 refine wpAny_bind ?_
 unfold Builtin.Re.reRawItems seqItems?
 refine wpAny_bind (wpAny_bind (wpAny_load hc ?_))
 refine wpAny_pure (wpAny_pure ?_)
 have hl:Min.min (2 ^ 63 - 1:Int).toNat x.cps.size=x.cps.size:=Nat.min_eq_right (by have:x.cps.size<1000:=hn;lia)
 rw[hl]
 have hL:B1I (Sre.forSearch code x.cps 0 0 x.cps.size false):=A4G P.nop P.info P.flag ht
 have hg:Builtin.Re.reRawNat ((#[pat,fl,.int 0 0,.none,.none,.ref ct,.int 0 0]:Array Value).getD 2 .none)=0:=rfl
 have hz:Min.min (Int.toNat 0) x.cps.size=0:=Nat.zero_min _
 have hi:(some items).getD (#[]:Array Value)=items:=rfl
 rw[hg,hz,hi,hcode]
 refine wpAny_pure ?_
 unfold Builtin.Re.reAnswer
 dsimp only
 refine wpAny_bind (A5f hL ?_)
 exact wpAny_pure ⟨_,rfl,hq⟩
end
section
open PySem.Builtin PySem.Builtin.Str
section
variable{e1:Expr}{a c:D}
noncomputable def vAt(v:Value):Option Addr:=Value.casesOn (motive:=fun _=>Option Addr) v none none none (fun _=>none) (fun _ _=>none) (fun _ _=>none) (fun _ _=>none) (fun _ _=>none) (fun _=>none) (fun _=>none) some
theorem B3h{v:Value}{a:Addr}(e:vAt v=some a):v=.ref a:=by
 cases v
 case ref=>exact congrArg Value.ref (Option.some.inj e)
 all_goals exact nn e
noncomputable def A7U(ps:List Addr)(v:V):Option Addr:=(vOf B3r v).bind fun c=>(vAt c).bind fun p=>if p∈ps then some p else none
theorem A5G{ps:List Addr}{v:V}{pa:Addr}(h:A7U ps v=some pa):v=.t (.cst (.ref pa))∧pa∈ps:=by
 refine b1 h fun c ec h=>b1 h fun p ep h=>iN h fun hm h => ?_
 cases h
 cases B3h ep
 exact⟨U1 A6W ec,hm⟩
noncomputable def A9f(ps:List Addr)(p q:V):D:=fun σ=>(A7U ps p).bind fun _=>(A5F q).bind fun x=>if x.cps.all M4=true∧x.length<1000 then some (.t .none,σ) else none
noncomputable def A1J(ps:List Addr):D→D→D:=B2t (fun _ v=>(A7U ps v).isSome) (A9f ps)
theorem A3d:X5 "re.Pattern" (Str.ofString "search") "re.Pattern.search" := ⟨A1g,Z8,A01⟩
theorem PatAt.keeps{p:Addr}{code:Array Nat}(P:PatAt h p code)(hk:∀ a o,h.get? a=some o→h'.get? a=some o):PatAt h' p code:=
 ⟨let ⟨pat,fl,ct,items,n,h1,h2,h3⟩:=P.obj;⟨pat,fl,ct,items,n,hk _ _ h1,hk _ _ h2,h3⟩,P.nop,P.info,P.flag⟩
theorem A7n{ps:List Addr}(hp:∀ p∈ps,∃ code,PatAt C.hb p code)(Fm:X6 env e1 (Str.ofString "search") apos pos)(ha:SE C k env ly e1 a)(hb:SE C k env ly e2 b)(hs:starEach [e2] env=[(false,eval e2 env)]):
  SE C k env ly (.Call (.Attribute e1 (Str.ofString "search") apos) [e2] [] pos) (A1J ps a b):=A9E Fm A3d (fun ly g σ s v u R V e=>H4 e fun pa ep=>by
  obtain⟨hpe,hm⟩:=A5G ep
  obtain⟨code,P⟩:=hp pa hm
  obtain rfl:u=.ref pa:=V.of hpe
  refine B1N ((P.keeps R.old).obj) fun pat fl ct items n h1 _ => ?_
  exact⟨⟨_,h1,rfl⟩,fun a h=>Value.ref.inj h▸⟨_,h1,rfl⟩⟩) ha hb hs fun A hA g σ s p q u v w σ' R V1 V2 e=>by
 refine b1 e fun pa ep e => ?_
 refine b1 e fun x ex e => ?_
 refine iN e fun hx e => ?_
 refine s2 e ?_
 obtain⟨hpe,hm⟩:=A5G ep
 obtain⟨code,P⟩:=hp pa hm
 obtain rfl:u=.ref pa:=V1.of hpe
 obtain⟨t,rfl⟩:=A2I V2 ex
 exact A5A (P.keeps R.old) hx.1 hx.2 ⟨g,.refl g,R,rfl⟩
noncomputable def A64(f:Fl):Option V:=Fl.casesOn (motive:=fun _=>Option V) f none none none some
theorem A4m{f:Fl}{v:V}(e:A64 f=some v):f=.ret v:=by
 cases f
 case ret=>exact congrArg Fl.ret (Option.some.inj e)
 all_goals exact nn e
theorem B35{h₀:ExceptHandler}{hs:List ExceptHandler}{d:DS}(hd:SS C k env ly body d):S1 C k env ly (.Try body (h₀::hs) orelse [] pos) (fun σ=>(d σ).bind fun p=>(A64 p.1).bind fun v=>some (.ret v,p.2)):=fun A hA g σ s f σ' R e=>by
 refine b2 e fun fl σ1 e1 e => ?_
 refine b1 e fun v ev e => ?_
 refine s2 e ?_
 obtain rfl:fl=.ret v:=A4m ev
 refine wpAny_Try_except (hd.use hA R e1 fun g1 x s1 l1 R1 V1 => ?_)
 refine I7 (V1) fun y hR1 V => ?_
 subst hR1
 exact⟨g1,l1,R1,y,rfl,V⟩
end
end
section
open PySem.Builtin PySem.Builtin.Str
theorem A0r:typeLookup (.type "str") "__getitem__" = pure (some (.builtin "str.__getitem__")):=by rw[typeLookup_type,builtinLookup_eq_fast];kernel_rfl
theorem A0i:typeOf (.builtin "str.__getitem__")=pure (.type "wrapper_descriptor"):=by show builtinType _=_;rw[builtinType_eq_fast];kernel_rfl
theorem A8A:typeLookup (.type "wrapper_descriptor") "__get__" = pure (some (.builtin "wrapper_descriptor.__get__")):=by rw[typeLookup_type,builtinLookup_eq_fast];kernel_rfl
theorem A79:typeLookup (.type "wrapper_descriptor") "__set__" = pure none:=by rw[typeLookup_type,builtinLookup_eq_fast];kernel_rfl
theorem A8B:typeLookup (.type "wrapper_descriptor") "__delete__" = pure none:=by rw[typeLookup_type,builtinLookup_eq_fast];kernel_rfl
theorem slot_wd_get:Slot "wrapper_descriptor" "__get__" "wrapper_descriptor.__get__" :=
 .of (owner := "wrapper_descriptor") (n := "__get__") (by rw[typeLookup_type,builtinLookup_eq_fast];kernel_rfl) (by decide +kernel) (by decide +kernel) (by decide +kernel)
  (by first | exact .inl (by decide +kernel) | exact .inr (by decide +kernel)) (by rw[isSubtype_type];kernel_rfl)
theorem A3t:entryFor table "wrapper_descriptor.__get__" = some Builtin.«wrapper_descriptor.__get__»:=entryFor_of_tree (by kernel_rfl)
theorem A5I(a b c:Value):argsOk "wrapper_descriptor.__get__" ⟨[a,b,c],[]⟩:=by unfold argsOk;kernel_rfl
theorem A1j:(".".intercalate ("str.__getitem__".cutAt '.').dropLast) = "str" := by
 have e0 : "str.__getitem__".cutAt '.'=["str", "__getitem__"]:=by first | rfl | decide +kernel
 rw[e0];decide +kernel
theorem m6:isSubtype (.type "str") (.type (".".intercalate ("str.__getitem__".cutAt '.').dropLast))=pure true:=by
 rw[A1j,isSubtype_type];kernel_rfl
set_option maxHeartbeats 1000000
theorem B0E{A:Around}{s:Shared}{x:Str}{u:Tok}{R:Result→Shared→Prop}(hq:R (.ok (.ret (.ref s.heap.objs.size))) { s with heap:=s.heap.push { cls:=.type "method-wrapper", data:=.fields #[.builtin "str.__getitem__", .str x u] } }):
  codeAny (Md C) A (.call (.builtin "wrapper_descriptor.__get__") ⟨[.builtin "str.__getitem__", .str x u,.type "str"],[]⟩) R s:=by
 obtain⟨h,g,d,t,os⟩:=s
 have hT:(⟨h,g,d,t,os⟩:Shared).TypeIs (.str x u) "str" := rfl
 have hT5:(⟨h,g,d,t,os⟩:Shared).TypeIs (.builtin "str.__getitem__") "wrapper_descriptor" := A0i
 have f8:=m6
 refine codeAny_call_builtin slot_wd_get.plain A3t (slot_wd_get.check _ _ _ _ _ _ _ _ hT5 (A5I _ _ _) ?_)
 repeat (any_goals (first | assumption | wp_step))
theorem A5t{A:Around}{s:Shared}{x:Str}{u tk:Tok}{Q:PySem.Fin→Shared→Prop}{E:Value→Shared→Prop}(hq:Q (.done (.ret (.ref s.heap.objs.size))) { s with heap:=s.heap.push { cls:=.type "method-wrapper", data:=.fields #[.builtin "str.__getitem__", .str x u] } }):
  wpAny (Md C) A (Builtin.«object.__getattribute__» ⟨[.str x u,.str "__getitem__" tk],[]⟩) Q E s:=by
 obtain⟨h,g,d,t,os⟩:=s
 have hT:(⟨h,g,d,t,os⟩:Shared).TypeIs (.str x u) "str" := rfl
 have f4:=A0r
 have f5:=A0i
 have f6:=A8A
 have f7:=A79
 have f8:=A8B
 repeat (any_goals (first | assumption | wp_step))
 exact B0E (wpAny_pure hq)
theorem A8J{A:Around}{s:Shared}{x:Str}{u tk:Tok}{R:Result→Shared→Prop}(hq:R (.ok (.ret (.ref s.heap.objs.size))) { s with heap:=s.heap.push { cls:=.type "method-wrapper", data:=.fields #[.builtin "str.__getitem__", .str x u] } }):
  codeAny (Md C) A (.call (.builtin "object.__getattribute__") ⟨[.str x u,.str "__getitem__" tk],[]⟩) R s:=
 codeAny_call_builtin PySem.F.slot_str_getattribute.plain PySem.F.entry_object_getattribute (PySem.F.slot_str_getattribute.check _ _ _ _ _ _ _ _ (show s.TypeIs (.str x u) "str" from rfl) (PySem.F.args_object_getattribute_2 _ _) (A5t hq))
theorem B2P{A:Around}{s:Shared}{E:Value→Shared→Prop}{x:Str}{u tk:Tok}(hq:Q (.ref s.heap.objs.size) { s with heap:=s.heap.push { cls:=.type "method-wrapper", data:=.fields #[.builtin "str.__getitem__", .str x u] } }):wpAny (Md C) A (getAttrBy (.str x u) (.str "__getitem__" tk) false) Q E s:=by
 obtain⟨h,g,d,t,os⟩:=s
 have hT:(⟨h,g,d,t,os⟩:Shared).TypeIs (.str x u) "str" := rfl
 have f2:=PySem.F.slot_str_getattribute.lookup
 have f3:=PySem.F.slot_str_getattribute.bind (.str x u)
 repeat (any_goals (first | assumption | wp_step))
 refine A8J ?_
 repeat (any_goals (first | assumption | wp_step))
theorem A97:builtinKind "hasattr" = none:=by decide +kernel
theorem A7v:plainId "hasattr" = true:=by decide +kernel
theorem A8W:entryFor table "hasattr" = some Builtin.«hasattr»:=entryFor_of_tree (by kernel_rfl)
theorem B1F(a b:Value):argsOk "hasattr" ⟨[a,b],[]⟩:=by unfold argsOk;kernel_rfl
theorem B0D{A:Around}{s:Shared}{E:Value→Shared→Prop}{x:Str}{u tk:Tok}(hq:Q (.bool true) { s with heap:=s.heap.push { cls:=.type "method-wrapper", data:=.fields #[.builtin "str.__getitem__", .str x u] } }):wpAny (Md C) A (call (.builtin "hasattr") [.str x u,.str "__getitem__" tk]) Q E s:=by
 refine Calls.call_function_entry A97 A7v A8W (B1F _ _) ?_
 obtain⟨h,g,d,t,os⟩:=s
 have hT:(⟨h,g,d,t,os⟩:Shared).TypeIs (.str x u) "str" := rfl
 have f4:=A0r
 have f2:=PySem.F.slot_str_getattribute.lookup
 have f9:(withoutEnding? "str.__getitem__" "#data").isSome=false:=by decide +kernel
 unfold Builtin.«hasattr»
 repeat (any_goals (first | assumption | with_reducible apply B2P | wp_step))
 exact⟨_,rfl,hq⟩
noncomputable def fHas:T→T→Option T:=o2 G9 G9 fun _ y=>if y=Str.ofString "__getitem__" then some (.bool true) else none
theorem B5U:Pure2 C k (fun u v=>call (.builtin "hasattr") [u,v]) fHas:=.s fun A g s a b t t' z e=>iN e fun h e=>s1 e (h▸B0D ⟨g,Grow.push_ (t:=s.toks),rfl⟩)
noncomputable def fIsTup:T→T→Option T:=o2 A02 A4B fun _ b=>if b = "tuple" then some (.bool true) else none
theorem B1w:Pure2 C k (fun u v=>call (.builtin "isinstance") [u,v]) fIsTup:=.on K7 s8 fun A hA ly g σ s a b u v z R hu hv e=>iN e fun h e=>s1 e (by
 subst h
 obtain⟨a,items,n,rfl,ho,r⟩:=hu
 obtain rfl:v=_:=hv
 exact PySem.IsiPair.tuple_tuple ho rfl (C8 .bool))
end
section
open PySem.Builtin PySem.Builtin.Str
section
variable{e1:Expr}{a c:D}
noncomputable def B6J:V→Option (List Str×List T):=vOf tDs
theorem B26{v:V}{p:List Str×List T}(h:B6J v=some p):v=.t (.ds p.1 p.2):=U1 (c:=fun p:List Str×List T=>.ds p.1 p.2) Q0 h
noncomputable def U5(a:D):D:=fun σ=>(a σ).bind fun p=>(B6J p.1).bind fun q=>some (.t (.itv q.1 q.2),p.2)
theorem mname_items:X5 "dict" (Str.ofString "items") "dict.items" := ⟨PySem.F.plainAttrs_dict,PySem.F.slot_dict_items,PySem.F.type_dict_items⟩
theorem u3(B:Base C)(Fm:X6 env e1 (Str.ofString "items") apos pos)(ha:SE C k env ly e1 a):
  SE C k env ly (.Call (.Attribute e1 (Str.ofString "items") apos) [] [] pos) (U5 a):=fun A hA g σ s w σ' R e'=>by
 refine b2 e' fun p σ1 ea e' => ?_
 refine b1 e' fun q eq e' => ?_
 refine s2 e' ?_
 replace e':=B26 eq
 subst e'
 refine wpAny_Call_method0_late Fm.base Fm.line (ha.use hA R ea fun g1 u s1 l1 R1 V1 => ?_)
 obtain⟨h1,h2⟩:=A37 g1 s1 _ u (R1.relW B V1) rfl
 obtain⟨ad,o,kvs,rfl,z,d,hk,r⟩:=V1
 have hs:=Q8 B (R1.new _ _ z).1
 have hd:s1.heap.DictOf (PySem.strKind C.prog C.w) ad kvs:=Heap.dictOf_iff.mpr ⟨o,R1.frz _ _ z,d⟩
 refine⟨"dict", "dict.items", mname_items.plain,mname_items.slot,mname_items.ty,h1,h2,Calls.callWith_builtin (args:=[]) rfl (PyProof.Rows.evalArgs_none ?_)⟩
 refine call_meetsIn PySem.F.slot_dict_items hd.typeIs PySem.F.entry_dict_items (PySem.F.args_dict_items_1 _) (meets_dict_items (PySem.strKind C.prog C.w) ad hs) ⟨⟨kvs,hd⟩,?_⟩
 have w:=Grow.frz_ (t:=s1.toks) R1 (h':=s1.heap.push { cls:=.type "dict_items", data:=.fields #[.ref ad] }) (fun _ _ e=>Heap.get?_push_of_some _ e) B3 (Heap.get?_push_size _ rfl)
 exact⟨_,l1.trans w.le,R1.grow w,_,ad,o,kvs,rfl,if_pos rfl,w.le.frz _ _ z,d,hk,F5 w.le _ _ r⟩
end
end
section
open PySem.Builtin PySem.Builtin.Str
section
variable{e1:Expr}{a c:D}
noncomputable def B6f(o:AO):Option (List Int×List T):=AO.casesOn (motive:=fun _=>Option (List Int×List T)) o (fun _=>none) (fun _ _=>none) (fun ks xs=>some (ks,xs)) none
noncomputable def B0p(σ:St)(i:Nat):Option (List Int×List T):=(σ.objs[i]?).bind B6f
theorem A7H{i:Nat}{p:List Int×List T}(h:B0p σ i=some p):σ.objs[i]?=some (.di p.1 p.2):=by
 refine b1 h fun o q e => ?_
 cases o
 case di ks xs=>exact s1 (P:=fun p:List Int×List T=>σ.objs[i]?=some (.di p.1 p.2)) e q
 all_goals exact nn e
inductive B6i(C:Cx)(g:G)(s:Shared)(i:Nat)(d:List Int×List T)(u:Value):Prop
 | mk (a:Addr) (ob:Obj) (kvs:List (Int×Value)) (e:u=.ref a) (o1:g.own[i]?=some a) (o2:g.role a=some (.own i)) (h:s.heap.DictOf (PySem.intKind C.prog C.w) a kvs) (hk:kvs.map (·.1)=d.1) (r:RelTs C g d.2 (kvs.map (·.2)))
theorem B5W{s:Shared}{i:Nat}{u:Value}{d:List Int×List T}(R:Rel C ly g σ s)(V:RelV C g (.ref i) u)(h:B0p σ i=some d):B6i C g s i d u:=by
 obtain⟨a,ob,rfl,h1,h2,h3,kvs,dd,hk,r⟩:=A1k R V (A7H h) (by nofun)
 exact⟨a,ob,kvs,rfl,h1,h2,Heap.dictOf_iff.mpr ⟨ob,h3,dd⟩,hk,r⟩
noncomputable def objD(σ:St)(v:V):Bool:=(u7 v).elim false fun i=>(B0p σ i).isSome
theorem B6C:Chk C "dict" objD:=fun ly g σ s v u R V e=>by
 unfold objD at e
 cases q:u7 v with
 | none=>rw[q] at e;exact nb e
 | some i=>
  rw[q] at e
  refine H4 e fun d h => ?_
  obtain⟨a,ob,kvs,rfl,_,_,hd,_⟩:=B5W R (V.of (O0 q)) h
  refine⟨hd.typeIs,fun b e=>Value.ref.inj e ▸ ?_⟩
  refine e9 (hd) fun o es ep ho hc _ => ?_
  exact⟨o,ho,hc.2.1⟩
noncomputable def B4B(p q t:V):D:=fun σ=>(toT σ t).bind fun r=>(u7 p).bind fun i=>(A5H q).bind fun j=>(B0p r.2 i).bind fun d=>
 if d.1.length<1000 then (lk d.1 d.2 j).elim (some (.t r.1,⟨r.2.loc,r.2.objs.set i (.di (stK d.1 j) (stX d.1 d.2 j r.1))⟩)) fun z=>some (.t z,r.2) else none
noncomputable def A1I:D→D→D→D:=B2s objD B4B
theorem A0J:X5 "dict" (Str.ofString "setdefault") "dict.setdefault" := ⟨PySem.F.plainAttrs_dict,PySem.F.slot_dict_setdefault,PySem.F.type_dict_setdefault⟩
theorem A7m(B:Base C)(Fm:X6 env e1 (Str.ofString "setdefault") apos pos)(ha:SE C k env ly e1 a)(hb:SE C k env ly e2 b)(hc:SE C k env ly e3 c)(hs:starEach [e2,e3] env=[(false,eval e2 env),(false,eval e3 env)]):
  SE C k env ly (.Call (.Attribute e1 (Str.ofString "setdefault") apos) [e2,e3] [] pos) (A1I a b c):=A5b Fm A0J B6C ha hb hc hs fun A hA g σ s p q t u v y w σ' R V1 V2 V3 e=>by
 refine b2 e fun x σ1 et e => ?_
 refine b1 e fun i ei e => ?_
 refine b1 e fun j ej e => ?_
 refine b1 e fun d ed e => ?_
 refine iN e fun hlen e => ?_
 refine ToT.elim (R.toT V3 et) fun g3 l3 R3 T3 => ?_
 obtain⟨tt,rfl⟩:=A2J V2 ej
 obtain⟨ad,ob,kvs,rfl,o1,o2,hd,hk,r⟩:=B5W R3 (B6 l3 _ _ (V1.of (O0 ei))) ed
 rw[← hk] at hlen e
 rw[List.length_map] at hlen
 refine call_meetsIn PySem.F.slot_dict_setdefault hd.typeIs PySem.F.entry_dict_setdefault (PySem.F.args_dict_setdefault_3 _ _ _) (kt_meets_setdefault (PySem.intKind C.prog C.w) ad (intKind_is _ _ j tt) (Q8 B (R3.new _ _ o2).1) y) ⟨kvs,hd,D3 hlen,fun v hv => ?_,fun hn h' hm' hs' => ?_⟩
 ·cases q2:lk (kvs.map (·.1)) d.2 j with
  | none=>exact nn ((A3i kvs _ r q2).symm.trans hv)
  | some z=>
   rw[q2] at e
   refine I7 (n5 kvs _ r q2) fun v' hv' rv => ?_
   cases hv.symm.trans hv'
   exact s2 e ⟨g3,l3,R3.grow .toks_,rv⟩
 ·cases q2:lk (kvs.map (·.1)) d.2 j with
  | some z=>obtain⟨v',hv',rv⟩:=n5 kvs _ r q2;exact nn (hn.symm.trans hv')
  | none=>
   rw[q2,hk] at e
   refine I7 (Heap.dictOf_iff.mp hm') fun ob' p1 p2 => ?_
   exact s2 e ⟨g3,l3,R3.upd (A7H ed) o1 o2 hs' p1 ⟨_,p2,hk▸i0 _ _ _,hk▸m7 r T3⟩,T3⟩
end
end
section
open PySem.Builtin PySem.Builtin.Str
section
variable{e1:Expr}{a c:D}
noncomputable def B4t(a:D):D:=fun σ=>(a σ).bind fun p=>(view p.2 p.1).bind fun x=>(U7 x).bind fun xs=>if xs.length<1000 then some (.ref p.2.objs.length,⟨p.2.loc,p.2.objs++[.lst (m0 xs none none none)]⟩) else none
theorem B34{p:Pos}(B:Base C)(ha:SE C k env ly e1 a)(hs:∀ o j,subscripted (.Slice none none none p) false o j=operate [o,j] (getItem o j)∨subscripted (.Slice none none none p) false o j=operate [j,o] (getItem o j)):SE C k env ly (.Subscript e1 (.Slice none none none p) pos) (B4t a):=fun A hA g σ s v σ' R e=>by
 refine b2 e fun p1 σ1 ea e => ?_
 refine b1 e fun x ex e => ?_
 refine b1 e fun xs exs e => ?_
 refine iN e fun hlen e => ?_
 refine s2 e ?_
 refine A1N hs (ha.use hA R ea fun g1 o s1 l1 R1 V1=>wpAny_Slice (wpAny_pure (wpAny_pure (wpAny_pure ?_))))
 have R5:=R1.grow (Grow.push_ (g:=g1) (s:=s1) (o:={ cls:=.type "slice", data:=.fields #[.none,.none,.none] }) (t:=s1.toks))
 have W1:=(R5.view B V1 ex).of (G1 exs)
 refine⟨A3o W1 rfl,?_⟩
 obtain⟨ad,items,n,rfl,ho,r⟩:=W1
 have hl:=r.length
 rw[Array.length_toList] at hl
 refine wpAny_getItem_list_slice (lo:=none) (hi:=none) (st:=none) ⟨_,ho,rfl,n,rfl⟩ (Heap.IsSliceOf.new ..) .none .none .none (by nofun) ?_ (hl.symm▸D3 hlen)
 have R6:=R5.push (tk:=s1.toks) (o:=.lst (m0 xs none none none)) (ob:=seqObj "list" (slicePick items none none none) 0) rfl ⟨_,_,rfl,by
  unfold slicePick m0
  rw[hl,List.toList_toArray]
  exact A1b r _⟩
 exact⟨_,l1.trans (G.add_le (R5.none_above (Nat.le_refl _))),R6,u6 R5⟩
end
end
section
noncomputable def A6N(C:Cx)(k:Nat)(f:Value)(spec:List V→List (Str×V)→List AO→Option (List T×List AO)):Prop:=
 ∀ A,Room k A→∀ ly g σ s us vs kw kws xs objs',Rel C ly g σ s→RelVs C g us vs→A0y C g kw kws→spec us kw σ.objs=some (xs,objs')→wpAny (Md C) A (call f vs kws) (Ev C ly g ⟨σ.loc,objs'++[.lst xs]⟩ (.ref objs'.length)) X4 s
noncomputable def B3J(n:Nat)(f:Fl)(σ:St):Option (List T×List AO):=(A64 f).bind fun v=>(u7 v).bind fun i=>if i=n then (Q9 σ n).bind fun xs=>some (xs,σ.objs.take n) else none
theorem A9i{n:Nat}{f:Fl}{xs:List T}(h:B3J n f σ=some (xs,objs)):f=.ret (.ref n)∧Q9 σ n=some xs∧objs=σ.objs.take n:=by
 refine b1 h fun v ev h=>b1 h fun i ei h=>iN h fun hi h=>b1 h fun ys ey h => ?_
 subst hi
 cases h
 exact⟨(A4m ev).trans (congrArg Fl.ret (O0 ei)),ey,rfl⟩
noncomputable def A31(mk:List V→List (Str×V)→Option (List (Option V)))(d:DS):List V→List (Str×V)→List AO→Option (List T×List AO):=fun us kw objs=>
 (mk us kw).bind fun loc=>(d ⟨loc,objs⟩).bind fun r=>B3J objs.length r.1 r.2
section
variable{K:Frag}{a:Addr}{sl:Array (Option Value)}{mk:List V→List (Str×V)→Option (List (Option V))}{d:DS}
theorem B2Y(B:Base C)(X:K.In C.hb)(hK:List.lookup a K=some ⟨cls,dc,.func fd,sl⟩)(hb:fd.body=.stmts body)(hc:codeIn K fd.code fd.qualname=true){xs:List Str}(hx:xs.Nodup)(hcell:(fd.scope.names.all fun x=>x.2 != .cell)=true)(hmk:∀ us kw loc,mk us kw=some loc→∀ (g:G) (vs:List Value) (kws:List (Str×Value)) (s:Shared),K.In s.heap→RelVs C g us vs→A0y C g kw kws→∃ binds:List (Str×Value),BindsTo s fd ⟨vs,kws⟩ binds∧(binds.all fun x=>fd.scope.names.lookup x.1==some .local)=true∧A0e C g (fun x=>binds.reverse.lookup x) xs loc)(hd:∀ L,SS C k (callEnv fd L a) (xs.map fun x=>.fr L x) body d)(h1:fd.scope.isCoroutine=false)(h2:fd.scope.isGenerator=false)(h3:fd.scope.kind=.function):A6N C (k+1) (.ref a) (A31 mk d):=fun A hA ly g σ s us vs kw kws zs objs' R hv hkw e=>by
 refine b1 e fun loc e1 e => ?_
 refine b2 e fun f σ2 e2 e => ?_
 have X1:=X.keeps R.old
 refine q8 (hmk us kw loc e1 g vs kws s X1 hv hkw) fun binds hB hall hS => ?_
 refine wpAny_call (codeAny_call_def hA.rl (X1 _ _ hK) rfl (B.nolimit.keeps R.old) (codeRec_of X1 hc) hb hB (fun x hx => ?_) (fun x hx => ?_) (fun h₀ hns hk => ?_) h1 h2 h3)
 ·exact bne_iff_ne.mp (List.all_eq_true.mp hcell x hx)
 ·exact eq_of_beq (List.all_eq_true.mp hall x hx)
 obtain⟨R1,hf,hkept,hnew,hkk⟩:=R.enter (ly':=xs.map fun x=>.fr s.heap.objs.size x) (loc':=loc) (h':=h₀) (tk:=s.toks+binds.length) hk (by rw[Y1 hS,List.length_map]) (P7 hx) (fun i l w hl hw=>by
  rw[List.getElem?_map] at hl
  cases q:xs[i]? with
  | none=>rw[q] at hl;cases hl
  | some x=>
   rw[q] at hl;cases hl
   exact⟨B3,_,hns,Y2 hS q hw⟩)
 refine wpAny_mono (hd _ _ hA.deeper _ _ _ _ _ R1 e2) (fun fl s2 ⟨g2,l2,R2,V2⟩ => ?_) fun _ _ x=>x.elim
 refine xAA (A9i e) fun hR0 ey hR2 => ?_
 subst hR0
 subst hR2
 obtain⟨y,rfl,ad,h4,rfl⟩:=V2
 have ho:σ2.objs[σ.objs.length]?=some (.lst zs):=W6 ey
 refine xAA (R.exit (m:=σ.objs.length+1) (Nat.le_succ _) R2 l2 hkept hnew hf hkk) fun l fz R3 => ?_
 have hlen:(σ2.objs.take σ.objs.length).length=σ.objs.length:=by
  rw[List.length_take]
  exact Nat.min_eq_left (Nat.le_of_lt (List.getElem?_eq_some_iff.mp ho).1)
 rw[List.take_add_one,ho] at R3
 refine⟨_,l,R3,ad,?_,rfl⟩
 show (g2.own.take (σ.objs.length+1))[(σ2.objs.take σ.objs.length).length]?=some ad
 rw[hlen,List.getElem?_take_of_lt (Nat.lt_succ_self _)]
 exact h4
end
end
section
variable{K:Frag}
section
variable{e1:Expr}{a:D}
noncomputable def P0(c:Addr)(n:Str)(spec:List V→List (Str×V)→List AO→Option (List T×List AO))(o:D):D:=fun σ=>(o σ).bind fun p=>if A0s c n p.1 then (spec [p.1] [] p.2.objs).bind fun z=>some (.ref z.2.length,⟨p.2.loc,z.2++[.lst z.1]⟩) else none
theorem A1V(B:Base C)(X:K.In C.hb){x m n:Str}{c f:Addr}{spec:List V→List (Str×V)→List AO→Option (List T×List AO)}(M:j4 K c n m f)(ho:SE C k env ly (.Name x np) a)(h:A6N C k (.ref f) spec)(hm:A6M env x np m apos pos [] []):
  SE C k env ly (.Call (.Attribute (.Name x np) m apos) [] [] pos) (P0 c n spec a):=fun A hA g σ s v σ' R e=>by
 refine b2 e fun w σ1 e1 e => ?_
 simp only at e
 split at e
 ·rename_i hobj
  refine b2 e fun z objs e4 e => ?_
  (first | refine s2 e ?_ | refine s1 e ?_ | cases e)
  obtain⟨pl,hm⟩:=hm
  refine MethodCall_ (pl:=pl) (he:=hm) (ho.use hA R e1 fun g1 u s1 l1 R1 V1 => ?_)
  refine P9 (i7 R1 V1 hobj) fun i ox t y kk w' hR6 hR7 Vw I => ?_
  subst hR6
  subst hR7
  refine method_fn (X.keeps R1.old) I (plainGet_of M.get).1 (plainGet_of M.get).2 M.find (beq_iff_eq.mp M.fn) (i4 M.ne) ?_
  refine callWith_K0 (X.keeps R1.old) M.keep ?_
  rw[List.append_nil]
  have hV:RelVs C g1 [V.obj c n w'] [.ref i]:=⟨_,_,rfl,V1,rfl⟩
  refine wpAny_mono (h A hA ly g1 σ1 s1 _ _ [] [] z objs R1 hV rfl e4) (fun y s3 ⟨g3,l3,R3,V3⟩=>⟨g3,l1.trans l3,R3,V3⟩) fun _ _ x=>x.elim
 ·(first | refine s2 e ?_ | refine s1 e ?_ | cases e)
end
end
section
variable{K:Frag}
structure A0g(K:Frag)(c:Addr)(m:Str)(f:Addr):Prop where
 seq:noSeq K c=true
 find:findIn K (.ref c) m=some (some (.ref f))
 fn:isFn K (.ref f)=true
theorem B0K{s:Shared}{x c f:Addr}{ox:Obj}{od:Option Obj}{i v:Value}{Q:Unit→Shared→Prop}(X:K.In s.heap)(I:InstAt s.heap x ox c od)(M:A0g K c "__setitem__" f)(h:wpAny (Md C) A (call (.ref f) [.ref x,i,v]) (fun _ s'=>Q () s') E s):wpAny (Md C) A (setItem (.ref x) i v) Q E s:=by
 unfold setItem sequenceKey
 refine wpAny_holding (wpAny_bind (wpAny_bind (I.type.here ?_)))
 refine wpAny_bind ((anyM_none X M.seq).here ?_)
 rw[if_pos (show (!false)=true from rfl)]
 exact wpAny_pure (wpAny_bind (special_fn X I M.find (beq_iff_eq.mp M.fn) (wpAny_mono h (fun _ _ z=>wpAny_pure z) fun _ _ z=>z)))
theorem B0L{s:Shared}{x c f:Addr}{ox:Obj}{od:Option Obj}{i:Value}{Q:Unit→Shared→Prop}(X:K.In s.heap)(I:InstAt s.heap x ox c od)(M:A0g K c "__delitem__" f)(h:wpAny (Md C) A (call (.ref f) [.ref x,i]) (fun _ s'=>Q () s') E s):wpAny (Md C) A (delItem (.ref x) i) Q E s:=by
 unfold delItem sequenceKey
 refine wpAny_holding (wpAny_bind (wpAny_bind (I.type.here ?_)))
 refine wpAny_bind ((anyM_none X M.seq).here ?_)
 rw[if_pos (show (!false)=true from rfl)]
 exact wpAny_pure (wpAny_bind (special_fn X I M.find (beq_iff_eq.mp M.fn) (wpAny_mono h (fun _ _ z=>wpAny_pure z) fun _ _ z=>z)))
section
variable{e1:Expr}{a d:D}
noncomputable def Z4(c:Addr)(n:Str)(spec:Mine.Spec)(a b d:D):DS:=fun σ=>(a σ).bind fun p=>(b p.2).bind fun q=>if A0s c n q.1 then (d q.2).bind fun r=>(spec [q.1,r.1,p.1] [] r.2.objs).bind fun z=>some (.next,⟨r.2.loc,z.2⟩) else none
theorem A2g{n:Str}{c f:Addr}(B:Base C)(X:K.In C.hb)(M:A0g K c "__setitem__" f)(h:H6 C k (.ref f) spec)(ha:SE C k env ly e1 a)(hb:SE C k env ly e2 b)(hd:SE C k env ly e3 d)(hs:swapsWith e1 (some (.Subscript e2 e3 pos')) pos.line env=pure false):
  S1 C k env ly (.Assign [.Subscript e2 e3 pos'] e1 pos) (Z4 c n spec a b d):=fun A hA g σ s fl σ' R e=>by
 refine b2 e fun p σ1 ea e => ?_
 refine b2 e fun q σ2 eb e => ?_
 simp only at e
 split at e
 ·rename_i hobj
  refine b2 e fun r σ3 ed e => ?_
  refine b2 e fun z objs ez e => ?_
  (first | refine s2 e ?_ | refine s1 e ?_ | cases e)
  refine wpAny_Assign_Subscript (ha.use hA R ea fun g1 v s1 l1 R1 V1=>hb.use hA R1 eb fun g2 u s2 l2 R2 V2=>hd.use hA R2 ed fun g3 kv s3 l3 R3 V3 => ?_) hs
  refine P9 (i7 R3 (B6 l3 _ _ V2) hobj) fun i ox t y kk w' hR6 hR7 Vw I => ?_
  subst hR6
  subst hR7
  refine B0K (X.keeps R3.old) I M ?_
  have hV:RelVs C g3 [V.obj c n w',r,p] [.ref i,kv,v]:=⟨_,_,rfl,B6 l3 _ _ V2,_,_,rfl,V3,_,_,rfl,B6 (l2.trans l3) _ _ V1,rfl⟩
  exact wpAny_mono (h A hA ly g3 _ s3 _ _ [] [] z objs R3 hV rfl ez) (fun y s4 ⟨g4,l4,R4,V4⟩=>⟨g4,((l1.trans l2).trans l3).trans l4,R4,rfl⟩) fun _ _ x=>x.elim
 ·(first | refine s2 e ?_ | refine s1 e ?_ | cases e)
end
end
section
variable{K:Frag}
section
variable{e1:Expr}{a d:D}
noncomputable def A7L(c:Addr)(n:Str)(spec:Mine.Spec)(b d:D):DS:=fun σ=>(b σ).bind fun q=>if A0s c n q.1 then (d q.2).bind fun r=>(spec [q.1,r.1] [] r.2.objs).bind fun z=>some (.next,⟨r.2.loc,z.2⟩) else none
theorem A7q{n:Str}{c f:Addr}(B:Base C)(X:K.In C.hb)(M:A0g K c "__delitem__" f)(h:H6 C k (.ref f) spec)(hb:SE C k env ly e2 b)(hd:SE C k env ly e3 d):
  S1 C k env ly (.Delete [.Subscript e2 e3 pos'] pos) (A7L c n spec b d):=fun A hA g σ s fl σ' R e=>by
 refine b2 e fun q σ2 eb e => ?_
 simp only at e
 split at e
 ·rename_i hobj
  refine b2 e fun r σ3 ed e => ?_
  refine b2 e fun z objs ez e => ?_
  (first | refine s2 e ?_ | refine s1 e ?_ | cases e)
  refine wpAny_Delete (wpAny_deleteEach_cons ?_)
  rw[arm_delete_Subscript]
  refine wpAny_bind (hb.use hA R eb fun g2 u s2 l2 R2 V2=>wpAny_bind (wpAny_holding (hd.use hA R2 ed fun g3 kv s3 l3 R3 V3=>wpAny_bind (wpAny_standAt (wpAny_bind (wpAny_holding ?_))))))
  refine P9 (i7 R3 (B6 l3 _ _ V2) hobj) fun i ox t y kk w' hR6 hR7 Vw I => ?_
  subst hR6
  subst hR7
  refine B0L (X.keeps R3.old) I M ?_
  have hV:RelVs C g3 [V.obj c n w',r] [.ref i,kv]:=⟨_,_,rfl,B6 l3 _ _ V2,_,_,rfl,V3,rfl⟩
  exact wpAny_mono (h A hA ly g3 _ s3 _ _ [] [] z objs R3 hV rfl ez) (fun y s4 ⟨g4,l4,R4,V4⟩=>wpAny_release (wpAny_deleteEach_nil ⟨g4,(l2.trans l3).trans l4,R4,rfl⟩)) fun _ _ x=>x.elim
 ·(first | refine s2 e ?_ | refine s1 e ?_ | cases e)
end
end
local macro_rules | `(tactic| o_head $_) => `(tactic| (exfalso;assumption))
set_option maxRecDepth 100000 in
set_option maxHeartbeats 8000000 in
theorem hd(h:False):PySem.Challenge.rw_wy0047_01.Holds:=by
 refine holds_law h.elim fun said => ?_
 k_head
section
section
variable{x:Str}{i:Nat}
theorem bl(h1:env.scope.kind=.function)(h2:(x==("__debug__" : Str))=false)(h3:(x==("__classdict__" : Str))=false)(h4:ly[i]?=some (.fr env.locals x))(h5:env.kindOf x=some .local):Bnd env ly x i:=⟨h1,h2,h3,.inl ⟨h4,h5⟩⟩
theorem bc{c:Addr}(h1:env.scope.kind=.function)(h2:(x==("__debug__" : Str))=false)(h3:(x==("__classdict__" : Str))=false)(h4:ly[i]?=some (.cl c))(h5:env.cells.lookup x=some c)(h6:env.kindOf x=some .cell):Bnd env ly x i:=⟨h1,h2,h3,.inr ⟨c,h4,h5,.inl h6⟩⟩
theorem bf{c:Addr}(h1:env.scope.kind=.function)(h2:(x==("__debug__" : Str))=false)(h3:(x==("__classdict__" : Str))=false)(h4:ly[i]?=some (.cl c))(h5:env.cells.lookup x=some c)(h6:env.kindOf x=some .free):Bnd env ly x i:=⟨h1,h2,h3,.inr ⟨c,h4,h5,.inr h6⟩⟩
theorem bn{K:Frag}{v:Value}(B:Base C)(X:K.In C.hb)(h1:env.globals=mainGlobals)(h2:env.builtins=builtinsNs)(h3:env.scope.kind=.function)(h4:env.kindOf x=some .globalImplicit)(h5:nsIn K mainGlobals x=some none)(h6:bootBuiltins x=some v)(h7:x ≠ "__name__")(h8:(x==("__debug__" : Str))=false)(h9:Fn v):A00 C env x v:=
 ⟨h1,h2,h3,h4,mg_none_of X B.g h5,h6,h7,h8,h9⟩
end
noncomputable def m3(L:Addr):Str ⊕ Nat→Loc
 | .inl x=>.fr L x
 | .inr n=>.cl (L+n)
theorem L8{L:Addr}{xs:List (Str ⊕ Nat)}(h:xs.Nodup):(xs.map (m3 L)).Nodup:=by
 rw[List.Nodup,List.pairwise_map]
 refine h.imp fun {a b} hne e=>hne ?_
 cases a <;> cases b <;> injection e
 ·rename_i e;exact congrArg _ e
 ·rename_i e;exact congrArg _ (Nat.add_left_cancel e)
noncomputable def B12(kw:List (Str×V))(us:List V):Option (List V):=if kw.isEmpty then some us else none
theorem A3a{kw:List (Str×V)}{vs:List V}(e:B12 kw us=some vs):kw=[]∧vs=us:=iN e fun h e=>⟨List.isEmpty_iff.mp h,(Option.some.inj e).symm⟩
noncomputable def mkP(n m:Nat)(us:List V)(kw:List (Str×V)):Option (List (Option V)):=(B12 kw us).bind fun us=>if us.length=n then some (us.map some++List.replicate m none) else none
theorem A1p{n:Nat}{kw:List (Str×V)}{loc:List (Option V)}(e:mkP n m us kw=some loc):us.length=n∧kw=[]∧loc=us.map some++List.replicate m none:=by
 refine b1 e fun vs e1 e2=>iN e2 fun h e3 => ?_
 obtain⟨rfl,rfl⟩:=A3a e1
 exact s1 e3 ⟨h,rfl,rfl⟩
theorem B16{kw:List (Str×V)}{loc:List (Option V)}(e:mkP 1 m us kw=some loc):∃ a,us=[a]∧kw=[]∧loc=some a::List.replicate m none:=by
 obtain⟨h,rfl,rfl⟩:=A1p e
 obtain⟨a,rfl⟩:=A5r h;exact⟨a,rfl,rfl,rfl⟩
theorem A3g{kw:List (Str×V)}{loc:List (Option V)}(e:mkP 2 m us kw=some loc):∃ a b,us=[a,b]∧kw=[]∧loc=some a::some b::List.replicate m none:=by
 obtain⟨h,rfl,rfl⟩:=A1p e
 obtain⟨a,b,rfl⟩:=A8E h;exact⟨a,b,rfl,rfl,rfl⟩
theorem A74{kw:List (Str×V)}{loc:List (Option V)}(e:mkP 3 m us kw=some loc):∃ a b c,us=[a,b,c]∧kw=[]∧loc=some a::some b::some c::List.replicate m none:=by
 obtain⟨h,rfl,rfl⟩:=A1p e
 obtain⟨a,b,c,rfl⟩:=A90 h;exact⟨a,b,c,rfl,rfl,rfl⟩
theorem B6W{kw:List (Str×V)}{loc:List (Option V)}(e:mkP 4 m us kw=some loc):∃ a b c d,us=[a,b,c,d]∧kw=[]∧loc=some a::some b::some c::some d::List.replicate m none:=by
 obtain⟨h,rfl,rfl⟩:=A1p e
 obtain⟨a,b,c,d,rfl⟩:=B5o h;exact⟨a,b,c,d,rfl,rfl,rfl⟩
theorem B6V{kw:List (Str×V)}{loc:List (Option V)}(e:mkP 5 m us kw=some loc):∃ a b c d f,us=[a,b,c,d,f]∧kw=[]∧loc=some a::some b::some c::some d::some f::List.replicate m none:=by
 obtain⟨h,rfl,rfl⟩:=A1p e
 obtain⟨a,b,c,d,f,rfl⟩:=B6Y h;exact⟨a,b,c,d,f,rfl,rfl,rfl⟩
noncomputable def B5l(us:List V)(kw:List (Str×V)):Option (List (Option V)):=(B12 kw us).bind fun us=>if us.length=1 then some (us.map some++[some (.t (.int 0)),none,none,none]) else none
theorem B5k{kw:List (Str×V)}{loc:List (Option V)}(e:B5l us kw=some loc):∃ a,us=[a]∧kw=[]∧loc=[some a,some (.t (.int 0)),none,none,none]:=by
 refine b1 e fun vs e1 e2=>iN e2 fun h e3 => ?_
 obtain⟨rfl,rfl⟩:=A3a e1
 obtain⟨a,rfl⟩:=A5r h;exact s1 e3 ⟨a,rfl,rfl,rfl⟩
noncomputable def A5p(us:List V)(kw:List (Str×V)):Option (List (Option V)):=if us.length=2∧kw.map (·.1)=[Str.ofString "name"] then some (us.map some++kw.map (fun p=>some p.2)++[none]) else none
theorem B17{kw:List (Str×V)}{loc:List (Option V)}(e:A5p us kw=some loc):∃ a b c,us=[a,b]∧kw=[(Str.ofString "name", c)]∧loc=[some a,some b,some c,none]:=by
 refine iN e fun h e => ?_
 obtain⟨a,b,rfl⟩:=A8E h.1
 obtain⟨⟨n,c⟩,rfl⟩:=A5r ((List.length_map _).symm.trans (congrArg List.length h.2))
 cases (List.cons.inj h.2).1;exact s1 e ⟨a,b,c,rfl,rfl,rfl⟩
noncomputable def A9u(us:List V)(kw:List (Str×V)):Option (List (Option V)):=(B12 kw us).bind fun us=>if us.length=2 then some (us.map some++[some (.t .none),none,none]) else if us.length=3 then some (us.map some++[none,none]) else none
theorem A9t{kw:List (Str×V)}{loc:List (Option V)}(e:A9u us kw=some loc):(∃ a b,us=[a,b]∧kw=[]∧loc=[some a,some b,some (.t .none),none,none])∨(∃ a b c,us=[a,b,c]∧kw=[]∧loc=[some a,some b,some c,none,none]):=by
 refine b1 e fun vs e1 e2 => ?_
 obtain⟨rfl,rfl⟩:=A3a e1
 clear e e1
 by_cases h:vs.length=2
 ·obtain⟨a,b,rfl⟩:=A8E h;exact s1 e2 (.inl ⟨a,b,rfl,rfl,rfl⟩)
 ·rw[if_neg h] at e2
  refine iN e2 fun h e3 => ?_
  obtain⟨a,b,c,rfl⟩:=A90 h;exact s1 e3 (.inr ⟨a,b,c,rfl,rfl,rfl⟩)
theorem B5d:k5 codeN:=fun c h seen=>B4T h seen
theorem B5c:k5 codeV:=fun c h seen=>B4S h seen
theorem B5Q(X:(hd.heap_1 P).In C.hb):PatAt C.hb 43 codeN:=⟨⟨_,_,42,_,_,X _ _ (by rfl),X _ _ (by rfl),by kernel_rfl⟩,B5d,by kernel_rfl,by kernel_rfl⟩
theorem B5P(X:(hd.heap_1 P).In C.hb):PatAt C.hb 48 codeV:=⟨⟨_,_,47,_,_,X _ _ (by rfl),X _ _ (by rfl),by kernel_rfl⟩,B5c,by kernel_rfl,by kernel_rfl⟩
theorem B6S(X:(hd.heap_1 P).In C.hb):∀ p∈[43,48],∃ code,PatAt C.hb p code:=fun p hp=>by
 simp only[List.mem_cons,List.not_mem_nil,or_false] at hp
 rcases hp with rfl | rfl
 ·exact⟨_,B5Q X⟩
 ·exact⟨_,B5P X⟩
theorem A5w:∀ as,(Code.builtin "type.__call__" as).weight≤2∧(Code.builtin "type.__call__" as).cUnits≤8:=fun as=>by
 have h1:(Code.builtin "type.__call__" as).frames=0:=rfl
 have h2:(Code.builtin "type.__call__" as).isGuard=false:=(by decide:guardIds.contains "type.__call__" = false)
 have h3:(Code.builtin "type.__call__" as).isCaller=false:=rfl
 refine⟨?_,by show 1+3 * (Code.builtin "type.__call__" as).frames≤8;rw[h1];decide⟩
 unfold Code.weight
 rw[h1,h2,h3]
 split <;> simp
section
theorem N5:j4 (hd.heap_1 P) 171 (Str.ofString "_headers") (Str.ofString "get") 118:=⟨rfl,rfl,rfl,rfl,rfl⟩
theorem S9:j4 (hd.heap_1 P) 171 (Str.ofString "_headers") (Str.ofString "setdefault") 161:=⟨rfl,rfl,rfl,rfl,rfl⟩
theorem Y8:j4 (hd.heap_1 P) 171 (Str.ofString "_headers") (Str.ofString "items") 135:=⟨rfl,rfl,rfl,rfl,rfl⟩
theorem C9:j4 (hd.heap_1 P) 171 (Str.ofString "_headers") (Str.ofString "_convert_string_type") 70:=⟨rfl,rfl,rfl,rfl,rfl⟩
theorem A1q:j4 (hd.heap_1 P) 263 (Str.ofString "comp_select_list") (Str.ofString "compare") 260:=⟨rfl,rfl,rfl,rfl,rfl⟩
theorem A4d:A0g (hd.heap_1 P) 171 "__setitem__" 84:=⟨rfl,rfl,rfl⟩
theorem B0F:A0g (hd.heap_1 P) 171 "__delitem__" 89:=⟨rfl,rfl,rfl⟩
theorem B03:A2N (hd.heap_1 P) 171 (Str.ofString "_headers") 63:=⟨rfl,rfl,rfl,rfl,rfl,rfl,rfl,rfl⟩
theorem B3X:A2N (hd.heap_1 P) 263 (Str.ofString "comp_select_list") 253:=⟨rfl,rfl,rfl,rfl,rfl,rfl,rfl,rfl⟩
end
end
section
set_option maxHeartbeats 1000000
noncomputable def B4p:DS:=(A9 (y9 0 fSub (A0 1)) (G5 (A0 0)))
noncomputable def sp_isub:Mine.Spec:=C7 (mkP 2 0) B4p
theorem B10(B:Base C)(X:(hd.heap_1 P).In C.hb)(hlo:0<C.lo):H6 C (k+1) (.ref 239) sp_isub:=by
 refine L0 B X (xs:=[Str.ofString "a", Str.ofString "b"]) (by rfl) rfl rfl (by decide) (by rfl) ?_ (fun L => ?_) rfl rfl rfl
 ·intro us kw loc e g vs kws s XX hv hkw
  obtain⟨a0,a1,rfl,rfl,rfl⟩:=A3g e
  obtain⟨v0,_,rfl,h0,v1,_,rfl,h1,hn⟩:=hv
  cases (show _=_ from hn)
  cases (show _=_ from hkw)
  exact⟨_,BindsTo.of_eq rfl,rfl,_,_,rfl,⟨v0,rfl,h0⟩,_,_,rfl,⟨v1,rfl,h1⟩,rfl⟩
 ·exact(A5 (A1Y B (bl rfl rfl rfl rfl rfl) (A1 (bl rfl rfl rfl rfl rfl)) B38)
  (B5 (E7 (A1 (bl rfl rfl rfl rfl rfl)))))
noncomputable def A8a:DS:=(O9 (A0 2) (A0 0) (A0 1))
noncomputable def sp_setitem:Mine.Spec:=C7 (mkP 3 0) A8a
theorem A5m(B:Base C)(X:(hd.heap_1 P).In C.hb)(hlo:0<C.lo):H6 C (k+1) (.ref 224) sp_setitem:=by
 refine L0 B X (xs:=[Str.ofString "a", Str.ofString "b", Str.ofString "c"]) (by rfl) rfl rfl (by decide) (by rfl) ?_ (fun L => ?_) rfl rfl rfl
 ·intro us kw loc e g vs kws s XX hv hkw
  obtain⟨a0,a1,a2,rfl,rfl,rfl⟩:=A74 e
  obtain⟨v0,_,rfl,h0,v1,_,rfl,h1,v2,_,rfl,h2,hn⟩:=hv
  cases (show _=_ from hn)
  cases (show _=_ from hkw)
  exact⟨_,BindsTo.of_eq rfl,rfl,_,_,rfl,⟨v0,rfl,h0⟩,_,_,rfl,⟨v1,rfl,h1⟩,_,_,rfl,⟨v2,rfl,h2⟩,rfl⟩
 ·exact(B5 (U2 B (A1 (bl rfl rfl rfl rfl rfl)) (A1 (bl rfl rfl rfl rfl rfl)) (A1 (bl rfl rfl rfl rfl rfl)) rfl))
noncomputable def B0t:DS:=(A9 (H5 (B48 (C1 (d2 fHas (A0 0) (dT (.str (Str.ofString "__getitem__")))))) dNoS dSkip) (G5 (d2 fAdd (A0 0) (A0 1))))
noncomputable def sp_concat:Mine.Spec:=C7 (mkP 2 1) B0t
theorem A2o(B:Base C)(X:(hd.heap_1 P).In C.hb)(hlo:0<C.lo):H6 C (k+1) (.ref 217) sp_concat:=by
 refine L0 B X (xs:=[Str.ofString "a", Str.ofString "b", Str.ofString "msg"]) (by rfl) rfl rfl (by decide) (by rfl) ?_ (fun L => ?_) rfl rfl rfl
 ·intro us kw loc e g vs kws s XX hv hkw
  obtain⟨a0,a1,rfl,rfl,rfl⟩:=A3g e
  obtain⟨v0,_,rfl,h0,v1,_,rfl,h1,hn⟩:=hv
  cases (show _=_ from hn)
  cases (show _=_ from hkw)
  exact⟨_,BindsTo.of_eq rfl,rfl,_,_,rfl,⟨v0,rfl,h0⟩,_,_,rfl,⟨v1,rfl,h1⟩,_,_,rfl,rfl,rfl⟩
 ·exact(A5 (J2 (A84 (Q1 B (A4H B (bn B X rfl rfl rfl rfl rfl rfl (by decide) rfl (.b _)) (A1 (bl rfl rfl rfl rfl rfl)) E4 B5U rfl) rfl)) A0j H0)
  (B5 (E7 (B2 B (A1 (bl rfl rfl rfl rfl rfl)) (A1 (bl rfl rfl rfl rfl rfl)) J3))))
noncomputable def A2W:DS:=(A9 (H5 (B48 (C1 (d2 fIsInt (A0 1) (dT (.cst (.type "int")))))) dNoS dSkip) (A9 (fun σ=>((G5 (d1 fLen (A0 0))) σ).bind fun p=>(A64 p.1).bind fun v=>some (.ret v,p.2)) dNoS))
noncomputable def sp_length_hint:Mine.Spec:=C7 B5l A2W
theorem i6(B:Base C)(X:(hd.heap_1 P).In C.hb)(hlo:0<C.lo):H6 C (k+1) (.ref 232) sp_length_hint:=by
 refine L0 B X (xs:=[Str.ofString "obj", Str.ofString "default", Str.ofString "msg", Str.ofString "hint", Str.ofString "val"]) (by rfl) rfl rfl (by decide) (by rfl) ?_ (fun L => ?_) rfl rfl rfl
 ·intro us kw loc e g vs kws s XX hv hkw
  obtain⟨a0,rfl,rfl,rfl⟩:=B5k e
  obtain⟨v0,_,rfl,h0,hn⟩:=hv
  cases (show _=_ from hn)
  cases (show _=_ from hkw)
  exact⟨_,kp_binds XX (fun _=>rfl),rfl,_,_,rfl,⟨v0,rfl,h0⟩,_,_,rfl,⟨_,rfl,_,rfl⟩,_,_,rfl,rfl,_,_,rfl,rfl,_,_,rfl,rfl,rfl⟩
 ·exact(A5 (J2 (A84 (Q1 B (A4H B (bn B X rfl rfl rfl rfl rfl rfl (by decide) rfl (.b _)) (A1 (bl rfl rfl rfl rfl rfl)) (Y3 B rfl rfl rfl rfl (mg_none_of X B.g rfl) rfl (by decide) (fun _=>rfl) rfl) B1x rfl) rfl)) A0j H0)
  (A5 (B35 (B5 (E7 (H1 B (bn B X rfl rfl rfl rfl rfl rfl (by decide) rfl (.b _)) (A1 (bl rfl rfl rfl rfl rfl)) A0o rfl))))
  A0j))
noncomputable def X0:DS:=(A9 (H5 (C1 (d2 fIs (d1 fType (A0 1)) (dT (.cst (.type "str"))))) (A9 (B9 3 (dIf (C1 (A0 2)) (dT (.cst (.ref 43))) (dT (.cst (.ref 48))))) (A9 (H5 (C1 (A1J [43,48] (A0 3) (A0 1))) dNoS dSkip) (G5 (A0 1)))) dSkip) dNoS)
noncomputable def sp_H_convert_string_type:Mine.Spec:=C7 A5p X0
theorem D7(B:Base C)(X:(hd.heap_1 P).In C.hb)(hlo:0<C.lo):H6 C (k+1) (.ref 70) sp_H_convert_string_type:=by
 refine L0 B X (xs:=[Str.ofString "self", Str.ofString "value", Str.ofString "name", Str.ofString "regex"]) (by rfl) rfl rfl (by decide) (by rfl) ?_ (fun L => ?_) rfl rfl rfl
 ·intro us kw loc e g vs kws s XX hv hkw
  obtain⟨a0,a1,b0,rfl,rfl,rfl⟩:=B17 e
  obtain⟨v0,_,rfl,h0,v1,_,rfl,h1,hn⟩:=hv
  cases (show _=_ from hn)
  obtain⟨w0,_,rfl,q0,hk⟩:=hkw
  cases (show _=_ from hk)
  exact⟨_,BindsTo.of_eq rfl,rfl,_,_,rfl,⟨v0,rfl,h0⟩,_,_,rfl,⟨v1,rfl,h1⟩,_,_,rfl,⟨w0,rfl,q0⟩,_,_,rfl,rfl,rfl⟩
 ·exact(A5 (J2 (D2 B (H1 B (bn B X rfl rfl rfl rfl rfl rfl (by decide) rfl (.t _)) (A1 (bl rfl rfl rfl rfl rfl)) A9T rfl) (Y3 B rfl rfl rfl rfl (mg_none_of X B.g rfl) rfl (by decide) (fun _=>rfl) rfl) B1y rfl) (A5 (B7 (bl rfl rfl rfl rfl rfl) (Q5 (Q1 B (A1 (bl rfl rfl rfl rfl rfl)) rfl) (A3O B rfl rfl rfl (mg_of X B.g rfl) (fun _=>rfl) rfl) (A3O B rfl rfl rfl (mg_of X B.g rfl) (fun _=>rfl) rfl)) rfl)
  (A5 (J2 (Q1 B (A7n (B6S X) ⟨rfl,rfl⟩ (A1 (bl rfl rfl rfl rfl rfl)) (A1 (bl rfl rfl rfl rfl rfl)) rfl) rfl) A0j H0)
  (B5 (E7 (A1 (bl rfl rfl rfl rfl rfl)))))) H0)
  A0j)
end
section
set_option maxHeartbeats 1000000
noncomputable def A8c:DS:=(G5 (B4t (U0 171 (Str.ofString "_headers") (A0 0))))
noncomputable def sp_H_items:List V→List (Str×V)→List AO→Option (List T×List AO):=A31 (mkP 1 0) A8c
theorem n4(B:Base C)(X:(hd.heap_1 P).In C.hb)(hlo:0<C.lo):A6N C (k+1) (.ref 135) sp_H_items:=by
 refine B2Y B X (xs:=[Str.ofString "self"]) (by rfl) rfl rfl (by decide) (by rfl) ?_ (fun L => ?_) rfl rfl rfl
 ·intro us kw loc e g vs kws s XX hv hkw
  obtain⟨a0,rfl,rfl,rfl⟩:=B16 e
  obtain⟨v0,_,rfl,h0,hn⟩:=hv
  cases (show _=_ from hn)
  cases (show _=_ from hkw)
  exact⟨_,BindsTo.of_eq rfl,rfl,_,_,rfl,⟨v0,rfl,h0⟩,rfl⟩
 ·exact(B5 (E7 (B34 B (Q2 B X rfl rfl rfl rfl (A1 (bl rfl rfl rfl rfl rfl))) (fun _ _=>by first | exact .inl rfl | exact .inr rfl))))
noncomputable def A4z:DS:=(A9 (U6 itT (U0 263 (Str.ofString "comp_select_list") (A0 0)) (tT [3,4]) (A9 (B9 5 (A7 (A0 1) (A0 3))) (A9 (B9 6 (A7 (A0 2) (A0 3))) (A9 (H5 (C1 (d2 fLt (A0 5) (A0 6))) (G5 (d1 fNeg (A0 4))) dSkip) (H5 (C1 (d2 fGt (A0 5) (A0 6))) (G5 (A0 4)) dSkip))))) (G5 (dT (.int 0))))
noncomputable def sp_T_compare:Mine.Spec:=C7 (mkP 3 4) A4z
theorem A3V(B:Base C)(X:(hd.heap_1 P).In C.hb)(hlo:0<C.lo):H6 C (k+1) (.ref 260) sp_T_compare:=by
 refine L0 B X (xs:=[Str.ofString "self", Str.ofString "left", Str.ofString "right", Str.ofString "index", Str.ofString "direction", Str.ofString "l", Str.ofString "r"]) (by rfl) rfl rfl (by decide) (by rfl) ?_ (fun L => ?_) rfl rfl rfl
 ·intro us kw loc e g vs kws s XX hv hkw
  obtain⟨a0,a1,a2,rfl,rfl,rfl⟩:=A74 e
  obtain⟨v0,_,rfl,h0,v1,_,rfl,h1,v2,_,rfl,h2,hn⟩:=hv
  cases (show _=_ from hn)
  cases (show _=_ from hkw)
  exact⟨_,BindsTo.of_eq rfl,rfl,_,_,rfl,⟨v0,rfl,h0⟩,_,_,rfl,⟨v1,rfl,h1⟩,_,_,rfl,⟨v2,rfl,h2⟩,_,_,rfl,rfl,_,_,rfl,rfl,_,_,rfl,rfl,_,_,rfl,rfl,rfl⟩
 ·exact(A5 (u4 B (Q2 B X rfl rfl rfl rfl (A1 (bl rfl rfl rfl rfl rfl))) rfl (.cons (C0 (bl rfl rfl rfl rfl rfl)) (.cons (C0 (bl rfl rfl rfl rfl rfl)) .nil)) rfl rfl (A5 (B7 (bl rfl rfl rfl rfl rfl) (A8 B (A1 (bl rfl rfl rfl rfl rfl)) (A1 (bl rfl rfl rfl rfl rfl)) (fun _ _=>by first | exact .inl rfl | exact .inr rfl)) rfl)
  (A5 (B7 (bl rfl rfl rfl rfl rfl) (A8 B (A1 (bl rfl rfl rfl rfl rfl)) (A1 (bl rfl rfl rfl rfl rfl)) (fun _ _=>by first | exact .inl rfl | exact .inr rfl)) rfl)
  (A5 (J2 (D2 B (A1 (bl rfl rfl rfl rfl rfl)) (A1 (bl rfl rfl rfl rfl rfl)) B1v rfl) (B5 (E7 (K2 B (A1 (bl rfl rfl rfl rfl rfl)) A0n))) H0)
  (B5 (J2 (D2 B (A1 (bl rfl rfl rfl rfl rfl)) (A1 (bl rfl rfl rfl rfl rfl)) B5V rfl) (B5 (E7 (A1 (bl rfl rfl rfl rfl rfl)))) H0))))) (fun _=>rfl))
  (B5 (E7 A6)))
noncomputable def y7:DS:=(H5 (C1 (d2 fEq (dSl (A0 0) (dT .none) (dT (.int 2)) (dT .none)) (E5 (A2 (dT (.str (Str.ofString "~"))) (A2 (dT (.int 0)) dNil))))) (A9 (B9 1 (A7 (A0 0) (dT (.int 2)))) (H5 (B1C (C1 (dM1 isStrT fStarts (A0 1) (dT (.str (Str.ofString "<"))))) (C1 (dM1 isStrT fEnds (A0 1) (dT (.str (Str.ofString ">")))))) (G5 (d2 fFmt (dT (.str (Str.ofString "{%s}"))) (dSl (A0 1) (dT (.int 1)) (d1 fNeg (dT (.int 1))) (dT .none)))) (G5 (A0 1)))) (G5 (d2 fFmt (dT (.str (Str.ofString "%s:%d(%s)"))) (A0 0))))
noncomputable def sp_func_std_string:Mine.Spec:=C7 (mkP 1 1) y7
theorem n3(B:Base C)(X:(hd.heap_1 P).In C.hb)(hlo:0<C.lo):H6 C (k+2) (.ref 274) sp_func_std_string:=by
 refine L0 B X (xs:=[Str.ofString "func_name", Str.ofString "name"]) (by rfl) rfl rfl (by decide) (by rfl) ?_ (fun L => ?_) rfl rfl rfl
 ·intro us kw loc e g vs kws s XX hv hkw
  obtain⟨a0,rfl,rfl,rfl⟩:=B16 e
  obtain⟨v0,_,rfl,h0,hn⟩:=hv
  cases (show _=_ from hn)
  cases (show _=_ from hkw)
  exact⟨_,BindsTo.of_eq rfl,rfl,_,_,rfl,⟨v0,rfl,h0⟩,_,_,rfl,rfl,rfl⟩
 ·exact(B5 (J2 (D2 B (Q3 B (A1 (bl rfl rfl rfl rfl rfl)) H9 (K8 A6) H9 (fun _ _=>by first | exact .inl rfl | exact .inr rfl)) (C6 (A3 E4 (A3 A6 B1))) (v7 B) rfl) (A5 (B7 (bl rfl rfl rfl rfl rfl) (A8 B (A1 (bl rfl rfl rfl rfl rfl)) A6 (fun _ _=>by first | exact .inl rfl | exact .inr rfl)) rfl)
  (B5 (J2 (A85 (Q1 B (A6d B ⟨rfl,rfl⟩ ⟨F.plainAttrs_str,F.slot_str_startswith,F.type_str_startswith⟩ E0 (A1 (bl rfl rfl rfl rfl rfl)) E4 A9W rfl) rfl) (Q1 B (A6d B ⟨rfl,rfl⟩ ⟨F.plainAttrs_str,F.slot_str_endswith,F.type_str_endswith⟩ E0 (A1 (bl rfl rfl rfl rfl rfl)) E4 B4A rfl) rfl)) (B5 (E7 (B2 B E4 (Q3 B (A1 (bl rfl rfl rfl rfl rfl)) (K8 A6) (K8 (K2 B A6 A0n)) H9 (fun _ _=>by first | exact .inl rfl | exact .inr rfl)) B3I))) (B5 (E7 (A1 (bl rfl rfl rfl rfl rfl))))))) (B5 (E7 (B2 B E4 (A1 (bl rfl rfl rfl rfl rfl)) B3I)))))
noncomputable def A8b:DS:=(A9 (H5 (C1 (d2 fLe (d2 fSub (P1 isIntT fBits (A0 0)) (A0 2)) (dT (.int 4000)))) (G5 (d2 fDivmod (A0 0) (A0 1))) dSkip) dNoS)
noncomputable def sp_div2n1n:Mine.Spec:=C7 (mkP 3 8) A8b
theorem A5n(B:Base C)(X:(hd.heap_1 P).In C.hb)(hlo:0<C.lo):H6 C (k+1) (.ref 182) sp_div2n1n:=by
 refine L0 B X (xs:=[Str.ofString "a", Str.ofString "b", Str.ofString "n", Str.ofString "pad", Str.ofString "half_n", Str.ofString "mask", Str.ofString "b1", Str.ofString "b2", Str.ofString "q1", Str.ofString "r", Str.ofString "q2"]) (by rfl) rfl rfl (by decide) (by rfl) ?_ (fun L => ?_) rfl rfl rfl
 ·intro us kw loc e g vs kws s XX hv hkw
  obtain⟨a0,a1,a2,rfl,rfl,rfl⟩:=A74 e
  obtain⟨v0,_,rfl,h0,v1,_,rfl,h1,v2,_,rfl,h2,hn⟩:=hv
  cases (show _=_ from hn)
  cases (show _=_ from hkw)
  exact⟨_,BindsTo.of_eq rfl,rfl,_,_,rfl,⟨v0,rfl,h0⟩,_,_,rfl,⟨v1,rfl,h1⟩,_,_,rfl,⟨v2,rfl,h2⟩,_,_,rfl,rfl,_,_,rfl,rfl,_,_,rfl,rfl,_,_,rfl,rfl,_,_,rfl,rfl,_,_,rfl,rfl,_,_,rfl,rfl,_,_,rfl,rfl,rfl⟩
 ·exact(A5 (J2 (D2 B (B2 B (M3 B ⟨rfl,rfl⟩ ⟨F.plainAttrs_int,F.slot_int_bit_length,F.type_int_bit_length⟩ A0C (A1 (bl rfl rfl rfl rfl rfl)) A5k) (A1 (bl rfl rfl rfl rfl rfl)) A6m) (A3O B rfl rfl rfl (mg_of X B.g rfl) (fun _=>⟨_,rfl⟩) rfl) B6T rfl) (B5 (E7 (A4H B (bn B X rfl rfl rfl rfl rfl rfl (by decide) rfl (.b _)) (A1 (bl rfl rfl rfl rfl rfl)) (A1 (bl rfl rfl rfl rfl rfl)) A9c rfl))) H0)
  A0j)
noncomputable def o8:DS:=(A9 (B9 1 dNewDs) (A9 (U6 itN (d1 fRange1 (dT (.int 5))) (tN 2) (A9 (Z3 [4,3] (A2 (d2 fMod (A7 (A0 0) (A0 2)) (dT (.int 4))) (A2 (d2 fMod (d2 fDiv (A7 (A0 0) (A0 2)) (dT (.int 4))) (dT (.int 4))) dNil))) (A9 (H5 (C1 (d2 fLt (A0 2) (dT (.int 3)))) (Z3 [4,3] (A2 (d2 fAdd (A0 2) (dT (.int 1))) (A2 (d2 fMod (A7 (A0 0) (A0 2)) (d2 fAdd (A0 2) (dT (.int 1)))) dNil))) dSkip) (A9 (O9 (E5 (A2 (A0 3) (A2 (A0 4) (A2 (d2 fDiv (A7 (A0 0) (A0 2)) (dT (.int 16))) dNil)))) (A0 1) (A7 (dT (.str (Str.ofString "abcde"))) (A0 2))) (O9 (E5 (A2 (A0 4) (A2 (A0 3) (A2 (d1 fNeg (d2 fDiv (A7 (A0 0) (A0 2)) (dT (.int 16)))) dNil)))) (A0 1) (A7 (dT (.str (Str.ofString "ABCDE"))) (A0 2))))))) (G5 (A0 1))))
noncomputable def sp_law_ends:Mine.Spec:=C7 (mkP 1 4) o8
theorem A4R(B:Base C)(X:(hd.heap_1 P).In C.hb)(hlo:0<C.lo):H6 C (k+1) (.ref 295) sp_law_ends:=by
 refine L0 B X (xs:=[Str.ofString "cells", Str.ofString "ends", Str.ofString "k", Str.ofString "near", Str.ofString "far"]) (by rfl) rfl rfl (by decide) (by rfl) ?_ (fun L => ?_) rfl rfl rfl
 ·intro us kw loc e g vs kws s XX hv hkw
  obtain⟨a0,rfl,rfl,rfl⟩:=B16 e
  obtain⟨v0,_,rfl,h0,hn⟩:=hv
  cases (show _=_ from hn)
  cases (show _=_ from hkw)
  exact⟨_,BindsTo.of_eq rfl,rfl,_,_,rfl,⟨v0,rfl,h0⟩,_,_,rfl,rfl,_,_,rfl,rfl,_,_,rfl,rfl,_,_,rfl,rfl,rfl⟩
 ·exact(A5 (B7 (bl rfl rfl rfl rfl rfl) V9 rfl)
  (A5 (N9 B (F7 hlo) (H1 B (bn B X rfl rfl rfl rfl rfl rfl (by decide) rfl (.t _)) A6 M5 rfl) (bl rfl rfl rfl rfl rfl) (A5 (A1X (ns:=[Str.ofString "near", Str.ofString "far"]) (.cons (X9 (bl rfl rfl rfl rfl rfl)) (.cons (X9 (bl rfl rfl rfl rfl rfl)) .nil)) (A3 (B2 B (A8 B (A1 (bl rfl rfl rfl rfl rfl)) (A1 (bl rfl rfl rfl rfl rfl)) (fun _ _=>by first | exact .inl rfl | exact .inr rfl)) A6 v5) (A3 (B2 B (B2 B (A8 B (A1 (bl rfl rfl rfl rfl rfl)) (A1 (bl rfl rfl rfl rfl rfl)) (fun _ _=>by first | exact .inl rfl | exact .inr rfl)) A6 A1i) A6 v5) B1)) rfl rfl rfl)
  (A5 (J2 (D2 B (A1 (bl rfl rfl rfl rfl rfl)) A6 B1v rfl) (B5 (A1X (ns:=[Str.ofString "near", Str.ofString "far"]) (.cons (X9 (bl rfl rfl rfl rfl rfl)) (.cons (X9 (bl rfl rfl rfl rfl rfl)) .nil)) (A3 (B2 B (A1 (bl rfl rfl rfl rfl rfl)) A6 J3) (A3 (B2 B (A8 B (A1 (bl rfl rfl rfl rfl rfl)) (A1 (bl rfl rfl rfl rfl rfl)) (fun _ _=>by first | exact .inl rfl | exact .inr rfl)) (B2 B (A1 (bl rfl rfl rfl rfl rfl)) A6 J3) v5) B1)) rfl rfl rfl)) H0)
  (A5 (U2 B (C6 (A3 (A1 (bl rfl rfl rfl rfl rfl)) (A3 (A1 (bl rfl rfl rfl rfl rfl)) (A3 (B2 B (A8 B (A1 (bl rfl rfl rfl rfl rfl)) (A1 (bl rfl rfl rfl rfl rfl)) (fun _ _=>by first | exact .inl rfl | exact .inr rfl)) A6 A1i) B1)))) (A1 (bl rfl rfl rfl rfl rfl)) (A8 B E4 (A1 (bl rfl rfl rfl rfl rfl)) (fun _ _=>by first | exact .inl rfl | exact .inr rfl)) rfl)
  (B5 (U2 B (C6 (A3 (A1 (bl rfl rfl rfl rfl rfl)) (A3 (A1 (bl rfl rfl rfl rfl rfl)) (A3 (K2 B (B2 B (A8 B (A1 (bl rfl rfl rfl rfl rfl)) (A1 (bl rfl rfl rfl rfl rfl)) (fun _ _=>by first | exact .inl rfl | exact .inr rfl)) A6 A1i) A0n) B1)))) (A1 (bl rfl rfl rfl rfl rfl)) (A8 B E4 (A1 (bl rfl rfl rfl rfl rfl)) (fun _ _=>by first | exact .inl rfl | exact .inr rfl)) rfl))))) (fun _=>rfl))
  (B5 (E7 (A1 (bl rfl rfl rfl rfl rfl))))))
end
section
section
variable{e1:Expr}{a:D}
noncomputable def B3b:V→Option (List T):=vOf U7
theorem B1E{v:V}{xs:List T}(h:B3b v=some xs):v=.t (.lst xs):=U1 G1 h
theorem A6k(items new:Array Value):items.extract 0 0++new++items.extract items.size items.size=new:=by rw[Array.extract_empty_of_size_le_start (Nat.le_refl _),Array.append_empty,Array.extract_empty_of_stop_le_start (Nat.le_refl _),Array.empty_append]
theorem A4F{A:Around}{E:Value→Shared→Prop}{s:Shared}{l sl va:Addr}{new:Array Value}{n:Nat}{Q:Unit→Shared→Prop}(ho:s.heap.get? l=some (seqObj "list" items n))(hs:s.heap.IsSliceOf sl .none .none .none)(hv:s.heap.get? va=some (seqObj "list" new m))(hne:l≠va)(hsz:items.size<1000)(hsz2:new.size<1000)(hQ:Q () { s with heap:=s.heap.update l (Obj.mapSeq fun xs=>xs.extract 0 0++new++xs.extract items.size xs.size) }):wpAny (Md C) A (setItem (.ref l) (.ref sl) (.ref va)) Q E s:=by
 have hT:s.TypeIs (.ref l) "list" := ⟨_,ho,rfl⟩
 refine q8 (id hs) fun os hos hcs hds => ?_
 have hTs:s.TypeIs (.ref sl) "slice" := ⟨os,hos,hcs⟩
 unfold setItem
 refine wpAny_holding (wpAny_bind (wpAny_sequenceKey hT (by decide) (wpAny_bind (wpAny_callSpecial?_slot (name:=Str.ofString "__setitem__") hT slot_list_setitem (wpAny_call_entry slot_list_setitem hT entry_list_setitem ?_ (args_list_setitem _ _ _))))))
 show wpAny _ _ (Builtin.List.listSubscript? (.ref sl) >>= _) _ _ s
 refine wpAny_bind ?_
 unfold Builtin.List.listSubscript?
 refine wpAny_bind (wpAny_specialOf hTs slice_no_index ?_)
 refine wpAny_ite (KPc.ite_yes rfl ?_)
 refine wpAny_pure ?_
 show wpAny _ _ (typeOf (.ref sl) >>= _) _ _ s
 refine wpAny_bind (wpAny_typeOf hTs ?_)
 refine wpAny_ite (KPc.ite_no (by decide) ?_)
 rw[listSliceParts_eq]
 refine wpAny_bind (wpAny_bind (wpAny_field hos hds (x:=.none) rfl (wpAny_bind (wpAny_listPart .none ?_))))
 refine wpAny_ite (KPc.ite_no (by decide) ?_)
 refine wpAny_bind (wpAny_field hos hds (x:=.none) rfl (wpAny_bind (wpAny_listPart .none ?_)))
 refine wpAny_bind (wpAny_field hos hds (x:=.none) rfl (wpAny_bind (wpAny_listPart .none (wpAny_pure ?_))))
 have hsame:Builtin.List.listSameRef (.ref l) (.ref va)=false:=by
  show (l==va)=false
  simpa using hne
 have hTv:s.TypeIs (.ref va) "list" := ⟨_,hv,rfl⟩
 rw[hsame]
 refine wpAny_bind (m:=Builtin.List.listAllItems (.ref va) _) ?_
 unfold Builtin.List.listAllItems
 refine wpAny_bind (wpAny_typeOf hTv ?_)
 refine wpAny_ite (KPc.ite_yes (by decide) ?_)
 refine listItems_at hv rfl ?_
 refine wpAny_bind (m:=Builtin.List.listItems (.ref l)) (listItems_at ho rfl ?_)
 refine wpAny_bind (wpAny_of_eq (sliceIndices_raw none none none items.size (by simp)) ?_)
 have hb:sliceBounds none none none items.size=(0,(items.size:Int),1):=rfl
 rw[hb]
 dsimp only
 refine wpAny_ite (KPc.ite_yes (by decide) ?_)
 refine wpAny_bind (wpAny_rule ?_)
 have hsum:items.size+new.size≤sizeLine:=Nat.le_trans (Nat.add_le_add (Nat.le_of_lt hsz) (Nat.le_of_lt hsz2)) (by rw[sizeLine_eq];decide)
 have htl:Builtin.List.listTooLong (items.size+new.size)=false:=decide_eq_false (Nat.not_lt.mpr hsum)
 refine wpAny_ite (KPc.ite_no (by rw[htl];decide) ?_)
 have hmx:(max (0:Int) (items.size:Int)).toNat=items.size:=by rw[Int.max_eq_right (Int.natCast_nonneg _),Int.toNat_natCast]
 rw[hmx]
 refine wpAny_bind (listUpdate_at ho rfl ?_ (D3 hsz) (Nat.le_trans (Nat.le_of_eq (congrArg Array.size (A6k items new))) (Nat.le_succ_of_le (D3 hsz2))))
 exact wpAny_bind (wpAny_letGo (wpAny_pure ⟨.none,rfl,wpAny_pure hQ⟩))
noncomputable def A7K(a b:D):DS:=fun σ=>(a σ).bind fun p=>(b p.2).bind fun q=>(B3b p.1).bind fun ys=>(u7 q.1).bind fun i=>(Q9 q.2 i).bind fun xs=>if xs.length<1000∧ys.length<1000 then some (.next,⟨q.2.loc,q.2.objs.set i (.lst ys)⟩) else none
theorem A7p{p:Pos}(B:Base C)(ha:SE C k env ly e1 a)(hb:SE C k env ly e2 b)(hs:swapsWith e1 (some (.Subscript e2 (.Slice none none none p) pos')) pos.line env=pure false):
  S1 C k env ly (.Assign [.Subscript e2 (.Slice none none none p) pos'] e1 pos) (A7K a b):=fun A hA g σ s f σ' R e=>by
 refine b2 e fun p1 σ1 ea e => ?_
 refine b2 e fun q σ2 eb e => ?_
 refine b1 e fun ys ey e => ?_
 refine b1 e fun i ei e => ?_
 refine b1 e fun xs ex e => ?_
 refine iN e fun hlen e => ?_
 refine s2 e ?_
 refine wpAny_Assign_Subscript (ha.use hA R ea fun g1 v s1 l1 R1 V1=>hb.use hA R1 eb fun g2 u s2 l2 R2 V2=>wpAny_Slice (wpAny_pure (wpAny_pure (wpAny_pure ?_)))) hs
 have R3:=R2.grow (Grow.push_ (g:=g2) (s:=s2) (o:={ cls:=.type "slice", data:=.fields #[.none,.none,.none] }) (t:=s2.toks))
 obtain⟨va,new,m,rfl,zv,rv⟩:=(B6 l2 _ _ V1).of (B1E ey)
 obtain⟨ad,items,n,rfl,ha2,hr,ho,r⟩:=A9d R3 (V2.of (O0 ei)) ex
 have hne:ad≠va:=fun h=>by
  subst h
  rcases zv with h | h
  ·rw[(R3.new _ _ hr).1] at h;exact nn h
  ·rw[hr] at h;cases h
 refine A4F ho (Heap.IsSliceOf.new ..) (R3.fz zv) hne (by rw[← Array.length_toList,r.length];exact hlen.1) (by rw[← Array.length_toList,rv.length];exact hlen.2) ?_
 exact⟨g2,l1.trans l2,u8 R3 (W6 ex) ha2 hr ho (its':=new) (A6k items new) rv,rfl⟩
end
end
section
section
variable{e1:Expr}{a:D}
noncomputable def B0I:T→Option (List T):=U7
noncomputable def B0w(a:D)(t:T→St→Option St)(b:DS):DS:=fun σ=>(a σ).bind fun p=>(view p.2 p.1).bind fun x=>(B0I x).bind fun xs=>(M9 t b xs.reverse (lockV p.1 p.2)).bind fun r=>(L4 p.1 p.2 r.2).bind fun σ3=>some (r.1,σ3)
theorem B0B{s:Shared}{st:Bool}{xs:List T}(hh:A.handled=none)(R:Rel C ly g σ s){ad:Addr}{n:Nat}(hz:g.hz C ad (seqObj "list" items n))(r:RelTs C g xs items.toList)(hgo:∀ it v,letOwnedTupleGo target it v=pure ()):
  wpAny (Md C) A (call (.type "reversed") [.ref ad]) (fun it s'=>it=.ref s.heap.objs.size∧wpAny (Md C) A (pyIter it) (fun it s'=>A0f C A target g s st xs.reverse it s') E s') E s:=by
 have ho:=R.hz hz
 have hl:s.heap.IsList ad items:=⟨_,ho,rfl,n,rfl⟩
 have hne:=Y7 ho
 have hsz:items.size=xs.length:=by have:=r.length;rwa [Array.length_toList] at this
 refine call_reversed_list hl ⟨rfl,?_⟩
 have hit:(s.heap.push (revObj ad ((items.size:Int) - 1))).IsRevIter s.heap.objs.size ad ((items.size:Int) - 1):=⟨_,Heap.get?_push_size _ rfl,rfl,rfl⟩
 refine wpAny_pyIter_revIter hit ⟨_,_,_,_,_,_,A7W,_,rfl,by rw[List.length_reverse];exact hsz,KTurns.ofWalks (Walks.listRev hh s.heap.objs.size ad hne items) fun i v s Q E st q=>by rw[hgo];exact wpAny_pure q,⟨Nat.zero_le _,by simpa using hit,hl.at fun o e=>Heap.get?_push_of_some _ e⟩,.push_,?_,?_,?_,fun _=>(Walks.listRev hh s.heap.objs.size ad hne items).self,A3l (target:=target) (KTurns.ofWalks (Walks.listRev hh s.heap.objs.size ad hne items) fun i v s Q E st q=>by rw[hgo];exact wpAny_pure q),?_⟩
 ·intro b hb;simp at hb;subst hb;exact B3
 ·intro b hb
  simp at hb
  rcases hb with rfl | rfl
  ·exact .inl B3
  ·exact .inr ⟨_,hz⟩
 ·intro i h q b hb
  simp at hb
  rcases hb with rfl | rfl
  ·obtain⟨o,h,_⟩:=q.2.1;exact⟨o,h⟩
  ·obtain⟨o,h,_⟩:=q.2.2;exact⟨o,h⟩
 ·intro i v h x t0 t1 hx hp _ _ g' lg _
  have hi:=(List.getElem?_eq_some_iff.mp hx).1
  rw[List.length_reverse] at hi
  rw[List.getElem?_reverse hi] at hx
  refine I7 (r.get hx) fun y hy ry => ?_
  have hp:items[items.size - 1 - i]?=some v:=hp
  rw[← Array.getElem?_toList,hsz] at hp
  rw[hp] at hy;cases hy
  exact .inl (H3 lg _ _ ry)
theorem B1l{x:Str}{i:Nat}{np' rp:Pos}{d:DS}(B:Base C)(N:A00 C env (Str.ofString "reversed") (.type "reversed"))(h:SE C k env ly e a)(hx:Bnd env ly x i)(hb:SS C k env ly body d)(he:starEach [e] env=[(false,eval e env)]):
  S1 C k env ly (.For (.Name x np) (.Call (.Name (Str.ofString "reversed") np') [e] [] rp) body [] pos) (B0w a (tN i) d):=fun A hA g σ s f σ' R e'=>by
 refine b2 e' fun w σ1 e1 e' => ?_
 refine b1 e' fun y e2 e' => ?_
 refine b1 e' fun xs e3 e' => ?_
 refine b2 e' fun f' σ2 e4 e' => ?_
 refine b1 e' fun σ3 e5 e' => ?_
 refine s2 e' ?_
 cases G1 e3
 refine wpAny_For (Call_ (A0K B N R (O5 N.fn ?_ (by rw[he];rfl) rfl))) fun _=>rfl
 rw[he]
 show wpAny _ _ (spliced [(false,eval e env)]) _ _ _
 refine Calls.spliced_cons (h.use hA R e1 fun g1 u s1 l1 R1 V1=>Calls.spliced_nil ?_)
 refine I7 (R1.lockV B V1 e2) fun g2 L K => ?_
 obtain⟨ad,items,n,rfl,hz,r⟩:=K
 refine wpAny_mono (B0B (E:=X4) (target:=.Name x np) (st:=true) hA.handled L.rel hz r fun it v=>rfl) (fun it s2 h2 => ?_) fun _ _ x=>x.elim
 obtain⟨rfl,h2⟩:=h2
 refine wpAny_mono h2 (fun it s2 I => ?_) fun _ _ x=>x.elim
 refine A4W hA (A08 hx) hb L.rel I e4 fun fl s3 ⟨g3,l3,R3,V3⟩ => ?_
 refine q8 (L.back _ _ _ _ l3 R3 e5) fun g4 l4 lv R4 => ?_
 exact⟨g4,l1.trans l4,R4,A0l lv V3⟩
end
end
section
set_option maxHeartbeats 1000000
theorem B4{α β:Type}{o:Option α}{f:α→Option β}{x:α}{r:Option β}(h:o=some x)(h2:f x=r):o.bind f=r:=by subst h;exact h2
theorem G4{α:Type}{c:Prop}[Decidable c]{x y r:α}(h:c)(h2:x=r):(if c then x else y)=r:=by rw[if_pos h,h2]
section
variable{a c d:D}{p q:DB}{x:T}{v u:V}{i:Nat}
theorem U4{f:T→Option T}(h1:a σ=some (v,σ1))(hv:view σ1 v=some x)(hf:f x=some z):d1 f a σ=some (.t z,σ1):=B4 h1 (B4 hv (B4 hf rfl))
theorem C5{f:T→T→Option T}(h1:a σ=some (v1,σ1))(h2:b σ1=some (v2,σ2))(hx:view σ2 v1=some x)(hy:view σ2 v2=some y)(hf:f x y=some z):d2 f a b σ=some (.t z,σ2):=B4 h1 (B4 h2 (B4 hx (B4 hy (B4 hf rfl))))
theorem A2V{ok:T→Bool}{f:T→Option T}(h1:a σ=some (v,σ1))(hv:view σ1 v=some x)(ho:ok x=true)(hf:f x=some z):P1 ok f a σ=some (.t z,σ1):=B4 h1 (B4 hv (G4 ho (B4 hf rfl)))
theorem B51{ok:T→Bool}{f:T→T→Option T}(h1:a σ=some (v1,σ1))(hv:view σ1 v1=some x)(ho:ok x=true)(h2:b σ1=some (v2,σ2))(hx:view σ2 v1=some x)(hy:view σ2 v2=some y)(hf:f x y=some z):dM1 ok f a b σ=some (.t z,σ2):=B4 h1 (B4 hv (G4 ho (B4 h2 (B4 hx (B4 hy (B4 hf rfl))))))
theorem G7(h1:a σ=some (v1,σ1))(h2:b σ1=some (v2,σ2))(hx:view σ2 v1=some x)(hy:view σ2 v2=some y)(hs:A80 x=true)(hf:fItem x y=some z):A7 a b σ=some (.t z,σ2):=B4 h1 (B4 h2 (B4 hx (B4 hy (G4 hs (B4 hf rfl)))))
theorem I2{b:Bool}(h1:a σ=some (v,σ1))(hv:view σ1 v=some x)(hb:A07 x=some b):C1 a σ=some (b,σ1):=B4 h1 (B4 hv (B4 hb rfl))
theorem A4t{b:Bool}{r:Option (V×St)}(h:p σ=some (b,σ1))(h2:(if b then c σ1 else d σ1)=r):dIf p c d σ=r:=B4 h h2
theorem C3(h:a σ=some (v,σ1)):B9 i a σ=some (.next,⟨σ1.loc.set i (some v),σ1.objs⟩):=B4 h rfl
theorem K0(h:a σ=some (v,σ1)):G5 a σ=some (.ret v,σ1):=B4 h rfl
theorem A0v(h:a σ=some (v,σ1))(hp:A5i v=true):Z5 a σ=some (.next,σ1):=B4 h (G4 hp rfl)
theorem B0{a b:DS}{r:Option (Fl×St)}(h:a σ=some (.next,σ1))(h2:b σ1=r):A9 a b σ=r:=B4 h h2
theorem U3{a b:DS}{v:V}(h:a σ=some (.ret v,σ1)):A9 a b σ=some (.ret v,σ1):=B4 h rfl
theorem H8{a c:DS}{b:Bool}{r:Option (Fl×St)}(h:p σ=some (b,σ1))(h2:(if b then a σ1 else c σ1)=r):H5 p a c σ=r:=B4 h h2
theorem B8:dNil σ=some ([],σ):=rfl
theorem A4{r:DL}{vs:List V}(h:a σ=some (v,σ1))(h2:r σ1=some (vs,σ2)):A2 a r σ=some (v::vs,σ2):=B4 h (B4 h2 rfl)
theorem J8{l:DL}{vs:List V}(h:l σ=some (vs,σ1))(hs:spec vs [] σ1.objs=some (z,objs')):F0 spec l σ=some (.t z,⟨σ1.loc,objs'⟩):=B4 h (B4 hs rfl)
theorem A0V{cA:Addr}{n:Str}{l kl:DL}{vs ks:List V}(ho:a σ=some (v,σ1))(hi:A0s cA n v=true)(hl:l σ1=some (vs,σ2))(hk:kl σ2=some (ks,σ3))(hs:spec (v::vs) (ns.zip ks) σ3.objs=some (z,objs')):
  E9 cA n spec a l ns kl σ=some (.t z,⟨σ3.loc,objs'⟩):=B4 ho (G4 hi (B4 hl (B4 hk (B4 hs rfl))))
theorem A4q{xs:List T}(h:a σ=some (.t (.tup xs),σ1))(hl:xs.length=is.length):A2A is a σ=some (.next,⟨t9 σ1.loc is (xs.map .t),σ1.objs⟩):=B4 h (B4 (x:=xs) rfl (G4 hl rfl))
theorem B4f{l:DL}{vs:List V}(h:l σ=some (vs,σ1))(hl:vs.length=is.length∧vs.length<1000):B0u is l σ=some (.next,⟨t9 σ1.loc is vs,σ1.objs⟩):=B4 h (G4 hl rfl)
theorem A3u{l:DL}{vs:List V}(h:l σ=some (vs,σ1))(hl:vs.length=is.length∧vs.length<1000):Z3 is l σ=some (.next,⟨t9 σ1.loc is vs.reverse,σ1.objs⟩):=B4 h (G4 hl rfl)
theorem I8{l:DL}{vs:List V}{xs:List T}(h:l σ=some (vs,σ1))(hn:vs.length<1000)(ht:toTs σ1 vs=some (xs,σ2)):E5 l σ=some (.t (.tup xs),σ2):=B4 h (G4 hn (B4 ht rfl))
theorem m5{l:DL}{vs:List V}{xs:List T}(h:l σ=some (vs,σ1))(hn:vs.length<1000)(ht:toTs σ1 vs=some (xs,σ2)):L2 l σ=some (.t (.lst xs),σ2):=B4 h (G4 hn (B4 ht rfl))
theorem A4s{l:DL}{vs:List V}{xs:List T}(h:l σ=some (vs,σ1))(hn:vs.length<1000)(ht:toTs σ1 vs=some (xs,σ2)):A58 l σ=some (.ref σ2.objs.length,⟨σ2.loc,σ2.objs++[.lst xs]⟩):=B4 h (G4 hn (B4 ht rfl))
theorem A7D{xs:List T}(h1:a σ=some (.ref j,σ1))(ho:objL σ1 (.ref j)=true)(h2:b σ1=some (u,σ2))(ht:toT σ2 u=some (z,σ3))(hl:Q9 σ3 j=some xs)(hn:xs.length<1000):A0a a b σ=some (.t .none,⟨σ3.loc,σ3.objs.set j (.lst (xs++[z]))⟩):=
 B4 h1 (G4 ho (B4 h2 (B4 ht (B4 (x:=j) rfl (B4 hl (G4 hn rfl))))))
theorem O4{itf:T→Option (List T)}{t:T→St→Option St}{b:DS}{xs:List T}(h1:a σ=some (v,σ1))(hv:view σ1 v=some x)(hi:itf x=some xs)(hf:M9 t b xs (lockV v σ1)=some (fl,σ2))(hu:L4 v σ1 σ2=some σ3):U6 itf a t b σ=some (fl,σ3):=
 B4 h1 (B4 hv (B4 hi (B4 hf (B4 hu rfl))))
theorem B4k{t:T→St→Option St}{b:DS}{xs:List T}(h1:a σ=some (v,σ1))(hv:view σ1 v=some x)(hi:B0I x=some xs)(hf:M9 t b xs.reverse (lockV v σ1)=some (fl,σ2))(hu:L4 v σ1 σ2=some σ3):B0w a t b σ=some (fl,σ3):=
 B4 h1 (B4 hv (B4 hi (B4 hf (B4 hu rfl))))
theorem B5z{xs:List T}(h1:a σ=some (.ref j,σ1))(ho:objL σ1 (.ref j)=true)(hl:Q9 σ1 j=some xs)(hn:xs.length<1000):B4r a σ=some (.t .none,⟨σ1.loc,σ1.objs.set j (.lst xs.reverse)⟩):=
 B4 h1 (G4 ho (B4 (x:=j) rfl (B4 hl (G4 hn rfl))))
theorem A54{mk:List V→List (Str×V)→Option (List (Option V))}{kw:List (Str×V)}{loc:List (Option V)}(hm:mk us kw=some loc)(hd:dd ⟨loc,objs⟩=some (fl,σ1))(hr:A2i fl σ1=some (z,σ2)):C7 mk dd us kw objs=some (z,σ2.objs.take objs.length):=
 B4 hm (B4 hd (B4 hr rfl))
theorem S7{mk:List V→List (Str×V)→Option (List (Option V))}{kw:List (Str×V)}{loc:List (Option V)}(hm:mk us kw=some loc)(hd:dd ⟨loc,objs⟩=some (fl,σ1))(hr:A2i fl σ1=some (z,σ2))(ho:σ2.objs.take objs.length=objs'):C7 mk dd us kw objs=some (z,objs'):=
 B4 hm (B4 hd (B4 hr (by rw[ho])))
end
noncomputable def A9r(x:Addr)(us:List V):Option (List (Option V)):=if us.isEmpty then some [some (.t (.cst (.ref x))),some (.t .none),none,none] else none
theorem A9q{x:Addr}{loc:List (Option V)}(e:A9r x us=some loc):us=[]∧loc=[some (.t (.cst (.ref x))),some (.t .none),none,none]:=iN e fun h e=>⟨List.isEmpty_iff.mp h,(Option.some.inj e).symm⟩
noncomputable def A9p(x:Addr)(us:List V):Option (List (Option V)):=if us.length=1 then some (some (.t (.cst (.ref x)))::us.map some) else none
theorem A9o{x:Addr}{loc:List (Option V)}(e:A9p x us=some loc):∃ u,us=[u]∧loc=[some (.t (.cst (.ref x))),some u]:=by
 refine iN e fun h e => ?_
 obtain⟨u,rfl⟩:=A5r h;exact s1 e ⟨u,rfl,rfl⟩
noncomputable def ini_H(us:List V)(objs:List AO):Option (V×List AO):=if us.isEmpty then some (.ref objs.length,objs++[.lst []]) else none
noncomputable def ini_T(us:List V)(objs:List AO):Option (V×List AO):=if us.length=1 then (us[0]?).bind fun u=>(vOf U7 u).bind fun xs=>some (.t (.lst xs),objs) else none
noncomputable def A3A:DS:=(A9 (B9 1 (dIf (C1 (d2 fIsNot (A0 1) (dT .none))) (A0 1) (A58 dNil))) (A9 (H5 (C1 (d2 fIsNot (d1 fType (A0 1)) (dT (.cst (.type "list"))))) dNoS dSkip) dSkip))
noncomputable def A5M:D:=(A0 1)
noncomputable def A28:DS:=(H5 (C1 (dT (.bool true))) (U6 itT (A0 1) (tT [2,3]) dNoS) dSkip)
noncomputable def A29:DS:=dSkip
noncomputable def A5L:D:=(A0 1)
noncomputable def A27:DS:=dSkip
theorem B4V:∀ x us objs w objs',ini_H us objs=some (w,objs')→∃ loc σ1 σ2 σ3,A9r x us=some loc∧A3A ⟨loc,objs⟩=some (.next,σ1)∧A5M σ1=some (w,σ2)∧σ2.loc[0]?=some (some (.t (.cst (.ref x))))∧A28 σ2=some (.next,σ3)∧σ3.objs=objs'∧objs.length≤objs'.length:=by
 intro x us objs w objs' e
 refine iN e fun h e => ?_
 cases List.isEmpty_iff.mp h
 have h0:(objs++[AO.lst []])[objs.length]?=some (.lst []):=by rw[List.getElem?_append_right (Nat.le_refl _),Nat.sub_self];rfl
 have hv:view ⟨[some (.t (.cst (.ref x))),some (.ref objs.length),none,none],objs++[.lst []]⟩ (.ref objs.length)=some (.lst []):=by
  show ((objs++[AO.lst []])[objs.length]?).bind aoT=_
  rw[h0];rfl
 have hs:(objs++[AO.lst []]).set objs.length .gone=objs++[.gone]:=by rw[List.set_append_right _ _ (Nat.le_refl _),Nat.sub_self];rfl
 refine s2 e ⟨_,⟨[some (.t (.cst (.ref x))),some (.ref objs.length),none,none],objs++[.lst []]⟩,⟨[some (.t (.cst (.ref x))),some (.ref objs.length),none,none],objs++[.lst []]⟩,⟨[some (.t (.cst (.ref x))),some (.ref objs.length),none,none],objs++[.lst []]⟩,rfl,?_,rfl,rfl,?_,rfl,by rw[List.length_append];exact Nat.le_add_right _ _⟩
 ·have hn:fIsNot (.cst (.type "list")) (.cst (.type "list"))=some (.bool false):=by
   show ((some (T.bool ("list" == "list"))).bind B3R)=_
   rw[beq_self_eq_true];rfl
  exact B0 (C3 (A4t (I2 (C5 rfl rfl rfl rfl rfl) rfl rfl) (A4s B8 (by decide) rfl))) (B0 (H8 (I2 (C5 (U4 rfl hv rfl) rfl rfl rfl hn) rfl rfl) rfl) rfl)
 ·refine H8 (I2 rfl rfl rfl) (O4 rfl hv rfl rfl ?_)
  show ((objs++[AO.lst []])[objs.length]?).bind (fun o=>(((objs++[AO.lst []]).set objs.length .gone)[objs.length]?).bind fun o'=>(B1G o').bind fun _=>some (⟨[some (.t (.cst (.ref x))),some (.ref objs.length),none,none],((objs++[AO.lst []]).set objs.length .gone).set objs.length o⟩:St))=_
  rw[h0,hs,List.getElem?_append_right (Nat.le_refl _),Nat.sub_self]
  show some (⟨_,(objs++[AO.gone]).set objs.length (.lst [])⟩:St)=_
  rw[List.set_append_right _ _ (Nat.le_refl _),Nat.sub_self];rfl
theorem B4U:∀ x us objs w objs',ini_T us objs=some (w,objs')→∃ loc σ1 σ2 σ3,A9p x us=some loc∧A29 ⟨loc,objs⟩=some (.next,σ1)∧A5L σ1=some (w,σ2)∧σ2.loc[0]?=some (some (.t (.cst (.ref x))))∧A27 σ2=some (.next,σ3)∧σ3.objs=objs'∧objs.length≤objs'.length:=by
 intro x us objs w objs' e
 refine iN e fun h e => ?_
 obtain⟨u,rfl⟩:=A5r h
 refine b1 e fun _ e1 e => ?_
 cases e1
 refine b1 e fun xs e1 e => ?_
 cases U1 G1 e1
 exact s2 e ⟨_,_,_,_,rfl,rfl,rfl,rfl,rfl,rfl,Nat.le_refl _⟩
theorem A2p(B:Base C)(X:(hd.heap_1 P).In C.hb)(hlo:0<C.lo):A0h C (k+1) 171 63 (Str.ofString "_headers") ini_H:=by
 refine A61 B X B03 (xs:=[Str.ofString "self", Str.ofString "headers", Str.ofString "k", Str.ofString "v"]) (mk:=A9r) (d1:=A3A) (d2:=A28) (a:=A5M) (pre:=[_,_]) (by rfl) rfl rfl (by decide) (by rfl) ?_ (fun L=>(bl rfl rfl rfl rfl rfl)) (fun L=>(A2f (B7 (bl rfl rfl rfl rfl rfl) (Q5 (D2 B (A1 (bl rfl rfl rfl rfl rfl)) j5 A3S rfl) (A1 (bl rfl rfl rfl rfl rfl)) (Q4 B1)) rfl) (A2f (J2 (D2 B (H1 B (bn B X rfl rfl rfl rfl rfl rfl (by decide) rfl (.t _)) (A1 (bl rfl rfl rfl rfl rfl)) A9T rfl) (Y3 B rfl rfl rfl rfl (mg_none_of X B.g rfl) rfl (by decide) (fun _=>rfl) rfl) A3S rfl) A0j H0) A4D))) (fun L=>(A1 (bl rfl rfl rfl rfl rfl))) (fun L=>(B5 (J2 (Q1 B N8 rfl) (B5 (u4 B (A1 (bl rfl rfl rfl rfl rfl)) rfl (.cons (C0 (bl rfl rfl rfl rfl rfl)) (.cons (C0 (bl rfl rfl rfl rfl rfl)) .nil)) rfl rfl A0j (fun _=>rfl))) H0))) (fun _=>rfl) B4V rfl rfl rfl
 intro x us loc e g vs s XX hv
 obtain⟨rfl,rfl⟩:=A9q e
 cases (show _=_ from hv)
 exact⟨_,kp_binds XX (fun _=>rfl),rfl,_,_,rfl,⟨_,rfl,rfl⟩,_,_,rfl,⟨_,rfl,rfl⟩,_,_,rfl,rfl,_,_,rfl,rfl,rfl⟩
theorem A70(B:Base C)(X:(hd.heap_1 P).In C.hb)(hlo:0<C.lo):A0h C (k+1) 263 253 (Str.ofString "comp_select_list") ini_T:=by
 refine A61 B X B3X (xs:=[Str.ofString "self", Str.ofString "comp_select_list"]) (mk:=A9p) (d1:=A29) (d2:=A27) (a:=A5L) (pre:=[]) (by rfl) rfl rfl (by decide) (by rfl) ?_ (fun L=>(bl rfl rfl rfl rfl rfl)) (fun L=>A4D) (fun L=>(A1 (bl rfl rfl rfl rfl rfl))) (fun L=>H0) (fun _=>rfl) B4U rfl rfl rfl
 intro x us loc e g vs s XX hv
 refine I7 (A9o e) fun u hR1 hR2 => ?_
 subst hR1
 subst hR2
 obtain⟨v,_,rfl,h,hn⟩:=hv
 cases (show _=_ from hn)
 exact⟨_,BindsTo.of_eq rfl,rfl,_,_,rfl,⟨_,rfl,rfl⟩,_,_,rfl,⟨_,rfl,h⟩,rfl⟩
end
section
structure A6J(C:Cx):Prop where
 one:∀ P pos q pos' q',C.tabs P pos q→C.tabs P pos' q'→pos=pos'∧q=q'
 gP:∀ P pos q,C.tabs P pos q→mainGlobals≠P
 ba:∀ P pos q,C.tabs P pos q→C.hb.BuiltinsAt C.mg P
section
variable{s:Shared}
theorem z9{P:Addr}(k:∀ a o,h.get? a=some o→h'.get? a=some o)(x:h.BuiltinsAt mg P):h'.BuiltinsAt mg P:=
 let ⟨bm,o,a,b,c,d,e,r⟩:=x;⟨bm,o,a,b,c,d,k _ _ e,r⟩
theorem Rel.setTab(U:A6J C)(R:Rel C ly g σ s){P:Addr}{q:Str}(hT:C.tabs P pos q){c:Addr}{oc:Obj}{vs:Array Value}(hx:Heap.ExtBut P s.heap h')(hP:h'.get? P=some (tabObj ps))(hc:s.heap.objs.size≤c)(hoc:h'.get? c=some oc)(hd:oc.data=.fields vs)(hq:vs[1]?=some (.str q t))(h1:TriplesOk ps.toList)(h2:codeAmong pos ps.toList=some (.ref c))(ht:s.toks≤tk:=by first | exact Nat.le_refl _ | exact Nat.le_succ _ | exact Nat.le_add_right _ _ | assumption | omega):
  g.le (g.put c (.frz oc))∧Rel C ly (g.put c (.frz oc)) σ { s with heap:=h',toks:=tk }:=by
 have hr:g.role c=none:=R.none_above hc
 have hb:C.hb.get? c=none:=D6 R.old (Heap.get?_none_of_le hc)
 have le:=m9 (g:=g) (r0:=.frz oc) hr
 have up:=A1d (g:=g) (r0:=.frz oc) hr
 have hrP:=(R.tab P pos q hT).1
 have ne:∀ {b:Addr} {r:Role},g.role b=some r→r≠.tab→b≠P:=fun {b r} e n h=>by subst h;rw[hrP] at e;cases e;exact n rfl
 have keep:∀ b o,b≠P→s.heap.get? b=some o→h'.get? b=some o:=fun b o n e=>hx b o n e
 refine⟨le,fun a o e=>keep a o (fun h=>by subst h;rw[(R.new _ _ hrP).1] at e;cases e) (R.old a o e),fun b r e => ?_,fun b x e => ?_,fun b x e => ?_,R.len,fun j l v hl hv => ?_,R.nodup,R.olen,fun j o2 hj hne => ?_,fun P' pos' q' h => ?_,R.os,R.gens,R.tk.1,Nat.le_trans R.tk.2 ht⟩
 ·rcases Q7 b r e with ⟨rfl,rfl⟩ | e
  ·exact⟨hb,oc,hoc⟩
  ·refine xAE (R.new b r e) fun n o ho => ?_
   refine⟨n,?_⟩
   by_cases q:b=P
   ·exact⟨_,q▸hP⟩
   ·exact⟨o,keep _ _ q ho⟩
 ·rcases Q7 b _ e with ⟨rfl,q⟩ | e
  ·cases q;exact hoc
  ·exact keep _ _ (ne e (by nofun)) (R.frz b x e)
 ·rcases Q7 b _ e with ⟨rfl,q⟩ | e
  ·cases q
  ·exact keep _ _ (ne e (by nofun)) (R.kept b x e)
 ·have:=R.slot j l v hl hv
  cases l with
  | fr L x=>
   refine N4 (this) fun h1 m h2 h3 => ?_
   exact⟨up _ _ h1,m,h2.extBut hx (ne h1 (by nofun)),D1 le _ _ h3⟩
  | cl c'=>
   obtain⟨h1,m,⟨o,h2,h4⟩,h3⟩:=this
   exact⟨up _ _ h1,m,⟨o,keep _ _ (ne h1 (by nofun)) h2,h4⟩,D1 le _ _ h3⟩
 ·refine F1 (R.own j o2 hj hne) fun b x h1 h2 h3 h4 => ?_
  exact⟨b,x,h1,up _ _ h2,keep _ _ (ne h2 (by nofun)) h3,G8 le _ _ h4⟩
 ·by_cases hPP:P'=P
  ·subst hPP
   obtain⟨rfl,rfl⟩:=U.one _ _ _ _ _ hT h
   exact⟨up _ _ hrP,ps,hP,h1,.inr ⟨c,oc,vs,t,h2,.inr (by simp [G.put]),hd,hq⟩⟩
  ·refine N4 (R.tab P' pos' q' h) fun h1 ps' h2 h3 => ?_
   exact⟨up _ _ h1,ps',keep _ _ hPP h2,J4 le h3⟩
theorem W0{a:Addr}{r:Role}:(g.put a r).role a=some r:=if_pos rfl
noncomputable def Made(C:Cx)(g:G)(f:Addr)(fd:FuncData):Prop:=
 ∃ c oc vs t,g.role f=some (.frz { cls:=.type "function", data:=.func fd })∧fd.code=.ref c∧g.fz C c oc∧oc.data=.fields vs∧vs[1]?=some (.str fd.qualname t)
theorem Made.code{f:Addr}(R:Rel C ly g σ s)(x:Made C g f fd):s.heap.CodeRec fd.code fd.qualname:=
 let ⟨c,oc,vs,t,h1,h2,h3,h4,h5⟩:=x;⟨c,oc,vs,t,h2,R.fz h3,h4,h5⟩
theorem X8{l:List Value}{a b:Int}{u:Tok}{c:Value}(h:TriplesOk l):TriplesOk (l++[.int a t,.int b u,c]):=by
 fun_induction TriplesOk l with
 | case1=>exact True.intro
 | case2 _ _ _ _ _ r ih=>exact ih h
 | case3=>exact absurd h (by simp)
theorem B18(B:Base C)(U:A6J C)(R:Rel C ly g σ s){P c:Addr}{name:Str}{body:Expr}{firstLine:Nat}{clos:List (Str×Addr)}(hT:C.tabs P pos qual)(hC:CodeHd C.hb c P)(hcl:closureFor scope env=pure clos)(hg:env.globals=mainGlobals)(hcode:env.code=.ref c)(q:∀ f fd g' s',fd.name=name→fd.qualname=qual→fd.params=params→fd.body=.expr body→fd.scope=scope→fd.globals=mainGlobals→fd.closure=clos→fd.builtins=builtinsNs→fd.defaults=.none→fd.kwdefaults=.none→g.le g'→Rel C ly g' σ s'→Made C g' f fd→Q (.ref f) s'):
  wpAny (Md C) A (makeFunction name qual params (.expr body) scope env [] [] [] pos firstLine) Q E s:=by
 refine A6Q (R.tab P pos qual hT) fun hrP ps hP h1 h2 => ?_
 have hba:=z9 R.old (U.ba _ _ _ hT)
 refine wpAny_with_toks (Nat.le_refl s.toks) ?_
 rcases h2 with h2 | ⟨c',o,vs,t,h2,hz,hd,hq⟩
 ·refine kla_makeFunction hcl hg (B.g.keeps R.old) hcode (hC.keeps R.old) hP h1 h2 (U.gP _ _ _ hT) hba fun c' ctv h' tk hx hge hlt hrec hP' htk => ?_
  refine q7 (hrec) fun c2 oc vs t e2 hoc hd hq => ?_
  (first | refine s2 e2 ?_ | refine s1 e2 ?_ | cases e2)
  obtain⟨le,R1⟩:=R.setTab U hT (h':=h') (tk:=tk) hx hP' hge hoc hd hq (by simp only[Array.toList_append];exact X8 h1) (by simp only[Array.toList_append];exact codeAmong_snoc _ h1 h2) htk
  have R2:=R1.grow (Grow.push_ (o:=kla_obj name qual params body scope clos ((C.mg "__name__").getD .none) c' ctv) (t:=tk))
  obtain⟨l3,R3⟩:=R2.name (a:=h'.objs.size) (D6 R1.old B3) (R1.none_above (Nat.le_refl _)) (Heap.get?_push_size _ rfl)
  exact q _ _ _ _ rfl rfl rfl rfl rfl rfl rfl rfl rfl rfl (le.trans l3) R3 ⟨c',oc,vs,t,W0,rfl,l3.v.fz (.inr (by simp [G.put])),hd,hq⟩
 ·refine kla_makeFunctionHit hcl hg (B.g.keeps R.old) hcode (hC.keeps R.old) hP h1 h2 hba fun ctv h' tk hk hsz htk => ?_
  have R1:=R.grow (Grow.heap_ (g:=g) (h':=h') (t:=tk) hk htk)
  have R2:=R1.grow (Grow.push_ (o:=kla_obj name qual params body scope clos ((C.mg "__name__").getD .none) c' ctv) (t:=tk))
  obtain⟨l3,R3⟩:=R2.name (a:=h'.objs.size) (D6 R1.old B3) (R1.none_above (Nat.le_refl _)) (Heap.get?_push_size _ rfl)
  exact q _ _ _ _ rfl rfl rfl rfl rfl rfl rfl rfl rfl rfl l3 R3 ⟨c',o,vs,t,W0,rfl,l3.v.fz hz,hd,hq⟩
theorem A9v(B:Base C)(U:A6J C)(R:Rel C ly g σ s){P c:Addr}{name:Str}{firstLine:Nat}{clos:List (Str×Addr)}(hT:C.tabs P pos qual)(hC:CodeHd C.hb c P)(hcl:closureFor scope env=pure clos)(hg:env.globals=mainGlobals)(hcode:env.code=.ref c)(q:∀ f fd g' s',fd.name=name→fd.qualname=qual→fd.params=params→fd.body=.stmts body→fd.scope=scope→fd.globals=mainGlobals→fd.closure=clos→fd.builtins=builtinsNs→fd.defaults=.none→fd.kwdefaults=.none→g.le g'→Rel C ly g' σ s'→Made C g' f fd→Q (.ref f) s'):
  wpAny (Md C) A (makeFunction name qual params (.stmts body) scope env [] [] [] pos firstLine) Q E s:=by
 refine A6Q (R.tab P pos qual hT) fun hrP ps hP h1 h2 => ?_
 have hba:=z9 R.old (U.ba _ _ _ hT)
 refine wpAny_with_toks (Nat.le_refl s.toks) ?_
 rcases h2 with h2 | ⟨c',o,vs,t,h2,hz,hd,hq⟩
 ·refine makeFunction_K hcl hg (B.g.keeps R.old) hcode (hC.keeps R.old) hP h1 h2 (U.gP _ _ _ hT) hba fun c' ctv doc h' tk hx hge hlt hrec hP' htk => ?_
  refine q7 (hrec) fun c2 oc vs t e2 hoc hd hq => ?_
  (first | refine s2 e2 ?_ | refine s1 e2 ?_ | cases e2)
  obtain⟨le,R1⟩:=R.setTab U hT (h':=h') (tk:=tk) hx hP' hge hoc hd hq (by simp only[Array.toList_append];exact X8 h1) (by simp only[Array.toList_append];exact codeAmong_snoc _ h1 h2) htk
  have R2:=R1.grow (Grow.push_ (o:=fnMade name qual params body scope clos doc ((C.mg "__name__").getD .none) c' ctv) (t:=tk))
  obtain⟨l3,R3⟩:=R2.name (a:=h'.objs.size) (D6 R1.old B3) (R1.none_above (Nat.le_refl _)) (Heap.get?_push_size _ rfl)
  exact q _ _ _ _ rfl rfl rfl rfl rfl rfl rfl rfl rfl rfl (le.trans l3) R3 ⟨c',oc,vs,t,W0,rfl,l3.v.fz (.inr (by simp [G.put])),hd,hq⟩
 ·refine makeFunction_hit hcl hg (B.g.keeps R.old) hcode (hC.keeps R.old) hP h1 h2 hba fun ctv doc h' tk hk hsz htk => ?_
  have R1:=R.grow (Grow.heap_ (g:=g) (h':=h') (t:=tk) hk htk)
  have R2:=R1.grow (Grow.push_ (o:=fnMade name qual params body scope clos doc ((C.mg "__name__").getD .none) c' ctv) (t:=tk))
  obtain⟨l3,R3⟩:=R2.name (a:=h'.objs.size) (D6 R1.old B3) (R1.none_above (Nat.le_refl _)) (Heap.get?_push_size _ rfl)
  exact q _ _ _ _ rfl rfl rfl rfl rfl rfl rfl rfl rfl rfl l3 R3 ⟨c',o,vs,t,W0,rfl,l3.v.fz hz,hd,hq⟩
end
end
section
section
variable{s s1:Shared}
noncomputable def G.lay(g:G)(ls:List Loc):G:=⟨g.own,fun a=>match ls.find? (fun l=>l.addr==a) with | some l=>some l.rl | none=>g.role a,g.tk⟩
theorem Rel.lay(R:Rel C ly g σ s){vals:List (Option V)}(hk:∀ b o,s.heap.get? b=some o→h'.get? b=some o)(hlen:vals.length=ls.length)(hnd:ls.Nodup)(hl:∀ (i:Nat) l v,ls[i]?=some l→vals[i]?=some v→Laid C g s h' l v)(ht:s.toks≤tk:=by first | exact Nat.le_refl _ | exact Nat.le_succ _ | exact Nat.le_add_right _ _ | assumption | lia):
  g.le (g.lay ls)∧Rel C (ly++ls) (g.lay ls) ⟨σ.loc++vals,σ.objs⟩ { s with heap:=h',toks:=tk }∧(∀ l∈ls,g.role l.addr=none):=by
 have new:∀ l∈ls,s.heap.get? l.addr=none:=fun l hm=>by
  obtain⟨i,hi⟩:=List.getElem?_of_mem hm
  have hlt:=(List.getElem?_eq_some_iff.mp hi).1
  exact(hl i l _ hi (List.getElem?_eq_getElem (by rw[hlen];exact hlt))).1
 have newr:∀ l∈ls,g.role l.addr=none:=fun l hm=>by
  cases q:g.role l.addr with
  | none=>rfl
  | some r=>obtain⟨_,o,ho⟩:=R.new _ r q;rw[new l hm] at ho;cases ho
 have nf:∀ a r,g.role a=some r→ls.find? (fun l=>l.addr==a)=none:=fun a r e=>by
  rw[List.find?_eq_none]
  intro l hm q
  have q:l.addr=a:=by simpa using q
  subst q
  rw[newr l hm] at e;(first | refine s2 e ?_ | refine s1 e ?_ | cases e)
 have up:∀ a r,g.role a=some r→(g.lay ls).role a=some r:=fun a r e=>by simp only[G.lay,nf a r e,e]
 have dn:∀ a r,(g.lay ls).role a=some r→(∃ l∈ls,l.addr=a∧r=l.rl)∨g.role a=some r:=fun a r e=>by
  simp only[G.lay] at e
  cases q:ls.find? (fun l=>l.addr==a) with
  | some l=>rw[q] at e;(first | refine s2 e ?_ | refine s1 e ?_ | cases e);exact .inl ⟨l,List.mem_of_find?_eq_some q,by have:=List.find?_some q;simpa using this,rfl⟩
  | none=>rw[q] at e;exact .inr e
 have slotr:∀ (i:Nat) l,ls[i]?=some l→(g.lay ls).role l.addr=some l.rl:=fun i l hi=>by
  have hm:=List.mem_of_getElem? hi
  cases q:ls.find? (fun l'=>l'.addr==l.addr) with
  | none=>
   rw[List.find?_eq_none] at q
   exact absurd (by simp) (q l hm)
  | some l'=>
   simp only[G.lay,q]
   have e:l'.addr=l.addr:=by have:=List.find?_some q;simpa using this
   obtain⟨j,hj⟩:=List.getElem?_of_mem (List.mem_of_find?_eq_some q)
   have h1:=hl j l' _ hj (List.getElem?_eq_getElem (by rw[hlen];exact(List.getElem?_eq_some_iff.mp hj).1))
   have h2:=hl i l _ hi (List.getElem?_eq_getElem (by rw[hlen];exact(List.getElem?_eq_some_iff.mp hi).1))
   rw[h1.rl h2 e]
 have le:g.le (g.lay ls):=⟨⟨[],by simp [G.lay]⟩,fun a o e=>up _ _ e,fun a o e=>up _ _ e,Nat.le_refl _⟩
 refine⟨le,⟨fun a o e=>hk a o (R.old a o e),fun a r e => ?_,fun a o e => ?_,fun a o e => ?_,?_,fun i l v hi hv => ?_,?_,R.olen,fun j o hj hne => ?_,fun P pos q h => ?_,R.os,R.gens,R.tk.1,Nat.le_trans R.tk.2 ht⟩,newr⟩
 ·rcases dn a r e with ⟨l,hm,rfl,rfl⟩ | h
  ·refine⟨D6 R.old (new l hm),?_⟩
   obtain⟨i,hi⟩:=List.getElem?_of_mem hm
   have h1:=(hl i l _ hi (List.getElem?_eq_getElem (by rw[hlen];exact(List.getElem?_eq_some_iff.mp hi).1))).2
   cases l with
   | fr L x=>obtain⟨m,⟨o,_,_,h,_⟩,_⟩:=h1;exact⟨o,h⟩
   | cl c=>obtain⟨m,⟨o,h,_⟩,_⟩:=h1;exact⟨o,h⟩
  ·refine xAE (R.new a r h) fun h1 o h2 => ?_
   exact⟨h1,o,hk _ _ h2⟩
 ·rcases dn a _ e with ⟨l,hm,_,q⟩ | h
  ·cases l <;> cases q
  ·exact hk _ _ (R.frz a o h)
 ·rcases dn a _ e with ⟨l,hm,_,q⟩ | h
  ·cases l <;> cases q
  ·exact hk _ _ (R.kept a o h)
 ·show (σ.loc++vals).length=_
  rw[List.length_append,List.length_append,R.len,hlen]
 ·have hv:(σ.loc++vals)[i]?=some v:=hv
  by_cases q:i<ly.length
  ·rw[List.getElem?_append_left q] at hi
   rw[List.getElem?_append_left (by rw[R.len];exact q)] at hv
   have:=R.slot i l v hi hv
   cases l with
   | fr L x=>obtain⟨h1,m,h2,h3⟩:=this;exact⟨up _ _ h1,m,h2.keeps hk,D1 le _ _ h3⟩
   | cl c=>obtain⟨h1,m,h2,h3⟩:=this;exact⟨up _ _ h1,m,h2.keeps hk,D1 le _ _ h3⟩
  ·rw[List.getElem?_append_right (by lia)] at hi
   rw[List.getElem?_append_right (by rw[R.len];lia),R.len] at hv
   have h1:=hl _ l v hi hv
   cases l with
   | fr L x=>obtain⟨_,m,h2,h3⟩:=h1;exact⟨slotr _ _ hi,m,h2,D1 le _ _ h3⟩
   | cl c=>obtain⟨_,m,h2,h3⟩:=h1;exact⟨slotr _ _ hi,m,h2,D1 le _ _ h3⟩
 ·rw[List.nodup_append]
  refine⟨R.nodup,hnd,fun x hx y hy => ?_⟩
  rintro rfl
  obtain⟨j,hj⟩:=List.getElem?_of_mem hx
  have:=R.loc hj
  rw[newr _ hy] at this
  cases this
 ·refine F1 (R.own j o hj hne) fun a ob h1 h2 h3 h4 => ?_
  exact⟨a,ob,h1,up _ _ h2,hk _ _ h3,G8 le _ _ h4⟩
 ·refine N4 (R.tab P pos q h) fun h1 ps h2 h3 => ?_
  exact⟨up _ _ h1,ps,hk _ _ h2,J4 le h3⟩
theorem Rel.unlay(R:Rel C ly g σ s)(hn:∀ l∈ls,g.role l.addr=none)(R1:Rel C (ly++ls) g1 σ1 s1)(l1:(g.lay ls).le g1)(l0:g.le (g.lay ls)):
  g.le (g1.drop (ls.map Loc.addr))∧g1.lev (g1.drop (ls.map Loc.addr))∧Rel C ly (g1.drop (ls.map Loc.addr)) ⟨σ1.loc.take ly.length,σ1.objs⟩ s1:=by
 have ht:∀ a∈ls.map Loc.addr,∀ r,g1.role a=some r→A5N r:=fun a hm r e=>by
  refine I7 (List.mem_map.mp hm) fun l hl hR2 => ?_
  subst hR2
  have:g1.role l.addr=some l.rl:=by
   obtain⟨i,hi⟩:=List.getElem?_of_mem (List.mem_append_right ly hl)
   exact R1.loc hi
  rw[this] at e;(first | refine s2 e ?_ | refine s1 e ?_ | cases e)
  cases l <;> trivial
 refine⟨A7E (fun a hm => ?_) (l0.trans l1),A17 ht,R1.drop ht fun l hl hm => ?_⟩
 ·obtain⟨l,hl,rfl⟩:=List.mem_map.mp hm;exact hn l hl
 ·refine I7 (List.mem_map.mp hm) fun l' hl' e => ?_
  have h1:=hn l' hl'
  rw[e] at h1
  obtain⟨i,hi⟩:=List.getElem?_of_mem hl
  rw[R.loc hi] at h1;cases h1
end
end
section
section
variable{M:Model}{s:Shared}
theorem A8V{globals:Addr}{closure:List (Str×Addr)}{x:Str}{v:Value}{qual:Str}{func:Option Addr}{code:Value}{builtins:Addr}{Q:Env→Shared→Prop}(hk:scope.kind=.function)(hc:cellsFrom (s.heap.objs.size+1) scope.names closure=(x,s.heap.objs.size+1)::closure)(hp:∀ h:Heap,pushCells h scope.names=h.push { cls:=.type "cell", data:=.cell none })(hl:scope.names.lookup x=some .cell)(hQ:∀ h' tk,s.toks≤tk→(∀ b o,s.heap.get? b=some o→h'.get? b=some o)→h'.IsCell (s.heap.objs.size+1) (some v)→(∀ L,L=s.heap.objs.size→h'.Ns L fun _=>none)→
   Q (newEnv scope s.heap.objs.size globals ((x,s.heap.objs.size+1)::closure) qual func code none builtins) { s with heap:=h',toks:=tk }):
  wpAny M A (newFunctionEnv scope globals closure [(x,v)] qual func code none builtins) Q E s:=by
 simp only[newFunctionEnv,Option.isSome_none,Bool.false_eq_true,if_false]
 refine wpAny_bind (wpAny_alloc ?_)
 refine wpAny_bind (wpAny_layCells _ (fun name kind cells=>by cases hkc:kind==NameKind.cell <;> simp [hkc]) _ _ _ _ ?_)
 rw[show ({ s with heap:=s.heap.push { cls:=.type "frame", data:=.dict #[] } }:Shared).heap.objs.size=s.heap.objs.size+1 from Heap.size_push ..,hc,hp]
 rw[List.forIn_cons]
 have hcell:((s.heap.push { cls:=.type "frame", data:=.dict #[] }).push { cls:=.type "cell", data:=.cell none }).IsCell (s.heap.objs.size+1) none:=⟨_,by
  have:(s.heap.push { cls:=.type "frame", data:=.dict #[] }).objs.size=s.heap.objs.size+1:=Heap.size_push ..
  rw[← this];exact Heap.get?_push_size _ rfl,rfl⟩
 have hns:((s.heap.push { cls:=.type "frame", data:=.dict #[] }).push { cls:=.type "cell", data:=.cell none }).Ns s.heap.objs.size fun _=>none:=(Heap.Ns.new s.heap (.type "frame")).push _
 refine wpAny_bind (wpAny_bind (wpAny_bind (wpAny_storeName_cell (env:=newEnv scope s.heap.objs.size globals ((x,s.heap.objs.size+1)::closure) qual func code none builtins) hk hl (by simp [newEnv]) hcell fun h' hc' hs' => ?_)))
 refine wpAny_pure ?_
 show wpAny M A (forIn [] PUnit.unit _) _ E _
 rw[List.forIn_nil]
 refine wpAny_pure (wpAny_pure (hQ _ _ (Nat.le_refl _) (fun b o e => ?_) hc' fun L e => ?_))
 ·exact(hs'.2 b (Nat.ne_of_lt (Nat.lt_succ_of_lt (Heap.lt_size e)))).trans (Heap.get?_push_of_some _ (Heap.get?_push_of_some _ e))
 ·subst e
  exact hns.sameBut hs' (Nat.ne_of_lt (Nat.lt_succ_self _))
end
section
variable{s:Shared}
theorem A9h(B:Base C)(R:Rel C ly g σ s):s.heap.NoLimit:=B.nolimit.keeps R.old
theorem Made.monov(l:g.lev g'){f:Addr}(x:Made C g f fd):Made C g' f fd:=
 let ⟨c,oc,vs,t,h1,h2,h3,h4,h5⟩:=x;⟨c,oc,vs,t,l.frz _ _ h1,h2,l.fz h3,h4,h5⟩
noncomputable def A0z(C:Cx)(k:Nat)(ly:List Loc)(g:G)(f:Addr)(d:D):Prop:=
 ∀ A,Room k A→∀ g1 σ s x v z σ2,g.lev g1→Rel C ly g1 σ s→RelT C g1 x v→d ⟨σ.loc++[some (.t x)],σ.objs⟩=some (.t z,σ2)→
  wpAny (Md C) A (call (.ref f) [v]) (fun r s'=>∃ g2,g1.le g2∧Rel C ly g2 ⟨σ2.loc.take ly.length,σ2.objs⟩ s'∧RelT C g2 z r) X4 s
theorem A4Z{body:Expr}{d:D}{R':Result→Shared→Prop}(hA:Room (k+1) A)(R:Rel C ly g σ s){vals:List (Option V)}(hk:∀ b o,s.heap.get? b=some o→h'.get? b=some o)(hlen:vals.length=ls.length)(hnd:ls.Nodup)(hl:∀ (i:Nat) l v,ls[i]?=some l→vals[i]?=some v→Laid C g s h' l v)(ht:s.toks≤tk)(hd:SE C k env (ly++ls) body d)(e:d ⟨σ.loc++vals,σ.objs⟩=some (.t z,σ2))(q:∀ g2 s' r,g.le g2→Rel C ly g2 ⟨σ2.loc.take ly.length,σ2.objs⟩ s'→RelT C g2 z r→R' (.ok (.ret r)) s'):codeAny (Md C) A (.expr body env) R' { s with heap:=h',toks:=tk }:=by
 refine xAA (R.lay hk hlen hnd hl ht) fun l0 R1 hn => ?_
 refine kla_codeExpr (hd.use hA.deeper R1 e fun g2 r s2 l2 R2 V2 => ?_)
 refine xAA (R.unlay hn R2 l2 l0) fun l3 lv R3 => ?_
 exact q _ _ _ l3 R3 (H3 lv _ _ V2)
theorem B5p(B:Base C){f:Addr}{x:Str}{body:Expr}{d:D}(M:Made C g f fd)(hb:fd.body=.expr body)(hbind:∀ v,bindArgs fd ⟨[v],[]⟩=pure [(x,v)])(h1:fd.scope.isCoroutine=false)(h2:fd.scope.isGenerator=false)(h3:fd.scope.kind=.function)(hc:∀ y∈fd.scope.names,y.2≠.cell)(hx:fd.scope.names.lookup x=some .local)(hd:∀ L,SE C k (newEnv fd.scope L fd.globals fd.closure (fd.qualname ++ ".<locals>.") (some f) fd.code none fd.builtins) (ly++[.fr L x]) body d):A0z C (k+1) ly g f d:=fun A hA g1 σ s y v z σ2 l1 R hv e=>by
 have M1:=M.monov l1
 refine A1M (id M1) fun _ _ _ _ hr _ => ?_
 refine wpAny_call (kla_callFunE hA.rl (R.frz _ _ hr) rfl h1 h2 hb (M1.code R) ?_)
 rw[hbind]
 refine wpAny_pure (wpAny_newFunctionEnv hc (fun y hy => ?_) (fun h' hns hsb=>⟨?_,?_⟩) h3)
 ·rw[List.mem_singleton] at hy;subst hy;exact hx
 ·exact(A9h B R).fresh _ hsb
 have hk:∀ b o,s.heap.get? b=some o→h'.get? b=some o:=fun b o e=>hsb.extBut b o (Nat.ne_of_lt (Heap.lt_size e)) (Heap.get?_push_of_some _ e)
 refine A4Z hA R (ls:=[.fr s.heap.objs.size x]) (vals:=[some (.t y)]) (tk:=s.toks+1) hk rfl (by simp) (fun i l w hl hw => ?_) (Nat.le_succ _) (hd _) e fun g2 s' r l2 R2 V2=>⟨g2,l2,R2,V2⟩
 match i,hl,hw with
 | 0,hl,hw=>
  cases hl;cases hw
  exact⟨B3,_,hns,v,by simp,hv⟩
 | i+1,hl,hw=>simp at hl
theorem B5q(B:Base C){f:Addr}{x:Str}{body:Expr}{d:D}(M:Made C g f fd)(hb:fd.body=.expr body)(hbind:∀ v,bindArgs fd ⟨[v],[]⟩=pure [(x,v)])(h1:fd.scope.isCoroutine=false)(h2:fd.scope.isGenerator=false)(h3:fd.scope.kind=.function)(hc:∀ n,cellsFrom (n+1) fd.scope.names fd.closure=(x,n+1)::fd.closure)(hp:∀ h:Heap,pushCells h fd.scope.names=h.push { cls:=.type "cell", data:=.cell none })(hx:fd.scope.names.lookup x=some .cell)(hd:∀ L,SE C k (newEnv fd.scope L fd.globals ((x,L+1)::fd.closure) (fd.qualname ++ ".<locals>.") (some f) fd.code none fd.builtins) (ly++[.cl (L+1)]) body d):A0z C (k+1) ly g f d:=fun A hA g1 σ s y v z σ2 l1 R hv e=>by
 have M1:=M.monov l1
 refine A1M (id M1) fun _ _ _ _ hr _ => ?_
 refine wpAny_call (kla_callFunE hA.rl (R.frz _ _ hr) rfl h1 h2 hb (M1.code R) ?_)
 rw[hbind]
 refine wpAny_pure (A8V h3 (hc _) hp hx fun h' tk ht hk hcell _=>⟨(A9h B R).keeps hk,?_⟩)
 refine A4Z hA R (ls:=[.cl (s.heap.objs.size+1)]) (vals:=[some (.t y)]) (tk:=tk) hk rfl (by simp) (fun i l w hl hw => ?_) ht (hd _) e fun g2 s' r l2 R2 V2=>⟨g2,l2,R2,V2⟩
 match i,hl,hw with
 | 0,hl,hw=>
  cases hl;cases hw
  exact⟨Heap.get?_none_of_le (Nat.le_succ _),_,hcell,v,rfl,hv⟩
 | i+1,hl,hw=>simp at hl
end
end
section
noncomputable def I3{α:Type}(lt:Nat→Nat→Bool):KasT α→α
 | .ret a=>a
 | .ask i j k=>I3 lt (k (lt i j))
theorem X3{α β:Type}{lt:Nat→Nat→Bool}{f:α→KasT β}(t:KasT α):I3 lt (t.bind f)=I3 lt (f (I3 lt t)):=by
 induction t with
 | ret a=>rfl
 | ask i j k ih=>exact ih (lt i j)
structure Tot(n:Nat)(lt:Nat→Nat→Bool):Prop where
 trans:∀ i j k,lt i j=true→lt j k=true→lt i k=true
 tot:∀ i j,i<n→j<n→i≠j→lt i j=true∨lt j i=true
noncomputable def Pm(n:Nat)(p:Array Nat):Prop:=p.toList.Perm (List.range n)
section
variable{n:Nat}{lt:Nat→Nat→Bool}
theorem Pm.size{p:Array Nat}(P:Pm n p):p.size=n:=by rw[← Array.length_toList,P.length_eq,List.length_range]
theorem Pm.perm{p q:Array Nat}(P:Pm n p)(h:q.Perm p):Pm n q:=(Array.perm_iff_toList_perm.mp h).trans P
theorem A62{p:Array Nat}{i:Nat}(h:i<p.toList.length):p.getD i 0=p.toList[i]:=by rw[Array.getD_eq_getD_getElem?,← Array.getElem?_toList,List.getElem?_eq_getElem h];rfl
theorem Tot.not(T:Tot n lt){p:Array Nat}(P:Pm n p){i:Nat}(hi:i<n)(hj:j<n)(hne:i≠j)(h:¬ lt (p.getD i 0) (p.getD j 0)=true):lt (p.getD j 0) (p.getD i 0)=true:=by
 have hl:p.toList.length=n:=P.length_eq.trans List.length_range
 rw[← hl] at hi hj
 rw[A62 hi,A62 hj] at h ⊢
 have m:∀ {x},x∈p.toList→x<n:=fun q=>List.mem_range.mp (P.mem_iff.mp q)
 exact(T.tot _ _ (m (List.getElem_mem hi)) (m (List.getElem_mem hj)) fun e=>hne ((List.getElem_inj (P.nodup_iff.mpr List.nodup_range)).mp e)).resolve_left h
noncomputable def Asc(lt:Nat→Nat→Bool)(p:Array Nat)(k:Nat):Prop:=∀ i,i+1<k→lt (p.getD i 0) (p.getD (i+1) 0)=true
noncomputable def Dsc(lt:Nat→Nat→Bool)(p:Array Nat)(k:Nat):Prop:=∀ i,i+1<k→lt (p.getD (i+1) 0) (p.getD i 0)=true
theorem step{Q:Nat→Prop}(h:∀ i,i+1<m+1→Q i)(hl:Q m):∀ i,i+1<m+2→Q i:=fun i hi=>
 (Nat.eq_or_lt_of_le (Nat.le_of_lt_succ (Nat.lt_of_succ_lt_succ hi))).elim (fun e=>e▸hl) fun e=>h i (Nat.succ_lt_succ e)
theorem Asc.all(T:Tot n lt){p:Array Nat}(h:Asc lt p k){i:Nat}(hij:i<j)(hj:j<k):lt (p.getD i 0) (p.getD j 0)=true:=by
 induction j with
 | zero=>exact absurd hij (Nat.not_lt_zero _)
 | succ j ih=>exact(Nat.eq_or_lt_of_le (Nat.le_of_lt_succ hij)).elim (fun e=>e▸h j hj) fun e=>T.trans _ _ _ (ih e (Nat.lt_of_succ_lt hj)) (h j hj)
theorem B28(f m:Nat):m+1+(f+1)=m+2+f:=by rw[Nat.add_assoc,Nat.add_comm 1,Nat.add_assoc m 2,Nat.add_comm 2]
theorem A3h{f n:Nat}(h:m+1+(f+1)≤n):m+1<n:=Nat.lt_of_lt_of_le (Nat.lt_add_of_pos_right (Nat.succ_pos f)) h
inductive B5D(lt:Nat→Nat→Bool)(p:Array Nat)(f m r:Nat):Prop
 | mk (a:m≤r) (b:r≤m+f) (c:Asc lt p r) (d:r<m+f→lt (p.getD r 0) (p.getD (r - 1) 0)=true)
theorem B1D(T:Tot n lt){p:Array Nat}(P:Pm n p)(f:Nat):∀ m,m+1+f≤n→Asc lt p (m+1)→B5D lt p f (m+1) (I3 lt (kas_asc p f (m+1))):=by
 induction f with
 | zero=>exact fun m h2 h=>⟨Nat.le_refl _,Nat.le_refl _,h,fun x=>absurd x (Nat.lt_irrefl _)⟩
 | succ f ih=>
  intro m h2 h
  show B5D lt p (f+1) (m+1) (I3 lt (if lt (p.getD (m+1) 0) (p.getD m 0)=true then .ret (m+1) else kas_asc p f (m+2)))
  by_cases c:lt (p.getD (m+1) 0) (p.getD m 0)=true
  ·rw[if_pos c]
   exact⟨Nat.le_refl _,Nat.le_add_right _ _,h,fun _=>c⟩
  ·rw[if_neg c]
   obtain⟨a1,a2,a3,a4⟩:=ih (m+1) (B28 f m▸h2) (step h (T.not P (A3h h2) (Nat.lt_of_succ_lt (A3h h2)) (Nat.succ_ne_self m) c))
   exact⟨Nat.le_of_succ_le a1,(B28 f m).symm▸a2,a3,(B28 f m).symm▸a4⟩
inductive B5B(lt:Nat→Nat→Bool)(p:Array Nat)(n:Nat)(x:Array Nat×Nat×Nat):Prop
 | mk (r:Nat) (e:x=(p,r+1,0)) (b:r+1≤n) (c:Dsc lt p (r+1))
theorem B2p(T:Tot n lt){p:Array Nat}(P:Pm n p)(f:Nat):∀ m,m+1+f≤n→Dsc lt p (m+1)→B5B lt p n (I3 lt (kas_desc f p (m+1) 0)):=by
 induction f with
 | zero=>exact fun m h2 h=>⟨m,rfl,h2,h⟩
 | succ f ih=>
  intro m h2 h
  show B5B lt p n (I3 lt (if lt (p.getD (m+1) 0) (p.getD m 0)=true then kas_desc f p (m+2) 0 else .ask (p.getD m 0) (p.getD (m+1) 0) fun d=>if d=true then .ret (p,m+1,0) else kas_desc f p (m+2) (0+1)))
  by_cases c:lt (p.getD (m+1) 0) (p.getD m 0)=true
  ·rw[if_pos c]
   exact ih (m+1) (B28 f m▸h2) (step (Q:=fun i=>lt (p.getD (i+1) 0) (p.getD i 0)=true) h c)
  ·rw[if_neg c]
   show B5B lt p n (I3 lt (if lt (p.getD m 0) (p.getD (m+1) 0)=true then .ret (p,m+1,0) else kas_desc f p (m+2) (0+1)))
   rw[if_pos (T.not P (A3h h2) (Nat.lt_of_succ_lt (A3h h2)) (Nat.succ_ne_self m) c)]
   exact⟨m,rfl,Nat.le_trans (Nat.le_add_right _ _) h2,h⟩
theorem T8{p q:Array Nat}{i:Nat}(h:p[i]?=q[j]?):p.getD i 0=q.getD j 0:=by
 rw[Array.getD_eq_getD_getElem?,Array.getD_eq_getD_getElem?,h]
theorem A6h{p:Array Nat}{i:Nat}(hm:m≤p.size)(e:i+j+1=m):(kas_rev p 0 m).getD i 0=p.getD j 0:=by
 have:=getElem?_mirror_all (xs:=p) (i:=0) (j:=m) hm i
 subst e
 rw[if_pos ⟨Nat.zero_le _,Nat.lt_succ_of_le (Nat.le_add_right _ _)⟩,Nat.zero_add,Nat.add_sub_cancel,Nat.add_sub_cancel_left] at this
 exact T8 this
theorem Dsc.rev{p:Array Nat}(hm:m≤p.size)(h:Dsc lt p m):Asc lt (kas_rev p 0 m) m:=fun i hi=>by
 obtain⟨j,e⟩:=Nat.exists_eq_add_of_lt hi
 have e':i+1+j+1=m:=e.symm
 rw[A6h hm e',A6h hm (j:=j+1) (by rw[← e',Nat.add_right_comm i];rfl)]
 exact h j (e'▸Nat.succ_lt_succ (by rw[Nat.add_comm];exact Nat.lt_add_of_pos_right (Nat.succ_pos i)))
inductive B3D(lt:Nat→Nat→Bool)(n:Nat)(x:Nat×Array Nat):Prop
 | mk (a:1≤x.1) (b:x.1≤n) (P:Pm n x.2) (c:Asc lt x.2 x.1)
theorem B00(T:Tot (n+2) lt){p:Array Nat}(P:Pm (n+2) p):B3D lt (n+2) (I3 lt (kas_count (n+2) p)):=by
 have e1:0+1+(n+1)=n+2:=by rw[Nat.zero_add,Nat.add_comm]
 have H:=B1D T P (n+1) 0 (Nat.le_of_eq e1) fun i hi=>absurd (Nat.lt_of_succ_lt_succ hi) (Nat.not_lt_zero _)
 change B5D lt p (n+1) (0+1) (I3 lt (kas_asc p (n+2 - 1) 1)) at H
 unfold kas_count
 rw[X3]
 generalize I3 lt (kas_asc p (n+2 - 1) 1)=r at *
 obtain⟨a1,a2,a3,a4⟩:=H
 rw[e1] at a2 a4
 by_cases c:(r==n+2)=true
 ·rw[if_pos c]
  exact⟨a1,a2,P,a3⟩
 ·rw[if_neg c]
  by_cases c2:r>1
  ·rw[if_pos c2]
   show B3D lt (n+2) (I3 lt (if lt (p.getD 0 0) (p.getD (r - 1) 0)=true then .ret (r,p) else _))
   rw[if_pos (a3.all T (Nat.sub_pos_of_lt c2) (Nat.sub_lt a1 Nat.one_pos))]
   exact⟨a1,a2,P,a3⟩
  ·rw[if_neg c2]
   cases Nat.le_antisymm (Nat.not_lt.mp c2) a1
   unfold kas_descPart
   rw[X3]
   obtain⟨m,b0,b1,b2⟩:=B2p T P n 1 (Nat.le_of_eq (Nat.add_comm _ _)) fun i hi=>by
    cases Nat.lt_one_iff.mp (Nat.lt_of_succ_lt_succ hi)
    exact a4 (Nat.succ_lt_succ (Nat.succ_pos n))
   show B3D lt (n+2) (I3 lt ((fun r:Array Nat×Nat×Nat=>if r.2.2>0 then kas_tail3 r.2.1 (n+2) (kas_rev r.1 (r.2.1 - (r.2.2+1)) r.2.1) else kas_tail3 r.2.1 (n+2) r.1) (I3 lt (kas_desc n p (1+1) 0))))
   rw[b0]
   show B3D lt (n+2) (I3 lt (kas_tail3 (m+1) (n+2) p))
   unfold kas_tail3
   rw[X3]
   have P':Pm (n+2) (kas_rev p 0 (m+1)):=P.perm (mirror_perm _ _ _ _)
   obtain⟨d1,d2,d3,_⟩:=B1D T P' (n+2 - (m+1)) m (Nat.le_of_eq (Nat.add_sub_cancel' b1)) (b2.rev (P.size.symm▸b1))
   exact⟨Nat.le_trans (Nat.succ_le_succ (Nat.zero_le m)) d1,Nat.le_trans d2 (Nat.le_of_eq (Nat.add_sub_cancel' b1)),P',d3⟩
inductive PlR(lt:Nat→Nat→Bool)(p:Array Nat)(k m:Nat):Prop
 | mk (a:m≤k) (b:∀ i,i+1=m→lt (p.getD i 0) (p.getD k 0)=true) (c:m<k→lt (p.getD k 0) (p.getD m 0)=true)
theorem B2V{l r:Nat}(h:l<r):(l+r) / 2<r:=(Nat.div_lt_iff_lt_mul (by decide)).mpr (by rw[Nat.mul_two];exact Nat.add_lt_add_right h r)
theorem B2W{l r:Nat}(h:l≤r):l≤(l+r) / 2:=(Nat.le_div_iff_mul_le (by decide)).mpr (by rw[Nat.mul_two];exact Nat.add_le_add_left h l)
theorem A9R(T:Tot n lt){p:Array Nat}(P:Pm n p)(hk:k<n)(f:Nat):∀ l r,l≤r→r≤k→r≤l+f→(∀ i,i+1=l→lt (p.getD i 0) (p.getD k 0)=true)→(r<k→lt (p.getD k 0) (p.getD r 0)=true)→PlR lt p k (I3 lt (kas_place p k f l r)):=by
 induction f with
 | zero=>
  intro l r h1 h2 h3 hl hr
  cases Nat.le_antisymm h1 h3
  exact⟨h2,hl,hr⟩
 | succ f ih=>
  intro l r h1 h2 h3 hl hr
  unfold kas_place
  by_cases c:l ≥ r
  ·rw[if_pos c]
   cases Nat.le_antisymm h1 c
   exact⟨h2,hl,hr⟩
  ·rw[if_neg c]
   show PlR lt p k (I3 lt (if lt (p.getD k 0) (p.getD ((l+r) / 2) 0)=true then kas_place p k f l ((l+r) / 2) else kas_place p k f ((l+r) / 2+1) r))
   have hm:=B2V (Nat.not_le.mp c)
   have hl':=B2W h1
   generalize (l+r) / 2=m at *
   by_cases d:lt (p.getD k 0) (p.getD m 0)=true
   ·rw[if_pos d]
    exact ih l m hl' (Nat.le_trans (Nat.le_of_lt hm) h2) (Nat.le_of_lt_succ (Nat.lt_of_lt_of_le hm h3)) hl fun _=>d
   ·rw[if_neg d]
    refine ih (m+1) r hm h2 (Nat.le_trans h3 ?_) (fun i e => ?_) hr
    ·rw[Nat.add_right_comm];exact Nat.succ_le_succ (Nat.add_le_add_right hl' f)
    ·cases e
     exact T.not P hk (Nat.lt_trans (Nat.lt_of_lt_of_le hm h2) hk) (Nat.ne_of_gt (Nat.lt_of_lt_of_le hm h2)) d
theorem B25{p:Array Nat}{l:Nat}(hk:k<p.size)(h:Asc lt p k)(Q:PlR lt p k l):Asc lt (bubble p k (k - l)) (k+1):=fun i hi=>by
 obtain⟨hl,h1,h2⟩:=Q
 have e:=getElem?_bubble hk (k - l) (Nat.sub_le _ _)
 rw[Nat.sub_sub_self hl] at e
 have ei:=e i
 have ej:=e (i+1)
 have hik:=Nat.lt_of_succ_lt_succ hi
 rcases Nat.lt_trichotomy i l with a | a | a
 ·rw[if_neg (Nat.ne_of_lt a),if_neg (fun q=>Nat.lt_asymm a q.1)] at ei
  rw[T8 ei]
  by_cases c:i+1=l
  ·rw[if_pos c] at ej
   rw[T8 ej];exact h1 i c
  ·rw[if_neg c,if_neg (fun q=>Nat.not_lt.mpr a q.1)] at ej
   rw[T8 ej];exact h i (Nat.lt_of_lt_of_le (Nat.lt_of_le_of_ne a c) hl)
 ·subst a
  rw[if_pos rfl] at ei
  rw[if_neg (Nat.succ_ne_self i),if_pos ⟨Nat.lt_succ_self i,hik⟩] at ej
  rw[T8 ei,T8 ej]
  exact h2 hik
 ·rw[if_neg (Nat.ne_of_gt a),if_pos ⟨a,Nat.le_of_lt hik⟩] at ei
  rw[if_neg (Nat.ne_of_gt (Nat.lt_succ_of_lt a)),if_pos ⟨Nat.lt_succ_of_lt a,hik⟩] at ej
  rw[T8 ei,T8 ej]
  cases i with
  | zero=>exact absurd a (Nat.not_lt_zero _)
  | succ i=>exact h i hik
theorem B47(T:Tot n lt)(f:Nat):∀ (p:Array Nat) (k:Nat),Pm n p→Asc lt p k→k+f=n→Pm n (I3 lt (kas_bin f p k))∧Asc lt (I3 lt (kas_bin f p k)) n:=by
 induction f with
 | zero=>exact fun p k P h e=>⟨P,e▸h⟩
 | succ f ih=>
  intro p k P h e
  have hk:k<n:=e▸Nat.lt_add_of_pos_right (Nat.succ_pos f)
  have Q:=A9R T P hk k 0 k (Nat.zero_le _) (Nat.le_refl _) (Nat.le_of_eq (Nat.zero_add _).symm) (fun i hi=>nomatch hi) fun h=>absurd h (Nat.lt_irrefl _)
  unfold kas_bin
  rw[X3]
  exact ih _ (k+1) (P.perm (bubble_perm _ _ _)) (B25 (P.size.symm▸hk) h Q) (by rw[← e,Nat.add_right_comm];rfl)
theorem B1e(T:Tot n lt)(h2:2≤n):Pm n (I3 lt (kas_sort n))∧∀ i j,i<j→j<n→lt ((I3 lt (kas_sort n)).getD i 0) ((I3 lt (kas_sort n)).getD j 0)=true:=by
 have key:Pm n (I3 lt (kas_sort n))∧Asc lt (I3 lt (kas_sort n)) n:=by
  obtain⟨m,rfl⟩:∃ m,n=m+2:=⟨n - 2,(Nat.sub_add_cancel h2).symm⟩
  have P:Pm (m+2) (List.toArray (List.range (m+2))):=.refl _
  obtain⟨m1,m2,Q,a⟩:=B00 T P
  unfold kas_sort
  rw[X3]
  show Pm (m+2) (I3 lt (if (I3 lt (kas_count (m+2) _)).1<m+2 then kas_bin (m+2 - max (I3 lt (kas_count (m+2) _)).1 1) (I3 lt (kas_count (m+2) _)).2 (max (I3 lt (kas_count (m+2) _)).1 1) else .ret (I3 lt (kas_count (m+2) _)).2))∧Asc lt (I3 lt (if (I3 lt (kas_count (m+2) _)).1<m+2 then kas_bin (m+2 - max (I3 lt (kas_count (m+2) _)).1 1) (I3 lt (kas_count (m+2) _)).2 (max (I3 lt (kas_count (m+2) _)).1 1) else .ret (I3 lt (kas_count (m+2) _)).2)) (m+2)
  generalize I3 lt (kas_count (m+2) _)=x at *
  by_cases c:x.1<m+2
  ·rw[if_pos c,Nat.max_eq_left m1]
   exact B47 T _ _ _ Q a (Nat.add_sub_cancel' m2)
  ·rw[if_neg c]
   exact⟨Q,Nat.le_antisymm m2 (Nat.not_lt.mp c)▸a⟩
 exact⟨key.1,fun i j=>key.2.all T⟩
end
end
section
section
variable{s:Shared}
noncomputable def itK(x:T):Option (List T):=T.casesOn (motive_1:=fun _=>Option (List T)) x none (fun _=>none) (fun _=>none) (fun _=>none) (fun _=>none) (fun _=>none) (fun _=>none) (fun _=>none) (fun ks _=>some (ks.map .str)) (fun _ _=>none) B1n (fun _ _=>none)
inductive B5A(s:Shared)(a:Int)(n:Nat)(q:Result)(s':Shared):Prop
 | mk (h':Heap) (tk:Nat) (acc':Array Value) (c':Nat) (e1:q=.ok (.ret (.ref s.heap.objs.size))) (e2:s'={ s with heap:=h',toks:=tk }) (hk:∀ b o,s.heap.get? b=some o→h'.get? b=some o) (hS:h'.get? s.heap.objs.size=some { cls:=.type "list", dict:=none,data:=.seq acc' c',slots := #[] }) (hacc:ItemsOf (fun i v=>∃ t,v=.int (a+i * 1) t) acc' n)
theorem A45(hh:A.handled=none){a b:Int}{u:Value}{xs:List T}(R:Rel C ly g σ s)(hu:RelW C g s.heap (.rng a b) u)(e:B1n a b=some xs){E:Value→Shared→Prop}{Q:List Value→Shared→Prop}(q:∀ vs h' tk,s.toks≤tk→(∀ b o,s.heap.get? b=some o→h'.get? b=some o)→RelTs C g xs vs→Q vs { s with heap:=h',toks:=tk }):wpAny (Md C) A (collect u) Q E s:=by
 refine iN e fun hab e => ?_
 cases e
 refine wpAny_with_toks (Nat.le_refl s.toks) ?_
 refine A1M (hu) fun r t u' w hR4 hr => ?_
 subst hR4
 obtain⟨h1,h2⟩:=A0m hab.1 hab.2
 have hlen:(b - a).toNat≤2 ^ 24:=Nat.le_trans (Nat.le_trans (A2e _) (Int.natAbs_sub_le _ _)) (Nat.le_trans (Nat.le_of_lt (Nat.add_lt_add hab.2 hab.1)) (by decide))
 unfold collect
 refine wpAny_bind (wpAny_runValue (codeAny_builtin entry_proto_collect' ?_))
 rw[Around.under_plainId PySem.F.plain_proto_collect _]
 show wpAny _ A.in1 (newList [] >>= fun l=>again (.builtin "list.__iadd__" ⟨[l,.ref r],[]⟩)) _ _ s
 refine wpAny_bind (wpAny_newObj_type ?_)
 refine wpAny_pure ⟨plainId_quiet PySem.F.plain_list_iadd _,codeAny_builtin entry_list_iadd' ?_⟩
 rw[Around.under_plainId PySem.F.plain_list_iadd _]
 have hS₁:(s.heap.push { cls:=.type "list", data:=.seq ([]:List Value).toArray }).get? s.heap.objs.size=some { cls:=.type "list", data:=.seq #[] }:=Heap.get?_push_size _ rfl
 show wpAny _ A.in1 (Builtin.List.listExtendWith (.ref s.heap.objs.size) (.ref r) (.ref s.heap.objs.size)) _ _ _
 have key:=wpAny_extend_range (prog:=C.prog) (w:=C.w) (A:=A) (s:={ s with heap:=s.heap.push { cls:=.type "list", data:=.seq ([]:List Value).toArray } }) (R:=B5A s a (b - a).toNat)
  hh (Heap.get?_push_of_some _ hr) h1 h2 hlen s.heap.objs.size (.ref s.heap.objs.size) 0 hS₁
  (fun h' tk acc' c' hk hS' hacc=>⟨h',tk,acc',c',rfl,rfl,fun b o e=>hk b o (Nat.ne_of_lt (Heap.lt_size e)) (Heap.get?_push_of_some _ e),hS',hacc⟩)
 have fin:∀ (E':Value→Shared→Prop) (h':Heap) (tk:Nat) (acc':Array Value) (c':Nat),(∀ b o,s.heap.get? b=some o→h'.get? b=some o)→h'.get? s.heap.objs.size=some { cls:=.type "list", dict:=none,data:=.seq acc' c',slots := #[] }→ItemsOf (fun i v=>∃ t,v=.int (a+i * 1) t) acc' (b - a).toNat→
   wpAny (Md C) A (load s.heap.objs.size >>= fun o=>match o.data with | .seq xs _=>pure xs.toList | _=>unsupported "internal:collect") (fun r s'=>s.toks≤s'.toks→Q r s') E' { s with heap:=h',toks:=tk }:=fun E' h' tk acc' c' hk hS' hacc=>by
  refine wpAny_bind (wpAny_load hS' ?_)
  refine wpAny_pure fun htk=>q _ _ _ htk hk (RelTs.of_get ?_ fun i x v hx hv => ?_)
  ·exact((List.length_map _).trans List.length_range).trans (hacc.1.symm.trans Array.length_toList.symm)
  ·rw[Array.getElem?_toList] at hv
   obtain⟨t',rfl⟩:=hacc.2 i v hv
   have hi:=(List.getElem?_eq_some_iff.mp hx).1
   unfold A0G at hx hi
   rw[List.length_map,List.length_range] at hi
   rw[List.getElem?_map,List.getElem?_range hi] at hx
   cases hx
   exact⟨t',by rw[Int.mul_one]⟩
 refine wpAny_mono key (fun f s' x => ?_) fun e s' x => ?_
 ·cases f with
  | done f=>
   obtain⟨h',tk,acc',c',e,rfl,hk,hS',hacc⟩:=x
   cases e
   exact fin _ h' tk acc' c' hk hS' hacc
  | again c₁=>
   refine⟨x.1,codeAny_mono x.2 fun q s₂ y => ?_⟩
   obtain⟨h',tk,acc',c',rfl,rfl,hk,hS',hacc⟩:=y
   exact fin _ h' tk acc' c' hk hS' hacc
 ·obtain⟨_,_,_,_,e',_⟩:=x
  exact nomatch e'
theorem A6C(hh:A.handled=none){x:T}{u:Value}{xs:List T}(R:Rel C ly g σ s)(hu:RelW C g s.heap x u)(e:itK x=some xs)(hf:xs.length<1000){E:Value→Shared→Prop}{Q:List Value→Shared→Prop}(q:∀ vs h' tk,s.toks≤tk→(∀ b o,s.heap.get? b=some o→h'.get? b=some o)→RelTs C g xs vs→Q vs { s with heap:=h',toks:=tk }):wpAny (Md C) A (collect u) Q E s:=by
 cases x with
 | rng a b=>exact A45 hh R hu e q
 | ds ks ys=>
  cases e
  refine wpAny_with_toks (Nat.le_refl s.toks) ?_
  obtain⟨a,kvs,rfl,hd,hs,rfl,r⟩:=hu
  rw[List.length_map,List.length_map] at hf
  obtain⟨ep,hat⟩:=hd.dictAt
  refine kdu_collect (kdl_dict (knd:=PySem.strKind C.prog C.w) hs) hh hat (D3 hf) fun h' tk acc hk hacc htk => ?_
  refine q _ _ _ htk hk (RelTs.of_get ?_ fun i x v hx hv => ?_)
  ·rw[List.length_map,List.length_map,Array.length_toList];exact hacc.1.symm
  ·rw[Array.getElem?_toList] at hv
   refine A5O (hacc.2 i v hv) fun k' y h1 h2 => ?_
   rw[List.getElem?_map,List.getElem?_map,h1] at hx
   cases hx
   exact Value.isStrOf_shape h2
 | _=>exact nn e
end
noncomputable def InP{α:Type}(n:Nat)(P:α→Prop):KasT α→Prop
 | .ret a=>P a
 | .ask i j k=>i<n∧j<n∧∀ b,InP n P (k b)
theorem InP.bind{α β:Type}{n:Nat}{P:α→Prop}{P':β→Prop}{f:α→KasT β}(hf:∀ a,P a→InP n P' (f a)):∀ (t:KasT α),InP n P t→InP n P' (t.bind f)
 | .ret a,h=>hf a h
 | .ask i j k,⟨h1,h2,h3⟩=>⟨h1,h2,fun b=>InP.bind hf (k b) (h3 b)⟩
noncomputable def ElN(n:Nat)(p:Array Nat):Prop:=0<n∧∀ x∈p.toList,x<n
theorem ElN.at{n:Nat}{p:Array Nat}(h:ElN n p)(i:Nat):p.getD i 0<n:=by
 rw[Array.getD_eq_getD_getElem?]
 cases q:p[i]? with
 | none=>exact h.1
 | some x=>
  rw[← Array.getElem?_toList] at q
  exact h.2 _ (List.mem_of_getElem? q)
theorem ElN.perm{n:Nat}{p q:Array Nat}(h:ElN n p)(e:q.Perm p):ElN n q:=⟨h.1,fun x hx=>h.2 x ((Array.perm_iff_toList_perm.mp e).mem_iff.mp hx)⟩
theorem ElN.rev{n i:Nat}{p:Array Nat}(h:ElN n p):ElN n (kas_rev p i j):=h.perm (mirror_perm _ _ _ _)
theorem A5v{n:Nat}{p:Array Nat}(h:ElN n p):∀ f m,InP n (fun _=>True) (kas_asc p f m)
 | 0,m=>trivial
 | f+1,m=>⟨h.at _,h.at _,fun b=>by
  cases b
  ·exact A5v h f (m+1)
  ·trivial⟩
theorem A1E{n:Nat}:∀ f (p:Array Nat) m q,ElN n p→InP n (fun r=>ElN n r.1) (kas_desc f p m q)
 | 0,p,m,q,h=>h
 | f+1,p,m,q,h=>⟨h.at _,h.at _,fun b=>by
  cases b
  ·refine⟨h.at _,h.at _,fun b => ?_⟩
   cases b
   ·exact A1E f p (m+1) (q+1) h
   ·exact h
  ·show InP n _ (if q>0 then kas_desc f (kas_rev p (m - (q+1)) m) (m+1) 0 else kas_desc f p (m+1) 0)
   split
   ·exact A1E f _ (m+1) 0 h.rev
   ·exact A1E f p (m+1) 0 h⟩
theorem A4j{n:Nat}{p:Array Nat}(h:ElN n p)(m r:Nat):InP n (fun q=>ElN n q.2) (kas_tail3 m r p):=InP.bind (P:=fun _=>True) (P':=fun q:Nat×Array Nat=>ElN n q.2) (f:=fun a=>.ret (a,kas_rev p 0 m)) (fun a _=>h.rev) _ (A5v h.rev _ _)
theorem A0t{n:Nat}{p:Array Nat}(h:ElN n p)(m r:Nat):InP n (fun q=>ElN n q.2) (kas_descPart m r p):=InP.bind (fun a ha=>by
 split
 ·exact A4j ha.rev _ _
 ·exact A4j ha _ _) _ (A1E _ _ _ _ h)
theorem B0N{n:Nat}{p:Array Nat}(h:ElN n p)(r:Nat):InP n (fun q=>ElN n q.2) (kas_count r p):=InP.bind (fun a _=>by
 split
 ·exact h
 ·split
  ·refine⟨h.at _,h.at _,fun b => ?_⟩
   cases b
   ·exact A0t h.rev _ _
   ·exact h
  ·exact A0t h _ _) _ (A5v h _ _)
theorem A1x{n:Nat}{p:Array Nat}(h:ElN n p)(k:Nat):∀ f l r,InP n (fun _=>True) (kas_place p k f l r)
 | 0,l,r=>trivial
 | f+1,l,r=>by
  unfold kas_place
  split
  ·trivial
  ·refine⟨h.at _,h.at _,fun b => ?_⟩
   cases b
   ·exact A1x h k f _ _
   ·exact A1x h k f _ _
theorem B0O{n:Nat}:∀ f (p:Array Nat) k,ElN n p→InP n (ElN n) (kas_bin f p k)
 | 0,p,k,h=>h
 | f+1,p,k,h=>InP.bind (fun l _=>B0O f _ _ (h.perm (bubble_perm _ _ _))) _ (A1x h _ _ _ _)
theorem B2T{n:Nat}(hn:0<n):InP n (ElN n) (kas_sort n):=InP.bind (fun a ha=>by
 split
 ·exact B0O _ _ _ ha
 ·exact ha) _ (B0N ⟨hn,fun x hx=>by simpa using hx⟩ _)
theorem A4a{α:Type}{n:Nat}{lt:Nat→Nat→Bool}{cmp:Nat→Nat→(Bool→Shared→Prop)→Shared→Prop}{s:Shared}(hc:∀ i j (C:Bool→Shared→Prop),i<n→j<n→C (lt i j) s→cmp i j C s){P:α→Prop}{Q:α→Shared→Prop}:
  ∀ (t:KasT α),InP n P t→(P (I3 lt t)→Q (I3 lt t) s)→t.kasWp cmp Q s
 | .ret a,h,q=>q h
 | .ask i j k,⟨h1,h2,h3⟩,q=>hc i j _ h1 h2 (A4a hc (k (lt i j)) (h3 _) q)
noncomputable def B0J:T→Option Int:=F4
noncomputable def A2n(x:T):Option (Int×Int):=(A02 x).bind fun xs=>(xs[0]?.bind F4).bind fun a=>(xs[1]?.bind F4).bind fun b=>if xs.length=2 then some (a,b) else none
theorem A4N{x:T}{p:Int×Int}(e:A2n x=some p):x=.tup [.int p.1,.int p.2]:=by
 refine b1 e fun xs ex e=>b1 e fun a e1 e=>b1 e fun b e2 e=>iN e fun h e => ?_
 rw[K7 ex]
 obtain⟨y,z,rfl⟩:=A8E h
 rw[D9 (x:=y) e1,D9 (x:=z) e2]
 exact s1 (P:=fun p:Int×Int=>T.tup [.int a,.int b]=T.tup [.int p.1,.int p.2]) e rfl
noncomputable def ltP(x y:T):Bool:=(A2n x).elim false fun p=>(A2n y).elim false fun q=>if p.1==q.1 then decide (p.2<q.2) else decide (p.1<q.1)
noncomputable def ltK(x y:T):Bool:=(B0J x).elim (ltP x y) fun a=>(B0J y).elim (ltP x y) fun b=>decide (a<b)
noncomputable def B4P(x:T):Bool:=(B0J x).isSome
noncomputable def A6w(x:T):Bool:=(A2n x).isSome
noncomputable def n7(ks:List T):Bool:=ks.all B4P||ks.all A6w
theorem i9{xs:List T}{vs:List Value}(r:RelTs C g xs vs)(i:Nat):RelT C g (xs.getD i .none) (vs.getD i Value.none):=by
 rw[List.getD_eq_getElem?_getD,List.getD_eq_getElem?_getD]
 cases q:xs[i]? with
 | some x=>obtain⟨v,hv,rv⟩:=r.get q;rw[hv];exact rv
 | none=>rw[List.getElem?_eq_none (by rw[r.length];exact List.getElem?_eq_none_iff.mp q)];exact rfl
theorem A0B{p:T→Bool}{ks:List T}(h:ks.all p=true){i:Nat}(hi:i<ks.length):p (ks.getD i .none)=true:=by
 rw[List.getD_eq_getElem?_getD,List.getElem?_eq_getElem hi]
 exact List.all_eq_true.mp h _ (List.getElem_mem hi)
theorem RelT.of{x:T}{v:Value}(e:x=y)(r:RelT C g x v):RelT C g y v:=e▸r
theorem A3k{x:T}{v:Value}(h:RelT C g x v)(e:B4P x=true):∃ a t,x=.int a∧v=.int a t:=H4 e fun a ea=>by
 obtain⟨t,rfl⟩:=h.of (D9 ea)
 exact⟨_,t,D9 ea,rfl⟩
inductive B6k(C:Cx)(g:G)(x:T)(v:Value):Prop
 | mk (a b:Int) (ad:Addr) (t u:Tok) (n:Nat) (e1:x=.tup [.int a,.int b]) (e2:v=.ref ad) (z:g.fz C ad (seqObj "tuple" #[.int a t,.int b u] n))
theorem A1u{x:T}{v:Value}(h:RelT C g x v)(e:A6w x=true):B6k C g x v:=H4 e fun p ep=>by
 obtain⟨ad,items,n,rfl,z,v1,_,e1,⟨t,rfl⟩,v2,_,rfl,⟨u,rfl⟩,e2⟩:=h.of (A4N ep)
 cases (show _=[] from e2)
 cases Array.toList_inj.mp (e1.trans (show _=(#[Value.int p.1 t,Value.int p.2 u]:Array Value).toList from rfl))
 exact⟨_,_,ad,t,u,n,A4N ep,rfl,z⟩
theorem B2R{ks:List T}{vs:List Value}(r:RelTs C g ks vs)(e:ks.all B4P=true):∃ ns,IntsAre vs ns:=by
 induction ks generalizing vs with
 | nil=>obtain rfl:vs=[]:=r;exact⟨[],.nil⟩
 | cons x xs ih=>
  obtain⟨v,vs,rfl,h,r⟩:=r
  rw[List.all_cons,Bool.and_eq_true] at e
  obtain⟨ns,hn⟩:=ih r e.2
  refine A5O (A3k h e.1) fun a t _ hR3 => ?_
  subst hR3
  exact⟨a::ns,.cons a t hn⟩
theorem B1W{s:Shared}(R:Rel C ly g σ s){ks:List T}{vs:List Value}(r:RelTs C g ks vs)(e:ks.all A6w=true):∃ fs,KatTups s.heap vs fs∧fs.length=ks.length∧∀ v∈fs,∃ a t,v=.int a t:=by
 induction ks generalizing vs with
 | nil=>obtain rfl:vs=[]:=r;exact⟨[],trivial,rfl,fun v hv=>nomatch hv⟩
 | cons x xs ih=>
  obtain⟨v,vs,rfl,h,r⟩:=r
  rw[List.all_cons,Bool.and_eq_true] at e
  refine q8 (ih r e.2) fun fs h1 h2 h3 => ?_
  obtain⟨a,b,ad,t,u,n,rfl,rfl,z⟩:=A1u h e.1
  exact⟨.int a t::fs,.cons (R.fz z) rfl rfl rfl h1,congrArg (·+1) h2,fun v hv=>(List.mem_cons.mp hv).elim (fun q=>⟨_,_,q⟩) (h3 v)⟩
theorem B2M{s:Shared}(R:Rel C ly g σ s){ks:List T}{vs:List Value}(r:RelTs C g ks vs)(h2:2≤ks.length)(hk:n7 ks=true):
  ∃ κ:SortKind,(∀ (E:Value→Shared→Prop) (Q:SortKind→Shared→Prop),Q κ s→wpAny (Md C) A (keyKind' vs.toArray) Q E s)∧
   ∀ i j (Q:Bool→Shared→Prop),i<ks.length→j<ks.length→Q (ltK (ks.getD i .none) (ks.getD j .none)) s→wpAny (Md C) A (keyLt' κ (vs.getD i Value.none) (vs.getD j Value.none)) Q (fun _ _=>False) s:=by
 have hl:=r.length
 rcases Bool.or_eq_true_iff.mp hk with hk | hk
 ·obtain⟨ns,hI⟩:=B2R r hk
  refine⟨oneType',fun E Q q => ?_,fun i j Q hi hj q => ?_⟩
  ·match vs,hl,hI with
   | v1::v2::vs,_,hI=>rw[keyKind_ints hI];exact wpAny_pure q
   | [],hl,_=>exact absurd (Nat.le_trans h2 (Nat.le_of_eq hl.symm)) (Nat.not_succ_le_zero 1)
   | [_],hl,_=>exact absurd (Nat.le_trans h2 (Nat.le_of_eq hl.symm)) (Nat.not_succ_le_self 1)
  ·refine A5O (A3k (i9 r i) (A0B hk hi)) fun a t e1 e2 => ?_
   refine A5O (A3k (i9 r j) (A0B hk hj)) fun b u e3 e4 => ?_
   rw[e1,e3] at q
   rw[e2,e4]
   exact kat_lt_int q
 ·refine q8 (B1W R r hk) fun fs h1 h3 h4 => ?_
  refine⟨tuples' (Value.type "int" != Value.type "tuple"),fun E Q q => ?_,fun i j Q hi hj q => ?_⟩
  ·refine kat_kind h1 (h3.symm▸Nat.lt_of_lt_of_le (by decide) h2) (fun v hv => ?_) (by decide) q
   obtain⟨a,t,rfl⟩:=h4 v hv
   exact .now
  ·obtain⟨a,b,ad,t,u,n,e1,e2,z⟩:=A1u (i9 r i) (A0B hk hi)
   obtain⟨c,d,ad',t',u',n',e3,e4,z'⟩:=A1u (i9 r j) (A0B hk hj)
   rw[e1,e3] at q
   rw[e2,e4]
   refine kat_lt (R.fz z) rfl (R.fz z') rfl (kat_cons (SeqAt.EqAt.int_int _ _ _ _ _ _ _ _ ?_))
   change Q (if a==c then decide (b<d) else decide (a<c)) s at q
   refine kat_go (fun h=>kat_yes (kat_cons (SeqAt.EqAt.int_int _ _ _ _ _ _ _ _ ?_))) (fun h=>kat_no ?_)
   ·rw[if_pos (by simpa using h)] at q
    refine kat_go (fun h=>kat_yes (kat_nil ?_)) (fun h=>kat_no (kat_one _ _ (lt_int (show W.BoolBack Q (.bool _) s from q))))
    have:b=d:=by simpa using h
    subst this
    simpa using q
   ·rw[if_neg (by simpa using h)] at q
    exact kat_lt_int q
end
section
noncomputable def A2B(d:D)(n:Nat)(xs:List T):St→Option (List T×St):=List.rec (fun σ=>some ([],σ)) (fun x _ ih σ=>(d ⟨σ.loc++[some (.t x)],σ.objs⟩).bind fun p=>(vT p.1).bind fun z=>(ih ⟨p.2.loc.take n,p.2.objs⟩).bind fun r=>some (z::r.1,r.2)) xs
theorem A8d{d:D}{n:Nat}(xs:List T):∀ {σ σ':St} {zs:List T},A2B d n xs σ=some (zs,σ')→zs.length=xs.length:=by
 induction xs with
 | nil=>intro σ σ' zs e;cases e;rfl
 | cons x xs ih=>
  intro σ σ' zs e
  refine b2 e fun u σ1 e1 e=>b1 e fun z e0 e=>b2 e fun zs' σ2 e2 e => ?_
  cases e
  exact congrArg (·+1) (ih e2)
theorem n6{n:Nat}(h:n<64):n≤sizeLine:=D3 (Nat.lt_trans h (by decide))
section
variable{s:Shared}{f kS D:Addr}{e1:Nat}{d:Mine.D}
theorem Rel.but1(R:Rel C ly g σ s){a:Addr}(x:Heap.SameBut a s.heap h')(ha:C.hb.get? a=none∧g.role a=none):Rel C ly g σ { s with heap:=h' }:=R.but (wr:=[a]) (tk:=s.toks) (fun b o hb e=>(x.2 b fun q=>hb (q▸.head _)).trans e) (fun b hb=>List.mem_singleton.mp hb▸ha)
structure P8(C:Cx)(ly:List Loc)(g:G)(kS D:Addr)(e1:Nat)(kv:List Value)(σ:St)(s:Shared):Prop where
 rel:Rel C ly g σ s
 ks:∃ c,s.heap.get? kS=some (seqObj "list" kv.toArray c)
 at_:s.heap.get? D=some (seqObj "list" #[] e1)
 hk:C.hb.get? kS=none∧g.role kS=none
 hd:C.hb.get? D=none∧g.role D=none
 ne:kS≠D
theorem A7j(hA:Room k A)(K:A0z C k ly g0 f d)(l0:g0.lev g)(S:P8 C ly g kS D e1 kv σ s){x:T}{v:Value}(hv:RelT C g x v)(e:d ⟨σ.loc++[some (.t x)],σ.objs⟩=some (.t z,σ2))(q:∀ g' r s',g.le g'→P8 C ly g' kS D e1 kv ⟨σ2.loc.take ly.length,σ2.objs⟩ s'→RelT C g' z r→Q r s'):wpAny (Md C) A (call (.ref f) [v]) Q E s:=by
 obtain⟨c,hks⟩:=S.ks
 have hf:∀ b o,(fun b=>if b=kS∨b=D then s.heap.get? b else none:Addr→Option Obj) b=some o→s.heap.get? b=some o∧C.hb.get? b=none∧g.role b=none:=fun b o h=>iN h fun q h=>⟨h,q.elim (fun q=>q▸S.hk) (fun q=>q▸S.hd)⟩
 obtain⟨lv,Rc⟩:=S.rel.cover hf
 refine wpAny_mono (K A hA _ σ s x v z σ2 (l0.trans lv) Rc (H3 lv _ _ hv) e) (fun r s' ⟨g2,l2,R2,V2⟩ => ?_) fun _ _ x=>x.elim
 refine A2c (R2.uncover (fun b o h=>(hf b o h).2.2) l2) fun lg lv2 R3 hk hn => ?_
 exact q _ r s' lg ⟨R3,⟨c,hk kS _ ((if_pos (.inl rfl)).trans hks)⟩,hk D _ ((if_pos (.inr rfl)).trans S.at_),⟨S.hk.1,hn kS _ ((if_pos (.inl rfl)).trans hks)⟩,⟨S.hd.1,hn D _ ((if_pos (.inr rfl)).trans S.at_)⟩,S.ne⟩ (H3 lv2 _ _ V2)
theorem A7k{r:Value}(S:P8 C ly g kS D e1 kv σ s)(h:kv.length<64){Q:Unit→Shared→Prop}(q:∀ s',P8 C ly g kS D e1 (kv++[r]) σ s'→Q () s'):
  wpAny (Md C) A (Builtin.List.listUpdate (.ref kS) (·.push r)) Q E s:=by
 obtain⟨c,hks⟩:=S.ks
 refine listUpdate_at hks rfl ?_ (n6 h) (Nat.le_trans (Nat.le_of_eq (Array.size_push ..)) (Nat.succ_le_succ (n6 h)))
 have s1:=Heap.SameBut.update s.heap kS (Obj.mapSeq (·.push r))
 have ea:kv.toArray.push r=(kv++[r]).toArray:=List.push_toArray ..
 obtain⟨c2,hc2⟩:∃ c2,(s.heap.update kS (Obj.mapSeq (·.push r))).get? kS=some (seqObj "list" (kv++[r]).toArray c2):=⟨_,by rw[← ea];exact get?_update_seq hks (·.push r)⟩
 exact q _ ⟨S.rel.but1 s1 S.hk,⟨c2,hc2⟩,(s1.2 D (Ne.symm S.ne)).trans S.at_,S.hk,S.hd,S.ne⟩
theorem A98(hA:Room k A)(K:A0z C k ly g0 f d){body:Value→PUnit→Sem (ForInStep PUnit)}{Q:PUnit→Shared→Prop}(hb:∀ v (s:Shared) (R:ForInStep PUnit→Shared→Prop),wpAny (Md C) A (call (.ref f) [v]) (fun r s'=>wpAny (Md C) A (Builtin.List.listUpdate (.ref kS) (·.push r)) (fun _ s''=>R (.yield ⟨⟩) s'') E s') (fun _ _=>False) s→wpAny (Md C) A (body v ⟨⟩) R E s):
  ∀ (xs:List T) (vs:List Value) (g:G) (σ:St) (s:Shared) (kv:List Value) (zs0 zs:List T) (σ':St),g0.lev g→P8 C ly g kS D e1 kv σ s→RelTs C g xs vs→RelTs C g zs0 kv→A2B d ly.length xs σ=some (zs,σ')→zs0.length+xs.length<64→
   (∀ g' kv' s',g.le g'→P8 C ly g' kS D e1 kv' σ' s'→RelTs C g' (zs0++zs) kv'→Q ⟨⟩ s')→wpAny (Md C) A (forIn vs ⟨⟩ body) Q E s:=by
 intro xs
 induction xs with
 | nil=>
  intro vs g σ s kv zs0 zs σ' l0 S r rk e hl q
  cases (show _=_ from r)
  cases e
  rw[List.forIn_nil]
  exact wpAny_pure (q g kv s (.refl g) S (by rw[List.append_nil];exact rk))
 | cons x xs ih=>
  intro vs g σ s kv zs0 zs σ' l0 S hr rk e hl q
  obtain⟨v,vs',rfl,hv,r⟩:=hr
  refine b2 e fun u σ1 ea e=>b1 e fun z ez e=>b2 e fun zs' σ2 eb e => ?_
  cases e
  cases B3F ez
  have hl':(zs0++[z]).length+xs.length<64:=by rw[List.length_append,Nat.add_assoc,Nat.add_comm [z].length];exact hl
  rw[List.forIn_cons]
  refine wpAny_bind (hb v s _ (A7j hA K l0 S hv ea fun g1 r1 s1 l1 S1 V1=>A7k S1 (rk.length▸Nat.lt_of_le_of_lt (Nat.le_add_right ..) hl) fun s2 S2 => ?_))
  refine ih vs' g1 _ s2 (kv++[r1]) (zs0++[z]) zs' _ (l0.trans l1.v) S2 (F5 l1 _ _ r) ((F5 l1 _ _ rk).append (.one V1)) eb hl' fun g3 kv' s3 l3 S3 r3 => ?_
  exact q g3 kv' s3 (l1.trans l3) S3 (by rw[List.append_assoc] at r3;exact r3)
end
end
section
noncomputable def A1R(ks xs:List T):List T:=(I3 (fun i j=>ltK (ks.getD i .none) (ks.getD j .none)) (kas_sort xs.length)).toList.map fun i=>xs.getD i .none
theorem A2m{xs:List T}{vs:List Value}(r:RelTs C g xs vs):∀ (p:List Nat),RelTs C g (p.map fun i=>xs.getD i .none) (p.map fun i=>vs.getD i Value.none)
 | []=>rfl
 | i::p=>⟨_,_,rfl,i9 r i,A2m r p⟩
section
variable{s:Shared}{f kS D:Addr}{e1:Nat}{d:Mine.D}
theorem A5U(S:P8 C ly g kS D e1 kv σ s){out:List Value}{st:SortSt}(hout:(arrOf st).map (·.2)=List.toArray out)(hz:out.length<64)(hkz:kv.length<64)(hf:failedOf st=none){E:Value→Shared→Prop}{P:PySem.Fin→Shared→Prop}(q:∀ h' c,Rel C ly g σ { s with heap:=h' }→h'.get? D=some (seqObj "list" out.toArray c)→P (.done (.ret .none)) { s with heap:=h' }):wpAny (Md C) A (ksk_tail D false e1 (.ref kS) st) P E s:=by
 obtain⟨c,hks⟩:=S.ks
 have s1:=Heap.SameBut.update s.heap kS (Obj.mapSeq fun _=>(#[]:Array Value))
 have hD1:=(s1.2 D (Ne.symm S.ne)).trans S.at_
 have s2:=Heap.SameBut.update (s.heap.update kS (Obj.mapSeq fun _=>(#[]:Array Value))) D (Obj.mapSeq fun _=>List.toArray out)
 obtain⟨c2,hc2⟩:∃ c2,((s.heap.update kS (Obj.mapSeq fun _=>(#[]:Array Value))).update D (Obj.mapSeq fun _=>List.toArray out)).get? D=some (seqObj "list" (List.toArray out) c2):=⟨_,get?_update_seq hD1 fun _=>List.toArray out⟩
 unfold ksk_tail
 try dsimp only
 rw[hout]
 refine wpAny_bind (listUpdate_at hks rfl ?_ (n6 hkz) (Nat.zero_le _))
 refine wpAny_bind (wpAny_letGo ?_)
 refine wpAny_bind (seqEpoch_at hD1 rfl ?_)
 simp only[Bool.false_eq_true,if_false]
 refine wpAny_bind (listUpdate_at hD1 rfl ?_ (Nat.zero_le _) (Nat.le_succ_of_le (n6 hz)))
 rw[hf]
 simp only[bne_self_eq_false,Bool.false_eq_true,if_false]
 refine wpAny_pure (q _ c2 ?_ hc2)
 exact(S.rel.but1 s1 S.hk).but1 s2 S.hd
theorem A86(S:P8 C ly g kS D e1 kv σ s){ks xs:List T}{vs:List Value}(rk:RelTs C g ks kv)(r:RelTs C g xs vs)(hl:ks.length=xs.length)(h2:2≤xs.length)(h64:xs.length<64)(hk:n7 ks=true){E:Value→Shared→Prop}{P:PySem.Fin→Shared→Prop}(q:∀ h' c out,Rel C ly g σ { s with heap:=h' }→h'.get? D=some (seqObj "list" (List.toArray out) c)→RelTs C g (A1R ks xs) out→P (.done (.ret .none)) { s with heap:=h' }):wpAny (Md C) A (ksk_end D false vs.toArray e1 (.ref kS) kv.toArray) P E s:=by
 have lk:=rk.length
 have lv:=r.length
 have hn2:¬ vs.toArray.size<2:=Nat.not_lt.mpr (Nat.le_trans h2 (Nat.le_of_eq lv.symm))
 have hlr:kv.length=vs.length:=lk.trans (hl.trans lv.symm)
 have hk64:kv.length<64:=hlr▸lv▸h64
 have hv64:vs.length<64:=lv▸h64
 obtain⟨κ,hκ,hlt⟩:=B2M S.rel rk (hl▸Nat.lt_of_lt_of_le (by decide) h2) hk (A:=A)
 unfold ksk_end
 try dsimp only
 simp only[Bool.false_eq_true,if_false]
 rw[if_neg hn2,if_neg hn2]
 refine wpAny_bind (hκ _ _ ?_)
 refine wpAny_bind (wpAny_mono (kat_run (E:=E) (Q:=fun st' s'=>s'=s∧∃ p:Array Nat,p=I3 (fun i j=>ltK (ks.getD i .none) (ks.getD j .none)) (kas_sort vs.length)∧p.size=vs.length∧arrOf st'=p.map (kas_item (kv.toArray.zip vs.toArray))∧failedOf st'=none)
  (G:=fun p s'=>s'=s∧p=I3 (fun i j=>ltK (ks.getD i .none) (ks.getD j .none)) (kas_sort vs.length)) hlr (Nat.lt_of_lt_of_le (by decide) (lv▸h2)) hv64 (fun p st' s' a1 a2 a3 a4=>⟨a4.1,p,a4.2,a1,a2,a3⟩) ?_) ?_ fun _ _ x=>x)
 ·refine A4a (lt:=fun i j=>ltK (ks.getD i .none) (ks.getD j .none)) (fun i j Q hi hj hq => ?_) _ (B2T (n:=vs.length) (Nat.lt_of_lt_of_le (by decide) (lv▸h2))) (fun _=>⟨rfl,rfl⟩)
  exact hlt i j Q (hl▸lv▸hi) (hl▸lv▸hj) hq
 ·rintro⟨⟨⟩,st'⟩ s' ⟨rfl,p,hp,hs,har,hf⟩
  try dsimp only
  refine A5U S (kat_snds hlr har) (by rw[List.length_map,Array.length_toList,hs];exact hv64) hk64 hf fun h' c R' hD'=>q h' c _ R' hD' ?_
  subst hp
  unfold A1R
  rw[← lv]
  exact A2m r _
theorem A8u(hA:Room k A)(K:A0z C k ly g0 f d)(l0:g0.lev g)(R:Rel C ly g σ s){xs ks:List T}{vs:List Value}{n:Nat}(ho:s.heap.get? D=some (seqObj "list" vs.toArray n))(hD:C.hb.get? D=none∧g.role D=none)(r:RelTs C g xs vs)(h2:2≤xs.length)(h64:xs.length<64)(e:A2B d ly.length xs σ=some (ks,σ'))(hk:n7 ks=true){P:PySem.Fin→Shared→Prop}(q:∀ g' s' c out,g.le g'→Rel C ly g' σ' s'→s'.heap.get? D=some (seqObj "list" (List.toArray out) c)→C.hb.get? D=none∧g'.role D=none→RelTs C g' (A1R ks xs) out→P (.done (.ret .none)) s'):wpAny (Md C) A (ksk_tree D (.ref f) false) P E s:=by
 have lv:=r.length
 have s1:=Heap.SameBut.update s.heap D (Obj.mapSeq fun _=>(#[]:Array Value))
 obtain⟨e1,ho1⟩:∃ e1,(s.heap.update D (Obj.mapSeq fun _=>(#[]:Array Value))).get? D=some (seqObj "list" #[] e1):=⟨_,get?_update_seq ho fun _ => #[]⟩
 have R1:=R.but1 s1 hD
 have R2:=R1.grow (Grow.push_ (o:=seqObj "tuple" vs.toArray 0) (t:=s.toks))
 have R3:=R2.grow (Grow.push_ (o:=seqObj "list" #[] 0) (t:=s.toks))
 unfold ksk_tree
 refine wpAny_bind (listItems_at ho rfl ?_)
 refine wpAny_bind (listUpdate_at ho rfl ?_ (n6 (show vs.length<64 from lv▸h64)) (Nat.zero_le _))
 refine wpAny_bind (seqEpoch_at ho1 rfl ?_)
 refine wpAny_bind (wpAny_newTuple ?_ (n6 (show vs.length<64 from lv▸h64)))
 refine wpAny_bind (wpAny_newList ?_ (Nat.zero_le _))
 refine wpAny_holding ?_
 unfold ksk_rest
 refine wpAny_bind (wpAny_rule ?_)
 rw[List.forIn_toArray]
 have hDlt:=Heap.lt_size (Heap.get?_push_of_some (seqObj "tuple" vs.toArray 0) ho1)
 have S:P8 C ly g ((s.heap.update D (Obj.mapSeq fun _=>(#[]:Array Value))).push (seqObj "tuple" vs.toArray 0)).objs.size D e1 [] σ { s with heap:=((s.heap.update D (Obj.mapSeq fun _=>(#[]:Array Value))).push (seqObj "tuple" vs.toArray 0)).push (seqObj "list" #[] 0),toks:=s.toks }:=
  ⟨R3,⟨0,Heap.get?_push_size _ rfl⟩,Heap.get?_push_of_some _ (Heap.get?_push_of_some _ ho1),⟨D6 R2.old B3,R2.none_above (Nat.le_refl _)⟩,hD,Nat.ne_of_gt hDlt⟩
 refine wpAny_bind (A98 hA K (E:=E) (fun v s' R' hb => ?_) xs vs g σ _ [] [] ks σ' l0 S r rfl e (by rw[List.length_nil,Nat.zero_add];exact h64) fun g' kv s' l' S' rk => ?_)
 ·refine wpAny_bind (wpAny_attempt (wpAny_mono hb (fun r s'' h => ?_) fun _ _ x=>x.elim))
  exact wpAny_bind (wpAny_mono h (fun _ s3 h=>wpAny_pure h) fun _ _ x=>x)
 ·obtain⟨c,hks⟩:=S'.ks
  refine wpAny_bind (listItems_at hks rfl ?_)
  exact A86 S' rk (F5 l' _ _ r) (A8d _ e) h2 h64 hk fun h' c out R' hD' ro=>q g' _ c out l' R' hD' S'.hd ro
end
end
section
section
variable{s:Shared}{f:Addr}{d:Mine.D}
theorem A49(hA:Room (k+2) A)(K:A0z C k ly g0 f d)(l0:g0.lev g)(R:Rel C ly g σ s){x:T}{u:Value}{xs ks:List T}(hu:RelW C g s.heap x u)(e:itK x=some xs)(h2:2≤xs.length)(h64:xs.length<64)(ek:A2B d ly.length xs σ=some (ks,σ'))(hk:n7 ks=true)(q:∀ g' s' r,g.le g'→Rel C ly g' σ' s'→RelT C g' (.lst (A1R ks xs)) r→Q r s'):wpAny (Md C) A (call (.builtin "sorted") [u] [(Str.ofString "key", .ref f)]) Q E s:=by
 refine call_function_entry_kw kind_sorted plain_sorted entry_sorted (ksk_s1 _ _) ?_
 unfold Builtin.«sorted»
 refine wpAny_bind (m:=checkCount "sorted" 1 1 _) (wpAny_pure ?_)
 refine wpAny_bind (A6C (show A.in1.handled=none from hA.handled) R hu e (Nat.lt_trans h64 (by decide)) fun vs h' tk htk hkp r => ?_)
 have lv:=r.length
 refine wpAny_bind (wpAny_newList ?_ (n6 (show vs.length<64 from lv▸h64)))
 have R1:=R.grow (Grow.heap_ (g:=g) (h':=h') (t:=tk) hkp htk)
 have R2:=R1.grow (Grow.push_ (o:=seqObj "list" vs.toArray 0) (t:=tk))
 have hD:(h'.push (seqObj "list" vs.toArray 0)).get? h'.objs.size=some (seqObj "list" vs.toArray 0):=Heap.get?_push_size _ rfl
 have hn:=R1.none_above (a:=h'.objs.size) (Nat.le_refl _)
 have hb:=D6 R1.old (B3 (h:=h'))
 refine wpAny_bind (wpAny_holding (wpAny_call_entry_kw slot_list_sort ⟨_,hD,rfl⟩ entry_list_sort ?body (ksk_l1 _ _)))
 case body=>
  show wpAny (Md C) A.in1.in1 (Builtin.«list.sort» ⟨[.ref h'.objs.size],[(Str.ofString "key", .ref f)]⟩) _ _ _
  rw[ksk_t1]
  refine A8u hA.in1.in1 K l0 R2 hD ⟨hb,hn⟩ r h2 h64 ek hk fun g' s' c out lg R' hD' hnD ro=>⟨_,rfl,wpAny_pure ⟨_,rfl,?_⟩⟩
  obtain⟨ln,R3⟩:=R'.name hnD.1 hnD.2 hD'
  exact q _ _ _ (lg.trans ln) R3 (.lst G.put_fz (F5 ln _ _ ro))
end
section
variable{a kd:D}
noncomputable def A26(n:Nat)(kd a:D):D:=fun σ=>(a σ).bind fun p=>(view p.2 p.1).bind fun x=>(itK x).bind fun xs=>if 2≤xs.length∧xs.length<64 then (A2B kd n xs p.2).bind fun r=>if n7 r.1 then some (.t (.lst (A1R r.1 xs)),r.2) else none else none
theorem A6b{lpos kpos:Pos}{body:Expr}{P c:Addr}{cl:List (Str×Addr)}(B:Base C)(U:A6J C)(N:A00 C env (Str.ofString "sorted") (.builtin "sorted"))(ha:SE C (k+3) env ly e a)(hs:starEach [e] env=[(false,eval e env)])(hT:C.tabs P lpos (env.qual ++ "<lambda>"))(hC:CodeHd C.hb c P)(hcode:env.code=.ref c)(hg:env.globals=mainGlobals)(hclos:closureFor scope env=pure cl)(hdef:defaultsOf params env=([],[]))(hkey:∀ (g:G) (f:Addr) (fd:FuncData) (c':Addr),Made C g f fd→fd.code=.ref c'→fd.body=.expr body→fd.scope=scope→fd.params=params→fd.defaults=.none→fd.kwdefaults=.none→fd.globals=mainGlobals→fd.closure=cl→fd.builtins=builtinsNs→A0z C (k+1) ly g f kd)(he:eval (.Call (.Name (Str.ofString "sorted") np) [e] [⟨some (Str.ofString "key"),.Lambda params body scope lpos,kpos⟩] pos) env=(do callWith pos (← eval (.Name (Str.ofString "sorted") np) env) [] (backTo pos (starEach [e] env)) (backToKw pos (keywordEach [⟨some (Str.ofString "key"),.Lambda params body scope lpos,kpos⟩] env)))):
  SE C (k+3) env ly (.Call (.Name (Str.ofString "sorted") np) [e] [⟨some (Str.ofString "key"),.Lambda params body scope lpos,kpos⟩] pos) (A26 ly.length kd a):=fun A hA g σ s v σ' R e'=>by
 refine b2 e' fun p σ1 e1 e' => ?_
 refine b1 e' fun x e2 e' => ?_
 refine b1 e' fun xs e3 e' => ?_
 refine iN e' fun hlen e'=>b2 e' fun ks σ2 e4 e'=>iN e' fun hk e' => ?_
 refine s2 e' ?_
 rw[he]
 refine wpAny_bind (A0K B N R (callWith_kw ?_ (by rw[hs];rfl) (by rw[hs];rfl) rfl rfl))
 rw[hs]
 show wpAny _ _ (spliced [(false,eval e env)]) _ _ _
 refine Calls.spliced_cons (ha.use hA R e1 fun g1 u s1 l1 R1 V1=>Calls.spliced_nil ?_)
 show wpAny _ _ (evalAll [(do let v ← eval (.Lambda params body scope lpos) env;standAt pos;pure v)]) _ _ _
 refine wpAny_evalAll_cons (wpAny_bind (kla_eval hdef (B18 B U R1 hT hC hclos hg hcode fun f fd g2 s2 f1 f2 f3 f4 f5 f6 f7 f8 f9 f10 l2 R2 M=>wpAny_bind (wpAny_standAt (wpAny_pure (wpAny_evalAll_nil ?_))))))
 have V2:=B6 l2 _ _ V1
 refine B1O (id M) fun c' _ _ _ _ hc' _ => ?_
 have K:=hkey g2 f fd c' M hc' f4 f5 f3 f9 f10 f6 f7 f8
 exact A49 hA K ⟨⟨[],by simp⟩,fun _ _ e=>e,Nat.le_refl _⟩ R2 (R2.view B V2 e2) e3 hlen.1 hlen.2 e4 hk fun g3 s3 r l3 R3 V3=>⟨g3,(l1.trans l2).trans l3,R3,V3⟩
end
end
section
section
variable{s:Shared}
noncomputable def SdG(C:Cx)(k:Nat)(g0:G)(ly:List Loc)(t:Sem Value)(d:D):Prop:=
 ∀ A,Room k A→∀ g σ s v σ',g0.lev g→Rel C ly g σ s→d σ=some (v,σ')→wpAny (Md C) A t (Ev C ly g σ' v) X4 s
noncomputable def SfG(C:Cx)(k:Nat)(g0:G)(ly:List Loc)(t:Sem Flow)(d:DS):Prop:=
 ∀ A,Room k A→∀ g σ s f σ',g0.lev g→Rel C ly g σ s→d σ=some (f,σ')→wpAny (Md C) A t (Es C ly g σ' f) X4 s
theorem k6{x:Value}{s:Shared}{P:Prop}(h:X4 x s):P:=h.elim
theorem sdG{t:Sem Value}{d:D}(h:Sd C k ly t d):SdG C k g0 ly t d:=fun A hA g σ s v σ' _=>h A hA g σ s v σ'
theorem sfG{t:Sem Flow}{d:DS}(h:Sf C k ly t d):SfG C k g0 ly t d:=fun A hA g σ s v σ' _=>h A hA g σ s v σ'
section
variable{e1:Expr}{a:D}{p:DB}{d d':DS}{st:Stmt}{rest:List Stmt}
theorem B5t{f:T→T→Option T}(B:Base C)(ha:SdG C k g0 ly (eval e1 env) a)(hb:SdG C k g0 ly (eval e2 env) b)(hf:Pure2 C k (binaryOp op) f):SdG C k g0 ly (eval (.BinOp e1 op e2 pos) env) (d2 f a b):=fun A hA g σ s v σ' l R e=>by
 refine b2 e fun p σ1 ea e => ?_
 refine b2 e fun q σ2 eb e => ?_
 refine b1 e fun x ex e => ?_
 refine b1 e fun y ey e => ?_
 refine b1 e fun z ez e => ?_
 refine s2 e ?_
 exact wpAny_BinOp (wpAny_mono (ha A hA g σ s p σ1 l R ea) (fun u s1 ⟨g1,l1,R1,V1⟩=>wpAny_mono (hb A hA g1 σ1 s1 q σ2 (l.trans l1.v) R1 eb) (fun w s2 ⟨g2,l2,R2,V2⟩=>
  wpAny_mono (hf A hA ly g2 σ2 s2 x y u w z R2 (R2.view B (B6 l2 _ _ V1) ex) (R2.view B V2 ey) ez) (fun r s3 ⟨g3,w,T3⟩=>⟨g3,(l1.trans l2).trans w.le,R2.grow w,T3⟩) fun _ _=>k6) fun _ _=>k6) fun _ _=>k6)
theorem B4W(h:ST C k env ly e p)(ha:SdG C k g0 ly (eval e1 env) a)(hb:SdG C k g0 ly (eval e2 env) b):SdG C k g0 ly (eval (.IfExp e e1 e2 pos) env) (dIf p a b):=fun A hA g σ s v σ' l R e'=>by
 refine b2 e' fun u σ1 e1 e' => ?_
 refine wpAny_IfExp (h.use hA R e1 fun g1 s1 l1 R1 => ?_)
 have up:∀ x s',Ev C ly g1 σ' v x s'→Ev C ly g σ' v x s':=fun x s' ⟨g2,l2,R2,V2⟩=>⟨g2,l1.trans l2,R2,V2⟩
 cases u with
 | true=>exact wpAny_mono (ha A hA g1 σ1 s1 v σ' (l.trans l1.v) R1 e') up fun _ _=>k6
 | false=>exact wpAny_mono (hb A hA g1 σ1 s1 v σ' (l.trans l1.v) R1 e') up fun _ _=>k6
theorem Es.up(l1:g.le g1){f:Fl}{x:Flow}:Es C ly g1 σ' f x s'→Es C ly g σ' f x s':=fun ⟨g2,l2,R2,V2⟩=>⟨g2,l1.trans l2,R2,V2⟩
theorem gIf(h:ST C k env ly e p)(h1:SfG C k g0 ly (execs body env) d)(h2:SfG C k g0 ly (execs orelse env) d'):SfG C k g0 ly (exec (.If e body orelse pos) env) (H5 p d d'):=fun A hA g σ s f σ' l R e'=>by
 refine b2 e' fun u σ1 e1 e' => ?_
 refine wpAny_If (h.use hA R e1 fun g1 s1 l1 R1 => ?_)
 cases u with
 | true=>exact wpAny_mono (h1 A hA g1 σ1 s1 f σ' (l.trans l1.v) R1 e') (fun _ _=>.up l1) fun _ _=>k6
 | false=>exact wpAny_mono (h2 A hA g1 σ1 s1 f σ' (l.trans l1.v) R1 e') (fun _ _=>.up l1) fun _ _=>k6
theorem B5s(h:SdG C k g0 ly (eval e env) a):SfG C k g0 ly (exec (.Return (some e) pos) env) (G5 a):=fun A hA g σ s f σ' l R e'=>by
 refine b2 e' fun u σ1 e1 e' => ?_
 refine s2 e' ?_
 exact wpAny_Return_some (wpAny_mono (h A hA g σ s u σ1 l R e1) (fun x s1 ⟨g1,l1,R1,V1⟩=>⟨g1,l1,R1,x,rfl,V1⟩) fun _ _=>k6)
theorem A8y{x:T}{u:Unit}(e:A8z x=some u):x=.none:=by
 cases x
 case none=>rfl
 all_goals exact nn e
noncomputable def A44(a:D):DS:=fun σ=>(a σ).bind fun p=>(vOf A8z p.1).bind fun _=>some (.next,p.2)
theorem B4X(h:SdG C k g0 ly (eval e env) a)(hi:interactive env=false)(hs:swapsWith e none pos.line env=pure false):SfG C k g0 ly (exec (.Expr e pos) env) (A44 a):=fun A hA g σ s f σ' l R e'=>by
 refine b2 e' fun u σ1 e1 e' => ?_
 refine b1 e' fun _ en e' => ?_
 cases U1 (c:=fun _=>.none) A8y en
 refine s2 e' ?_
 refine wpAny_Expr (wpAny_mono (h A hA g σ s _ σ1 l R e1) (fun x s1 ⟨g1,l1,R1,V1⟩ => ?_) fun _ _=>k6) hi hs
 obtain rfl:x=.none:=V1
 exact⟨g1,l1,R1,rfl⟩
theorem m4(h:SfG C k g0 ly (exec st env) d)(h':SfG C k g0 ly (execs rest env) d'):SfG C k g0 ly (execs (st::rest) env) (A9 d d'):=fun A hA g σ s v σ' l R e=>by
 refine b2 e fun f σ1 e1 e => ?_
 refine wpAny_execs_cons (wpAny_mono (h A hA g σ s f σ1 l R e1) (fun x s1 ⟨g1,l1,R1,V1⟩ => ?_) fun _ _=>k6)
 cases f with
 | next=>
  obtain rfl:x=.next:=V1
  exact wpAny_mono (h' A hA g1 σ1 s1 v σ' (l.trans l1.v) R1 e) (fun _ _=>.up l1) fun _ _=>k6
 | brk=>obtain rfl:x=.brk:=V1;exact s2 e ⟨g1,l1,R1,rfl⟩
 | cont=>obtain rfl:x=.cont:=V1;exact s2 e ⟨g1,l1,R1,rfl⟩
 | ret v=>obtain⟨y,rfl,V⟩:=V1;exact s2 e ⟨g1,l1,R1,y,rfl,V⟩
theorem B0U(h:SfG C k g0 ly (exec st env) d):SfG C k g0 ly (execs [st] env) d:=fun A hA g σ s v σ' l R e=>by
 refine wpAny_execs_cons (wpAny_mono (h A hA g σ s v σ' l R e) (fun x s1 ⟨g1,l1,R1,V1⟩ => ?_) fun _ _=>k6)
 cases v with
 | next=>obtain rfl:x=.next:=V1;exact wpAny_execs_nil ⟨g1,l1,R1,rfl⟩
 | brk=>obtain rfl:x=.brk:=V1;exact⟨g1,l1,R1,rfl⟩
 | cont=>obtain rfl:x=.cont:=V1;exact⟨g1,l1,R1,rfl⟩
 | ret v=>obtain⟨y,rfl,V⟩:=V1;exact⟨g1,l1,R1,y,rfl,V⟩
end
noncomputable abbrev SpecN:=List V→St→Option (V×St)
noncomputable def B5N(f:Fl):Option V:=Fl.casesOn (motive:=fun _=>Option V) f (some (.t .none)) none none some
noncomputable def x8(mk:List V→Option (List (Option V)))(d:Nat→DS):SpecN:=fun us σ=>(mk us).bind fun vals=>(d σ.loc.length ⟨σ.loc++vals,σ.objs⟩).bind fun p=>(B5N p.1).bind fun v=>some (v,⟨p.2.loc.take σ.loc.length,p.2.objs⟩)
noncomputable def A2M(C:Cx)(k:Nat)(g0:G)(f:Addr)(P:List Loc→Prop)(sp:SpecN):Prop:=
 ∀ A,Room k A→∀ ly g σ s us vs v σ',P ly→g0.lev g→Rel C ly g σ s→RelVs C g us vs→sp us σ=some (v,σ')→wpAny (Md C) A (call (.ref f) vs) (Ev C ly g σ' v) X4 s
theorem A6s(B:Base C){f:Addr}(M:Made C g0 f fd)(hb:fd.body=.stmts body){mk:List V→Option (List (Option V))}{d:Nat→DS}{xs:List Str}{P:List Loc→Prop}(h1:fd.scope.isCoroutine=false)(h2:fd.scope.isGenerator=false)(h3:fd.scope.kind=.function)(hc:(fd.scope.names.all fun x=>x.2 != .cell)=true)(hnd:xs.Nodup)(hmk:∀ us vals,mk us=some vals→∀ g vs,RelVs C g us vs→∃ binds:List (Str×Value),bindArgs fd ⟨vs,[]⟩=pure binds∧(binds.all fun x=>fd.scope.names.lookup x.1==some .local)=true∧A0e C g (fun x=>binds.reverse.lookup x) xs vals)(h:∀ L ly,P ly→SfG C k g0 (ly++xs.map fun x=>.fr L x) (execs body (callEnv fd L f)) (d ly.length)):A2M C (k+1) g0 f P (x8 mk d):=fun A hA ly g σ s us vs v σ' hP lg R hv e=>by
 refine b1 e fun vals e1 e => ?_
 refine b2 e fun fl σ2 e2 e => ?_
 refine b1 e fun w e3 e => ?_
 refine s2 e ?_
 rw[R.len] at e2 ⊢
 refine q8 (hmk us vals e1 g vs hv) fun binds hbind hall hS => ?_
 have M:=M.monov lg
 refine A1M (id M) fun _ _ _ _ hr _ => ?_
 refine wpAny_call (codeAny_call_def hA.rl (R.frz _ _ hr) rfl (A9h B R) (M.code R) hb (BindsTo.of_eq hbind) (fun x hx=>bne_iff_ne.mp (List.all_eq_true.mp hc x hx)) (fun x hx=>eq_of_beq (List.all_eq_true.mp hall x hx)) (fun h₀ hns hk => ?_) h1 h2 h3)
 refine xAA (R.lay (ls:=xs.map fun x=>.fr s.heap.objs.size x) (vals:=vals) (h':=h₀) (tk:=s.toks+binds.length) hk (by rw[Y1 hS,List.length_map]) (P7 hnd) fun i l w hl hw => ?_) fun l0 R1 hn => ?_
 ·rw[List.getElem?_map] at hl
  refine I7 (Option.map_eq_some_iff.mp hl) fun x q hl => ?_
  cases hl
  exact⟨B3,_,hns,Y2 hS q hw⟩
 refine wpAny_mono (h _ _ hP _ hA.deeper _ _ _ _ _ (lg.trans l0.v) R1 e2) (fun x s2 ⟨g2,l2,R2,V2⟩ => ?_) fun _ _=>k6
 refine xAA (R.unlay hn R2 l2 l0) fun l3 lv R3 => ?_
 have q:Ev C ly g ⟨σ2.loc.take ly.length,σ2.objs⟩ w (B5M x) s2:=by
  cases fl with
  | next=>obtain rfl:x=.next:=V2;exact s1 e3 ⟨_,l3,R3,rfl⟩
  | ret u=>obtain⟨y,rfl,V⟩:=V2;exact s1 e3 ⟨_,l3,R3,J6 lv _ _ V⟩
  | _=>exact nomatch e3
 cases x <;> exact q
theorem A7J(B:Base C)(U:A6J C){name bname:Str}{P c cc:Addr}{cl:List (Str×Addr)}{Q:Flow→Shared→Prop}(R:Rel C ly g σ s)(hT:C.tabs P pos (qualnameIn env name name))(hC:CodeHd C.hb c P)(hcl:closureFor scope env=pure cl)(hg:env.globals=mainGlobals)(hcode:env.code=.ref c)(hd0:params.defaults=[])(hk0:params.kw_defaults=[])(ha:annTrees params none env=[])(hk:env.scope.kind=.function)(hn:env.kindOf name=some .cell)(hcc:env.cells.lookup name=some cc){o0:Obj}(hod0:o0.data=.cell none)(l0:(g0.put cc (.kept o0)).le g)(hcr:g0.role cc=none)(hb:bname=name)(q:∀ f fd oc g' s',fd.body=.stmts body→fd.scope=scope→fd.params=params→fd.defaults=.none→fd.kwdefaults=.none→fd.globals=mainGlobals→fd.closure=cl→fd.builtins=builtinsNs→g0.le g'→Rel C ly g' σ s'→Made C g' f fd→g'.fz C cc oc→oc.data=.cell (some (.ref f))→Q .next s'):
  wpAny (Md C) A (exec (.FunctionDef name params body [] none [] scope none bname pos) env) Q E s:=by
 subst hb
 refine nestDef_K hd0 hk0 ha (A9v B U R hT hC hcl hg hcode fun f fd g1 s1 f1 f2 f3 f4 f5 f6 f7 f8 f9 f10 l1 R1 M => ?_)
 have hk1:=(l0.trans l1).kept _ _ (W0 (g:=g0) (a:=cc) (r:=.kept o0))
 have hcell1:s1.heap.IsCell cc none:=⟨_,R1.kept _ _ hk1,hod0⟩
 refine wpAny_storeName_cell hk hn hcc hcell1 fun h' hc' hs' => ?_
 refine I7 (hc') fun oc hoc hod => ?_
 obtain⟨lv,R2⟩:=R1.refrz (o':=oc) (h':=h') (tk:=s1.toks) hk1 hs' hoc
 refine q f fd oc _ _ f4 f5 f3 f9 f10 f6 f7 f8 ?_ R2 (M.monov lv) (.inr W0) hod
 have l01:g0.le (g0.put cc (.kept o0)):=m9 hcr
 have l02:=l01.trans (l0.trans l1)
 refine⟨l02.own,fun a o e => ?_,fun a o e => ?_,l02.tk⟩
 ·have:a≠cc:=fun h=>by subst h;rw[hcr] at e;(first | refine s2 e ?_ | refine s1 e ?_ | cases e)
  simp only[G.put,if_neg this]
  exact l02.frz _ _ e
 ·have:a≠cc:=fun h=>by subst h;rw[hcr] at e;(first | refine s2 e ?_ | refine s1 e ?_ | cases e)
  simp only[G.put,if_neg this]
  exact l02.kept _ _ e
noncomputable def A0x(sp:SpecN)(l:DL):D:=fun σ=>(l σ).bind fun p=>sp p.1 p.2
theorem A20{x:Str}{cc f:Addr}{oc:Obj}{l:DL}{sp:SpecN}{P:List Loc→Prop}(hk:env.scope.kind=.function)(hn:env.kindOf x=some .cell∨env.kindOf x=some .free)(hcc:env.cells.lookup x=some cc)(hd1:(x==("__debug__" : Str))=false)(hd2:(x==("__classdict__" : Str))=false)(hz:g0.fz C cc oc)(hod:oc.data=.cell (some (.ref f)))(M:Made C g0 f fd)(K:A2M C k g0 f P sp)(hP:P ly)(hl:SL C k env ly args l)(hne:∃ a r,args=a::r∧starEach (a::r) env=(false,eval a env)::starEach r env∧(backTo pos (starEach r env)).any (·.1)=false)(he:eval (.Call (.Name x np) args [] pos) env=(do callWith pos (← eval (.Name x np) env) [] (backTo pos (starEach args env)) (backToKw pos (keywordEach [] env)))):SdG C k g0 ly (eval (.Call (.Name x np) args [] pos) env) (A0x sp l):=fun A hA g σ s v σ' lg R e=>by
 refine b2 e fun us σ1 e1 e => ?_
 have hc:s.heap.IsCell cc (some (.ref f)):=⟨_,R.fz (lg.fz hz),hod⟩
 refine A2b (hne) fun a r hR2 h1 h2 => ?_
 subst hR2
 refine Call_ (he:=he) (wpAny_Name ?_ hd1)
 have go:wpAny (Md C) A (callWith pos (.ref f) [] (backTo pos (starEach (a::r) env)) []) (Ev C ly g σ' v) X4 s:=by
  refine A1M (id (M.monov lg)) fun _ _ _ _ hr _ => ?_
  refine callWith_F ⟨_,_,_,_,R.frz _ _ hr⟩ ((hl pos).use hA R e1 fun g1 vs s1 l1 R1 V1=>⟨⟨_,_,_,_,R1.frz _ _ (l1.frz _ _ hr)⟩,?_⟩) h1 h2
  rw[List.nil_append]
  exact wpAny_mono (K A hA ly g1 σ1 s1 us vs v σ' hP (lg.trans l1.v) R1 V1 e) (fun y s2 ⟨g2,l2,R2,V2⟩=>⟨g2,l1.trans l2,R2,V2⟩) fun _ _=>k6
 rcases hn with hn | hn
 ·exact wpAny_loadName_cell hk hn hcc hc go
 ·exact wpAny_loadName_free hk hn hcc hc go hd2
end
end
section
theorem D8{L:Addr}{xs:List Str}{x:Str}(hm:ly.length=m)(h:xs[j]?=some x):(ly++xs.map fun x=>Loc.fr L x)[m+j]?=some (.fr L x):=by
 rw[List.getElem?_append_right (by omega),← hm,Nat.add_sub_cancel_left,List.getElem?_map,h];rfl
theorem P3{i:Nat}{l:Loc}(h:ly[i]?=some l):(ly++ls)[i]?=some l:=by
 rw[List.getElem?_append_left (List.getElem?_eq_some_iff.mp h).1];exact h
theorem B2X{α:Type}{lo vs:List α}(h:lo.length=m):(lo++vs)[m+j]?=vs[j]?:=by
 rw[List.getElem?_append_right (by omega),← h,Nat.add_sub_cancel_left]
theorem P6{α:Type}{lo vs:List α}{i:Nat}{y:α}(h:lo[i]?=some y):(lo++vs)[i]?=some y:=by
 rw[List.getElem?_append_left (List.getElem?_eq_some_iff.mp h).1];exact h
theorem B1r{α:Type}{lo vs:List α}{y:α}(h:lo.length=m):(lo++vs).set (m+j) y=lo++vs.set j y:=by
 rw[List.set_append_right _ _ (by omega),← h,Nat.add_sub_cancel_left]
section
variable{K:Frag}{a:Addr}{sl:Array (Option Value)}{mk:List V→List (Str×V)→Option (List (Option V))}{d:DS}
theorem A63(B:Base C)(X:K.In C.hb)(hK:List.lookup a K=some ⟨cls,dc,.func fd,sl⟩)(hb:fd.body=.stmts body)(hc:codeIn K fd.code fd.qualname=true){lyf:Addr→List Loc}(hnd:∀ L,(lyf L).Nodup)(hclo:fd.closure=[])(hmk:∀ us kw loc,mk us kw=some loc→∀ (g:G) (vs:List Value) (kws:List (Str×Value)) (s:Shared),K.In s.heap→RelVs C g us vs→A0y C g kw kws→kws=[]∧∃ binds:List (Str×Value),bindArgs fd ⟨vs,[]⟩=pure binds∧
   (∀ L,(binds.all fun x=>fd.scope.names.lookup x.1==some .local||(fd.scope.names.lookup x.1==some .cell&&((cellsFrom (L+1) fd.scope.names []).lookup x.1).isSome))=true)∧
   (∀ L,A34 C g L (bindL (callEnvC fd L a).kindOf binds fun _=>none) (bindC (callEnvC fd L a).kindOf binds fun _=>none) (callEnvC fd L a).cells (lyf L) loc)∧
   ∀ L,bindC (callEnvC fd L a).kindOf binds (fun _=>none) (Str.ofString "inner")=none)(hd:∀ L A g σ s f σ',Room k A→Rel C (lyf L) g σ s→(∀ c,(callEnvC fd L a).cells.lookup (Str.ofString "inner")=some c→(∀ l∈lyf L,l.addr≠c)→s.heap.IsCell c none∧C.hb.get? c=none∧g.role c=none)→
   d σ=some (f,σ')→wpAny (Md C) A (execs body (callEnvC fd L a)) (Es C (lyf L) g σ' f) X4 s)(h1:fd.scope.isCoroutine=false)(h2:fd.scope.isGenerator=false)(h3:fd.scope.kind=.function):H6 C (k+1) (.ref a) (C7 mk d):=fun A hA ly g σ s us vs kw kws v objs' R hv hkw e=>by
 refine b1 e fun loc e1 e => ?_
 refine b2 e fun f σ2 e2 e => ?_
 have X1:=X.keeps R.old
 refine B3f (hmk us kw loc e1 g vs kws s X1 hv hkw) fun hR0 binds hB hall hS hin0 => ?_
 subst hR0
 refine wpAny_call (codeAny_call_function hA.rl (X1 _ _ hK) rfl h1 h2 hb (codeRec_of X1 hc) ?_)
 rw[hB]
 refine wpAny_pure (wpAny_with_toks (Nat.le_refl s.toks) ?_)
 rw[hclo]
 refine wpAny_newFunctionEnv_cells h3 (fun x hx => ?_) (fun env he s₁ hin htk=>⟨?_,?_⟩)
 ·have:=List.all_eq_true.mp (hall s.heap.objs.size) x hx
  simpa using this
 ·exact(B.nolimit.keeps R.old).keeps hin.toInCall.keep
 subst he
 refine codeAny_func ?_
 obtain⟨h₀,tk,rfl⟩:=hin.toInCall.same
 have hS:=hS s.heap.objs.size
 obtain⟨R1,hf,hkept,hnew,hkk⟩:=R.enter (ly':=lyf s.heap.objs.size) (loc':=loc) (h':=h₀) (tk:=tk) hin.toInCall.keep (A1S hS) (hnd _) (fun i l w hl hw=>by
  rcases A1T hS hl hw with ⟨n,rfl,hn⟩|⟨n,c,rfl,hc,hn⟩
  ·exact⟨B3,_,hin.toInCall.ns,hn⟩
  ·exact⟨Heap.get?_none_of_le (Nat.le_of_lt (hin.above n c (mem_of_lookup hc))),_,hin.cell n c hc,hn⟩)
 refine wpAny_mono (hd _ _ _ _ _ _ _ hA.deeper R1 (fun c hc hne => ?_) e2) (fun fl s2 ⟨g2,l2,R2,V2⟩ => ?_) fun _ _ x=>x.elim
 ·have hce:=hin.cell _ c hc
  have hce:h₀.IsCell c (bindC (callEnvC fd s.heap.objs.size a).kindOf binds (fun _=>none) (Str.ofString "inner")):=hce
  rw[hin0] at hce
  have hge:s.heap.objs.size≤c:=Nat.le_of_lt (hin.above _ c (mem_of_lookup hc))
  refine⟨hce,D6 R.old (Heap.get?_none_of_le hge),?_⟩
  have nf:(lyf s.heap.objs.size).find? (fun l=>l.addr==c)=none:=by
   rw[List.find?_eq_none]
   intro l hm q
   exact hne l hm (by simpa using q)
  have nl:c∉ly.map Loc.addr:=fun hm=>by
   refine I7 (List.mem_map.mp hm) fun l hl hR2 => ?_
   subst hR2
   refine I7 (hkept l hl) fun o ho _ => ?_
   rw[Heap.get?_none_of_le hge] at ho;cases ho
  simp only[G.enter,nf,if_neg nl]
  exact R.none_above hge
 have q:=A0b (A:=A) (s1:=s) R l2 R2 V2 e hkept hnew hf hkk
 cases fl <;> exact q
end
end
section
set_option maxHeartbeats 1000000
structure TabsK(C:Cx):Prop where
 u:A6J C
 t1:C.tabs 191 ⟨114,4,123,28⟩ (Str.ofString "_int2digits.<locals>.inner")
 c1:CodeHd C.hb 195 191
 t2:C.tabs 198 ⟨129,4,134,55⟩ (Str.ofString "_digits2int.<locals>.inner")
 c2:CodeHd C.hb 202 198
 t3:C.tabs 307 ⟨280,32,280,94⟩ (Str.ofString "_law_back.<locals>.<lambda>")
 c3:CodeHd C.hb 309 307
 t4:C.tabs 317 ⟨326,33,326,103⟩ (Str.ofString "law.<locals>.<lambda>")
 c4:CodeHd C.hb 319 317
 t5:C.tabs 283 ⟨218,42,218,92⟩ (Str.ofString "add_callers.<locals>.<genexpr>")
 c5:CodeHd C.hb 287 283
noncomputable def mkN(n m:Nat)(us:List V):Option (List (Option V)):=if us.length=n then some (us.map some++List.replicate m none) else none
theorem A9s{n:Nat}{loc:List (Option V)}(e:mkN n m us=some loc):us.length=n∧loc=us.map some++List.replicate m none:=by
 refine iN e fun h e => ?_
 exact s1 e ⟨h,rfl⟩
noncomputable def dI(sp:SpecN)(m:Nat):DS:=
 A9 (H5 (C1 (d2 fEq (d2 fAdd (A0 (m+1)) (dT (.int 1))) (A0 (m+2)))) (A9 (O9 (A0 (m+0)) (A0 2) (A0 (m+1))) (G5 (dT .none))) dSkip)
 (A9 (B9 (m+3) (d2 fShr (d2 fAdd (A0 (m+1)) (A0 (m+2))) (dT (.int 1)))) (A9 (B9 (m+4) (d2 fMul (d2 fSub (A0 (m+3)) (A0 (m+1))) (A0 1))) (A9 (B9 (m+5) (d2 fShr (A0 (m+0)) (A0 (m+4)))) (A9 (B9 (m+6) (d2 fXor (A0 (m+0)) (d2 fShl (A0 (m+5)) (A0 (m+4)))))
 (A9 (A44 (A0x sp (A2 (A0 (m+6)) (A2 (A0 (m+1)) (A2 (A0 (m+3)) dNil))))) (A44 (A0x sp (A2 (A0 (m+5)) (A2 (A0 (m+3)) (A2 (A0 (m+2)) dNil))))))))))
noncomputable def spI:Nat→SpecN:=Nat.rec (fun _ _=>none) fun _ sp=>x8 (mkN 3 4) (dI sp)
noncomputable def B0r:DS:=A9 (B9 2 (B4s (L2 (A2 (dT (.int 0)) dNil)) (d2 fDiv (d2 fSub (d2 fAdd (P1 isIntT fBits (A0 0)) (A0 1)) (dT (.int 1))) (A0 1))))
 (A9 (H5 (C1 (A0 0)) (A44 (A0x (spI 7) (A2 (A0 0) (A2 (dT (.int 0)) (A2 (d1 fLen (A0 2)) dNil))))) dSkip) (G5 (A0 2)))
noncomputable def sp_int2digits:Mine.Spec:=C7 (mkP 2 1) B0r
inductive LyI(L:Addr)(ly:List Loc):Prop
 | mk (h1:ly[1]?=some (.cl (L+1))) (h2:ly[2]?=some (.cl (L+2)))
theorem A2s{f:Addr}{P:List Loc→Prop}:A2M C k g0 f P fun _ _=>none:=fun A hA ly g σ s us vs v σ' hP l R V e=>nomatch e
theorem A2P(B:Base C)(X:(hd.heap_1 P).In C.hb)(hlo:0<C.lo)(TK:TabsK C):H6 C (k+10) (.ref 196) sp_int2digits:=by
 refine A63 B X (k:=k+9) (lyf:=fun L=>([.inl (Str.ofString "a"),.inr 1,.inr 2]:List (Str ⊕ Nat)).map (m3 L)) (by rfl) rfl rfl (fun L=>L8 (by decide)) rfl ?_ ?_ rfl rfl rfl
 ·intro us kw loc e g vs kws s XX hv hkw
  obtain⟨a,n,rfl,rfl,rfl⟩:=A3g e
  obtain⟨v0,_,rfl,h0,v1,_,rfl,h1,hn⟩:=hv
  cases (show _=_ from hn)
  cases (show _=_ from hkw)
  exact⟨rfl,_,rfl,fun L=>rfl,fun L=>⟨_,_,rfl,.inl ⟨Str.ofString "a", rfl,⟨v0,rfl,h0⟩⟩,_,_,rfl,.inr ⟨Str.ofString "n", _,rfl,rfl,⟨v1,rfl,h1⟩⟩,_,_,rfl,.inr ⟨Str.ofString "a_digits", _,rfl,rfl,rfl⟩,rfl⟩,fun L=>rfl⟩
 ·intro L A g σ s f σ' hA R hcc e
  refine b2 e fun fl σ1 e1 e => ?_
  obtain⟨⟨o0,ho0,hod0⟩,hcb,hcr⟩:=hcc (L+3) rfl (by
   intro l hl
   simp only[List.map,m3,List.mem_cons,List.not_mem_nil,or_false] at hl
   rcases hl with rfl | rfl | rfl
   ·exact Nat.ne_of_lt (Nat.lt_add_of_pos_right (by decide))
   ·exact Nat.ne_of_lt (Nat.add_lt_add_left (by decide) L)
   ·exact Nat.ne_of_lt (Nat.add_lt_add_left (by decide) L))
  have Rh:=R.hold hcb hcr ho0
  have e0:fl=.next:=by
   refine b2 e1 fun _ _ _ e1 => ?_
   exact s2 e1 rfl
  subst e0
  refine wpAny_execs_cons ((B7 (k:=k+9) (bc rfl rfl rfl rfl rfl rfl) (B3z B (J5 (A3 A6 B1)) (B2 B (B2 B (B2 B (M3 B ⟨rfl,rfl⟩ ⟨F.plainAttrs_int,F.slot_int_bit_length,F.type_int_bit_length⟩ A0C (A1 (bl rfl rfl rfl rfl rfl)) A5k) (A1 (bc rfl rfl rfl rfl rfl rfl)) J3) A6 A6m) (A1 (bc rfl rfl rfl rfl rfl rfl)) A1i)) rfl).use hA Rh e1 fun g1 x s1 l1 R1 V1 => ?_)
  obtain rfl:x=.next:=V1
  refine wpAny_execs_cons (A7J (g0:=g) B TK.u R1 TK.t1 TK.c1 rfl rfl rfl rfl rfl rfl rfl rfl rfl hod0 l1 hcr rfl fun f fd oc g2 s2 f1 f2 f3 f4 f5 f6 f7 f8 l2 R2 M hz hod => ?_)
  obtain⟨_,_,_,_,_,_,_,_,_,_,_,_,_,_,_⟩:=fd
  cases f1;cases f2;cases f3;cases f4;cases f5;cases f6;cases f7;cases f8
  have inner:∀ d,A2M C (k+d+2) g2 f (LyI L) (spI d):=fun d=>by
   induction d with
   | zero=>exact A2s
   | succ d ih=>
    refine A6s (k:=k+d+2) B M rfl (xs:=[Str.ofString "x", Str.ofString "L", Str.ofString "R", Str.ofString "mid", Str.ofString "shift", Str.ofString "upper", Str.ofString "lower"]) rfl rfl rfl (by rfl) (by decide) (fun us vals e g vs V => ?_) fun L1 ly ⟨hN,hA2⟩ => ?_
    ·obtain⟨h,rfl⟩:=A9s e
     obtain⟨a,b,c,rfl⟩:=A90 h
     obtain⟨v0,_,rfl,h0,v1,_,rfl,h1,v2,_,rfl,h2,e3⟩:=V
     cases (show _=_ from e3)
     exact⟨[(Str.ofString "x", v0),(Str.ofString "L", v1),(Str.ofString "R", v2)],rfl,by rfl,_,_,rfl,⟨v0,rfl,h0⟩,_,_,rfl,⟨v1,rfl,h1⟩,_,_,rfl,⟨v2,rfl,h2⟩,_,_,rfl,rfl,_,_,rfl,rfl,_,_,rfl,rfl,_,_,rfl,rfl,rfl⟩
    ·exact m4 (sfG (J2 (D2 B (B2 B (A1 (bl rfl rfl rfl (D8 rfl rfl) rfl)) A6 J3) (A1 (bl rfl rfl rfl (D8 rfl rfl) rfl)) (v7 B) rfl) (A5 (U2 B (A1 (bl rfl rfl rfl (D8 rfl rfl) rfl)) (A1 (bf rfl rfl rfl (P3 hA2) rfl rfl)) (A1 (bl rfl rfl rfl (D8 rfl rfl) rfl)) rfl) (B5 B1k)) H0))
      (m4 (sfG (B7 (bl rfl rfl rfl (D8 rfl rfl) rfl) (B2 B (B2 B (A1 (bl rfl rfl rfl (D8 rfl rfl) rfl)) (A1 (bl rfl rfl rfl (D8 rfl rfl) rfl)) J3) A6 A9X) rfl))
      (m4 (sfG (B7 (bl rfl rfl rfl (D8 rfl rfl) rfl) (B2 B (B2 B (A1 (bl rfl rfl rfl (D8 rfl rfl) rfl)) (A1 (bl rfl rfl rfl (D8 rfl rfl) rfl)) A6m) (A1 (bf rfl rfl rfl (P3 hN) rfl rfl)) A4O) rfl))
      (m4 (sfG (B7 (bl rfl rfl rfl (D8 rfl rfl) rfl) (B2 B (A1 (bl rfl rfl rfl (D8 rfl rfl) rfl)) (A1 (bl rfl rfl rfl (D8 rfl rfl) rfl)) A9X) rfl))
      (m4 (sfG (B7 (bl rfl rfl rfl (D8 rfl rfl) rfl) (B2 B (A1 (bl rfl rfl rfl (D8 rfl rfl) rfl)) (B2 B (A1 (bl rfl rfl rfl (D8 rfl rfl) rfl)) (A1 (bl rfl rfl rfl (D8 rfl rfl) rfl)) A9Y) B5R) rfl))
      (m4 (B4X (A20 rfl (.inr rfl) rfl rfl rfl hz hod M ih ⟨P3 hN,P3 hA2⟩ (A3 (A1 (bl rfl rfl rfl (D8 rfl rfl) rfl)) (A3 (A1 (bl rfl rfl rfl (D8 rfl rfl) rfl)) (A3 (A1 (bl rfl rfl rfl (D8 rfl rfl) rfl)) B1))) ⟨_,_,rfl,rfl,rfl⟩ rfl) rfl rfl)
      (B0U (B4X (A20 rfl (.inr rfl) rfl rfl rfl hz hod M ih ⟨P3 hN,P3 hA2⟩ (A3 (A1 (bl rfl rfl rfl (D8 rfl rfl) rfl)) (A3 (A1 (bl rfl rfl rfl (D8 rfl rfl) rfl)) (A3 (A1 (bl rfl rfl rfl (D8 rfl rfl) rfl)) B1))) ⟨_,_,rfl,rfl,rfl⟩ rfl) rfl rfl)))))))
  refine wpAny_mono ((m4 (gIf (Q1 B (A1 (bl rfl rfl rfl rfl rfl)) rfl) (B0U (B4X (A20 rfl (.inl rfl) rfl rfl rfl hz hod M (inner 7) ⟨rfl,rfl⟩ (A3 (A1 (bl rfl rfl rfl rfl rfl)) (A3 A6 (A3 (H1 B (bn B X rfl rfl rfl rfl rfl rfl (by decide) rfl (.b _)) (A1 (bc rfl rfl rfl rfl rfl rfl)) A0o rfl) B1))) ⟨_,_,rfl,rfl,rfl⟩ rfl) rfl rfl)) (sfG H0))
   (B0U (sfG (E7 (A1 (bc rfl rfl rfl rfl rfl rfl)))))) A hA g2 σ1 s2 _ σ' ⟨⟨[],(List.append_nil _).symm⟩,fun _ _ e=>e,Nat.le_refl _⟩ R2 e) (fun _ _=>.up l2) fun _ _=>k6
end
section
set_option maxHeartbeats 1000000
noncomputable def dJ(sp:SpecN)(m:Nat):DS:=
 A9 (H5 (C1 (d2 fEq (d2 fAdd (A0 (m+0)) (dT (.int 1))) (A0 (m+1)))) (G5 (A7 (A0 0) (A0 (m+0)))) dSkip)
 (A9 (B9 (m+2) (d2 fShr (d2 fAdd (A0 (m+0)) (A0 (m+1))) (dT (.int 1)))) (A9 (B9 (m+3) (d2 fMul (d2 fSub (A0 (m+2)) (A0 (m+0))) (A0 1)))
 (G5 (d2 fAdd (d2 fShl (A0x sp (A2 (A0 (m+2)) (A2 (A0 (m+1)) dNil))) (A0 (m+3))) (A0x sp (A2 (A0 (m+0)) (A2 (A0 (m+2)) dNil)))))))
noncomputable def spJ:Nat→SpecN:=Nat.rec (fun _ _=>none) fun _ sp=>x8 (mkN 2 2) (dJ sp)
noncomputable def B0s:DS:=G5 (dIf (C1 (A0 0)) (A0x (spJ 7) (A2 (dT (.int 0)) (A2 (d1 fLen (A0 0)) dNil))) (dT (.int 0)))
noncomputable def sp_digits2int:Mine.Spec:=C7 (mkP 2 0) B0s
inductive LyJ(L:Addr)(ly:List Loc):Prop
 | mk (h1:ly[0]?=some (.cl (L+1))) (h2:ly[1]?=some (.cl (L+2)))
theorem A2R(B:Base C)(X:(hd.heap_1 P).In C.hb)(hlo:0<C.lo)(TK:TabsK C):H6 C (k+10) (.ref 203) sp_digits2int:=by
 refine A63 B X (k:=k+9) (lyf:=fun L=>([.inr 1,.inr 2]:List (Str ⊕ Nat)).map (m3 L)) (by rfl) rfl rfl (fun L=>L8 (by decide)) rfl ?_ ?_ rfl rfl rfl
 ·intro us kw loc e g vs kws s XX hv hkw
  obtain⟨j,n,rfl,rfl,rfl⟩:=A3g e
  obtain⟨v0,_,rfl,h0,v1,_,rfl,h1,hn⟩:=hv
  cases (show _=_ from hn)
  cases (show _=_ from hkw)
  exact⟨rfl,_,rfl,fun L=>rfl,fun L=>⟨_,_,rfl,.inr ⟨Str.ofString "digits", _,rfl,rfl,⟨v0,rfl,h0⟩⟩,_,_,rfl,.inr ⟨Str.ofString "n", _,rfl,rfl,⟨v1,rfl,h1⟩⟩,rfl⟩,fun L=>rfl⟩
 ·intro L A g σ s f σ' hA R hcc e
  obtain⟨⟨o0,ho0,hod0⟩,hcb,hcr⟩:=hcc (L+3) rfl (by
   intro l hl
   simp only[List.map,m3,List.mem_cons,List.not_mem_nil,or_false] at hl
   rcases hl with rfl | rfl
   ·exact Nat.ne_of_lt (Nat.add_lt_add_left (by decide) L)
   ·exact Nat.ne_of_lt (Nat.add_lt_add_left (by decide) L))
  refine wpAny_execs_cons (A7J (g0:=g) B TK.u (R.hold hcb hcr ho0) TK.t2 TK.c2 rfl rfl rfl rfl rfl rfl rfl rfl rfl hod0 (.refl _) hcr rfl fun f fd oc g2 s2 f1 f2 f3 f4 f5 f6 f7 f8 l2 R2 M hz hod => ?_)
  obtain⟨_,_,_,_,_,_,_,_,_,_,_,_,_,_,_⟩:=fd
  cases f1;cases f2;cases f3;cases f4;cases f5;cases f6;cases f7;cases f8
  have inner:∀ d,A2M C (k+d+2) g2 f (LyJ L) (spJ d):=fun d=>by
   induction d with
   | zero=>exact A2s
   | succ d ih=>
    refine A6s (k:=k+d+2) B M rfl (xs:=[Str.ofString "L", Str.ofString "R", Str.ofString "mid", Str.ofString "shift"]) rfl rfl rfl (by rfl) (by decide) (fun us vals e g vs V => ?_) fun L1 ly ⟨hD,hN⟩ => ?_
    ·obtain⟨h,rfl⟩:=A9s e
     obtain⟨a,b,rfl⟩:=A8E h
     obtain⟨v0,_,rfl,h0,v1,_,rfl,h1,e3⟩:=V
     cases (show _=_ from e3)
     exact⟨[(Str.ofString "L", v0),(Str.ofString "R", v1)],rfl,by rfl,_,_,rfl,⟨v0,rfl,h0⟩,_,_,rfl,⟨v1,rfl,h1⟩,_,_,rfl,rfl,_,_,rfl,rfl,rfl⟩
    ·exact m4 (sfG (J2 (D2 B (B2 B (A1 (bl rfl rfl rfl (D8 rfl rfl) rfl)) A6 J3) (A1 (bl rfl rfl rfl (D8 rfl rfl) rfl)) (v7 B) rfl) (B5 (E7 (A8 B (A1 (bf rfl rfl rfl (P3 hD) rfl rfl)) (A1 (bl rfl rfl rfl (D8 rfl rfl) rfl)) (fun _ _=>by first | exact .inl rfl | exact .inr rfl)))) H0))
      (m4 (sfG (B7 (bl rfl rfl rfl (D8 rfl rfl) rfl) (B2 B (B2 B (A1 (bl rfl rfl rfl (D8 rfl rfl) rfl)) (A1 (bl rfl rfl rfl (D8 rfl rfl) rfl)) J3) A6 A9X) rfl))
      (m4 (sfG (B7 (bl rfl rfl rfl (D8 rfl rfl) rfl) (B2 B (B2 B (A1 (bl rfl rfl rfl (D8 rfl rfl) rfl)) (A1 (bl rfl rfl rfl (D8 rfl rfl) rfl)) A6m) (A1 (bf rfl rfl rfl (P3 hN) rfl rfl)) A4O) rfl))
      (B0U (B5s (B5t B (B5t B (A20 rfl (.inr rfl) rfl rfl rfl hz hod M ih ⟨P3 hD,P3 hN⟩ (A3 (A1 (bl rfl rfl rfl (D8 rfl rfl) rfl)) (A3 (A1 (bl rfl rfl rfl (D8 rfl rfl) rfl)) B1)) ⟨_,_,rfl,rfl,rfl⟩ rfl) (sdG (A1 (bl rfl rfl rfl (D8 rfl rfl) rfl))) A9Y)
       (A20 rfl (.inr rfl) rfl rfl rfl hz hod M ih ⟨P3 hD,P3 hN⟩ (A3 (A1 (bl rfl rfl rfl (D8 rfl rfl) rfl)) (A3 (A1 (bl rfl rfl rfl (D8 rfl rfl) rfl)) B1)) ⟨_,_,rfl,rfl,rfl⟩ rfl) J3)))))
  refine wpAny_mono (B0U (B5s (B4W (Q1 B (A1 (bc rfl rfl rfl rfl rfl rfl)) rfl) (A20 rfl (.inl rfl) rfl rfl rfl hz hod M (inner 7) ⟨rfl,rfl⟩ (A3 A6 (A3 (H1 B (bn B X rfl rfl rfl rfl rfl rfl (by decide) rfl (.b _)) (A1 (bc rfl rfl rfl rfl rfl rfl)) A0o rfl) B1)) ⟨_,_,rfl,rfl,rfl⟩ rfl) (sdG A6)))
   A hA g2 σ s2 _ σ' ⟨⟨[],(List.append_nil _).symm⟩,fun _ _ e=>e,Nat.le_refl _⟩ R2 e) (fun _ _=>.up l2) fun _ _=>k6
end
section
section
variable{w:World}{s:Shared}
theorem A10{α β:Type}{l:List α}{x:α}{b:β}{f:α→β→Sem (ForInStep β)}{Q:β→Shared→Prop}{M:Model}(h:wpAny M A (f x b >>= fun r=>match r with | .done b=>pure b | .yield b=>forIn l b f) Q E s):wpAny M A (forIn (x::l) b f) Q E s:=by rw[List.forIn_cons];exact h
theorem B2Z{α β:Type}{b:β}{f:α→β→Sem (ForInStep β)}{Q:β→Shared→Prop}{M:Model}(h:Q b s):wpAny M A (forIn ([]:List α) b f) Q E s:=by rw[List.forIn_nil];exact wpAny_pure h
theorem A6r{it t:Addr}{i:Nat}{x:Value}(hit:s.heap.IsTupleIter it t i)(ht:s.heap.IsTuple t items)(hx:items[i]?=some x)(hQ:∀ h',h'.IsTupleIter it t (i+1)→Heap.SameBut it s.heap h'→Q x { s with heap:=h' }):wpAny (model prog w) A (Builtin.SmallTypes.nextOf (.ref it)) Q E s:=by
 refine q8 (id hit) fun o ho hc hd => ?_
 obtain⟨ol,hol,_,nl,hdl⟩:=ht
 unfold Builtin.SmallTypes.nextOf
 refine wpAny_bind (wpAny_callSpecial?_slot (name:=Str.ofString "__next__") hit.typeIs F.slot_tuple_iterator_next (wpAny_call_entry F.slot_tuple_iterator_next hit.typeIs F.entry_tuple_iterator_next ?_ (F.args_tuple_iterator_next_1 _)))
 show wpAny _ _ (field (.ref it) 0 >>= _) _ _ s
 refine wpAny_bind (wpAny_field ho hd (x:=.ref t) rfl ?_)
 show wpAny _ _ (if (Value.ref t==Value.none)=true then _ else _) _ _ s
 rw[if_neg (show ¬ ((Value.ref t==Value.none)=true) from Bool.false_ne_true)]
 show wpAny _ _ (field (.ref it) 1 >>= _) _ _ s
 refine wpAny_bind (wpAny_field ho hd (x:=.int i 0) rfl ?_)
 show wpAny _ _ (seqItems? (.ref t) >>= _) _ _ s
 refine wpAny_bind (wpAny_seqItems hol hdl ?_)
 simp only[Int.toNat_natCast,hx]
 refine wpAny_bind (wpAny_setField ho hd (by simp) (wpAny_pure ⟨x,rfl,wpAny_pure (hQ _ ?_ (Heap.SameBut.update ..))⟩))
 exact⟨_,Heap.get?_update_self _ ho (Obj.isFreed_of_fields (Obj.data_mapFields hd _)),(Obj.cls_mapFields ..).trans hc,by rw[Obj.data_mapFields hd];simp [rawInt]⟩
theorem B4G{it t:Addr}{i:Nat}{Q:Value→Shared→Prop}(hh:A.handled=none)(hit:s.heap.IsTupleIter it t i)(ht:s.heap.IsTuple t items)(hx:items[i]?=none)(hE:∀ h' e,Heap.ExtBut it s.heap h'→(∃ o,h'.get? e=some o∧o.cls=.type "StopIteration")→E (.ref e) { s with heap:=h' }):wpAny (model prog w) A (Builtin.SmallTypes.nextOf (.ref it)) Q E s:=by
 refine q8 (id hit) fun o ho hc hd => ?_
 obtain⟨ol,hol,_,nl,hdl⟩:=ht
 unfold Builtin.SmallTypes.nextOf
 refine wpAny_bind (wpAny_callSpecial?_slot (name:=Str.ofString "__next__") hit.typeIs F.slot_tuple_iterator_next (wpAny_call_entry F.slot_tuple_iterator_next hit.typeIs F.entry_tuple_iterator_next ?_ (F.args_tuple_iterator_next_1 _)))
 show wpAny _ _ (field (.ref it) 0 >>= _) _ _ s
 refine wpAny_bind (wpAny_field ho hd (x:=.ref t) rfl ?_)
 show wpAny _ _ (if (Value.ref t==Value.none)=true then _ else _) _ _ s
 rw[if_neg (show ¬ ((Value.ref t==Value.none)=true) from Bool.false_ne_true)]
 show wpAny _ _ (field (.ref it) 1 >>= _) _ _ s
 refine wpAny_bind (wpAny_field ho hd (x:=.int i 0) rfl ?_)
 show wpAny _ _ (seqItems? (.ref t) >>= _) _ _ s
 refine wpAny_bind (wpAny_seqItems hol hdl ?_)
 simp only[Int.toNat_natCast,hx]
 refine wpAny_bind (wpAny_rule (wpAny_bind (wpAny_setField ho hd (by simp) ?_)))
 show wpAny _ _ (newExc (.type "StopIteration") [] >>= _) _ _ _
 refine wpAny_bind ?_
 simp only[newExc,newTuple]
 refine wpAny_bind (wpAny_newObj_type ?_ (by size_fits))
 refine wpAny_bind (m:=firstArgMember _ _) (wpAny_of_eq (a:=Value.none) (by first | rfl | (simp only[firstArgMember];rfl)) ?_)
 refine wpAny_newObj_type ?_ (by size_fits)
 simp only[raiseNew]
 refine wpAny_bind (wpAny_handled ?_)
 first | rw[show A.in1.handled=none from hh] | rw[hh]
 refine wpAny_bind (wpAny_pure (wpAny_throw ?_))
 exact hE _ _ (((Heap.SameBut.update ..).extBut.push _).push _) ⟨_,Heap.get?_push_size _ rfl,rfl⟩
structure ZSt(z TI TO i1 i2 l1 l2:Addr)(xs ys:Array Value)(f0:Value)(i:Nat)(h:Heap):Prop where
 z:IsZip h z TI TO f0
 ti:IsPair h TI (.ref i1) (.ref i2)
 to:∃ a b,IsPair h TO a b
 i1:h.IsTupleIter i1 l1 i
 i2:h.IsTupleIter i2 l2 i
 l1:h.IsTuple l1 xs
 l2:h.IsTuple l2 ys
theorem B2Q{a t i}(x:h.IsTupleIter a t i)(e:∀ o,h.get? a=some o→h'.get? a=some o):h'.IsTupleIter a t i:=let ⟨o,ho,r⟩:=x;⟨o,e o ho,r⟩
theorem ZSt.keep{z:Addr}{xs ys:Array Value}{f0:Value}{i:Nat}(S:ZSt z TI TO i1 i2 l1 l2 xs ys f0 i h)(hk:∀ b∈[z,TI,TO,i1,i2,l1,l2],∀ o,h.get? b=some o→h'.get? b=some o):
  ZSt z TI TO i1 i2 l1 l2 xs ys f0 i h':=
 ⟨hk z (by simp) _ S.z,hk TI (by simp) _ S.ti,S.to.imp fun a x=>x.imp fun b y=>hk TO (by simp) _ y,B2Q S.i1 fun o e=>hk i1 (by simp) o e,B2Q S.i2 fun o e=>hk i2 (by simp) o e,
  S.l1.at fun o e=>hk l1 (by simp) o e,S.l2.at fun o e=>hk l2 (by simp) o e⟩
theorem B1K{z:Addr}{xs ys:Array Value}{x y:Value}(D:ZipApart z TI TO i1 i2 l1 l2)(S:ZSt z TI TO i1 i2 l1 l2 xs ys .none k s.heap)(hx:xs[k]?=some x)(hy:ys[k]?=some y)(hQ:∀ h',ZSt z TI TO i1 i2 l1 l2 xs ys (rawInt s.heap.objs.size) (k+1) h'→IsPair h' s.heap.objs.size x y→
   (∀ c o,c≠z→c≠TO→c≠i1→c≠i2→s.heap.get? c=some o→h'.get? c=some o)→Q (.ref s.heap.objs.size) { s with heap:=h' }):
  wpAny (model prog w) A (Builtin.«zip.__next__» ⟨[.ref z],[]⟩) (fun fin s'=>∃ v,fin=.done (.ret v)∧Q v s') E s:=by
 obtain⟨hz,hTI,⟨a,b,hTO⟩,h1,h2,hl1,hl2⟩:=S
 show wpAny _ _ (field (.ref z) 2 >>= _) _ _ _
 refine wpAny_bind (wpAny_field hz rfl (x:=.bool false) rfl ?_)
 show wpAny _ _ (field (.ref z) 3 >>= _) _ _ _
 refine wpAny_bind (wpAny_field hz rfl (x:=.ref TI) rfl ?_)
 refine wpAny_bind (wpAny_seqItems hTI rfl ?_)
 show wpAny _ _ (Builtin.SmallTypes.ownedTupleIsFree (.ref z) >>= _) _ _ _
 refine wpAny_bind ?_
 unfold Builtin.SmallTypes.ownedTupleIsFree
 refine wpAny_bind (wpAny_field hz rfl (x:=.none) rfl (wpAny_pure ?_))
 refine wpAny_ite (KPc.ite_yes rfl ?_)
 refine wpAny_bind (wpAny_rule ?_)
 refine wpAny_bind (wpAny_field hz rfl (x:=.ref TO) rfl ?_)
 refine wpAny_bind (wpAny_setField_rec hz (by simp) fun h₁ hz₁ hs₁ => ?_)
 replace hz₁:IsZip h₁ z TI TO .ellipsis:=hz₁
 refine wpAny_bind ?_
 refine A10 (x:=((Value.ref i1,0):Value×Nat)) (l:=[(Value.ref i2,1)]) (wpAny_bind (wpAny_bind (wpAny_onRaise ?_)))
 show wpAny _ _ (Builtin.SmallTypes.nextOf (.ref i1) >>= _) _ _ _
 refine wpAny_bind (A6r (h1.extBut hs₁.extBut D.i1z) (hl1.extBut hs₁.extBut D.l1z) hx fun h₂ h1₂ hs₂=>wpAny_pure ?_)
 have hTO₂:IsPair h₂ TO a b:=hs₂.extBut _ _ D.TOi1 (hs₁.extBut _ _ D.TOz hTO)
 refine wpAny_bind (wpAny_seqItems hTO₂ rfl ?_)
 refine wpAny_bind (wpAny_updateSeq_pair hTO₂ fun h₃ hTO₃ hs₃ => ?_)
 replace hTO₃:IsPair h₃ TO x b:=hTO₃
 refine wpAny_bind (wpAny_letGo (wpAny_pure ?_))
 refine A10 (x:=((Value.ref i2,1):Value×Nat)) (l:=[]) (wpAny_bind (wpAny_bind (wpAny_onRaise ?_)))
 show wpAny _ _ (Builtin.SmallTypes.nextOf (.ref i2) >>= _) _ _ _
 refine wpAny_bind (A6r (((h2.extBut hs₁.extBut D.i2z).extBut hs₂.extBut D.i12.symm).extBut hs₃.extBut D.TOi2.symm)
  (((hl2.extBut hs₁.extBut D.l2z).extBut hs₂.extBut D.l2i1).extBut hs₃.extBut D.l2TO) hy fun h₄ h2₄ hs₄=>wpAny_pure ?_)
 have hTO₄:IsPair h₄ TO x b:=hs₄.extBut _ _ D.TOi2 hTO₃
 refine wpAny_bind (wpAny_seqItems hTO₄ rfl ?_)
 refine wpAny_bind (wpAny_updateSeq_pair hTO₄ fun h₅ hTO₅ hs₅ => ?_)
 replace hTO₅:IsPair h₅ TO x y:=hTO₅
 refine wpAny_bind (wpAny_letGo (wpAny_pure (B2Z ?_)))
 refine wpAny_bind (wpAny_seqItems hTO₅ rfl ?_)
 refine wpAny_bind (wpAny_newTuple ?_)
 have hsz:h₅.objs.size=s.heap.objs.size:=by rw[hs₅.1,hs₄.1,hs₃.1,hs₂.1,hs₁.1]
 have hz₅:IsZip h₅ z TI TO .ellipsis:=hs₅.extBut _ _ D.TOz.symm (hs₄.extBut _ _ D.i2z.symm (hs₃.extBut _ _ D.TOz.symm (hs₂.extBut _ _ D.i1z.symm hz₁)))
 have hk₅:∀ c o,c≠z→c≠TO→c≠i1→c≠i2→s.heap.get? c=some o→h₅.get? c=some o:=fun c o c1 c2 c3 c4 e=>
  hs₅.extBut _ _ c2 (hs₄.extBut _ _ c4 (hs₃.extBut _ _ c2 (hs₂.extBut _ _ c3 (hs₁.extBut _ _ c1 e))))
 have h1₅:h₅.IsTupleIter i1 l1 (k+1):=((h1₂.extBut hs₃.extBut D.TOi1.symm).extBut hs₄.extBut D.i12).extBut hs₅.extBut D.TOi1.symm
 have h2₅:h₅.IsTupleIter i2 l2 (k+1):=h2₄.extBut hs₅.extBut D.TOi2.symm
 have hzlt:z<h₅.objs.size:=Heap.lt_size hz₅
 show wpAny _ _ (Builtin.SmallTypes.ownedTupleHandOut (.ref z) (.ref h₅.objs.size) >>= _) _ _ _
 refine wpAny_bind ?_
 unfold Builtin.SmallTypes.ownedTupleHandOut
 have hz₆:IsZip (h₅.push { cls:=.type "tuple", data:=.seq #[x,y] }) z TI TO .ellipsis:=Heap.get?_push_of_some _ hz₅
 refine wpAny_bind (wpAny_setField_rec hz₆ (by simp) fun h₇ hz₇ hs₇ => ?_)
 replace hz₇:IsZip h₇ z TI TO (rawInt h₅.objs.size):=hz₇
 refine wpAny_setField_rec hz₇ (by simp) fun h₈ hz₈ hs₈ => ?_
 replace hz₈:IsZip h₈ z TI TO (rawInt h₅.objs.size):=hz₈
 have up:∀ c o,c≠z→h₅.get? c=some o→h₈.get? c=some o:=fun c o c1 e=>hs₈.extBut _ _ c1 (hs₇.extBut _ _ c1 (Heap.get?_push_of_some _ e))
 have hT₈:IsPair h₈ h₅.objs.size x y:=hs₈.extBut _ _ (Nat.ne_of_gt hzlt) (hs₇.extBut _ _ (Nat.ne_of_gt hzlt) (Heap.get?_push_size _ rfl))
 rw[hsz] at hz₈ hT₈
 refine wpAny_pure ⟨_,rfl,?_⟩
 show Q (.ref h₅.objs.size) _
 rw[hsz]
 have hk₈:∀ c o,c≠z→c≠TO→c≠i1→c≠i2→s.heap.get? c=some o→h₈.get? c=some o:=fun c o c1 c2 c3 c4 e=>up c o c1 (hk₅ c o c1 c2 c3 c4 e)
 exact hQ h₈ ⟨hz₈,hk₈ _ _ D.TIz D.TITO D.TIi1 D.TIi2 hTI,⟨_,_,up _ _ D.TOz hTO₅⟩,B2Q h1₅ fun o e=>up _ o D.i1z e,B2Q h2₅ fun o e=>up _ o D.i2z e,
  hl1.at fun o e=>hk₈ _ o D.l1z D.l1TO D.l1i1 D.l1i2 e,hl2.at fun o e=>hk₈ _ o D.l2z D.l2TO D.l2i1 D.l2i2 e⟩ hT₈ hk₈
theorem B3e{z:Addr}{xs ys:Array Value}{Q:Fin→Shared→Prop}(hh:A.handled=none)(D:ZipApart z TI TO i1 i2 l1 l2)(S:ZSt z TI TO i1 i2 l1 l2 xs ys .none k s.heap)(hx:xs[k]?=none)(hE:∀ h' e,(∀ c o,c≠z→c≠i1→s.heap.get? c=some o→h'.get? c=some o)→(∃ o,h'.get? e=some o∧o.cls=.type "StopIteration")→E (.ref e) { s with heap:=h' }):
  wpAny (model prog w) A (Builtin.«zip.__next__» ⟨[.ref z],[]⟩) Q E s:=by
 obtain⟨hz,hTI,⟨a,b,hTO⟩,h1,h2,hl1,hl2⟩:=S
 show wpAny _ _ (field (.ref z) 2 >>= _) _ _ _
 refine wpAny_bind (wpAny_field hz rfl (x:=.bool false) rfl ?_)
 show wpAny _ _ (field (.ref z) 3 >>= _) _ _ _
 refine wpAny_bind (wpAny_field hz rfl (x:=.ref TI) rfl ?_)
 refine wpAny_bind (wpAny_seqItems hTI rfl ?_)
 show wpAny _ _ (Builtin.SmallTypes.ownedTupleIsFree (.ref z) >>= _) _ _ _
 refine wpAny_bind ?_
 unfold Builtin.SmallTypes.ownedTupleIsFree
 refine wpAny_bind (wpAny_field hz rfl (x:=.none) rfl (wpAny_pure ?_))
 refine wpAny_ite (KPc.ite_yes rfl ?_)
 refine wpAny_bind (wpAny_rule ?_)
 refine wpAny_bind (wpAny_field hz rfl (x:=.ref TO) rfl ?_)
 refine wpAny_bind (wpAny_setField_rec hz (by simp) fun h₁ hz₁ hs₁ => ?_)
 replace hz₁:IsZip h₁ z TI TO .ellipsis:=hz₁
 refine wpAny_bind ?_
 refine A10 (x:=((Value.ref i1,0):Value×Nat)) (l:=[(Value.ref i2,1)]) (wpAny_bind (wpAny_bind (wpAny_onRaise ?_)))
 show wpAny _ _ (Builtin.SmallTypes.nextOf (.ref i1) >>= _) _ _ _
 refine wpAny_bind (B4G hh (h1.extBut hs₁.extBut D.i1z) (hl1.extBut hs₁.extBut D.l1z) hx fun h₂ e hs₂ he => ?_)
 refine I7 (he) fun oe hoe hce => ?_
 have hz₂:IsZip h₂ z TI TO .ellipsis:=hs₂ _ _ D.i1z.symm hz₁
 have hez:e≠z:=fun x=>by subst x;rw[hz₂] at hoe;cases hoe;simp at hce
 exact wpAny_setField_rec hz₂ (by simp) fun h₃ _ hs₃=>hE h₃ e (fun c o c1 c3 x=>hs₃.extBut _ _ c1 (hs₂ _ _ c3 (hs₁.extBut _ _ c1 x))) ⟨oe,hs₃.extBut _ _ hez hoe,hce⟩
theorem wz(hh:A.handled=none)(z TI TO i1 i2 l1 l2:Addr)(D:ZipApart z TI TO i1 i2 l1 l2)(xs ys:Array Value)(hxy:xs.size=ys.size):
  WalksU prog w A z [z,TI,TO,i1,i2,l1,l2] [z,TO,i1,i2] xs.size (fun i vals=>∃ x y,xs[i]?=some x∧ys[i]?=some y∧vals = #[x,y])
   (fun i h=>ZSt z TI TO i1 i2 l1 l2 xs ys .none i h) (fun i T h=>ZSt z TI TO i1 i2 l1 l2 xs ys (rawInt T) (i+1) h∧T∉[z,TO,i1,i2]) where
 sub:=fun c hc=>by simp at hc ⊢;rcases hc with rfl | rfl | rfl | rfl <;> simp
 frame:=fun i h h' S hk=>S.keep hk
 item:=fun i s Q E hi S hQ=>by
  have hT:s.TypeIs (.ref z) "zip" := ⟨_,S.z,rfl⟩
  unfold pyNext
  refine wpAny_bind (wpAny_attempt (wpAny_callSpecial?_slot (name:=Str.ofString "__next__") hT F.slot_zip_next
   (wpAny_call_entry F.slot_zip_next hT F.entry_zip_next (B1K D S (Array.getElem?_eq_getElem hi) (Array.getElem?_eq_getElem (hxy▸hi)) fun h' S' P' hk=>wpAny_pure ?_) (F.args_zip_next_1 _))))
  have lt:∀ {c o},s.heap.get? c=some o→s.heap.objs.size≠c:=fun e=>Nat.ne_of_gt (Heap.lt_size e)
  refine hQ s.heap.objs.size _ h' s.toks ⟨_,_,Array.getElem?_eq_getElem hi,Array.getElem?_eq_getElem (hxy▸hi),rfl⟩ ⟨_,P',rfl,_,rfl⟩ ⟨S',?_⟩ fun c o hc e => ?_
  ·obtain⟨a,b,ho⟩:=S.to
   refine I7 (S.i1) fun o1 e1 _ => ?_
   refine I7 (S.i2) fun o2 e2 _ => ?_
   simp only[List.mem_cons,List.not_mem_nil,or_false,not_or]
   exact⟨lt S.z,lt ho,lt e1,lt e2⟩
  ·simp only[List.mem_cons,List.not_mem_nil,or_false,not_or] at hc
   exact hk c o hc.1 hc.2.1 hc.2.2.1 hc.2.2.2 e
 go:=fun elts k pos i T s Q E M hQ=>by
  refine wpAny_letOwnedTupleGo_zip M.1.z fun h' hz' hs'=>hQ h' ?_ fun c o hc e=>hs'.extBut _ _ (fun x=>hc (by simp [x])) e
  obtain⟨⟨hz,hTI,⟨a,b,hTO⟩,h1,h2,hl1,hl2⟩,_⟩:=M
  exact⟨hz',hs'.extBut _ _ D.TIz hTI,⟨a,b,hs'.extBut _ _ D.TOz hTO⟩,h1.extBut hs'.extBut D.i1z,h2.extBut hs'.extBut D.i2z,hl1.extBut hs'.extBut D.l1z,hl2.extBut hs'.extBut D.l2z⟩
 apart:=fun i T h M=>M.2
 done:=fun s Q E S hQ=>by
  have hT:s.TypeIs (.ref z) "zip" := ⟨_,S.z,rfl⟩
  unfold pyNext
  refine wpAny_bind (wpAny_attempt (wpAny_callSpecial?_slot (name:=Str.ofString "__next__") hT F.slot_zip_next
   (wpAny_call_entry F.slot_zip_next hT F.entry_zip_next (B3e hh D S (Array.getElem?_eq_none (Nat.le_refl _)) fun h' e hk he => ?_) (F.args_zip_next_1 _))))
  refine I7 (he) fun o ho hc => ?_
  exact wpAny_bind (wpAny_isInstance (T := "StopIteration") (b:=true) ⟨o,ho,hc⟩ isSubtype_stop (wpAny_pure (hQ _ s.toks fun c o hc e=>hk c o (fun x=>hc (by simp [x])) (fun x=>hc (by simp [x])) e)))
 self:=fun i s Q E S hQ=>wpAny_pyIter_zip S.z hQ
noncomputable abbrev zH1(h:Heap)(l1:Addr):Heap:=h.push { cls:=.type "tuple_iterator", data:=.fields #[.ref l1,.int 0 0] }
noncomputable abbrev zH2(h:Heap)(l1 l2:Addr):Heap:=(zH1 h l1).push { cls:=.type "tuple_iterator", data:=.fields #[.ref l2,.int 0 0] }
noncomputable abbrev zH3(h:Heap)(l1 l2:Addr):Heap:=(zH2 h l1 l2).push { cls:=.type "tuple", data:=.seq #[.ref h.objs.size,.ref (zH1 h l1).objs.size] }
noncomputable abbrev zH4(h:Heap)(l1 l2:Addr):Heap:=(zH3 h l1 l2).push { cls:=.type "tuple", data:=.seq #[.none,.none] }
noncomputable abbrev zH5(h:Heap)(l1 l2:Addr):Heap:=(zH4 h l1 l2).push { cls:=.type "zip", data:=.fields #[.none,.bool false,.bool false,.ref (zH2 h l1 l2).objs.size,.ref (zH3 h l1 l2).objs.size] }
theorem A75(l1 l2:Addr)(xs ys:Array Value):
  Meets (Builtin.«zip.__new__» ⟨[.type "zip", .ref l1,.ref l2],[]⟩) (fun _ R s=>s.heap.IsTuple l1 xs∧s.heap.IsTuple l2 ys∧
   R (.ok (.ret (.ref (zH4 s.heap l1 l2).objs.size))) { s with heap:=zH5 s.heap l1 l2 }):=
 .of_wp fun prog w A R s h=>by
  obtain⟨hp,g,d,tk,os⟩:=s;obtain⟨hl1,hl2,h⟩:=h
  have hsub:=sub_zip
  have hL1:Heap.IsTuple (Shared.heap ⟨hp,g,d,tk,os⟩) l1 xs:=hl1
  have hL2:Heap.IsTuple (Shared.heap ⟨hp.push { cls:=.type "tuple_iterator", data:=.fields #[.ref l1,.int 0 0] },g,d,tk,os⟩) l2 ys:=Heap.IsTuple.push hl2 _
  wp_walk using wpAny_pyIter_tuple hL1,wpAny_pyIter_tuple hL2
  exact⟨_,rfl,h⟩
theorem B06{xs ys:Array Value}(hl1:s.heap.IsTuple l1 xs)(hl2:s.heap.IsTuple l2 ys)(h:∀ h',ZSt (s.heap.objs.size+4) (s.heap.objs.size+2) (s.heap.objs.size+3) s.heap.objs.size (s.heap.objs.size+1) l1 l2 xs ys .none 0 h'→h'.objs.size=s.heap.objs.size+5→
   ZipApart (s.heap.objs.size+4) (s.heap.objs.size+2) (s.heap.objs.size+3) s.heap.objs.size (s.heap.objs.size+1) l1 l2→
   (∀ c o,s.heap.get? c=some o→h'.get? c=some o)→Q (.ref (s.heap.objs.size+4)) { s with heap:=h' }):
  wpAny (model prog w) A (call (.type "zip") [.ref l1,.ref l2]) Q E s:=by
 refine callType_new F.called_zip (by decide) (F.typeCall_zip_2 _ _) (F.newCall_zip_2 _ _) (fun obj=>F.args_object_init_3 obj _ _) F.entry_zip_new (A75 l1 l2 xs ys) ⟨hl1,hl2,?_⟩
 have z1:(zH1 s.heap l1).objs.size=s.heap.objs.size+1:=Heap.size_push ..
 have z2:(zH2 s.heap l1 l2).objs.size=s.heap.objs.size+2:=by rw[Heap.size_push,z1]
 have z3:(zH3 s.heap l1 l2).objs.size=s.heap.objs.size+3:=by rw[Heap.size_push,z2]
 have z4:(zH4 s.heap l1 l2).objs.size=s.heap.objs.size+4:=by rw[Heap.size_push,z3]
 have z5:(zH5 s.heap l1 l2).objs.size=s.heap.objs.size+5:=by rw[Heap.size_push,z4]
 have u1:∀ {h:Heap} {c o o'},h.get? c=some o→(h.push o').get? c=some o:=fun e=>Heap.get?_push_of_some _ e
 have g5:(zH5 s.heap l1 l2).get? (zH4 s.heap l1 l2).objs.size=some _:=Heap.get?_push_size _ rfl
 have g4:(zH5 s.heap l1 l2).get? (zH3 s.heap l1 l2).objs.size=some _:=u1 (Heap.get?_push_size _ rfl)
 have g3:(zH5 s.heap l1 l2).get? (zH2 s.heap l1 l2).objs.size=some _:=u1 (u1 (Heap.get?_push_size _ rfl))
 have g2:(zH5 s.heap l1 l2).get? (zH1 s.heap l1).objs.size=some _:=u1 (u1 (u1 (Heap.get?_push_size _ rfl)))
 have g1:(zH5 s.heap l1 l2).get? s.heap.objs.size=some _:=u1 (u1 (u1 (u1 (Heap.get?_push_size _ rfl))))
 have up:∀ c o,s.heap.get? c=some o→(zH5 s.heap l1 l2).get? c=some o:=fun c o x=>u1 (u1 (u1 (u1 (u1 x))))
 show _∧_
 rw[z2,z3,z4] at g5
 rw[z1,z2] at g3
 rw[z3] at g4
 rw[z1] at g2
 rw[z4]
 have b1:l1<s.heap.objs.size:=let ⟨_,e,_⟩:=hl1;Heap.lt_size e
 have b2:l2<s.heap.objs.size:=let ⟨_,e,_⟩:=hl2;Heap.lt_size e
 exact⟨⟨_,g5,rfl⟩,h _ ⟨g5,g3,⟨_,_,g4⟩,⟨_,g1,rfl,rfl⟩,⟨_,g2,rfl,rfl⟩,hl1.at fun o e=>up _ o e,hl2.at fun o e=>up _ o e⟩ z5
  (by constructor <;> (show ¬ @Eq Nat _ _;have b1 : @LT.lt Nat _ l1 s.heap.objs.size:=b1;have b2 : @LT.lt Nat _ l2 s.heap.objs.size:=b2;lia)) up⟩
end
end
section
section
variable{e1:Expr}{a:D}
noncomputable def B4q(a b:D):D:=fun σ=>(a σ).bind fun p=>(b p.2).bind fun q=>(A7T p.1).bind fun xs=>(A7T q.1).bind fun ys=>(N6 xs).bind fun is=>(N6 ys).bind fun js=>if is.length=js.length∧is.length<1000 then some (.t (.tup (List.zipWith (fun i j=>T.int (i+j)) is js)),q.2) else none
theorem Rel.movedG{s:Shared}(R:Rel C ly g σ s){n:Nat}(m:Moved wr (GenOnlyQ n) s s')(hw:∀ b∈wr,C.hb.get? b=none∧g.role b=none):Rel C ly g σ s':=by
 have R':=R.but (h':=s'.heap) (tk:=s'.toks) m.heap hw m.toks
 exact⟨R'.old,R'.new,R'.frz,R'.kept,R'.len,R'.slot,R'.nodup,R'.olen,R'.own,R'.tab,m.os.trans R.os,R.gens.movedS m,R'.tk⟩
theorem Rel.pushG{s:Shared}(R:Rel C ly g σ s){gs:GenState}(hb:gs.bare=true):Rel C ly g σ { s with gens:=s.gens.push gs }:=
 ⟨R.old,R.new,R.frz,R.kept,R.len,R.slot,R.nodup,R.olen,R.own,R.tab,R.os,R.gens.push hb,R.tk⟩
theorem i5(n:Nat):passing (fun _=>true) n 0=List.range n:=by
 unfold passing;rw[List.drop_zero];exact List.filter_eq_self.mpr fun _ _=>rfl
theorem B1L{x y:Str}{p1 p2 p3:Pos}{is js:List Int}{xs ys:Array Value}{href:Heap}{D0 U:Nat}(hk:cenv.scope.kind=.function)(hx:cenv.kindOf x=some .local)(hy:cenv.kindOf y=some .local)(dx:(x==("__debug__" : Str))=false)(dy:(y==("__debug__" : Str))=false)(cx:(x==("__classdict__" : Str))=false)(h1:∀ (i:Nat) v,xs[i]?=some v→∃ t,v=.int (is.getD i 0) t)(h2:∀ (i:Nat) v,ys[i]?=some v→∃ t,v=.int (js.getD i 0) t):
  QuietGenTD C.prog C.w cenv x y [] (.BinOp (.Name x p1) .Add (.Name y p2) p3) fp wr (fun i vals=>∃ x y,xs[i]?=some x∧ys[i]?=some y∧vals = #[x,y]) (fun _=>true)
   (fun i v=>∃ t,v=.int (is.getD i 0+js.getD i 0) t) href D0 U where
 tests:=fun A' E' i va vb s₂ m₂ _ _ _ _ _ _ _ _=>wpAny_pure ⟨rfl,_,_,rfl,fun _ _ e=>e⟩
 elt:=fun A' E' i va vb s₂ m₂ _ _ _ hp _ hn hva hvb _=>by
  refine A2b (hp) fun x' y' e1 e2 e3 => ?_
  (first | refine s2 e3 ?_ | refine s1 e3 ?_ | cases e3)
  obtain⟨t,rfl⟩:=h1 _ _ e1
  obtain⟨u,rfl⟩:=h2 _ _ e2
  exact wpAny_BinOp (wpAny_Name (wpAny_loadName_local hk hx hn hva (wpAny_Name (wpAny_loadName_local hk hy hn hvb (add_int ⟨⟨_,rfl⟩,_,_,rfl,fun _ _ e=>e⟩)) dy)) dx)
theorem A8n(hA:Room k A)(B:Base C){s:Shared}(R:Rel C ly g σ s){z:Addr}{xs ys:Array Value}{is js:List Int}(D:ZipApart z TI TO i1 i2 l1 l2)(S:ZSt z TI TO i1 i2 l1 l2 xs ys .none 0 s.heap)(hw:∀ b∈[z,TO,i1,i2],C.hb.get? b=none∧g.role b=none)(hxs:xs.size=is.length)(hys:ys.size=js.length)(hl:is.length=js.length)(hn:is.length<1000)(h1:∀ (i:Nat) v,xs[i]?=some v→∃ t,v=.int (is.getD i 0) t)(h2:∀ (i:Nat) v,ys[i]?=some v→∃ t,v=.int (js.getD i 0) t){a:Addr}{h₅:Heap}{gs:GenState}(hb:gs.bare=true)(ha:s.heap.objs.size<a)(h5:h₅.objs.size=a+1)(hk:∀ b o,s.heap.get? b=some o→h₅.get? b=some o)(htk:s.toks≤tk)(W:WalksS C.prog C.w A.in4 a (a::s.heap.objs.size::List.range s.heap.objs.size) (s.heap.objs.size::[z,TO,i1,i2]) (GenOnlyQ s.gens.size) (passing (fun _=>true) xs.size 0).length
   (fun j y=>∃ i,(passing (fun _=>true) xs.size 0)[j]?=some i∧∃ t,y=.int (is.getD i 0+js.getD i 0) t) (GenAt C.prog C.w A.in4 a s.gens.size s.heap.objs.size (List.range s.heap.objs.size) [z,TO,i1,i2] (fun _=>true) xs.size fun i v=>∃ t,v=.int (is.getD i 0+js.getD i 0) t))(hst:GenAt C.prog C.w A.in4 a s.gens.size s.heap.objs.size (List.range s.heap.objs.size) [z,TO,i1,i2] (fun _=>true) xs.size (fun i v=>∃ t,v=.int (is.getD i 0+js.getD i 0) t) 0 { s with gens:=s.gens.push gs,toks:=tk,heap:=h₅ }):
  wpAny (Md C) A (call (.type "tuple") [.ref a]) (Ev C ly g σ (.t (.tup (List.zipWith (fun i j=>T.int (i+j)) is js)))) X4 { s with gens:=s.gens.push gs,toks:=tk,heap:=h₅ }:=by
 have hsz:s.heap.objs.size<h₅.objs.size:=by rw[h5];exact Nat.lt_succ_of_lt ha
 have R1:=(R.grow (Grow.heap_ (g:=g) (h':=h₅) (t:=tk) hk htk)).pushG hb
 refine call_tuple_gen (hsz:=by rw[i5,List.length_range,hxs,sizeLine_eq];lia) W.in4_3 (fun i s' st=>let ⟨o,_,_,ho,hc,_⟩:=st.1;⟨o,ho,hc⟩) hst (fun b hb => ?_) (List.mem_cons_self ..) fun s' acc hm hacc => ?_
 ·show b<h₅.objs.size
  rcases List.mem_cons.mp hb with rfl | hb
  ·rw[h5];exact Nat.lt_succ_self _
  ·rcases List.mem_cons.mp hb with rfl | hb
   ·exact hsz
   ·exact Nat.lt_trans (List.mem_range.mp hb) hsz
 ·have R2:=R1.movedG hm fun b hb=>by
   rcases List.mem_cons.mp hb with rfl | hb
   ·exact⟨D6 R.old (Heap.get?_none_of_le (Nat.le_refl _)),R.none_above (Nat.le_refl _)⟩
   ·exact hw b hb
  have R3:=R2.grow (Grow.push_ (o:={ cls:=.type "tuple", data:=.seq acc }) (t:=s'.toks))
  obtain⟨l4,R4⟩:=R3.name (a:=s'.heap.objs.size) (D6 R2.old B3) (R2.none_above (Nat.le_refl _)) (Heap.get?_push_size _ rfl)
  refine⟨_,l4,R4,.tup (n:=0) G.put_fz (RelTs.of_get ?_ fun j x v hx hv => ?_)⟩
  ·have e:acc.toList.length=is.length:=by rw[Array.length_toList,hacc.1,i5,List.length_range,hxs]
   rw[e,List.length_zipWith,← hl,Nat.min_self]
  ·obtain⟨i,hi,t,rfl⟩:=hacc.2 j v (by simpa using hv)
   rw[i5] at hi
   have hi':=List.getElem?_eq_some_iff.mp hi
   obtain⟨hj,e⟩:=hi'
   rw[List.getElem_range] at e
   subst e
   rw[List.getElem?_zipWith] at hx
   have hj':j<is.length:=by rw[List.length_range,hxs] at hj;exact hj
   rw[List.getElem?_eq_getElem hj',List.getElem?_eq_getElem (hl▸hj')] at hx
   cases hx
   exact⟨t,by rw[List.getD_eq_getElem?_getD,List.getD_eq_getElem?_getD,List.getElem?_eq_getElem hj',List.getElem?_eq_getElem (hl▸hj')];rfl⟩
theorem A7S{v:V}{xs:List T}(e:A7T v=some xs):v=.t (.tup xs):=U1 K7 e
theorem A8t{s:Shared}(R:Rel C ly g σ s){xs:List T}{is:List Int}{u:Value}(V:RelV C g (.t (.tup xs)) u)(e:N6 xs=some is):
  ∃ l items,u=.ref l∧s.heap.IsTuple l items∧items.size=is.length∧∀ (i:Nat) v,items[i]?=some v→∃ t,v=.int (is.getD i 0) t:=by
 obtain⟨l,items,n,rfl,hz,r⟩:=V
 obtain⟨h1,h2⟩:=A1w r e
 exact⟨l,items,rfl,⟨_,R.fz hz,rfl,n,rfl⟩,by rw[h1,Array.length_toList],fun i v h=>h2 i v (by simpa using h)⟩
theorem B3y{zp gpos zpos p1 p2 p3 p4 p5 p6:Pos}{n:Nat}{x y:Str}{c P:Addr}(B:Base C)(U:A6J C)(N:A00 C env (Str.ofString "tuple") (.type "tuple"))(N2:A00 C env (Str.ofString "zip") (.type "zip"))(ha:SE C k env ly e1 a)(hb:SE C k env ly e2 b)(h2:starEach [e1,e2] env=[(false,eval e1 env),(false,eval e2 env)])(hT:C.tabs P gpos (env.qual ++ "<genexpr>"))(hC:CodeHd C.hb c P)(hcode:env.code=.ref c)(hclos:closureFor scope env=pure [])(hco:scope.isCoroutine=false)(hcell:(scope.names.all fun y=>y.2 != .cell)=true)(h0:scope.names.lookup (".0" : Str)=some NameKind.local)(hxa:scope.names.lookup x=some .local)(hxb:scope.names.lookup y=some .local)(hab:x≠y)(hkind:scope.kind=.function)(dx:(x==("__debug__" : Str))=false)(dy:(y==("__debug__" : Str))=false)(cx:(x==("__classdict__" : Str))=false)(hs:∀ v,genFold (.Call (.Name (Str.ofString "zip") zp) [e1,e2] [] zpos) env v=pure v):
  SE C k env ly (.Call (.Name (Str.ofString "tuple") np) [.GeneratorExp (.BinOp (.Name x p1) .Add (.Name y p2) p3) [⟨.Tuple [.Name x p4,.Name y p5] n p6,.Call (.Name (Str.ofString "zip") zp) [e1,e2] [] zpos,[],0⟩] scope gpos] [] pos) (B4q a b):=fun A hA g σ s w σ' R e'=>by
 refine b2 e' fun p σ1 ea e' => ?_
 refine b2 e' fun q σ2 eb e' => ?_
 refine b1 e' fun xs e1' e' => ?_
 refine b1 e' fun ys e2' e' => ?_
 refine b1 e' fun is e3 e' => ?_
 refine b1 e' fun js e4 e' => ?_
 split at e'
 case isFalse=>(first | refine s2 e' ?_ | refine s1 e' ?_ | cases e')
 rename_i hlen
 (first | refine s2 e' ?_ | refine s1 e' ?_ | cases e')
 cases A7S e1'
 cases A7S e2'
 have he1:starEach [e1,e2] env=(false,eval e1 env)::starEach [e2] env∧(backTo zpos (starEach [e2] env)).any (·.1)=false:=by
  have:(∃ x p,e1=.Starred x p∧starEach [e1,e2] env=(true,eval x env)::starEach [e2] env)∨starEach [e1,e2] env=(false,eval e1 env)::starEach [e2] env:=by
   cases e1 <;> first | exact .inr rfl | exact .inl ⟨_,_,rfl,rfl⟩
  rcases this with ⟨x,p,_,h⟩ | h
  ·rw[h] at h2;cases h2
  ·refine⟨h,?_⟩
   rw[h] at h2
   rw[(List.cons.inj h2).2];rfl
 refine Call_ (A0K B N R (O5 N.fn ?_ rfl rfl))
 refine Calls.spliced_cons ?_
 refine wpAny_GeneratorExp_make hco hclos (fun y hy=>by have:=List.all_eq_true.mp hcell y hy;simpa using this) h0 hkind hA.rl ?_ hs
 refine Call_ (A0K B N2 R (O5 N2.fn ?_ he1.1 he1.2))
 rw[h2]
 show wpAny _ _ (spliced [(false,eval e1 env),(false,eval e2 env)]) _ _ _
 refine Calls.spliced_cons (ha.use hA R ea fun g1 u1 s1 l1 R1 V1=>Calls.spliced_cons (hb.use hA R1 eb fun g2 u2 s2 l2 R2 V2=>Calls.spliced_nil ?_))
 refine F1 (A8t R2 (B6 l2 _ _ V1) e3) fun t1 xs' hR2 ht1 hx1 hx2 => ?_
 subst hR2
 refine F1 (A8t R2 V2 e4) fun t2 ys' hR2 ht2 hy1 hy2 => ?_
 subst hR2
 refine B06 ht1 ht2 fun h3 S hsz D hk3 => ?_
 have R3:=R2.grow (Grow.heap_ (g:=g2) (h':=h3) (t:=s2.toks) hk3)
 refine wpAny_pyIter_zip S.z ⟨B.nolimit.keeps R3.old,?_⟩
 have hw:∀ b∈[s2.heap.objs.size+4,s2.heap.objs.size+3,s2.heap.objs.size,s2.heap.objs.size+1],s2.heap.objs.size≤b∧b<h3.objs.size:=fun b hb=>by
  simp only[List.mem_cons,List.not_mem_nil,or_false] at hb
  have:∀ m:Nat,b=m→s2.heap.objs.size≤m∧m<s2.heap.objs.size+5→s2.heap.objs.size≤b∧b<h3.objs.size:=fun m h1 h2=>by rw[hsz];exact h1▸h2
  rcases hb with h | h | h | h
  ·exact this _ h ⟨by lia,by lia⟩
  ·exact this _ h ⟨by lia,by lia⟩
  ·exact this _ h ⟨by lia,by lia⟩
  ·exact this _ h ⟨by lia,by lia⟩
 refine A6Q (R3.tab P gpos _ hT) fun hrP ps hP hp1 hp2 => ?_
 have hba:=z9 R3.old (U.ba _ _ _ hT)
 have code:wpAny (Md C) A (genexprCode env gpos (env.qual ++ "<genexpr>") scope) (fun _ s4=>∃ g4,g2.le g4∧Rel C ly g4 σ2 s4∧ZSt (s2.heap.objs.size+4) (s2.heap.objs.size+2) (s2.heap.objs.size+3) s2.heap.objs.size (s2.heap.objs.size+1) t1 t2 xs' ys' .none 0 s4.heap∧
   ∀ b∈[s2.heap.objs.size+4,s2.heap.objs.size+3,s2.heap.objs.size,s2.heap.objs.size+1],C.hb.get? b=none∧g4.role b=none) X4 { s2 with heap:=h3 }:=by
  have hn:∀ b∈[s2.heap.objs.size+4,s2.heap.objs.size+3,s2.heap.objs.size,s2.heap.objs.size+1],C.hb.get? b=none∧g2.role b=none:=fun b hb=>⟨D6 R2.old (Heap.get?_none_of_le (hw b hb).1),R2.none_above (hw b hb).1⟩
  refine wpAny_with_toks (Nat.le_refl s2.toks) ?_
  rcases hp2 with hp2 | ⟨c',o,vs,t,hp2,hz,hd,hq⟩
  ·refine wpAny_genexprCodeX hcode ((hC.keeps R3.old).code hP hp1) ((hC.keeps R3.old).tab hP) hp2 fun c' h4 tk hx hge hlt hcode' hrec htab _ htk => ?_
   refine q7 (hrec) fun c2 oc vs t e2 hoc hd hq => ?_
   (first | refine s2 e2 ?_ | refine s1 e2 ?_ | cases e2)
   obtain⟨le,R4⟩:=R3.setTab U hT (h':=h4) (tk:=tk) hx htab.2 hge hoc hd hq (by simp only[Array.toList_append];exact X8 hp1) (by simp only[Array.toList_append];exact codeAmong_snoc _ hp1 hp2) htk
   refine⟨_,le,R4,S.keep fun b hb o e=>hx b o (fun hbP => ?_) e,fun b hb=>⟨(hn b hb).1,?_⟩⟩
   ·subst hbP
    rw[hP] at e
    (first | refine s2 e ?_ | refine s1 e ?_ | cases e)
    have q1:=fun {o:Obj} (h:h3.get? b=some o)=>Option.some.inj (hP.symm.trans h)
    simp only[List.mem_cons,List.not_mem_nil,or_false] at hb
    obtain⟨hz,hTI,⟨a',b',hTO⟩,⟨o1,f1,f2,_⟩,⟨o2,f3,f4,_⟩,⟨o3,f5,f6,_⟩,⟨o4,f7,f8,_⟩⟩:=S
    rcases hb with h | h | h | h | h | h | h
    ·rw[← h] at hz;cases q1 hz
    ·rw[← h] at hTI;cases q1 hTI
    ·rw[← h] at hTO;cases q1 hTO
    ·rw[← h] at f1;cases q1 f1;cases f2
    ·rw[← h] at f3;cases q1 f3;cases f4
    ·rw[← h] at f5;cases q1 f5;cases f6
    ·rw[← h] at f7;cases q1 f7;cases f8
   ·have:b≠c':=Nat.ne_of_lt (Nat.lt_of_lt_of_le (hw b hb).2 hge)
    simp only[G.put,if_neg this]
    exact(hn b hb).2
  ·exact wpAny_genexprCode_hit hcode ((hC.keeps R3.old).code hP hp1) hp2 fun _=>⟨g2,.refl _,R3,S,hn⟩
 refine wpAny_mono code (fun cv s4 hcv => ?_) (fun _ _ x=>x.elim)
 refine B5F (hcv) fun g4 l4 R4 S4 hw4 => ?_
 obtain⟨bm,o,b1,b2,b3,b4,b5,b6,b7,b8⟩:=z9 R4.old (U.ba _ _ _ hT)
 refine wpAny_builtinsFor (by rw[N.gl];exact B.g.keeps R4.old) b1 b2 b5 b6 b7 b8 ?_
 intro h' hn' hs'
 have hxy:xs'.size=ys'.size:=by rw[hx1,hy1];exact hlen.1
 have hsz':h'.objs.size=s4.heap.objs.size+1:=by rw[hs'.1,Heap.size_push]
 have keep':∀ b o,s4.heap.get? b=some o→h'.get? b=some o:=fun b o e=>hs'.extBut b o (Nat.ne_of_lt (Heap.lt_size e)) (Heap.get?_push_of_some _ e)
 have hl4:=B.nolimit.keeps R4.old
 have hcl:∃ o,C.hb.get? cStatics=some o:=let ⟨_,⟨_,_,_,ho,_⟩,_⟩:=B.nolimit;⟨_,ho⟩
 obtain⟨oc,hoc⟩:=hcl
 have hclt:cStatics<s4.heap.objs.size:=Heap.lt_size (R4.old _ _ hoc)
 have hcw:cStatics∉[s2.heap.objs.size+4,s2.heap.objs.size+3,s2.heap.objs.size,s2.heap.objs.size+1]:=fun q=>by rw[(hw4 _ q).1] at hoc;cases hoc
 have hfp:∀ b∈[s2.heap.objs.size+4,s2.heap.objs.size+2,s2.heap.objs.size+3,s2.heap.objs.size,s2.heap.objs.size+1,t1,t2],b<s4.heap.objs.size:=fun b hb=>by
  obtain⟨hz,hTI,⟨a',b',hTO⟩,⟨o1,f1,_⟩,⟨o2,f3,_⟩,⟨o3,f5,_⟩,⟨o4,f7,_⟩⟩:=S4
  simp only[List.mem_cons,List.not_mem_nil,or_false] at hb
  rcases hb with h | h | h | h | h | h | h <;> subst h <;> exact Heap.lt_size (by assumption)
 have hsub:∀ b∈[s2.heap.objs.size+4,s2.heap.objs.size+3,s2.heap.objs.size,s2.heap.objs.size+1],b∈List.range s4.heap.objs.size:=fun b hb=>List.mem_range.mpr (hfp b ((wz hA.handled _ _ _ _ _ _ _ D xs' ys' hxy (prog:=C.prog) (w:=C.w)).sub b hb))
 have keep₅:∀ b o,s4.heap.get? b=some o→(h'.push { cls:=.type "generator", data:=.fields #[.int s4.gens.size 0,.str "<genexpr>" (s4.toks+1),.str (env.qual ++ "<genexpr>") (s4.toks+1+1)] }).get? b=some o:=
  fun b o e=>Heap.get?_push_of_some _ (keep' b o e)
 refine Calls.spliced_nil (wpAny_mono (A8n (k:=k) hA B R4 D S4 hw4 hx1 hy1 hlen.1 hlen.2 hx2 hy2 rfl (by lia) (by rw[Heap.size_push]) keep₅ (by lia) (WalksS.genexpQ (A:=A.in4) hA.handled _ _ _ _ _ _ _ _ (by rw[hsz'];exact Nat.succ_ne_self _) (fun hm=>by have:=List.mem_range.mp hm;lia) hsub hA.rl (List.mem_range.mpr hclt) (Nat.ne_of_lt hclt) hcw) ?_) (fun x s h=>let ⟨g5,l5,R5,V5⟩:=h;⟨g5,((l1.trans l2).trans l4).trans l5,R5,V5⟩) (fun _ _ x=>x))
 exact GenAt.freshTD (A:=A.in4) (cenv:=genEnv scope [] s4.heap.objs.size cv builtinsNs env) (m:=fun y=>if y = ".0" then some (.ref _) else none) hA.handled
  (fun A' hA'=>(wz hA' _ _ _ _ _ _ _ D xs' ys' hxy).mono_fp fun b hb=>List.mem_range.mpr (hfp b hb)) (fun i vals h=>let ⟨x,y,_,_,e⟩:=h;⟨x,y,e⟩) hab (fun _=>true) _ hxa hxb (by simp [genEnv,hkind]) hco
  (fun hm=>Nat.lt_irrefl _ (List.mem_range.mp hm)) (B1L hkind hxa hxb dx dy cx hx2 hy2) ⟨_,_,_,Heap.get?_push_size _ rfl,rfl,rfl,rfl⟩ (Array.getElem?_push_size ..) (S4.keep fun b _ o e=>keep₅ b o e) (hn'.push _) (hl4.keeps keep₅)
end
end
section
section
variable{e1:Expr}{a:D}
theorem B4O(B:Base C){f:Addr}{x:Str}{body:Expr}{d:D}(M:Made C g f fd)(hb:fd.body=.expr body)(hbind:∀ v,bindArgs fd ⟨[v],[]⟩=pure [(x,v)])(h1:fd.scope.isCoroutine=false)(h2:fd.scope.isGenerator=false)(h3:fd.scope.kind=.function)(hc:(fd.scope.names.all fun y=>y.2 != .cell)=true)(hx:fd.scope.names.lookup x=some .local)(hd:∀ L,SE C k (newEnv fd.scope L fd.globals fd.closure (fd.qualname ++ ".<locals>.") (some f) fd.code none fd.builtins) (ly++[.fr L x]) body d):A0z C (k+1) ly g f d:=
 B5p B M hb hbind h1 h2 h3 (fun y hy=>by have:=List.all_eq_true.mp hc y hy;simpa using this) hx hd
end
end
section
noncomputable def tabs5:List (Addr×Addr):=[(319,317),(309,307),(202,198),(195,191),(287,283)]
noncomputable def tbl5:List (Addr×Addr×Pos×Str):=[(317,319,⟨326,33,326,103⟩,Str.ofString "law.<locals>.<lambda>"),(307,309,⟨280,32,280,94⟩,Str.ofString "_law_back.<locals>.<lambda>"),(198,202,⟨129,4,134,55⟩,Str.ofString "_digits2int.<locals>.inner"),(191,195,⟨114,4,123,28⟩,Str.ofString "_int2digits.<locals>.inner"),(283,287,⟨218,42,218,92⟩,Str.ofString "add_callers.<locals>.<genexpr>")]
noncomputable def s7(P:Addr)(pos:Pos)(q:Str):Prop:=∃ c,tbl5.lookup P=some (c,pos,q)
theorem A1r{β:Type}{v:Nat}{x:β}{l:List (Nat×β)}(h:l.lookup v=some x):(v,x)∈l:=by
 induction l with
 | nil=>exact nn h
 | cons p l ih=>
  rw[List.lookup_cons] at h
  cases q:v==p.1 with
  | true=>rw[q] at h;exact s1 h (beq_iff_eq.mp q▸.head _)
  | false=>rw[q] at h;exact .tail _ (ih h)
theorem A7h(P:Addr)(pos:Pos)(q:Str)(pos':Pos)(q':Str)(h:s7 P pos q)(h':s7 P pos' q'):pos=pos'∧q=q':=
 Exists.elim h fun c h=>Exists.elim h' fun c' h'=>Prod.mk.inj (Prod.mk.inj (Option.some.inj (h.symm.trans h'))).2
theorem A0D(P:Addr)(pos:Pos)(q:Str)(h:s7 P pos q):∃ c,(c,P)∈tabs5:=
 Exists.elim h fun c h=>⟨c,(List.mem_map.mpr ⟨_,A1r h,rfl⟩:(c,P)∈tbl5.map fun p=>(p.2.1,p.1))⟩
noncomputable def A8x(prog:Program)(w:World)(s:Shared)(mg mb:Str→Option Value):Cx:=⟨prog,w,ghostOf s.heap tabs5,s.os,s7,mg,mb,0⟩
noncomputable def topG:G:=⟨[],fun a=>if a∈tabs5.map (·.2) then some .tab else none,0⟩
section
variable{w:World}{s:Shared}{p:Program}{K:Frag}
theorem A8w(T:Top p loose mean mg mb s.heap)(hT:TabsAt tabs5 s.heap)(hi:importsNone p=true):Base (A8x prog w s mg mb) where
 sys:=let ⟨_,⟨o,_,_,h1,hd,_⟩,_⟩:=(T.seer hi).mods;⟨o,ghost_get hT h1 (fun q=>by rw[q] at hd;cases hd)⟩
 g:=(ghost_top hT T).g
 b:=(ghost_top hT T).b
 nolimit:=(ghost_top hT T).nolimit
 builtins:=T.builtins
theorem A8v(T:Top p loose mean mg mb s.heap)(hT:TabsAt tabs5 s.heap):TabsK (A8x prog w s mg mb):=by
 have hc:∀ c P,(c,P)∈tabs5→CodeHd (ghostOf s.heap tabs5) c P:=fun c P h=>by
  obtain⟨o,vs,file,tf,flags,tg,inF,text,tt,e1,r1,r2,r3,r4,r5,r6,r7,r8,hne⟩:=(hT _ h).1
  exact⟨o,vs,file,tf,flags,tg,inF,text,tt,ghost_get hT e1 (fun q=>by rw[q] at r1;cases r1),r1,r2,r3,r4,r5,r6,r7,r8,hne⟩
 refine⟨⟨A7h,fun P pos q h => ?_,fun P pos q h => ?_⟩,⟨195,rfl⟩,hc 195 191 (by decide),⟨202,rfl⟩,hc 202 198 (by decide),⟨309,rfl⟩,hc 309 307 (by decide),⟨319,rfl⟩,hc 319 317 (by decide),⟨287,rfl⟩,hc 287 283 (by decide)⟩
 ·obtain⟨c,hm⟩:=A0D P pos q h
  intro e
  refine e9 (T.g) fun o es ep e1 hd _ => ?_
  have h2:=(hT _ hm).2
  rw[← e] at h2
  rw[h2] at e1
  cases e1
  cases hd
 ·obtain⟨c,hm⟩:=A0D P pos q h
  obtain⟨bm,ob,a1,a2,a3,a4,a5,a6⟩:=(ghost_top hT T).bmain
  have a3':s.heap.get? bm=some ob:=of_hideAll _ a3
  refine⟨bm,ob,a1,a2,fun e => ?_,fun e => ?_,a3,a4,a5,a6⟩
  ·refine e9 (T.g) fun o es ep e1 hd _ => ?_
   rw[e,e1] at a3'
   cases a3'
   rw[hd] at a6
   cases a6
  ·have h2:=(hT _ hm).2
   rw[e,h2] at a3'
   cases a3'
   cases a4
theorem B1X(hT:TabsAt tabs5 s.heap)(hg:s.gens = #[]):Rel (A8x prog w s mg mb) [] topG ⟨[],[]⟩ s where
 old:=fun a o e=>of_hideAll _ e
 new:=fun a r e=>by
  refine iN e fun h _=>I7 (List.mem_map.mp h) fun q hq hR2 => ?_
  subst hR2
  exact⟨hideAll_none _ h,_,(hT _ hq).2⟩
 frz:=fun a o e=>iN e fun _ e=>nomatch e
 kept:=fun a o e=>iN e fun _ e=>nomatch e
 len:=rfl
 slot:=fun i l v h=>nn h
 nodup:=List.nodup_nil
 olen:=rfl
 own:=fun i o h=>nn h
 tab:=fun P pos q h=>by
  obtain⟨c,hm⟩:=A0D P pos q h
  refine⟨?_,#[],(hT _ hm).2,?_⟩
  ·exact if_pos (List.mem_map.mpr ⟨_,hm,rfl⟩)
  ·exact⟨by simp [TriplesOk],.inl rfl⟩
 os:=rfl
 gens:=.of_eq hg
 tk:=⟨Nat.zero_le _,Nat.zero_le _⟩
end
end
section
theorem l9:∀ {vs:List Value} {l:List Int},IntsAre vs l→RelTs C g (l.map T.int) vs
 | _,_,.nil=>rfl
 | _,_,.cons n t h=>⟨_,_,rfl,⟨t,rfl⟩,l9 h⟩
section
variable{w:World}{s:Shared}{p:Program}{K:Frag}
theorem B1Y(hT:TabsAt tabs5 s.heap)(l:topG.le g)(R:Rel (A8x prog w s mg mb) [] g σ s'):OldK s.heap s'.heap∧s'.os=s.os∧AllBare s'.gens:=by
 have grown:∀ q∈tabs5,∃ ps,s'.heap.get? q.2=some (tabObj ps):=fun q hq=>by
  have:∃ pos qn,s7 q.2 pos qn:=by
   simp only[tabs5,List.mem_cons,List.not_mem_nil,or_false] at hq
   rcases hq with rfl | rfl | rfl | rfl | rfl
   all_goals exact⟨_,_,_,rfl⟩
  obtain⟨pos,qn,h⟩:=this
  refine N4 (R.tab q.2 pos qn h) fun _ ps h2 _ => ?_
  exact⟨ps,h2⟩
 have keep:∀ b o,b∉tabs5.map (·.2)→s.heap.get? b=some o→s'.heap.get? b=some o:=fun b o hb e=>R.old b o (ghost_ne e hb)
 have grown2:∀ b o,b∈tabs5.map (·.2)→s.heap.get? b=some o→isCodeTable s.heap b∧o=tabObj #[]∧∃ ps,s'.heap.get? b=some (tabObj ps):=fun b o hb e=>by
  refine I7 (List.mem_map.mp hb) fun q hq hR2 => ?_
  subst hR2
  have e2:=(hT q hq).2
  rw[e] at e2
  exact⟨((hT q hq).1.tab (hT q hq).2).isCodeTable,Option.some.inj e2,grown q hq⟩
 refine⟨⟨fun b o e => ?_,fun b o e => ?_⟩,R.os,R.gens⟩
 ·by_cases hb:b∈tabs5.map (·.2)
  ·refine B5G (grown2 b o hb e) fun ht hR1 ps hP => ?_
   subst hR1
   exact .inr (.inl ⟨ht,rfl,#[],ps,rfl,by rw[Array.empty_append];exact hP⟩)
  ·exact .inl (keep b o hb e)
 ·by_cases hb:b∈tabs5.map (·.2)
  ·refine B5G (grown2 b o hb e) fun _ _ ps hP => ?_
   exact⟨_,hP⟩
  ·exact⟨o,keep b o hb e⟩
end
end
section
noncomputable def Cx.low(C:Cx)(n:Nat):Cx:=⟨C.prog,C.w,C.hb,C.os,C.tabs,C.mg,C.mb,n⟩
section
variable{n:Nat}
mutual
theorem A4J:∀ (x:T) (v:Value),RelT C g x v→RelT (C.low n) g x v
 | .none,v,r=>r
 | .bool b,v,r=>r
 | .int i,v,r=>r
 | .str s,v,r=>r
 | .ch s,v,r=>r
 | .cst c,v,r=>r
 | .tup xs,v,⟨a,items,m,e,z,r⟩=>⟨a,items,m,e,z,relTs_low xs _ r⟩
 | .lst xs,v,⟨a,items,m,e,z,r⟩=>⟨a,items,m,e,z,relTs_low xs _ r⟩
 | .ds ks xs,v,⟨a,o,kvs,e,z,d,k,r⟩=>⟨a,o,kvs,e,z,d,k,relTs_low xs _ r⟩
 | .di ks xs,v,⟨a,o,kvs,e,z,d,k,r⟩=>⟨a,o,kvs,e,z,d,k,relTs_low xs _ r⟩
 | .rng a b,v,r=>r
 | .itv ks xs,v,⟨r,a,o,kvs,e,z',z,d,k,q⟩=>⟨r,a,o,kvs,e,z',z,d,k,relTs_low xs _ q⟩
theorem relTs_low:∀ (x:List T) (v:List Value),RelTs C g x v→RelTs (C.low n) g x v
 | [],_,r=>r
 | x::xs,_,⟨v,vs,e,r,rs⟩=>⟨v,vs,e,A4J x v r,relTs_low xs vs rs⟩
end
theorem A1a:∀ (x:V) (v:Value),RelV C g x v→RelV (C.low n) g x v
 | .t x,v,r=>A4J x v r
 | .ref i,v,r=>r
 | .obj c m x,v,⟨a,d,k,t,y,sl,e,z,z',r⟩=>⟨a,d,k,t,y,sl,e,z,z',A1a x y r⟩
theorem A1c:∀ (x:Option V) (v:Option Value),L3 C g x v→L3 (C.low n) g x v
 | none,_,r=>r
 | some x,_,⟨y,e,r⟩=>⟨y,e,A1a x y r⟩
theorem A9M:∀ (x:AO) (o:Obj),p8 C g x o→p8 (C.low n) g x o
 | .lst xs,o,⟨items,m,d,r⟩=>⟨items,m,d,relTs_low xs _ r⟩
 | .ds ks xs,o,⟨kvs,d,k,r⟩=>⟨kvs,d,k,relTs_low xs _ r⟩
 | .di ks xs,o,⟨kvs,d,k,r⟩=>⟨kvs,d,k,relTs_low xs _ r⟩
 | .gone,_,r=>r
theorem A5W{l:Loc}{v:Option V}(r:SlotOk C g h l v):SlotOk (C.low n) g h l v:=by
 cases l with
 | fr L x=>exact⟨r.1,r.2.imp fun m q=>⟨q.1,A1c _ _ q.2⟩⟩
 | cl c=>exact⟨r.1,r.2.imp fun m q=>⟨q.1,A1c _ _ q.2⟩⟩
theorem Rel.low{s:Shared}(R:Rel C ly g σ s)(h:n≤g.tk):Rel (C.low n) ly g σ s where
 old:=R.old
 new:=R.new
 frz:=R.frz
 kept:=R.kept
 len:=R.len
 slot:=fun i l v h1 h2=>A5W (R.slot i l v h1 h2)
 nodup:=R.nodup
 olen:=R.olen
 own:=fun i o h1 h2=>let ⟨a,ob,q1,q2,q3,q4⟩:=R.own i o h1 h2;⟨a,ob,q1,q2,q3,A9M _ _ q4⟩
 tab:=R.tab
 os:=R.os
 gens:=R.gens
 tk:=⟨h,R.tk.2⟩
theorem Base.low(B:Base C):Base (C.low n):=⟨B.sys,B.g,B.b,B.nolimit,B.builtins⟩
theorem TabsK.low(K:TabsK C):TabsK (C.low n):=⟨⟨K.u.one,K.u.gP,K.u.ba⟩,K.t1,K.c1,K.t2,K.c2,K.t3,K.c3,K.t4,K.c4,K.t5,K.c5⟩
theorem B19{d:DS}(h:SS (C.low 1) k env ly body d)(hA:Room k A){s:Shared}(R:Rel C ly g σ s)(ht:0<s.toks)(e:d σ=some (fl,σ')):
  wpAny (Md C) A (execs body env) (fun x s'=>∃ g',g.le g'∧Rel (C.low 1) ly g' σ' s'∧A3D (C.low 1) g' fl x) X4 s:=by
 by_cases h1:1≤g.tk
 ·exact wpAny_mono (h A hA _ _ _ _ _ (R.low h1) e) (fun _ _ ⟨g',a,r,b⟩=>⟨g',a,r,b⟩) fun _ _ x=>x
 ·obtain⟨l,R1⟩:=R.at (n:=1) (by omega) ht
  exact wpAny_mono (h A hA _ _ _ _ _ (R1.low (Nat.le_refl _)) e) (fun _ _ ⟨g',a,r,b⟩=>⟨g',l.trans a,r,b⟩) fun _ _ x=>x
theorem B3t{st:Stmt}{rest:List Stmt}{d1 d2:DS}(h1:∀ A,Room k A→∀ g σ s f σ',Rel C ly g σ s→d1 σ=some (f,σ')→wpAny (Md C) A (exec st env) (fun fl s'=>Es C ly g σ' f fl s'∧0<s'.toks) X4 s)(h2:SS (C.low 1) k env ly rest d2):SS C k env ly (st::rest) (A9 d1 d2):=fun A hA g σ s v σ' R e=>by
 refine b2 e fun f σ1 e1 e => ?_
 refine wpAny_execs_cons (wpAny_mono (h1 A hA _ _ _ _ _ R e1) (fun x s1 h => ?_) fun _ _ x=>x.elim)
 obtain⟨⟨g1,l1,R1,V1⟩,hp⟩:=h
 cases f with
 | next=>
  cases (show _=_ from V1)
  refine wpAny_mono (B19 h2 hA R1 hp e) (fun y s2 h => ?_) fun _ _ x=>x.elim
  obtain⟨g2,l2,R2,V2⟩:=h
  refine⟨g2,l1.trans l2,Rel.low (C:=C.low 1) (n:=C.lo) R2 (Nat.le_trans R.tk.1 (l1.trans l2).tk),?_⟩
  cases v with
  | ret u=>obtain⟨y,rfl,V⟩:=V2;exact⟨y,rfl,A1a (C:=C.low 1) (n:=C.lo) u y V⟩
  | _=>exact V2
 | brk=>cases (show _=_ from V1);(first | refine s2 e ?_ | refine s1 e ?_ | cases e);exact⟨g1,l1,R1,rfl⟩
 | cont=>cases (show _=_ from V1);(first | refine s2 e ?_ | refine s1 e ?_ | cases e);exact⟨g1,l1,R1,rfl⟩
 | ret u=>obtain⟨y,rfl,V⟩:=V1;(first | refine s2 e ?_ | refine s1 e ?_ | cases e);exact⟨g1,l1,R1,y,rfl,V⟩
end
end
section
set_option maxHeartbeats 1000000
noncomputable def B2r:DS:=(A9 (B9 1 (E9 171 (Str.ofString "_headers") sp_H_convert_string_type (A0 0) (A2 (P1 isStrT fLower (A0 1)) dNil) [Str.ofString "name"] (A2 (dT (.bool true)) dNil))) (A9 (U6 itT (U0 171 (Str.ofString "_headers") (A0 0)) (tT [3,4]) (H5 (C1 (d2 fEq (P1 isStrT fLower (A0 3)) (A0 1))) (G5 (A0 4)) dSkip)) (G5 (A0 2))))
noncomputable def sp_H_get:Mine.Spec:=C7 A9u B2r
theorem W5(B:Base C)(X:(hd.heap_1 P).In C.hb)(hlo:0<C.lo):H6 C (k+3) (.ref 118) sp_H_get:=by
 refine L0 B X (xs:=[Str.ofString "self", Str.ofString "name", Str.ofString "default", Str.ofString "k", Str.ofString "v"]) (by rfl) rfl rfl (by decide) (by rfl) ?_ (fun L => ?_) rfl rfl rfl
 ·intro us kw loc e g vs kws s XX hv hkw
  rcases A9t e with ⟨a0,a1,rfl,rfl,rfl⟩|⟨a0,a1,a2,rfl,rfl,rfl⟩
  ·obtain⟨v0,_,rfl,h0,v1,_,rfl,h1,hn⟩:=hv
   cases (show _=_ from hn)
   cases (show _=_ from hkw)
   exact⟨_,kp_binds XX (fun _=>rfl),rfl,_,_,rfl,⟨v0,rfl,h0⟩,_,_,rfl,⟨v1,rfl,h1⟩,_,_,rfl,⟨_,rfl,rfl⟩,_,_,rfl,rfl,_,_,rfl,rfl,rfl⟩
  ·obtain⟨v0,_,rfl,h0,v1,_,rfl,h1,v2,_,rfl,h2,hn⟩:=hv
   cases (show _=_ from hn)
   cases (show _=_ from hkw)
   exact⟨_,kp_binds XX (fun _=>rfl),rfl,_,_,rfl,⟨v0,rfl,h0⟩,_,_,rfl,⟨v1,rfl,h1⟩,_,_,rfl,⟨v2,rfl,h2⟩,_,_,rfl,rfl,_,_,rfl,rfl,rfl⟩
 ·exact(A5 (B7 (bl rfl rfl rfl rfl rfl) (V7 B X C9 (A1 (bl rfl rfl rfl rfl rfl)) (A3 (M3 B ⟨rfl,rfl⟩ ⟨F.plainAttrs_str,F.slot_str_lower,F.type_str_lower⟩ E0 (A1 (bl rfl rfl rfl rfl rfl)) Y6) B1) (j9 N8 A0M) (D7 B X hlo) ⟨_,_,rfl,rfl,rfl⟩ rfl rfl ⟨_,rfl⟩) rfl)
  (A5 (u4 B (Q2 B X rfl rfl rfl rfl (A1 (bl rfl rfl rfl rfl rfl))) rfl (.cons (C0 (bl rfl rfl rfl rfl rfl)) (.cons (C0 (bl rfl rfl rfl rfl rfl)) .nil)) rfl rfl (B5 (J2 (D2 B (M3 B ⟨rfl,rfl⟩ ⟨F.plainAttrs_str,F.slot_str_lower,F.type_str_lower⟩ E0 (A1 (bl rfl rfl rfl rfl rfl)) Y6) (A1 (bl rfl rfl rfl rfl rfl)) (v7 B) rfl) (B5 (E7 (A1 (bl rfl rfl rfl rfl rfl)))) H0)) (fun _=>rfl))
  (B5 (E7 (A1 (bl rfl rfl rfl rfl rfl))))))
noncomputable def A19:DS:=(A9 (B9 3 (E9 171 (Str.ofString "_headers") sp_H_get (A0 0) (A2 (A0 1) dNil) [] dNil)) (H5 (C1 (d2 fIs (A0 3) (dT .none))) (A9 (Z5 (A0a (U0 171 (Str.ofString "_headers") (A0 0)) (E5 (A2 (E9 171 (Str.ofString "_headers") sp_H_convert_string_type (A0 0) (A2 (A0 1) dNil) [Str.ofString "name"] (A2 (dT (.bool true)) dNil)) (A2 (E9 171 (Str.ofString "_headers") sp_H_convert_string_type (A0 0) (A2 (A0 2) dNil) [Str.ofString "name"] (A2 (dT (.bool false)) dNil)) dNil))))) (G5 (A0 2))) (G5 (A0 3))))
noncomputable def sp_H_setdefault:Mine.Spec:=C7 (mkP 3 1) A19
theorem Z9(B:Base C)(X:(hd.heap_1 P).In C.hb)(hlo:0<C.lo):H6 C (k+4) (.ref 161) sp_H_setdefault:=by
 refine L0 B X (xs:=[Str.ofString "self", Str.ofString "name", Str.ofString "value", Str.ofString "result"]) (by rfl) rfl rfl (by decide) (by rfl) ?_ (fun L => ?_) rfl rfl rfl
 ·intro us kw loc e g vs kws s XX hv hkw
  obtain⟨a0,a1,a2,rfl,rfl,rfl⟩:=A74 e
  obtain⟨v0,_,rfl,h0,v1,_,rfl,h1,v2,_,rfl,h2,hn⟩:=hv
  cases (show _=_ from hn)
  cases (show _=_ from hkw)
  exact⟨_,BindsTo.of_eq rfl,rfl,_,_,rfl,⟨v0,rfl,h0⟩,_,_,rfl,⟨v1,rfl,h1⟩,_,_,rfl,⟨v2,rfl,h2⟩,_,_,rfl,rfl,rfl⟩
 ·exact(A5 (B7 (bl rfl rfl rfl rfl rfl) (P5 B X N5 (A1 (bl rfl rfl rfl rfl rfl)) (A3 (A1 (bl rfl rfl rfl rfl rfl)) B1) (W5 B X hlo) ⟨_,_,rfl,rfl,rfl⟩ ⟨_,rfl⟩) rfl)
  (B5 (J2 (D2 B (A1 (bl rfl rfl rfl rfl rfl)) j5 B1y rfl) (A5 (Y4 (V8 B ⟨rfl,rfl⟩ (Q2 B X rfl rfl rfl rfl (A1 (bl rfl rfl rfl rfl rfl))) (C6 (A3 (V7 B X C9 (A1 (bl rfl rfl rfl rfl rfl)) (A3 (A1 (bl rfl rfl rfl rfl rfl)) B1) (j9 N8 A0M) (D7 B X hlo) ⟨_,_,rfl,rfl,rfl⟩ rfl rfl ⟨_,rfl⟩) (A3 (V7 B X C9 (A1 (bl rfl rfl rfl rfl rfl)) (A3 (A1 (bl rfl rfl rfl rfl rfl)) B1) (j9 N8 A0M) (D7 B X hlo) ⟨_,_,rfl,rfl,rfl⟩ rfl rfl ⟨_,rfl⟩) B1))) rfl) rfl rfl)
  (B5 (E7 (A1 (bl rfl rfl rfl rfl rfl))))) (B5 (E7 (A1 (bl rfl rfl rfl rfl rfl)))))))
noncomputable def A41:DS:=(A9 (B9 1 (E9 171 (Str.ofString "_headers") sp_H_convert_string_type (A0 0) (A2 (P1 isStrT fLower (A0 1)) dNil) [Str.ofString "name"] (A2 (dT (.bool true)) dNil))) (A7K (E3 1 itN (U0 171 (Str.ofString "_headers") (A0 0)) (C1 (d2 fNe (P1 isStrT fLower (A7 (A0 2) (dT (.int 0)))) (A0 1))) (A0 2)) (U0 171 (Str.ofString "_headers") (A0 0))))
noncomputable def sp_H_delitem:Mine.Spec:=C7 (mkP 2 0) A41
theorem A3W(B:Base C)(X:(hd.heap_1 P).In C.hb)(hlo:0<C.lo):H6 C (k+3) (.ref 89) sp_H_delitem:=by
 refine y4 B X (lyf:=fun L=>([.inl (Str.ofString "self"),.inr 1]:List (Str ⊕ Nat)).map (m3 L)) (by rfl) rfl rfl (fun L=>L8 (by decide)) rfl ?_ (fun L => ?_) rfl rfl rfl
 ·intro us kw loc e g vs kws s XX hv hkw
  obtain⟨a0,a1,rfl,rfl,rfl⟩:=A3g e
  obtain⟨v0,_,rfl,h0,v1,_,rfl,h1,hn⟩:=hv
  cases (show _=_ from hn)
  cases (show _=_ from hkw)
  exact⟨rfl,_,rfl,fun L=>rfl,fun L=>⟨_,_,rfl,.inl ⟨Str.ofString "self", rfl,⟨v0,rfl,h0⟩⟩,_,_,rfl,.inr ⟨Str.ofString "name", _,rfl,rfl,⟨v1,rfl,h1⟩⟩,rfl⟩⟩
 ·exact(A5 (B7 (bc rfl rfl rfl rfl rfl rfl) (V7 B X C9 (A1 (bl rfl rfl rfl rfl rfl)) (A3 (M3 B ⟨rfl,rfl⟩ ⟨F.plainAttrs_str,F.slot_str_lower,F.type_str_lower⟩ E0 (A1 (bc rfl rfl rfl rfl rfl rfl)) Y6) B1) (j9 N8 A0M) (D7 B X hlo) ⟨_,_,rfl,rfl,rfl⟩ rfl rfl ⟨_,rfl⟩) rfl)
  (B5 (A7p B (L6 B (F7 hlo) (ls:=fun L=>[.fr L (Str.ofString "kv")]) ⟨fun _=>rfl,.inl ⟨fun _=>rfl,rfl,rfl⟩⟩ (Q2 B X rfl rfl rfl rfl (A1 (bl rfl rfl rfl rfl rfl))) rfl rfl (by decide) (fun _=>(bl rfl rfl rfl rfl rfl)) (fun _=>(K1 (D2 B (M3 B ⟨rfl,rfl⟩ ⟨F.plainAttrs_str,F.slot_str_lower,F.type_str_lower⟩ E0 (A8 B (A1 (bl rfl rfl rfl rfl rfl)) A6 (fun _ _=>by first | exact .inl rfl | exact .inr rfl)) Y6) (A1 (bc rfl rfl rfl rfl rfl rfl)) (A2O B) rfl))) (fun _=>(A1 (bl rfl rfl rfl rfl rfl))) (fun _=>rfl)) (Q2 B X rfl rfl rfl rfl (A1 (bl rfl rfl rfl rfl rfl))) rfl)))
noncomputable def A40:DS:=(A9 (A7L 171 (Str.ofString "_headers") sp_H_delitem (A0 0) (A0 1)) (Z5 (A0a (U0 171 (Str.ofString "_headers") (A0 0)) (E5 (A2 (E9 171 (Str.ofString "_headers") sp_H_convert_string_type (A0 0) (A2 (A0 1) dNil) [Str.ofString "name"] (A2 (dT (.bool true)) dNil)) (A2 (E9 171 (Str.ofString "_headers") sp_H_convert_string_type (A0 0) (A2 (A0 2) dNil) [Str.ofString "name"] (A2 (dT (.bool false)) dNil)) dNil))))))
noncomputable def sp_H_setitem:Mine.Spec:=C7 (mkP 3 0) A40
theorem v9(B:Base C)(X:(hd.heap_1 P).In C.hb)(hlo:0<C.lo):H6 C (k+4) (.ref 84) sp_H_setitem:=by
 refine L0 B X (xs:=[Str.ofString "self", Str.ofString "name", Str.ofString "val"]) (by rfl) rfl rfl (by decide) (by rfl) ?_ (fun L => ?_) rfl rfl rfl
 ·intro us kw loc e g vs kws s XX hv hkw
  obtain⟨a0,a1,a2,rfl,rfl,rfl⟩:=A74 e
  obtain⟨v0,_,rfl,h0,v1,_,rfl,h1,v2,_,rfl,h2,hn⟩:=hv
  cases (show _=_ from hn)
  cases (show _=_ from hkw)
  exact⟨_,BindsTo.of_eq rfl,rfl,_,_,rfl,⟨v0,rfl,h0⟩,_,_,rfl,⟨v1,rfl,h1⟩,_,_,rfl,⟨v2,rfl,h2⟩,rfl⟩
 ·exact(A5 (A7q B X B0F (A3W B X hlo) (A1 (bl rfl rfl rfl rfl rfl)) (A1 (bl rfl rfl rfl rfl rfl)))
  (B5 (Y4 (V8 B ⟨rfl,rfl⟩ (Q2 B X rfl rfl rfl rfl (A1 (bl rfl rfl rfl rfl rfl))) (C6 (A3 (V7 B X C9 (A1 (bl rfl rfl rfl rfl rfl)) (A3 (A1 (bl rfl rfl rfl rfl rfl)) B1) (j9 N8 A0M) (D7 B X hlo) ⟨_,_,rfl,rfl,rfl⟩ rfl rfl ⟨_,rfl⟩) (A3 (V7 B X C9 (A1 (bl rfl rfl rfl rfl rfl)) (A3 (A1 (bl rfl rfl rfl rfl rfl)) B1) (j9 N8 A0M) (D7 B X hlo) ⟨_,_,rfl,rfl,rfl⟩ rfl rfl ⟨_,rfl⟩) B1))) rfl) rfl rfl)))
noncomputable def A30:DS:=(A9 (B9 2 (P1 isIntT fBits (A0 1))) (A9 (B9 3 (F0 sp_int2digits (A2 (A0 0) (A2 (A0 2) dNil)))) (A9 (B9 4 (dT (.int 0))) (A9 (B9 5 (A58 dNil)) (A9 (B0w (A0 3) (tN 6) (A9 (A2A [7,4] (F0 sp_div2n1n (A2 (d2 fAdd (d2 fShl (A0 4) (A0 2)) (A0 6)) (A2 (A0 1) (A2 (A0 2) dNil))))) (Z5 (A0a (A0 5) (A0 7))))) (A9 (Z5 (B4r (A0 5))) (A9 (B9 8 (F0 sp_digits2int (A2 (A0 5) (A2 (A0 2) dNil)))) (G5 (E5 (A2 (A0 8) (A2 (A0 4) dNil)))))))))))
noncomputable def sp_divmod_pos:Mine.Spec:=C7 (mkP 2 7) A30
theorem A2Q(B:Base C)(X:(hd.heap_1 P).In C.hb)(hlo:0<C.lo)(TK:TabsK C):H6 C (k+11) (.ref 210) sp_divmod_pos:=by
 refine L0 B X (xs:=[Str.ofString "a", Str.ofString "b", Str.ofString "n", Str.ofString "a_digits", Str.ofString "r", Str.ofString "q_digits", Str.ofString "a_digit", Str.ofString "q_digit", Str.ofString "q"]) (by rfl) rfl rfl (by decide) (by rfl) ?_ (fun L => ?_) rfl rfl rfl
 ·intro us kw loc e g vs kws s XX hv hkw
  obtain⟨a0,a1,rfl,rfl,rfl⟩:=A3g e
  obtain⟨v0,_,rfl,h0,v1,_,rfl,h1,hn⟩:=hv
  cases (show _=_ from hn)
  cases (show _=_ from hkw)
  exact⟨_,BindsTo.of_eq rfl,rfl,_,_,rfl,⟨v0,rfl,h0⟩,_,_,rfl,⟨v1,rfl,h1⟩,_,_,rfl,rfl,_,_,rfl,rfl,_,_,rfl,rfl,_,_,rfl,rfl,_,_,rfl,rfl,_,_,rfl,rfl,_,_,rfl,rfl,rfl⟩
 ·exact(A5 (B7 (bl rfl rfl rfl rfl rfl) (M3 B ⟨rfl,rfl⟩ ⟨F.plainAttrs_int,F.slot_int_bit_length,F.type_int_bit_length⟩ A0C (A1 (bl rfl rfl rfl rfl rfl)) A5k) rfl)
  (A5 (B7 (bl rfl rfl rfl rfl rfl) (H7 B X rfl rfl rfl rfl rfl (A2P B X hlo TK) (A3 (A1 (bl rfl rfl rfl rfl rfl)) (A3 (A1 (bl rfl rfl rfl rfl rfl)) B1)) ⟨_,_,rfl,rfl,rfl⟩ rfl) rfl)
  (A5 (B7 (bl rfl rfl rfl rfl rfl) A6 rfl)
  (A5 (B7 (bl rfl rfl rfl rfl rfl) (Q4 B1) rfl)
  (A5 (B1l B (bn B X rfl rfl rfl rfl rfl rfl (by decide) rfl (.t _)) (A1 (bl rfl rfl rfl rfl rfl)) (bl rfl rfl rfl rfl rfl) (A5 (A1W rfl (.cons (C0 (bl rfl rfl rfl rfl rfl)) (.cons (C0 (bl rfl rfl rfl rfl rfl)) .nil)) (H7 B X rfl rfl rfl rfl rfl (A5n B X hlo) (A3 (B2 B (B2 B (A1 (bl rfl rfl rfl rfl rfl)) (A1 (bl rfl rfl rfl rfl rfl)) A9Y) (A1 (bl rfl rfl rfl rfl rfl)) J3) (A3 (A1 (bl rfl rfl rfl rfl rfl)) (A3 (A1 (bl rfl rfl rfl rfl rfl)) B1))) ⟨_,_,rfl,rfl,rfl⟩ rfl) rfl rfl rfl rfl)
  (B5 (Y4 (V8 B ⟨rfl,rfl⟩ (A1 (bl rfl rfl rfl rfl rfl)) (A1 (bl rfl rfl rfl rfl rfl)) rfl) rfl rfl))) rfl)
  (A5 (Y4 (A5Z B ⟨rfl,rfl⟩ (A1 (bl rfl rfl rfl rfl rfl))) rfl rfl)
  (A5 (B7 (bl rfl rfl rfl rfl rfl) (H7 B X rfl rfl rfl rfl rfl (A2R B X hlo TK) (A3 (A1 (bl rfl rfl rfl rfl rfl)) (A3 (A1 (bl rfl rfl rfl rfl rfl)) B1)) ⟨_,_,rfl,rfl,rfl⟩ rfl) rfl)
  (B5 (E7 (C6 (A3 (A1 (bl rfl rfl rfl rfl rfl)) (A3 (A1 (bl rfl rfl rfl rfl rfl)) B1))))))))))))
noncomputable def A57:DS:=(A9 (B9 2 (y8 263 (Str.ofString "comp_select_list") ini_T (A2 (A0 1) dNil))) (A9 (B9 3 (A58 dNil)) (A9 (U6 itN (A0 0) (tN 4) (A9 (B9 5 (E5 (A2 (A7 (A7 (A0 0) (A0 4)) (dT (.int 2))) (A2 (A0 4) dNil)))) (A9 (B9 6 (dT (.int 0))) (A9 (dWh (B1C (C1 (d2 fLt (A0 6) (d1 fLen (A0 3)))) (C1 (d2 fLt (E9 263 (Str.ofString "comp_select_list") sp_T_compare (A0 2) (A2 (A7 (A0 3) (A0 6)) (A2 (A0 5) dNil)) [] dNil) (dT (.int 0))))) (y9 6 fAdd (dT (.int 1))) 64) (Z5 (B2u (A0 3) (A0 6) (A0 5))))))) (G5 (E3 1 itN (A0 3) (G0 true) (A7 (A0 7) (dT (.int 1))))))))
noncomputable def sp_law_line:Mine.Spec:=C7 (mkP 2 5) A57
theorem A4Q(B:Base C)(X:(hd.heap_1 P).In C.hb)(hlo:0<C.lo)(TK:TabsK C):H6 C (k+5) (.ref 300) sp_law_line:=by
 refine L0 B X (xs:=[Str.ofString "ends", Str.ofString "keys", Str.ofString "order", Str.ofString "line", Str.ofString "way", Str.ofString "row", Str.ofString "place"]) (by rfl) rfl rfl (by decide) (by rfl) ?_ (fun L => ?_) rfl rfl rfl
 ·intro us kw loc e g vs kws s XX hv hkw
  obtain⟨a0,a1,rfl,rfl,rfl⟩:=A3g e
  obtain⟨v0,_,rfl,h0,v1,_,rfl,h1,hn⟩:=hv
  cases (show _=_ from hn)
  cases (show _=_ from hkw)
  exact⟨_,BindsTo.of_eq rfl,rfl,_,_,rfl,⟨v0,rfl,h0⟩,_,_,rfl,⟨v1,rfl,h1⟩,_,_,rfl,rfl,_,_,rfl,rfl,_,_,rfl,rfl,_,_,rfl,rfl,_,_,rfl,rfl,rfl⟩
 ·exact(A5 (B7 (bl rfl rfl rfl rfl rfl) (B30 B X rfl rfl rfl rfl B3X (A70 B X hlo) (A3 (A1 (bl rfl rfl rfl rfl rfl)) B1) ⟨_,_,rfl,rfl,rfl⟩ rfl A5w) rfl)
  (A5 (B7 (bl rfl rfl rfl rfl rfl) (Q4 B1) rfl)
  (A5 (N9 B (F7 hlo) (A1 (bl rfl rfl rfl rfl rfl)) (bl rfl rfl rfl rfl rfl) (A5 (B7 (bl rfl rfl rfl rfl rfl) (C6 (A3 (A8 B (A8 B (A1 (bl rfl rfl rfl rfl rfl)) (A1 (bl rfl rfl rfl rfl rfl)) (fun _ _=>by first | exact .inl rfl | exact .inr rfl)) A6 (fun _ _=>by first | exact .inl rfl | exact .inr rfl)) (A3 (A1 (bl rfl rfl rfl rfl rfl)) B1))) rfl)
  (A5 (B7 (bl rfl rfl rfl rfl rfl) A6 rfl)
  (A5 (A9G (A85 (D2 B (A1 (bl rfl rfl rfl rfl rfl)) (H1 B (bn B X rfl rfl rfl rfl rfl rfl (by decide) rfl (.b _)) (A1 (bl rfl rfl rfl rfl rfl)) A0o rfl) B1v rfl) (D2 B (P5 B X A1q (A1 (bl rfl rfl rfl rfl rfl)) (A3 (A8 B (A1 (bl rfl rfl rfl rfl rfl)) (A1 (bl rfl rfl rfl rfl rfl)) (fun _ _=>by first | exact .inl rfl | exact .inr rfl)) (A3 (A1 (bl rfl rfl rfl rfl rfl)) B1)) (A3V B X hlo) ⟨_,_,rfl,rfl,rfl⟩ ⟨_,rfl⟩) A6 B1v rfl)) (B5 (A1Y B (bl rfl rfl rfl rfl rfl) A6 A3T)))
  (B5 (Y4 (A7o B ⟨rfl,rfl⟩ (A1 (bl rfl rfl rfl rfl rfl)) (A1 (bl rfl rfl rfl rfl rfl)) (A1 (bl rfl rfl rfl rfl rfl)) rfl) rfl rfl))))) (fun _=>rfl))
  (B5 (E7 (L6 B (F7 hlo) (ls:=fun L=>[.fr L (Str.ofString "row")]) ⟨fun _=>rfl,.inl ⟨fun _=>rfl,rfl,rfl⟩⟩ (A1 (bl rfl rfl rfl rfl rfl)) rfl rfl (by decide) (fun _=>(bl rfl rfl rfl rfl rfl)) (fun _=>I4) (fun _=>(A8 B (A1 (bl rfl rfl rfl rfl rfl)) A6 (fun _ _=>by first | exact .inl rfl | exact .inr rfl))) (fun _=>rfl)))))))
end
section
set_option maxHeartbeats 1000000
noncomputable def A2X:DS:=(A9 (B9 2 dNewDs) (A9 (U6 itT (U5 (A0 0)) (tT [3,4]) (O9 (A0 4) (A0 2) (A0 3))) (A9 (U6 itT (U5 (A0 1)) (tT [3,4]) (H5 (C1 (d2 fIn (A0 3) (A0 2))) (H5 (C1 (d2 fIsTup (A0 4) (dT (.cst (.type "tuple"))))) (O9 (B4q (A0 4) (A7 (A0 2) (A0 3))) (A0 2) (A0 3)) (A0Z fAdd (A0 2) (A0 3) (A0 4))) (O9 (A0 4) (A0 2) (A0 3)))) (G5 (A0 2)))))
noncomputable def sp_add_callers:Mine.Spec:=C7 (mkP 2 3) A2X
theorem A1l(B:Base C)(X:(hd.heap_1 P).In C.hb)(hlo:0<C.lo)(TK:TabsK C):H6 C (k+2) (.ref 288) sp_add_callers:=by
 refine L0 B X (xs:=[Str.ofString "target", Str.ofString "source", Str.ofString "new_callers", Str.ofString "func", Str.ofString "caller"]) (by rfl) rfl rfl (by decide) (by rfl) ?_ (fun L => ?_) rfl rfl rfl
 ·intro us kw loc e g vs kws s XX hv hkw
  obtain⟨a0,a1,rfl,rfl,rfl⟩:=A3g e
  obtain⟨v0,_,rfl,h0,v1,_,rfl,h1,hn⟩:=hv
  cases (show _=_ from hn)
  cases (show _=_ from hkw)
  exact⟨_,BindsTo.of_eq rfl,rfl,_,_,rfl,⟨v0,rfl,h0⟩,_,_,rfl,⟨v1,rfl,h1⟩,_,_,rfl,rfl,_,_,rfl,rfl,_,_,rfl,rfl,rfl⟩
 ·exact(A5 (B7 (bl rfl rfl rfl rfl rfl) V9 rfl)
  (A5 (u4 B (u3 B ⟨rfl,rfl⟩ (A1 (bl rfl rfl rfl rfl rfl))) rfl (.cons (C0 (bl rfl rfl rfl rfl rfl)) (.cons (C0 (bl rfl rfl rfl rfl rfl)) .nil)) rfl rfl (B5 (U2 B (A1 (bl rfl rfl rfl rfl rfl)) (A1 (bl rfl rfl rfl rfl rfl)) (A1 (bl rfl rfl rfl rfl rfl)) rfl)) (fun _=>rfl))
  (A5 (u4 B (u3 B ⟨rfl,rfl⟩ (A1 (bl rfl rfl rfl rfl rfl))) rfl (.cons (C0 (bl rfl rfl rfl rfl rfl)) (.cons (C0 (bl rfl rfl rfl rfl rfl)) .nil)) rfl rfl (B5 (J2 (D2 B (A1 (bl rfl rfl rfl rfl rfl)) (A1 (bl rfl rfl rfl rfl rfl)) B6U rfl) (B5 (J2 (Q1 B (A4H B (bn B X rfl rfl rfl rfl rfl rfl (by decide) rfl (.b _)) (A1 (bl rfl rfl rfl rfl rfl)) (Y3 B rfl rfl rfl rfl (mg_none_of X B.g rfl) rfl (by decide) (fun _=>rfl) rfl) B1w rfl) rfl) (B5 (U2 B (B3y B TK.u (bn B X rfl rfl rfl rfl rfl rfl (by decide) rfl (.t _)) (bn B X rfl rfl rfl rfl rfl rfl (by decide) rfl (.t _)) (A1 (bl rfl rfl rfl rfl rfl)) (A8 B (A1 (bl rfl rfl rfl rfl rfl)) (A1 (bl rfl rfl rfl rfl rfl)) (fun _ _=>by first | exact .inl rfl | exact .inr rfl)) rfl TK.t5 TK.c5 rfl rfl rfl rfl rfl rfl rfl (by decide) rfl rfl rfl rfl (fun _=>rfl)) (A1 (bl rfl rfl rfl rfl rfl)) (A1 (bl rfl rfl rfl rfl rfl)) rfl)) (B5 (A4I B (A1 (bl rfl rfl rfl rfl rfl)) (A1 (bl rfl rfl rfl rfl rfl)) (A1 (bl rfl rfl rfl rfl rfl)) A3T (fun _ _ _=>rfl))))) (B5 (U2 B (A1 (bl rfl rfl rfl rfl rfl)) (A1 (bl rfl rfl rfl rfl rfl)) (A1 (bl rfl rfl rfl rfl rfl)) rfl)))) (fun _=>rfl))
  (B5 (E7 (A1 (bl rfl rfl rfl rfl rfl)))))))
noncomputable def A0Y:DS:=(A9 (A2A [2,3,4,5,6] (A0 1)) (A9 (A2A [7,8,9,10,11] (A0 0)) (G5 (E5 (A2 (d2 fAdd (A0 2) (A0 7)) (A2 (d2 fAdd (A0 3) (A0 8)) (A2 (d2 fAdd (A0 4) (A0 9)) (A2 (d2 fAdd (A0 5) (A0 10)) (A2 (F0 sp_add_callers (A2 (A0 11) (A2 (A0 6) dNil))) dNil)))))))))
noncomputable def sp_add_func_stats:Mine.Spec:=C7 (mkP 2 10) A0Y
theorem v8(B:Base C)(X:(hd.heap_1 P).In C.hb)(hlo:0<C.lo)(TK:TabsK C):H6 C (k+3) (.ref 281) sp_add_func_stats:=by
 refine L0 B X (xs:=[Str.ofString "target", Str.ofString "source", Str.ofString "cc", Str.ofString "nc", Str.ofString "tt", Str.ofString "ct", Str.ofString "callers", Str.ofString "t_cc", Str.ofString "t_nc", Str.ofString "t_tt", Str.ofString "t_ct", Str.ofString "t_callers"]) (by rfl) rfl rfl (by decide) (by rfl) ?_ (fun L => ?_) rfl rfl rfl
 ·intro us kw loc e g vs kws s XX hv hkw
  obtain⟨a0,a1,rfl,rfl,rfl⟩:=A3g e
  obtain⟨v0,_,rfl,h0,v1,_,rfl,h1,hn⟩:=hv
  cases (show _=_ from hn)
  cases (show _=_ from hkw)
  exact⟨_,BindsTo.of_eq rfl,rfl,_,_,rfl,⟨v0,rfl,h0⟩,_,_,rfl,⟨v1,rfl,h1⟩,_,_,rfl,rfl,_,_,rfl,rfl,_,_,rfl,rfl,_,_,rfl,rfl,_,_,rfl,rfl,_,_,rfl,rfl,_,_,rfl,rfl,_,_,rfl,rfl,_,_,rfl,rfl,_,_,rfl,rfl,rfl⟩
 ·exact(A5 (A1W rfl (.cons (C0 (bl rfl rfl rfl rfl rfl)) (.cons (C0 (bl rfl rfl rfl rfl rfl)) (.cons (C0 (bl rfl rfl rfl rfl rfl)) (.cons (C0 (bl rfl rfl rfl rfl rfl)) (.cons (C0 (bl rfl rfl rfl rfl rfl)) .nil))))) (A1 (bl rfl rfl rfl rfl rfl)) rfl rfl rfl rfl)
  (A5 (A1W rfl (.cons (C0 (bl rfl rfl rfl rfl rfl)) (.cons (C0 (bl rfl rfl rfl rfl rfl)) (.cons (C0 (bl rfl rfl rfl rfl rfl)) (.cons (C0 (bl rfl rfl rfl rfl rfl)) (.cons (C0 (bl rfl rfl rfl rfl rfl)) .nil))))) (A1 (bl rfl rfl rfl rfl rfl)) rfl rfl rfl rfl)
  (B5 (E7 (C6 (A3 (B2 B (A1 (bl rfl rfl rfl rfl rfl)) (A1 (bl rfl rfl rfl rfl rfl)) J3) (A3 (B2 B (A1 (bl rfl rfl rfl rfl rfl)) (A1 (bl rfl rfl rfl rfl rfl)) J3) (A3 (B2 B (A1 (bl rfl rfl rfl rfl rfl)) (A1 (bl rfl rfl rfl rfl rfl)) J3) (A3 (B2 B (A1 (bl rfl rfl rfl rfl rfl)) (A1 (bl rfl rfl rfl rfl rfl)) J3) (A3 (H7 B X rfl rfl rfl rfl rfl (A1l B X hlo TK) (A3 (A1 (bl rfl rfl rfl rfl rfl)) (A3 (A1 (bl rfl rfl rfl rfl rfl)) B1)) ⟨_,_,rfl,rfl,rfl⟩ rfl) B1))))))))))
end
section
set_option maxHeartbeats 1000000
noncomputable def A56:DS:=(A9 (B9 5 (y8 171 (Str.ofString "_headers") ini_H dNil)) (A9 (U6 itN (A0 1) (tN 6) (A9 (B9 7 (A7 (A0 2) (A7 (A7 (A0 0) (A0 6)) (dT (.int 0))))) (Z4 171 (Str.ofString "_headers") sp_H_setitem (F0 sp_concat (A2 (E9 171 (Str.ofString "_headers") sp_H_get (A0 5) (A2 (P1 isStrT fUpper (A0 7)) (A2 (dT (.str (Str.ofString ""))) dNil)) [] dNil) (A2 (A0 6) dNil))) (A0 5) (A0 7)))) (A9 (B9 8 (y8 171 (Str.ofString "_headers") ini_H dNil)) (A9 (Z5 (E9 171 (Str.ofString "_headers") sp_H_setdefault (A0 8) (A2 (A7 (A0 2) (A0 3)) (A2 (dT (.str (Str.ofString ""))) dNil)) [] dNil)) (A9 (Z3 [11,10,9] (A2 dNewDs (A2 (A58 dNil) (A2 (A0 3) dNil)))) (A9 (U6 itN (d1 fRange1 (dT (.int 11))) (tN 12) (A9 (B9 13 (E9 171 (Str.ofString "_headers") sp_H_get (A0 5) (A2 (A7 (A0 2) (A0 11)) dNil) [] dNil)) (A9 (H5 (C1 (d2 fEq (A0 13) (dT (.str (Str.ofString ""))))) (A9 (Z5 (A0a (P0 171 (Str.ofString "_headers") sp_H_items (A0 8)) (E5 (A2 (dT (.str (Str.ofString ""))) (A2 (dT (.str (Str.ofString ""))) dNil))))) (G5 (E5 (A2 (A0 10) (A2 (A0 4) (A2 (P0 171 (Str.ofString "_headers") sp_H_items (A0 5)) (A2 (P0 171 (Str.ofString "_headers") sp_H_items (A0 8)) (A2 (A0 9) dNil)))))))) dSkip) (A9 (B9 14 (E9 171 (Str.ofString "_headers") sp_H_get (A0 8) (A2 (P1 isStrT fUpper (A7 (A0 2) (A0 11))) dNil) [] dNil)) (A9 (B9 15 (E3 1 itN (A0 13) (C1 (d2 fNe (A0 26) (A0 14))) (A0 26))) (A9 (H5 (C1 (d2 fEq (A0 15) (L2 dNil))) (B9 15 (d1 fListS (A0 13))) dSkip) (A9 (A2A [4,16] (dIf (C1 (d2 fGt (F0 sp_length_hint (A2 (A0 15) dNil)) (dT (.int 1)))) (F0 sp_divmod_pos (A2 (A0 4) (A2 (F0 sp_length_hint (A2 (A0 15) dNil)) dNil))) (E5 (A2 (A0 4) (A2 (dT (.int 0)) dNil))))) (A9 (B9 6 (A7 (A0 15) (A0 16))) (A9 (Z5 (A0a (A0 10) (A0 6))) (A9 (B9 17 (dM1 isStrT fIndex (A0 13) (A0 6))) (A9 (Z4 171 (Str.ofString "_headers") sp_H_setitem (F0 sp_concat (A2 (dSl (A0 13) (dT .none) (A0 17) (dT .none)) (A2 (dSl (A0 13) (d2 fAdd (A0 17) (dT (.int 1))) (dT .none) (dT .none)) dNil))) (A0 5) (P1 isStrT fUpper (A7 (A0 2) (A0 11)))) (A9 (B9 18 (A7 (A0 2) (A7 (A7 (A0 0) (A0 6)) (dT (.int 1))))) (A9 (B9 19 (dIf (C1 (d2 fIs (E9 171 (Str.ofString "_headers") sp_H_get (A0 8) (A2 (P1 isStrT fUpper (A0 18)) dNil) [] dNil) (dT .none))) (dT (.int 1)) (dT (.int 0)))) (A9 (B9 20 (E9 171 (Str.ofString "_headers") sp_H_setdefault (A0 8) (A2 (A0 18) (A2 (P1 isStrT fSwap (A0 6)) dNil)) [] dNil)) (A9 (B9 21 (A7 (A7 (A0 0) (P1 isStrT fLower (A0 6))) (dT (.int 2)))) (A9 (B9 22 (dIf (C1 (P1 isStrT fIsLower (A0 6))) (A0 21) (F0 sp_isub (A2 (dT (.int 0)) (A2 (A0 21) dNil))))) (A9 (B9 23 (E5 (A2 (A0 19) (A2 (dT (.int 1)) (A2 (A0 22) (A2 (A0 21) (A2 (B0x (A7 (A0 2) (A0 11)) (E5 (A2 (dT (.int 1)) (A2 (A0 22) (A2 (A0 21) dNil))))) dNil))))))) (A9 (B9 24 (A59 (A0 9) (A0 18) (E5 (A2 (dT (.int 0)) (A2 (dT (.int 0)) (A2 (dT (.int 0)) (A2 (dT (.int 0)) (A2 dNewDs dNil)))))))) (A9 (B9 25 (d1 fListS (U5 (A7 (A0 24) (dT (.int 4)))))) (A9 (H5 (bOr (C1 (d2 fIsNot (F0 sp_setitem (A2 (A0 9) (A2 (A0 18) (A2 (F0 sp_add_func_stats (A2 (A0 24) (A2 (A0 23) dNil))) dNil)))) (dT .none))) (bOr (C1 (d2 fNe (d1 fListS (U5 (A7 (A0 24) (dT (.int 4))))) (A0 25))) (C1 (d2 fNe (A0 20) (E9 171 (Str.ofString "_headers") sp_H_get (A0 8) (A2 (P1 isStrT fUpper (A0 18)) dNil) [] dNil))))) (G5 (E5 (A2 (A0 10) (A2 (d1 fNeg (dT (.int 1))) (A2 (L2 dNil) (A2 (L2 dNil) (A2 (A0 9) dNil))))))) dSkip) (B9 11 (A7 (A7 (A0 0) (A0 6)) (dT (.int 1)))))))))))))))))))))))) (G5 (E5 (A2 (A0 10) (A2 (d1 fNeg (dT (.int 1))) (A2 (L2 dNil) (A2 (L2 dNil) (A2 (A0 9) dNil)))))))))))))
noncomputable def sp_law_walk:Mine.Spec:=C7 (mkP 5 21) A56
theorem A4P(B:Base C)(X:(hd.heap_1 P).In C.hb)(hlo:0<C.lo)(TK:TabsK C):H6 C (k+12) (.ref 305) sp_law_walk:=by
 refine y4 B X (lyf:=fun L=>([.inl (Str.ofString "ends"),.inl (Str.ofString "line"),.inl (Str.ofString "names"),.inl (Str.ofString "start"),.inl (Str.ofString "number"),.inl (Str.ofString "doors"),.inl (Str.ofString "way"),.inl (Str.ofString "name"),.inl (Str.ofString "back"),.inl (Str.ofString "books"),.inl (Str.ofString "walk"),.inl (Str.ofString "here"),.inl (Str.ofString "turn"),.inl (Str.ofString "left"),.inr 1,.inl (Str.ofString "free"),.inl (Str.ofString "pick"),.inl (Str.ofString "at"),.inl (Str.ofString "come"),.inl (Str.ofString "new"),.inl (Str.ofString "answer"),.inl (Str.ofString "rise"),.inl (Str.ofString "up"),.inl (Str.ofString "entry"),.inl (Str.ofString "old"),.inl (Str.ofString "kept")]:List (Str ⊕ Nat)).map (m3 L)) (by rfl) rfl rfl (fun L=>L8 (by decide)) rfl ?_ (fun L => ?_) rfl rfl rfl
 ·intro us kw loc e g vs kws s XX hv hkw
  obtain⟨a0,a1,a2,a3,a4,rfl,rfl,rfl⟩:=B6V e
  obtain⟨v0,_,rfl,h0,v1,_,rfl,h1,v2,_,rfl,h2,v3,_,rfl,h3,v4,_,rfl,h4,hn⟩:=hv
  cases (show _=_ from hn)
  cases (show _=_ from hkw)
  exact⟨rfl,_,rfl,fun L=>rfl,fun L=>⟨_,_,rfl,.inl ⟨Str.ofString "ends", rfl,⟨v0,rfl,h0⟩⟩,_,_,rfl,.inl ⟨Str.ofString "line", rfl,⟨v1,rfl,h1⟩⟩,_,_,rfl,.inl ⟨Str.ofString "names", rfl,⟨v2,rfl,h2⟩⟩,_,_,rfl,.inl ⟨Str.ofString "start", rfl,⟨v3,rfl,h3⟩⟩,_,_,rfl,.inl ⟨Str.ofString "number", rfl,⟨v4,rfl,h4⟩⟩,_,_,rfl,.inl ⟨Str.ofString "doors", rfl,rfl⟩,_,_,rfl,.inl ⟨Str.ofString "way", rfl,rfl⟩,_,_,rfl,.inl ⟨Str.ofString "name", rfl,rfl⟩,_,_,rfl,.inl ⟨Str.ofString "back", rfl,rfl⟩,_,_,rfl,.inl ⟨Str.ofString "books", rfl,rfl⟩,_,_,rfl,.inl ⟨Str.ofString "walk", rfl,rfl⟩,_,_,rfl,.inl ⟨Str.ofString "here", rfl,rfl⟩,_,_,rfl,.inl ⟨Str.ofString "turn", rfl,rfl⟩,_,_,rfl,.inl ⟨Str.ofString "left", rfl,rfl⟩,_,_,rfl,.inr ⟨Str.ofString "first", _,rfl,rfl,rfl⟩,_,_,rfl,.inl ⟨Str.ofString "free", rfl,rfl⟩,_,_,rfl,.inl ⟨Str.ofString "pick", rfl,rfl⟩,_,_,rfl,.inl ⟨Str.ofString "at", rfl,rfl⟩,_,_,rfl,.inl ⟨Str.ofString "come", rfl,rfl⟩,_,_,rfl,.inl ⟨Str.ofString "new", rfl,rfl⟩,_,_,rfl,.inl ⟨Str.ofString "answer", rfl,rfl⟩,_,_,rfl,.inl ⟨Str.ofString "rise", rfl,rfl⟩,_,_,rfl,.inl ⟨Str.ofString "up", rfl,rfl⟩,_,_,rfl,.inl ⟨Str.ofString "entry", rfl,rfl⟩,_,_,rfl,.inl ⟨Str.ofString "old", rfl,rfl⟩,_,_,rfl,.inl ⟨Str.ofString "kept", rfl,rfl⟩,rfl⟩⟩
 ·exact(A5 (B7 (bl rfl rfl rfl rfl rfl) (A6c B X rfl rfl rfl rfl B03 (A2p B X hlo) rfl A5w) rfl)
  (A5 (N9 B (F7 hlo) (A1 (bl rfl rfl rfl rfl rfl)) (bl rfl rfl rfl rfl rfl) (A5 (B7 (bl rfl rfl rfl rfl rfl) (A8 B (A1 (bl rfl rfl rfl rfl rfl)) (A8 B (A8 B (A1 (bl rfl rfl rfl rfl rfl)) (A1 (bl rfl rfl rfl rfl rfl)) (fun _ _=>by first | exact .inl rfl | exact .inr rfl)) A6 (fun _ _=>by first | exact .inl rfl | exact .inr rfl)) (fun _ _=>by first | exact .inl rfl | exact .inr rfl)) rfl)
  (B5 (A2g B X A4d (v9 B X hlo) (H7 B X rfl rfl rfl rfl rfl (A2o B X hlo) (A3 (P5 B X N5 (A1 (bl rfl rfl rfl rfl rfl)) (A3 (M3 B ⟨rfl,rfl⟩ ⟨F.plainAttrs_str,F.slot_str_upper,F.type_str_upper⟩ E0 (A1 (bl rfl rfl rfl rfl rfl)) j7) (A3 E4 B1)) (W5 B X hlo) ⟨_,_,rfl,rfl,rfl⟩ ⟨_,rfl⟩) (A3 (A1 (bl rfl rfl rfl rfl rfl)) B1)) ⟨_,_,rfl,rfl,rfl⟩ rfl) (A1 (bl rfl rfl rfl rfl rfl)) (A1 (bl rfl rfl rfl rfl rfl)) rfl))) (fun _=>rfl))
  (A5 (B7 (bl rfl rfl rfl rfl rfl) (A6c B X rfl rfl rfl rfl B03 (A2p B X hlo) rfl A5w) rfl)
  (A5 (Y4 (P5 B X S9 (A1 (bl rfl rfl rfl rfl rfl)) (A3 (A8 B (A1 (bl rfl rfl rfl rfl rfl)) (A1 (bl rfl rfl rfl rfl rfl)) (fun _ _=>by first | exact .inl rfl | exact .inr rfl)) (A3 E4 B1)) (Z9 B X hlo) ⟨_,_,rfl,rfl,rfl⟩ ⟨_,rfl⟩) rfl rfl)
  (A5 (A1X (ns:=[Str.ofString "books", Str.ofString "walk", Str.ofString "here"]) (.cons (X9 (bl rfl rfl rfl rfl rfl)) (.cons (X9 (bl rfl rfl rfl rfl rfl)) (.cons (X9 (bl rfl rfl rfl rfl rfl)) .nil))) (A3 V9 (A3 (Q4 B1) (A3 (A1 (bl rfl rfl rfl rfl rfl)) B1))) rfl rfl rfl)
  (A5 (N9 B (F7 hlo) (H1 B (bn B X rfl rfl rfl rfl rfl rfl (by decide) rfl (.t _)) A6 M5 rfl) (bl rfl rfl rfl rfl rfl) (A5 (B7 (bl rfl rfl rfl rfl rfl) (P5 B X N5 (A1 (bl rfl rfl rfl rfl rfl)) (A3 (A8 B (A1 (bl rfl rfl rfl rfl rfl)) (A1 (bl rfl rfl rfl rfl rfl)) (fun _ _=>by first | exact .inl rfl | exact .inr rfl)) B1) (W5 B X hlo) ⟨_,_,rfl,rfl,rfl⟩ ⟨_,rfl⟩) rfl)
  (A5 (J2 (D2 B (A1 (bl rfl rfl rfl rfl rfl)) E4 (v7 B) rfl) (A5 (Y4 (V8 B ⟨rfl,rfl⟩ (A1V B X Y8 (A1 (bl rfl rfl rfl rfl rfl)) (n4 B X hlo) ⟨_,rfl⟩) (C6 (A3 E4 (A3 E4 B1))) rfl) rfl rfl)
  (B5 (E7 (C6 (A3 (A1 (bl rfl rfl rfl rfl rfl)) (A3 (A1 (bl rfl rfl rfl rfl rfl)) (A3 (A1V B X Y8 (A1 (bl rfl rfl rfl rfl rfl)) (n4 B X hlo) ⟨_,rfl⟩) (A3 (A1V B X Y8 (A1 (bl rfl rfl rfl rfl rfl)) (n4 B X hlo) ⟨_,rfl⟩) (A3 (A1 (bl rfl rfl rfl rfl rfl)) B1))))))))) H0)
  (A5 (B7 (bc rfl rfl rfl rfl rfl rfl) (P5 B X N5 (A1 (bl rfl rfl rfl rfl rfl)) (A3 (M3 B ⟨rfl,rfl⟩ ⟨F.plainAttrs_str,F.slot_str_upper,F.type_str_upper⟩ E0 (A8 B (A1 (bl rfl rfl rfl rfl rfl)) (A1 (bl rfl rfl rfl rfl rfl)) (fun _ _=>by first | exact .inl rfl | exact .inr rfl)) j7) B1) (W5 B X hlo) ⟨_,_,rfl,rfl,rfl⟩ ⟨_,rfl⟩) rfl)
  (A5 (Q6 B (F7 hlo) (ls:=fun L=>[.fr L (Str.ofString "way")]) ⟨fun _=>rfl,.inl ⟨fun _=>rfl,rfl,rfl⟩⟩ (bl rfl rfl rfl rfl rfl) rfl (A1 (bl rfl rfl rfl rfl rfl)) rfl rfl (by decide) (fun _=>(bl rfl rfl rfl rfl rfl)) (fun _=>(K1 (D2 B (A1 (bl rfl rfl rfl rfl rfl)) (A1 (bc rfl rfl rfl rfl rfl rfl)) (A2O B) rfl))) (fun _=>(A1 (bl rfl rfl rfl rfl rfl))) (fun _=>rfl))
  (A5 (J2 (D2 B (A1 (bl rfl rfl rfl rfl rfl)) (J5 B1) (v7 B) rfl) (B5 (B7 (bl rfl rfl rfl rfl rfl) (H1 B (bn B X rfl rfl rfl rfl rfl rfl (by decide) rfl (.t _)) (A1 (bl rfl rfl rfl rfl rfl)) (v6 hlo) rfl) rfl)) H0)
  (A5 (A1W rfl (.cons (C0 (bl rfl rfl rfl rfl rfl)) (.cons (C0 (bl rfl rfl rfl rfl rfl)) .nil)) (Q5 (D2 B (H7 B X rfl rfl rfl rfl rfl (i6 B X hlo) (A3 (A1 (bl rfl rfl rfl rfl rfl)) B1) ⟨_,_,rfl,rfl,rfl⟩ rfl) A6 B5V rfl) (H7 B X rfl rfl rfl rfl rfl (A2Q B X hlo TK) (A3 (A1 (bl rfl rfl rfl rfl rfl)) (A3 (H7 B X rfl rfl rfl rfl rfl (i6 B X hlo) (A3 (A1 (bl rfl rfl rfl rfl rfl)) B1) ⟨_,_,rfl,rfl,rfl⟩ rfl) B1)) ⟨_,_,rfl,rfl,rfl⟩ rfl) (C6 (A3 (A1 (bl rfl rfl rfl rfl rfl)) (A3 A6 B1)))) rfl rfl rfl rfl)
  (A5 (B7 (bl rfl rfl rfl rfl rfl) (A8 B (A1 (bl rfl rfl rfl rfl rfl)) (A1 (bl rfl rfl rfl rfl rfl)) (fun _ _=>by first | exact .inl rfl | exact .inr rfl)) rfl)
  (A5 (Y4 (V8 B ⟨rfl,rfl⟩ (A1 (bl rfl rfl rfl rfl rfl)) (A1 (bl rfl rfl rfl rfl rfl)) rfl) rfl rfl)
  (A5 (B7 (bl rfl rfl rfl rfl rfl) (A6d B ⟨rfl,rfl⟩ ⟨F.plainAttrs_str,F.slot_str_index,F.type_str_index⟩ E0 (A1 (bl rfl rfl rfl rfl rfl)) (A1 (bl rfl rfl rfl rfl rfl)) B1z rfl) rfl)
  (A5 (A2g B X A4d (v9 B X hlo) (H7 B X rfl rfl rfl rfl rfl (A2o B X hlo) (A3 (Q3 B (A1 (bl rfl rfl rfl rfl rfl)) H9 (K8 (A1 (bl rfl rfl rfl rfl rfl))) H9 (fun _ _=>by first | exact .inl rfl | exact .inr rfl)) (A3 (Q3 B (A1 (bl rfl rfl rfl rfl rfl)) (K8 (B2 B (A1 (bl rfl rfl rfl rfl rfl)) A6 J3)) H9 H9 (fun _ _=>by first | exact .inl rfl | exact .inr rfl)) B1)) ⟨_,_,rfl,rfl,rfl⟩ rfl) (A1 (bl rfl rfl rfl rfl rfl)) (M3 B ⟨rfl,rfl⟩ ⟨F.plainAttrs_str,F.slot_str_upper,F.type_str_upper⟩ E0 (A8 B (A1 (bl rfl rfl rfl rfl rfl)) (A1 (bl rfl rfl rfl rfl rfl)) (fun _ _=>by first | exact .inl rfl | exact .inr rfl)) j7) rfl)
  (A5 (B7 (bl rfl rfl rfl rfl rfl) (A8 B (A1 (bl rfl rfl rfl rfl rfl)) (A8 B (A8 B (A1 (bl rfl rfl rfl rfl rfl)) (A1 (bl rfl rfl rfl rfl rfl)) (fun _ _=>by first | exact .inl rfl | exact .inr rfl)) A6 (fun _ _=>by first | exact .inl rfl | exact .inr rfl)) (fun _ _=>by first | exact .inl rfl | exact .inr rfl)) rfl)
  (A5 (B7 (bl rfl rfl rfl rfl rfl) (Q5 (D2 B (P5 B X N5 (A1 (bl rfl rfl rfl rfl rfl)) (A3 (M3 B ⟨rfl,rfl⟩ ⟨F.plainAttrs_str,F.slot_str_upper,F.type_str_upper⟩ E0 (A1 (bl rfl rfl rfl rfl rfl)) j7) B1) (W5 B X hlo) ⟨_,_,rfl,rfl,rfl⟩ ⟨_,rfl⟩) j5 B1y rfl) A6 A6) rfl)
  (A5 (B7 (bl rfl rfl rfl rfl rfl) (P5 B X S9 (A1 (bl rfl rfl rfl rfl rfl)) (A3 (A1 (bl rfl rfl rfl rfl rfl)) (A3 (M3 B ⟨rfl,rfl⟩ ⟨F.plainAttrs_str,F.slot_str_swapcase,F.type_str_swapcase⟩ E0 (A1 (bl rfl rfl rfl rfl rfl)) A9U) B1)) (Z9 B X hlo) ⟨_,_,rfl,rfl,rfl⟩ ⟨_,rfl⟩) rfl)
  (A5 (B7 (bl rfl rfl rfl rfl rfl) (A8 B (A8 B (A1 (bl rfl rfl rfl rfl rfl)) (M3 B ⟨rfl,rfl⟩ ⟨F.plainAttrs_str,F.slot_str_lower,F.type_str_lower⟩ E0 (A1 (bl rfl rfl rfl rfl rfl)) Y6) (fun _ _=>by first | exact .inl rfl | exact .inr rfl)) A6 (fun _ _=>by first | exact .inl rfl | exact .inr rfl)) rfl)
  (A5 (B7 (bl rfl rfl rfl rfl rfl) (Q5 (Q1 B (M3 B ⟨rfl,rfl⟩ ⟨F.plainAttrs_str,F.slot_str_islower,F.type_str_islower⟩ E0 (A1 (bl rfl rfl rfl rfl rfl)) A7y) rfl) (A1 (bl rfl rfl rfl rfl rfl)) (H7 B X rfl rfl rfl rfl rfl (B10 B X hlo) (A3 A6 (A3 (A1 (bl rfl rfl rfl rfl rfl)) B1)) ⟨_,_,rfl,rfl,rfl⟩ rfl)) rfl)
  (A5 (B7 (bl rfl rfl rfl rfl rfl) (C6 (A3 (A1 (bl rfl rfl rfl rfl rfl)) (A3 A6 (A3 (A1 (bl rfl rfl rfl rfl rfl)) (A3 (A1 (bl rfl rfl rfl rfl rfl)) (A3 (B32 (A8 B (A1 (bl rfl rfl rfl rfl rfl)) (A1 (bl rfl rfl rfl rfl rfl)) (fun _ _=>by first | exact .inl rfl | exact .inr rfl)) (C6 (A3 A6 (A3 (A1 (bl rfl rfl rfl rfl rfl)) (A3 (A1 (bl rfl rfl rfl rfl rfl)) B1))))) B1)))))) rfl)
  (A5 (B7 (bl rfl rfl rfl rfl rfl) (A9F B ⟨rfl,rfl⟩ (A1 (bl rfl rfl rfl rfl rfl)) (A1 (bl rfl rfl rfl rfl rfl)) (C6 (A3 A6 (A3 A6 (A3 A6 (A3 A6 (A3 V9 B1)))))) rfl) rfl)
  (A5 (B7 (bl rfl rfl rfl rfl rfl) (H1 B (bn B X rfl rfl rfl rfl rfl rfl (by decide) rfl (.t _)) (u3 B ⟨rfl,rfl⟩ (A8 B (A1 (bl rfl rfl rfl rfl rfl)) A6 (fun _ _=>by first | exact .inl rfl | exact .inr rfl))) (v6 hlo) rfl) rfl)
  (A5 (J2 (A83 (D2 B (H7 B X rfl rfl rfl rfl rfl (A5m B X hlo) (A3 (A1 (bl rfl rfl rfl rfl rfl)) (A3 (A1 (bl rfl rfl rfl rfl rfl)) (A3 (H7 B X rfl rfl rfl rfl rfl (v8 B X hlo TK) (A3 (A1 (bl rfl rfl rfl rfl rfl)) (A3 (A1 (bl rfl rfl rfl rfl rfl)) B1)) ⟨_,_,rfl,rfl,rfl⟩ rfl) B1))) ⟨_,_,rfl,rfl,rfl⟩ rfl) j5 A3S rfl) (D2 B (H1 B (bn B X rfl rfl rfl rfl rfl rfl (by decide) rfl (.t _)) (u3 B ⟨rfl,rfl⟩ (A8 B (A1 (bl rfl rfl rfl rfl rfl)) A6 (fun _ _=>by first | exact .inl rfl | exact .inr rfl))) (v6 hlo) rfl) (A1 (bl rfl rfl rfl rfl rfl)) (A2O B) rfl) (D2 B (A1 (bl rfl rfl rfl rfl rfl)) (P5 B X N5 (A1 (bl rfl rfl rfl rfl rfl)) (A3 (M3 B ⟨rfl,rfl⟩ ⟨F.plainAttrs_str,F.slot_str_upper,F.type_str_upper⟩ E0 (A1 (bl rfl rfl rfl rfl rfl)) j7) B1) (W5 B X hlo) ⟨_,_,rfl,rfl,rfl⟩ ⟨_,rfl⟩) (A2O B) rfl)) (B5 (E7 (C6 (A3 (A1 (bl rfl rfl rfl rfl rfl)) (A3 (K2 B A6 A0n) (A3 (J5 B1) (A3 (J5 B1) (A3 (A1 (bl rfl rfl rfl rfl rfl)) B1)))))))) H0)
  (B5 (B7 (bl rfl rfl rfl rfl rfl) (A8 B (A8 B (A1 (bl rfl rfl rfl rfl rfl)) (A1 (bl rfl rfl rfl rfl rfl)) (fun _ _=>by first | exact .inl rfl | exact .inr rfl)) A6 (fun _ _=>by first | exact .inl rfl | exact .inr rfl)) rfl))))))))))))))))))))) (fun _=>rfl))
  (B5 (E7 (C6 (A3 (A1 (bl rfl rfl rfl rfl rfl)) (A3 (K2 B A6 A0n) (A3 (J5 B1) (A3 (J5 B1) (A3 (A1 (bl rfl rfl rfl rfl rfl)) B1))))))))))))))
end
section
set_option maxHeartbeats 1000000
noncomputable def d_law_back:DS:=(A9 (B9 4 (A58 (A2 (dT (.str (Str.ofString ""))) (A2 (dT (.str (Str.ofString ""))) (A2 (dT (.str (Str.ofString ""))) (A2 (dT (.str (Str.ofString ""))) dNil)))))) (A9 (U6 itN (A26 11 (E5 (A2 (d2 fMul (A7 (A7 (A0 2) (dT (.int 0))) (dT (.int 1))) (A7 (A7 (A0 1) (A0 11)) (dT (.int 2)))) (A2 (d2 fMul (A7 (A7 (A0 2) (dT (.int 1))) (dT (.int 1))) (d1 fOrd (A0 11))) dNil))) (A0 1)) (tN 5) (A0Z fAdd (A0 4) (A7 (A7 (A0 1) (A0 5)) (dT (.int 0))) (A0 5))) (A9 (B9 6 (B57 (A0 3) (dT (.str (Str.ofString ""))))) (A9 (B0u [7,8,9] (A2 (dT (.int 0)) (A2 (dT (.int 1)) (A2 (A0 3) dNil)))) (A9 (U6 itN (A0 0) (tN 5) (A9 (B9 10 (E3 1 itN (A7 (A0 4) (A0 9)) (C1 (d2 fNe (A0 11) (A7 (A0 6) (A0 9)))) (A0 11))) (A9 (H5 (C1 (d2 fEq (A0 10) (L2 dNil))) (B9 10 (d1 fListS (A7 (A0 4) (A0 9)))) dSkip) (A9 (H5 (C1 (d2 fNotIn (A0 5) (A0 10))) (G5 (dT .none)) dSkip) (A9 (y9 7 fAdd (d2 fMul (A0 8) (dM1 isLstT fFind (A0 10) (A0 5)))) (A9 (y9 8 fMul (d1 fLen (A0 10))) (A9 (O9 (A43 (A7 (A0 4) (A0 9)) (A0 5)) (A0 4) (A0 9)) (A9 (B9 9 (A7 (A7 (A0 1) (A0 5)) (dT (.int 1)))) (Z5 (A1I (A0 6) (A0 9) (P1 isStrT fSwap (A0 5)))))))))))) (G5 (E5 (A2 (A0 7) (A2 (A0 8) (A2 (A0 9) (A2 (A0 6) dNil)))))))))))
noncomputable def sp_law_back:Mine.Spec:=C7 (mkP 4 7) d_law_back
theorem A4S(B:Base C)(X:(hd.heap_1 P).In C.hb)(hlo:0<C.lo)(TK:TabsK C):H6 C (k+6) (.ref 310) sp_law_back:=by
 refine y4 B X (lyf:=fun L=>([.inl (Str.ofString "walk"),.inr 1,.inr 2,.inl (Str.ofString "start"),.inl (Str.ofString "left"),.inl (Str.ofString "way"),.inr 3,.inl (Str.ofString "number"),.inl (Str.ofString "weight"),.inr 4,.inl (Str.ofString "free")]:List (Str ⊕ Nat)).map (m3 L)) (by rfl) rfl rfl (fun L=>L8 (by decide)) rfl ?_ (fun L => ?_) rfl rfl rfl
 ·intro us kw loc e g vs kws s XX hv hkw
  obtain⟨a0,a1,a2,a3,rfl,rfl,rfl⟩:=B6W e
  obtain⟨v0,_,rfl,h0,v1,_,rfl,h1,v2,_,rfl,h2,v3,_,rfl,h3,hn⟩:=hv
  cases (show _=_ from hn)
  cases (show _=_ from hkw)
  exact⟨rfl,_,rfl,fun L=>rfl,fun L=>⟨_,_,rfl,.inl ⟨Str.ofString "walk", rfl,⟨v0,rfl,h0⟩⟩,_,_,rfl,.inr ⟨Str.ofString "ends", _,rfl,rfl,⟨v1,rfl,h1⟩⟩,_,_,rfl,.inr ⟨Str.ofString "keys", _,rfl,rfl,⟨v2,rfl,h2⟩⟩,_,_,rfl,.inl ⟨Str.ofString "start", rfl,⟨v3,rfl,h3⟩⟩,_,_,rfl,.inl ⟨Str.ofString "left", rfl,rfl⟩,_,_,rfl,.inl ⟨Str.ofString "way", rfl,rfl⟩,_,_,rfl,.inr ⟨Str.ofString "back", _,rfl,rfl,rfl⟩,_,_,rfl,.inl ⟨Str.ofString "number", rfl,rfl⟩,_,_,rfl,.inl ⟨Str.ofString "weight", rfl,rfl⟩,_,_,rfl,.inr ⟨Str.ofString "here", _,rfl,rfl,rfl⟩,_,_,rfl,.inl ⟨Str.ofString "free", rfl,rfl⟩,rfl⟩⟩
 ·exact(A5 (B7 (bl rfl rfl rfl rfl rfl) (Q4 (A3 E4 (A3 E4 (A3 E4 (A3 E4 B1))))) rfl)
  (A5 (N9 B (F7 hlo) (A6b B TK.u (bn B X rfl rfl rfl rfl rfl rfl (by decide) rfl (.b _)) (A1 (bc rfl rfl rfl rfl rfl rfl)) rfl TK.t3 TK.c3 rfl rfl rfl rfl (fun g f fd c M h1 h2 h3 h4 h5 h6 h7 h8 h9=>by obtain⟨_,_,_,_,_,_,_,_,_,_,_,_,_,_,_⟩:=fd;simp only at h1 h2 h3 h4 h5 h6 h7 h8 h9;subst h1 h2 h3 h4 h5 h6 h7 h8 h9;exact B4O B M rfl (fun _=>rfl) rfl rfl rfl rfl rfl (fun _=>(C6 (A3 (B2 B (A8 B (A8 B (A1 (bf rfl rfl rfl rfl rfl rfl)) A6 (fun _ _=>by first | exact .inl rfl | exact .inr rfl)) A6 (fun _ _=>by first | exact .inl rfl | exact .inr rfl)) (A8 B (A8 B (A1 (bf rfl rfl rfl rfl rfl rfl)) (A1 (bl rfl rfl rfl rfl rfl)) (fun _ _=>by first | exact .inl rfl | exact .inr rfl)) A6 (fun _ _=>by first | exact .inl rfl | exact .inr rfl)) A4O) (A3 (B2 B (A8 B (A8 B (A1 (bf rfl rfl rfl rfl rfl rfl)) A6 (fun _ _=>by first | exact .inl rfl | exact .inr rfl)) A6 (fun _ _=>by first | exact .inl rfl | exact .inr rfl)) (H1 B (bn B X rfl rfl rfl rfl rfl rfl (by decide) rfl (.b _)) (A1 (bl rfl rfl rfl rfl rfl)) B5S rfl) A4O) B1))))) rfl) (bl rfl rfl rfl rfl rfl) (B5 (A4I B (A1 (bl rfl rfl rfl rfl rfl)) (A8 B (A8 B (A1 (bc rfl rfl rfl rfl rfl rfl)) (A1 (bl rfl rfl rfl rfl rfl)) (fun _ _=>by first | exact .inl rfl | exact .inr rfl)) A6 (fun _ _=>by first | exact .inl rfl | exact .inr rfl)) (A1 (bl rfl rfl rfl rfl rfl)) A3T (fun _ _ _=>rfl))) (fun _=>rfl))
  (A5 (B7 (bc rfl rfl rfl rfl rfl rfl) (B33 (A1 (bl rfl rfl rfl rfl rfl)) E4) rfl)
  (A5 (B1j rfl (.cons (C0 (bl rfl rfl rfl rfl rfl)) (.cons (C0 (bl rfl rfl rfl rfl rfl)) (.cons (C0 (bc rfl rfl rfl rfl rfl rfl)) .nil))) (A3 A6 (A3 A6 (A3 (A1 (bl rfl rfl rfl rfl rfl)) B1))) rfl rfl rfl rfl)
  (A5 (N9 B (F7 hlo) (A1 (bl rfl rfl rfl rfl rfl)) (bl rfl rfl rfl rfl rfl) (A5 (Q6 B (F7 hlo) (ls:=fun L=>[.fr L (Str.ofString "one")]) ⟨fun _=>rfl,.inl ⟨fun _=>rfl,rfl,rfl⟩⟩ (bl rfl rfl rfl rfl rfl) rfl (A8 B (A1 (bl rfl rfl rfl rfl rfl)) (A1 (bc rfl rfl rfl rfl rfl rfl)) (fun _ _=>by first | exact .inl rfl | exact .inr rfl)) rfl rfl (by decide) (fun _=>(bl rfl rfl rfl rfl rfl)) (fun _=>(K1 (D2 B (A1 (bl rfl rfl rfl rfl rfl)) (A8 B (A1 (bc rfl rfl rfl rfl rfl rfl)) (A1 (bc rfl rfl rfl rfl rfl rfl)) (fun _ _=>by first | exact .inl rfl | exact .inr rfl)) (A2O B) rfl))) (fun _=>(A1 (bl rfl rfl rfl rfl rfl))) (fun _=>rfl))
  (A5 (J2 (D2 B (A1 (bl rfl rfl rfl rfl rfl)) (J5 B1) (v7 B) rfl) (B5 (B7 (bl rfl rfl rfl rfl rfl) (H1 B (bn B X rfl rfl rfl rfl rfl rfl (by decide) rfl (.t _)) (A8 B (A1 (bl rfl rfl rfl rfl rfl)) (A1 (bc rfl rfl rfl rfl rfl rfl)) (fun _ _=>by first | exact .inl rfl | exact .inr rfl)) (v6 hlo) rfl) rfl)) H0)
  (A5 (J2 (D2 B (A1 (bl rfl rfl rfl rfl rfl)) (A1 (bl rfl rfl rfl rfl rfl)) A6n rfl) (B5 (E7 j5)) H0)
  (A5 (A1Y B (bl rfl rfl rfl rfl rfl) (B2 B (A1 (bl rfl rfl rfl rfl rfl)) (A6d B ⟨rfl,rfl⟩ ⟨F.plainAttrs_list,F.slot_list_index,F.type_list_index⟩ A7c (A1 (bl rfl rfl rfl rfl rfl)) (A1 (bl rfl rfl rfl rfl rfl)) B39 rfl) A4O) A3T)
  (A5 (A1Y B (bl rfl rfl rfl rfl rfl) (H1 B (bn B X rfl rfl rfl rfl rfl rfl (by decide) rfl (.b _)) (A1 (bl rfl rfl rfl rfl rfl)) A0o rfl) A9b)
  (A5 (U2 B (A5a B ⟨rfl,rfl⟩ (A8 B (A1 (bl rfl rfl rfl rfl rfl)) (A1 (bc rfl rfl rfl rfl rfl rfl)) (fun _ _=>by first | exact .inl rfl | exact .inr rfl)) (A1 (bl rfl rfl rfl rfl rfl)) rfl) (A1 (bl rfl rfl rfl rfl rfl)) (A1 (bc rfl rfl rfl rfl rfl rfl)) rfl)
  (A5 (B7 (bc rfl rfl rfl rfl rfl rfl) (A8 B (A8 B (A1 (bc rfl rfl rfl rfl rfl rfl)) (A1 (bl rfl rfl rfl rfl rfl)) (fun _ _=>by first | exact .inl rfl | exact .inr rfl)) A6 (fun _ _=>by first | exact .inl rfl | exact .inr rfl)) rfl)
  (B5 (Y4 (A7m B ⟨rfl,rfl⟩ (A1 (bc rfl rfl rfl rfl rfl rfl)) (A1 (bc rfl rfl rfl rfl rfl rfl)) (M3 B ⟨rfl,rfl⟩ ⟨F.plainAttrs_str,F.slot_str_swapcase,F.type_str_swapcase⟩ E0 (A1 (bl rfl rfl rfl rfl rfl)) A9U) rfl) rfl rfl))))))))) (fun _=>rfl))
  (B5 (E7 (C6 (A3 (A1 (bl rfl rfl rfl rfl rfl)) (A3 (A1 (bl rfl rfl rfl rfl rfl)) (A3 (A1 (bc rfl rfl rfl rfl rfl rfl)) (A3 (A1 (bc rfl rfl rfl rfl rfl rfl)) B1))))))))))))
end
section
set_option maxHeartbeats 1000000
noncomputable def A4y:DS:=(A9 (B9 3 dNewDs) (A9 (U6 itN (d1 fRange1 (dT (.int 4))) (tN 4) (A9 (B9 5 (E3 1 itN (A0 0) (C1 (d2 fEq (A7 (A7 (A0 0) (A0 11)) (dT (.int 1))) (A0 4))) (A0 11))) (A9 (B9 6 dNewDs) (A9 (U6 itN (A0 5) (tN 7) (A9 (B9 8 (A7 (A0 1) (A7 (A7 (A0 0) (A0 7)) (dT (.int 0))))) (A9 (B9 9 (A59 (A0 6) (A0 8) (E5 (A2 (dT (.int 0)) (A2 (dT (.int 0)) (A2 (dT (.int 0)) dNil)))))) (O9 (E5 (A2 (d2 fAdd (A7 (A0 9) (dT (.int 0))) (dT (.int 1))) (A2 (d2 fAdd (A7 (A0 9) (dT (.int 1))) (A7 (A7 (A0 0) (A0 7)) (dT (.int 2)))) (A2 (d2 fAdd (A7 (A0 9) (dT (.int 2))) (A7 (A7 (A0 0) (P1 isStrT fLower (A0 7))) (dT (.int 2)))) dNil)))) (A0 6) (A0 8))))) (A9 (B9 10 (L2 (A2 (d1 fSum (E3 1 itN (A0 5) (G0 true) (A7 (A7 (A0 0) (A0 11)) (dT (.int 2))))) (A2 (d1 fSum (E3 1 itN (A0 5) (G0 true) (A7 (A7 (A0 0) (P1 isStrT fLower (A0 11))) (dT (.int 2))))) dNil)))) (O9 (E5 (A2 (dIf (C1 (d2 fEq (A0 4) (A0 2))) (dT (.int 0)) (dT (.int 1))) (A2 (d1 fLen (A0 5)) (A2 (A7 (A0 10) (dT (.int 0))) (A2 (A7 (A0 10) (dT (.int 1))) (A2 (A0 6) dNil)))))) (A0 3) (A7 (A0 1) (A0 4)))))))) (G5 (A0 3))))
noncomputable def sp_law_books:Mine.Spec:=C7 (mkP 3 8) A4y
theorem A3U(B:Base C)(X:(hd.heap_1 P).In C.hb)(hlo:0<C.lo)(TK:TabsK C):H6 C (k+2) (.ref 315) sp_law_books:=by
 refine y4 B X (lyf:=fun L=>([.inr 1,.inl (Str.ofString "due"),.inl (Str.ofString "start"),.inl (Str.ofString "books"),.inr 2,.inl (Str.ofString "into"),.inl (Str.ofString "callers"),.inl (Str.ofString "way"),.inl (Str.ofString "near"),.inl (Str.ofString "old"),.inl (Str.ofString "rises")]:List (Str ⊕ Nat)).map (m3 L)) (by rfl) rfl rfl (fun L=>L8 (by decide)) rfl ?_ (fun L => ?_) rfl rfl rfl
 ·intro us kw loc e g vs kws s XX hv hkw
  obtain⟨a0,a1,a2,rfl,rfl,rfl⟩:=A74 e
  obtain⟨v0,_,rfl,h0,v1,_,rfl,h1,v2,_,rfl,h2,hn⟩:=hv
  cases (show _=_ from hn)
  cases (show _=_ from hkw)
  exact⟨rfl,_,rfl,fun L=>rfl,fun L=>⟨_,_,rfl,.inr ⟨Str.ofString "ends", _,rfl,rfl,⟨v0,rfl,h0⟩⟩,_,_,rfl,.inl ⟨Str.ofString "due", rfl,⟨v1,rfl,h1⟩⟩,_,_,rfl,.inl ⟨Str.ofString "start", rfl,⟨v2,rfl,h2⟩⟩,_,_,rfl,.inl ⟨Str.ofString "books", rfl,rfl⟩,_,_,rfl,.inr ⟨Str.ofString "place", _,rfl,rfl,rfl⟩,_,_,rfl,.inl ⟨Str.ofString "into", rfl,rfl⟩,_,_,rfl,.inl ⟨Str.ofString "callers", rfl,rfl⟩,_,_,rfl,.inl ⟨Str.ofString "way", rfl,rfl⟩,_,_,rfl,.inl ⟨Str.ofString "near", rfl,rfl⟩,_,_,rfl,.inl ⟨Str.ofString "old", rfl,rfl⟩,_,_,rfl,.inl ⟨Str.ofString "rises", rfl,rfl⟩,rfl⟩⟩
 ·exact(A5 (B7 (bl rfl rfl rfl rfl rfl) V9 rfl)
  (A5 (N9 B (F7 hlo) (H1 B (bn B X rfl rfl rfl rfl rfl rfl (by decide) rfl (.t _)) A6 M5 rfl) (bc rfl rfl rfl rfl rfl rfl) (A5 (Q6 B (F7 hlo) (ls:=fun L=>[.fr L (Str.ofString "way")]) ⟨fun _=>rfl,.inl ⟨fun _=>rfl,rfl,rfl⟩⟩ (bl rfl rfl rfl rfl rfl) rfl (A1 (bc rfl rfl rfl rfl rfl rfl)) rfl rfl (by decide) (fun _=>(bl rfl rfl rfl rfl rfl)) (fun _=>(K1 (D2 B (A8 B (A8 B (A1 (bc rfl rfl rfl rfl rfl rfl)) (A1 (bl rfl rfl rfl rfl rfl)) (fun _ _=>by first | exact .inl rfl | exact .inr rfl)) A6 (fun _ _=>by first | exact .inl rfl | exact .inr rfl)) (A1 (bc rfl rfl rfl rfl rfl rfl)) (v7 B) rfl))) (fun _=>(A1 (bl rfl rfl rfl rfl rfl))) (fun _=>rfl))
  (A5 (B7 (bl rfl rfl rfl rfl rfl) V9 rfl)
  (A5 (N9 B (F7 hlo) (A1 (bl rfl rfl rfl rfl rfl)) (bl rfl rfl rfl rfl rfl) (A5 (B7 (bl rfl rfl rfl rfl rfl) (A8 B (A1 (bl rfl rfl rfl rfl rfl)) (A8 B (A8 B (A1 (bc rfl rfl rfl rfl rfl rfl)) (A1 (bl rfl rfl rfl rfl rfl)) (fun _ _=>by first | exact .inl rfl | exact .inr rfl)) A6 (fun _ _=>by first | exact .inl rfl | exact .inr rfl)) (fun _ _=>by first | exact .inl rfl | exact .inr rfl)) rfl)
  (A5 (B7 (bl rfl rfl rfl rfl rfl) (A9F B ⟨rfl,rfl⟩ (A1 (bl rfl rfl rfl rfl rfl)) (A1 (bl rfl rfl rfl rfl rfl)) (C6 (A3 A6 (A3 A6 (A3 A6 B1)))) rfl) rfl)
  (B5 (U2 B (C6 (A3 (B2 B (A8 B (A1 (bl rfl rfl rfl rfl rfl)) A6 (fun _ _=>by first | exact .inl rfl | exact .inr rfl)) A6 J3) (A3 (B2 B (A8 B (A1 (bl rfl rfl rfl rfl rfl)) A6 (fun _ _=>by first | exact .inl rfl | exact .inr rfl)) (A8 B (A8 B (A1 (bc rfl rfl rfl rfl rfl rfl)) (A1 (bl rfl rfl rfl rfl rfl)) (fun _ _=>by first | exact .inl rfl | exact .inr rfl)) A6 (fun _ _=>by first | exact .inl rfl | exact .inr rfl)) J3) (A3 (B2 B (A8 B (A1 (bl rfl rfl rfl rfl rfl)) A6 (fun _ _=>by first | exact .inl rfl | exact .inr rfl)) (A8 B (A8 B (A1 (bc rfl rfl rfl rfl rfl rfl)) (M3 B ⟨rfl,rfl⟩ ⟨F.plainAttrs_str,F.slot_str_lower,F.type_str_lower⟩ E0 (A1 (bl rfl rfl rfl rfl rfl)) Y6) (fun _ _=>by first | exact .inl rfl | exact .inr rfl)) A6 (fun _ _=>by first | exact .inl rfl | exact .inr rfl)) J3) B1)))) (A1 (bl rfl rfl rfl rfl rfl)) (A1 (bl rfl rfl rfl rfl rfl)) rfl)))) (fun _=>rfl))
  (A5 (B7 (bl rfl rfl rfl rfl rfl) (J5 (A3 (H1 B (bn B X rfl rfl rfl rfl rfl rfl (by decide) rfl (.b _)) (L6 B (F7 hlo) (ls:=fun L=>[.fr L (Str.ofString "way")]) ⟨fun _=>rfl,.inl ⟨fun _=>rfl,rfl,rfl⟩⟩ (A1 (bl rfl rfl rfl rfl rfl)) rfl rfl (by decide) (fun _=>(bl rfl rfl rfl rfl rfl)) (fun _=>I4) (fun _=>(A8 B (A8 B (A1 (bc rfl rfl rfl rfl rfl rfl)) (A1 (bl rfl rfl rfl rfl rfl)) (fun _ _=>by first | exact .inl rfl | exact .inr rfl)) A6 (fun _ _=>by first | exact .inl rfl | exact .inr rfl))) (fun _=>rfl)) A9V rfl) (A3 (H1 B (bn B X rfl rfl rfl rfl rfl rfl (by decide) rfl (.b _)) (L6 B (F7 hlo) (ls:=fun L=>[.fr L (Str.ofString "way")]) ⟨fun _=>rfl,.inl ⟨fun _=>rfl,rfl,rfl⟩⟩ (A1 (bl rfl rfl rfl rfl rfl)) rfl rfl (by decide) (fun _=>(bl rfl rfl rfl rfl rfl)) (fun _=>I4) (fun _=>(A8 B (A8 B (A1 (bc rfl rfl rfl rfl rfl rfl)) (M3 B ⟨rfl,rfl⟩ ⟨F.plainAttrs_str,F.slot_str_lower,F.type_str_lower⟩ E0 (A1 (bl rfl rfl rfl rfl rfl)) Y6) (fun _ _=>by first | exact .inl rfl | exact .inr rfl)) A6 (fun _ _=>by first | exact .inl rfl | exact .inr rfl))) (fun _=>rfl)) A9V rfl) B1))) rfl)
  (B5 (U2 B (C6 (A3 (Q5 (D2 B (A1 (bc rfl rfl rfl rfl rfl rfl)) (A1 (bl rfl rfl rfl rfl rfl)) (v7 B) rfl) A6 A6) (A3 (H1 B (bn B X rfl rfl rfl rfl rfl rfl (by decide) rfl (.b _)) (A1 (bl rfl rfl rfl rfl rfl)) A0o rfl) (A3 (A8 B (A1 (bl rfl rfl rfl rfl rfl)) A6 (fun _ _=>by first | exact .inl rfl | exact .inr rfl)) (A3 (A8 B (A1 (bl rfl rfl rfl rfl rfl)) A6 (fun _ _=>by first | exact .inl rfl | exact .inr rfl)) (A3 (A1 (bl rfl rfl rfl rfl rfl)) B1)))))) (A1 (bl rfl rfl rfl rfl rfl)) (A8 B (A1 (bl rfl rfl rfl rfl rfl)) (A1 (bc rfl rfl rfl rfl rfl rfl)) (fun _ _=>by first | exact .inl rfl | exact .inr rfl)) rfl)))))) (fun _=>rfl))
  (B5 (E7 (A1 (bl rfl rfl rfl rfl rfl))))))
end
section
set_option maxHeartbeats 6000000
noncomputable def B0q:DS:=(A9 (B9 1 (E3 1 itS (d1 fRange1 (dT (.int 8))) (G0 true) (d2 fAdd (A7 (L2 (A2 (dT (.int 21)) (A2 (dT (.int 33)) (A2 (dT (.int 50)) (A2 (dT (.int 76)) (A2 (d1 fNeg (dT (.int 27))) (A2 (dT (.int 7)) (A2 (dT (.int 1)) (A2 (dT (.int 17)) dNil))))))))) (A0 21)) (d1 fSum (dSl (A0 0) (A0 21) (dT .none) (dT (.int 8))))))) (A9 (B9 2 (F0 sp_law_ends (A2 (A0 1) dNil))) (A9 (B9 3 (A7 (L2 (A2 (dT (.str (Str.ofString "f"))) (A2 (dT (.str (Str.ofString "<f"))) (A2 (dT (.str (Str.ofString "f>"))) dNil)))) (d2 fMod (d2 fDiv (A7 (A0 1) (dT (.int 5))) (dT (.int 9))) (dT (.int 3))))) (A9 (B9 4 (d2 fMod (A7 (A0 1) (dT (.int 5))) (dT (.int 9)))) (A9 (B9 5 (E3 1 itN (L2 (A2 (E5 (A2 (dT (.str (Str.ofString "~"))) (A2 (dT (.int 0)) (A2 (dT (.str (Str.ofString "<<f>>"))) dNil)))) (A2 (E5 (A2 (dT (.str (Str.ofString "~"))) (A2 (dT (.int 0)) (A2 (A0 3) dNil)))) (A2 (E5 (A2 (dT (.str (Str.ofString "f"))) (A2 (A0 4) (A2 (dT (.str (Str.ofString "f"))) dNil)))) (A2 (E5 (A2 (dT (.str (Str.ofString "~"))) (A2 (d2 fAdd (A0 4) (dT (.int 1))) (A2 (dT (.str (Str.ofString "<f>"))) dNil)))) dNil))))) (G0 true) (F0 sp_func_std_string (A2 (A0 21) dNil)))) (A9 (B9 6 (L2 (A2 (dT (.str (Str.ofString "{<f>}"))) (A2 (A0 3) (A2 (d2 fAdd (d2 fAdd (dT (.str (Str.ofString "f:"))) (d1 fStr (A0 4))) (dT (.str (Str.ofString "(f)")))) (A2 (d2 fAdd (d2 fAdd (dT (.str (Str.ofString "~:"))) (d1 fStr (d2 fAdd (A0 4) (dT (.int 1))))) (dT (.str (Str.ofString "(<f>)")))) dNil)))))) (A9 (B9 7 (d2 fMod (A7 (A0 1) (dT (.int 6))) (dT (.int 4)))) (A9 (B9 8 (L2 (A2 (E5 (A2 (dT (.int 0)) (A2 (A7 (L2 (A2 (dT (.int 1)) (A2 (d1 fNeg (dT (.int 2))) dNil))) (d2 fMod (d2 fDiv (A7 (A0 1) (dT (.int 6))) (dT (.int 4))) (dT (.int 2)))) dNil))) (A2 (E5 (A2 (dT (.int 1)) (A2 (A7 (L2 (A2 (dT (.int 1)) (A2 (d1 fNeg (dT (.int 3))) dNil))) (d2 fMod (d2 fDiv (A7 (A0 1) (dT (.int 6))) (dT (.int 8))) (dT (.int 2)))) dNil))) dNil)))) (A9 (B9 9 (dT (.int 1))) (A9 (U6 itN (d1 fRange1 (dT (.int 4))) (tN 10) (U6 itN (d2 fRange2 (dT (.int 1)) (d2 fAdd (d1 fLen (E3 1 itN (A0 2) (C1 (d2 fEq (A7 (A7 (A0 2) (A0 21)) (dT (.int 0))) (A0 10))) (A0 21))) (dIf (C1 (d2 fEq (A0 10) (A0 7))) (dT (.int 1)) (dT (.int 0))))) (tN 11) (y9 9 fMul (A0 11)))) (A9 (B9 12 (d2 fMod (A7 (A0 1) (dT (.int 7))) (A0 9))) (A9 (A2A [13,14,15,16,17] (F0 sp_law_walk (A2 (A0 2) (A2 (F0 sp_law_line (A2 (A0 2) (A2 (A0 8) dNil))) (A2 (A0 5) (A2 (A0 7) (A2 (A0 12) dNil))))))) (A9 (B9 18 (F0 sp_law_back (A2 (A0 13) (A2 (A0 2) (A2 (A0 8) (A2 (A0 7) dNil)))))) (A9 (H5 (bOr (C1 (d2 fIs (A0 18) (dT .none))) (bOr (C1 (d2 fNe (dSl (A0 18) (dT .none) (dT (.int 3)) (dT .none)) (E5 (A2 (A0 12) (A2 (A0 9) (A2 (A0 7) dNil)))))) (C1 (d2 fNe (A0 14) (dT (.int 0)))))) (G5 (dT (.bool false))) dSkip) (A9 (B9 19 (A26 21 (d1 fMax (E3 1 itN (d1 fRange1 (dT (.int 10))) (C1 (d2 fEq (A7 (A7 (A0 2) (A7 (A0 13) (A0 22))) (dT (.int 0))) (A0 21))) (A0 22))) (d1 fRange1 (dT (.int 4))))) (A9 (H5 (bOr (C1 (d2 fNe (A0 15) (E3 1 itN (A0 19) (G0 true) (E5 (A2 (P1 isStrT fUpper (A7 (A0 6) (A0 21))) (A2 (dT (.str (Str.ofString ""))) dNil)))))) (C1 (d2 fNe (A0 16) (E3 1 itN (A7 (A0 18) (dT (.int 3))) (G0 true) (E5 (A2 (A7 (A0 6) (A0 21)) (A2 (A7 (A7 (A0 18) (dT (.int 3))) (A0 21)) dNil))))))) (G5 (dT (.bool false))) dSkip) (A9 (H5 (C1 (d2 fNe (A0 17) (F0 sp_law_books (A2 (A0 2) (A2 (A0 6) (A2 (A0 7) dNil)))))) (G5 (dT (.bool false))) dSkip) (A9 (B9 20 (E3 2 itN (d1 fRange1 (dT (.int 4))) (G0 true) (E3 1 itN (A0 13) (C1 (d2 fEq (A7 (A7 (A0 2) (A0 23)) (dT (.int 1))) (A0 22))) (A7 (A0 6) (A7 (A7 (A0 2) (A0 23)) (dT (.int 0))))))) (G5 (d2 fEq (E3 1 itN (A0 6) (G0 true) (d1 fListS (A7 (A7 (A0 17) (A0 21)) (dT (.int 4))))) (E3 2 itN (A0 20) (G0 true) (E3 1 itN (d1 fRange1 (d1 fLen (A0 22))) (C1 (d2 fNotIn (A7 (A0 22) (A0 23)) (dSl (A0 22) (dT .none) (A0 23) (dT .none)))) (A7 (A0 22) (A0 23))))))))))))))))))))))))
noncomputable def sp_law:Mine.Spec:=C7 (mkP 1 20) B0q
theorem B4E(B:Base C)(X:(hd.heap_1 P).In C.hb)(TK:TabsK C):H6 C (k+16) (.ref 320) sp_law:=by
 refine y4 B X (lyf:=fun L=>([.inr 1,.inl (Str.ofString "cells"),.inr 6,.inl (Str.ofString "word"),.inl (Str.ofString "spot"),.inl (Str.ofString "names"),.inr 2,.inl (Str.ofString "start"),.inl (Str.ofString "keys"),.inl (Str.ofString "total"),.inr 3,.inl (Str.ofString "k"),.inl (Str.ofString "number"),.inr 7,.inl (Str.ofString "rest"),.inl (Str.ofString "doors"),.inl (Str.ofString "back"),.inr 4,.inr 5,.inl (Str.ofString "lasts"),.inl (Str.ofString "comes")]:List (Str ⊕ Nat)).map (m3 L)) (by rfl) rfl rfl (fun L=>L8 (by decide)) rfl ?_ (fun L => ?_) rfl rfl rfl
 ·intro us kw loc e g vs kws s XX hv hkw
  obtain⟨a0,rfl,rfl,rfl⟩:=B16 e
  obtain⟨v0,_,rfl,h0,hn⟩:=hv
  cases (show _=_ from hn)
  cases (show _=_ from hkw)
  exact⟨rfl,_,rfl,fun L=>rfl,fun L=>⟨_,_,rfl,.inr ⟨Str.ofString "script", _,rfl,rfl,⟨v0,rfl,h0⟩⟩,_,_,rfl,.inl ⟨Str.ofString "cells", rfl,rfl⟩,_,_,rfl,.inr ⟨Str.ofString "ends", _,rfl,rfl,rfl⟩,_,_,rfl,.inl ⟨Str.ofString "word", rfl,rfl⟩,_,_,rfl,.inl ⟨Str.ofString "spot", rfl,rfl⟩,_,_,rfl,.inl ⟨Str.ofString "names", rfl,rfl⟩,_,_,rfl,.inr ⟨Str.ofString "due", _,rfl,rfl,rfl⟩,_,_,rfl,.inl ⟨Str.ofString "start", rfl,rfl⟩,_,_,rfl,.inl ⟨Str.ofString "keys", rfl,rfl⟩,_,_,rfl,.inl ⟨Str.ofString "total", rfl,rfl⟩,_,_,rfl,.inr ⟨Str.ofString "place", _,rfl,rfl,rfl⟩,_,_,rfl,.inl ⟨Str.ofString "k", rfl,rfl⟩,_,_,rfl,.inl ⟨Str.ofString "number", rfl,rfl⟩,_,_,rfl,.inr ⟨Str.ofString "walk", _,rfl,rfl,rfl⟩,_,_,rfl,.inl ⟨Str.ofString "rest", rfl,rfl⟩,_,_,rfl,.inl ⟨Str.ofString "doors", rfl,rfl⟩,_,_,rfl,.inl ⟨Str.ofString "back", rfl,rfl⟩,_,_,rfl,.inr ⟨Str.ofString "books", _,rfl,rfl,rfl⟩,_,_,rfl,.inr ⟨Str.ofString "told", _,rfl,rfl,rfl⟩,_,_,rfl,.inl ⟨Str.ofString "lasts", rfl,rfl⟩,_,_,rfl,.inl ⟨Str.ofString "comes", rfl,rfl⟩,rfl⟩⟩
 ·exact(B3t (fun A hA g σ s f σ' R e=>wpAny_mono (A0k B B4Q (ls:=fun L=>[.fr L (Str.ofString "k")]) ⟨fun _=>rfl,.inl ⟨fun _=>rfl,rfl,rfl⟩⟩ (bl rfl rfl rfl rfl rfl) rfl (H1 B (bn B X rfl rfl rfl rfl rfl rfl (by decide) rfl (.t _)) A6 M5 rfl) rfl rfl (by decide) (fun _=>(bl rfl rfl rfl rfl rfl)) (fun _=>I4) (fun _=>(B2 B (A8 B (J5 (A3 A6 (A3 A6 (A3 A6 (A3 A6 (A3 (K2 B A6 A0n) (A3 A6 (A3 A6 (A3 A6 B1))))))))) (A1 (bl rfl rfl rfl rfl rfl)) (fun _ _=>by first | exact .inl rfl | exact .inr rfl)) (H1 B (bn B X rfl rfl rfl rfl rfl rfl (by decide) rfl (.b _)) (Q3 B (A1 (bc rfl rfl rfl rfl rfl rfl)) (K8 (A1 (bl rfl rfl rfl rfl rfl))) H9 (K8 A6) (fun _ _=>by first | exact .inl rfl | exact .inr rfl)) A9V rfl) J3)) (fun _=>rfl) hA R e) (fun _ _ x=>⟨x.1,x.2 rfl⟩) fun _ _ x=>x)
  ((fun (B:Base (C.low 1)) (TK:TabsK (C.low 1)) (hlo:0<(C.low 1).lo) (X:(hd.heap_1 P).In (C.low 1).hb)=>
  (A5 (B7 (bc rfl rfl rfl rfl rfl rfl) (H7 B X rfl rfl rfl rfl rfl (A4R B X hlo) (A3 (A1 (bl rfl rfl rfl rfl rfl)) B1) ⟨_,_,rfl,rfl,rfl⟩ rfl) rfl)
  (A5 (B7 (bl rfl rfl rfl rfl rfl) (A8 B (J5 (A3 E4 (A3 E4 (A3 E4 B1)))) (B2 B (B2 B (A8 B (A1 (bl rfl rfl rfl rfl rfl)) A6 (fun _ _=>by first | exact .inl rfl | exact .inr rfl)) A6 A1i) A6 v5) (fun _ _=>by first | exact .inl rfl | exact .inr rfl)) rfl)
  (A5 (B7 (bl rfl rfl rfl rfl rfl) (B2 B (A8 B (A1 (bl rfl rfl rfl rfl rfl)) A6 (fun _ _=>by first | exact .inl rfl | exact .inr rfl)) A6 v5) rfl)
  (A5 (Q6 B (F7 hlo) (ls:=fun L=>[.fr L (Str.ofString "one")]) ⟨fun _=>rfl,.inl ⟨fun _=>rfl,rfl,rfl⟩⟩ (bl rfl rfl rfl rfl rfl) rfl (J5 (A3 (C6 (A3 E4 (A3 A6 (A3 E4 B1)))) (A3 (C6 (A3 E4 (A3 A6 (A3 (A1 (bl rfl rfl rfl rfl rfl)) B1)))) (A3 (C6 (A3 E4 (A3 (A1 (bl rfl rfl rfl rfl rfl)) (A3 E4 B1)))) (A3 (C6 (A3 E4 (A3 (B2 B (A1 (bl rfl rfl rfl rfl rfl)) A6 J3) (A3 E4 B1)))) B1))))) rfl rfl (by decide) (fun _=>(bl rfl rfl rfl rfl rfl)) (fun _=>I4) (fun _=>(H7 B X rfl rfl rfl rfl rfl (n3 B X hlo) (A3 (A1 (bl rfl rfl rfl rfl rfl)) B1) ⟨_,_,rfl,rfl,rfl⟩ rfl)) (fun _=>rfl))
  (A5 (B7 (bc rfl rfl rfl rfl rfl rfl) (J5 (A3 E4 (A3 (A1 (bl rfl rfl rfl rfl rfl)) (A3 (B2 B (B2 B E4 (H1 B (bn B X rfl rfl rfl rfl rfl rfl (by decide) rfl (.t _)) (A1 (bl rfl rfl rfl rfl rfl)) B3H rfl) J3) E4 J3) (A3 (B2 B (B2 B E4 (H1 B (bn B X rfl rfl rfl rfl rfl rfl (by decide) rfl (.t _)) (B2 B (A1 (bl rfl rfl rfl rfl rfl)) A6 J3) B3H rfl) J3) E4 J3) B1))))) rfl)
  (A5 (B7 (bl rfl rfl rfl rfl rfl) (B2 B (A8 B (A1 (bl rfl rfl rfl rfl rfl)) A6 (fun _ _=>by first | exact .inl rfl | exact .inr rfl)) A6 v5) rfl)
  (A5 (B7 (bl rfl rfl rfl rfl rfl) (J5 (A3 (C6 (A3 A6 (A3 (A8 B (J5 (A3 A6 (A3 (K2 B A6 A0n) B1))) (B2 B (B2 B (A8 B (A1 (bl rfl rfl rfl rfl rfl)) A6 (fun _ _=>by first | exact .inl rfl | exact .inr rfl)) A6 A1i) A6 v5) (fun _ _=>by first | exact .inl rfl | exact .inr rfl)) B1))) (A3 (C6 (A3 A6 (A3 (A8 B (J5 (A3 A6 (A3 (K2 B A6 A0n) B1))) (B2 B (B2 B (A8 B (A1 (bl rfl rfl rfl rfl rfl)) A6 (fun _ _=>by first | exact .inl rfl | exact .inr rfl)) A6 A1i) A6 v5) (fun _ _=>by first | exact .inl rfl | exact .inr rfl)) B1))) B1))) rfl)
  (A5 (B7 (bl rfl rfl rfl rfl rfl) A6 rfl)
  (A5 (N9 B (F7 hlo) (H1 B (bn B X rfl rfl rfl rfl rfl rfl (by decide) rfl (.t _)) A6 M5 rfl) (bc rfl rfl rfl rfl rfl rfl) (B5 (N9 B (F7 hlo) (A4H B (bn B X rfl rfl rfl rfl rfl rfl (by decide) rfl (.t _)) A6 (B2 B (H1 B (bn B X rfl rfl rfl rfl rfl rfl (by decide) rfl (.b _)) (L6 B (F7 hlo) (ls:=fun L=>[.fr L (Str.ofString "way")]) ⟨fun _=>rfl,.inl ⟨fun _=>rfl,rfl,rfl⟩⟩ (A1 (bc rfl rfl rfl rfl rfl rfl)) rfl rfl (by decide) (fun _=>(bl rfl rfl rfl rfl rfl)) (fun _=>(K1 (D2 B (A8 B (A8 B (A1 (bc rfl rfl rfl rfl rfl rfl)) (A1 (bl rfl rfl rfl rfl rfl)) (fun _ _=>by first | exact .inl rfl | exact .inr rfl)) A6 (fun _ _=>by first | exact .inl rfl | exact .inr rfl)) (A1 (bc rfl rfl rfl rfl rfl rfl)) (v7 B) rfl))) (fun _=>(A1 (bl rfl rfl rfl rfl rfl))) (fun _=>rfl)) A0o rfl) (Q5 (D2 B (A1 (bc rfl rfl rfl rfl rfl rfl)) (A1 (bl rfl rfl rfl rfl rfl)) (v7 B) rfl) A6 A6) J3) A9Z rfl) (bl rfl rfl rfl rfl rfl) (B5 (A1Y B (bl rfl rfl rfl rfl rfl) (A1 (bl rfl rfl rfl rfl rfl)) A9b)) (fun _=>rfl))) (fun _=>rfl))
  (A5 (B7 (bl rfl rfl rfl rfl rfl) (B2 B (A8 B (A1 (bl rfl rfl rfl rfl rfl)) A6 (fun _ _=>by first | exact .inl rfl | exact .inr rfl)) (A1 (bl rfl rfl rfl rfl rfl)) v5) rfl)
  (A5 (A1W rfl (.cons (C0 (bc rfl rfl rfl rfl rfl rfl)) (.cons (C0 (bl rfl rfl rfl rfl rfl)) (.cons (C0 (bl rfl rfl rfl rfl rfl)) (.cons (C0 (bl rfl rfl rfl rfl rfl)) (.cons (C0 (bc rfl rfl rfl rfl rfl rfl)) .nil))))) (H7 B X rfl rfl rfl rfl rfl (A4P B X hlo TK) (A3 (A1 (bc rfl rfl rfl rfl rfl rfl)) (A3 (H7 B X rfl rfl rfl rfl rfl (A4Q B X hlo TK) (A3 (A1 (bc rfl rfl rfl rfl rfl rfl)) (A3 (A1 (bl rfl rfl rfl rfl rfl)) B1)) ⟨_,_,rfl,rfl,rfl⟩ rfl) (A3 (A1 (bl rfl rfl rfl rfl rfl)) (A3 (A1 (bl rfl rfl rfl rfl rfl)) (A3 (A1 (bl rfl rfl rfl rfl rfl)) B1))))) ⟨_,_,rfl,rfl,rfl⟩ rfl) rfl rfl rfl rfl)
  (A5 (B7 (bc rfl rfl rfl rfl rfl rfl) (H7 B X rfl rfl rfl rfl rfl (A4S B X hlo TK) (A3 (A1 (bc rfl rfl rfl rfl rfl rfl)) (A3 (A1 (bc rfl rfl rfl rfl rfl rfl)) (A3 (A1 (bl rfl rfl rfl rfl rfl)) (A3 (A1 (bl rfl rfl rfl rfl rfl)) B1)))) ⟨_,_,rfl,rfl,rfl⟩ rfl) rfl)
  (A5 (J2 (A83 (D2 B (A1 (bc rfl rfl rfl rfl rfl rfl)) j5 B1y rfl) (D2 B (Q3 B (A1 (bc rfl rfl rfl rfl rfl rfl)) H9 (K8 A6) H9 (fun _ _=>by first | exact .inl rfl | exact .inr rfl)) (C6 (A3 (A1 (bl rfl rfl rfl rfl rfl)) (A3 (A1 (bl rfl rfl rfl rfl rfl)) (A3 (A1 (bl rfl rfl rfl rfl rfl)) B1)))) (A2O B) rfl) (D2 B (A1 (bl rfl rfl rfl rfl rfl)) A6 (A2O B) rfl)) (B5 (E7 N8)) H0)
  (A5 (B7 (bl rfl rfl rfl rfl rfl) (A6b B TK.u (bn B X rfl rfl rfl rfl rfl rfl (by decide) rfl (.b _)) (H1 B (bn B X rfl rfl rfl rfl rfl rfl (by decide) rfl (.t _)) A6 M5 rfl) rfl TK.t4 TK.c4 rfl rfl rfl rfl (fun g f fd c M h1 h2 h3 h4 h5 h6 h7 h8 h9=>by obtain⟨_,_,_,_,_,_,_,_,_,_,_,_,_,_,_⟩:=fd;simp only at h1 h2 h3 h4 h5 h6 h7 h8 h9;subst h1 h2 h3 h4 h5 h6 h7 h8 h9;exact B5q B M rfl (fun _=>rfl) rfl rfl rfl (fun _=>rfl) (fun _=>rfl) rfl (fun _=>(H1 B (bn B X rfl rfl rfl rfl rfl rfl (by decide) rfl (.b _)) (L6 B (F7 hlo) (ls:=fun L=>[.fr L (Str.ofString "k")]) ⟨fun _=>rfl,.inl ⟨fun _=>rfl,rfl,rfl⟩⟩ (H1 B (bn B X rfl rfl rfl rfl rfl rfl (by decide) rfl (.t _)) A6 M5 rfl) rfl rfl (by decide) (fun _=>(bl rfl rfl rfl rfl rfl)) (fun _=>(K1 (D2 B (A8 B (A8 B (A1 (bf rfl rfl rfl rfl rfl rfl)) (A8 B (A1 (bf rfl rfl rfl rfl rfl rfl)) (A1 (bl rfl rfl rfl rfl rfl)) (fun _ _=>by first | exact .inl rfl | exact .inr rfl)) (fun _ _=>by first | exact .inl rfl | exact .inr rfl)) A6 (fun _ _=>by first | exact .inl rfl | exact .inr rfl)) (A1 (bc rfl rfl rfl rfl rfl rfl)) (v7 B) rfl))) (fun _=>(A1 (bl rfl rfl rfl rfl rfl))) (fun _=>rfl)) B5T rfl))) rfl) rfl)
  (A5 (J2 (B5J (D2 B (A1 (bl rfl rfl rfl rfl rfl)) (L6 B (F7 hlo) (ls:=fun L=>[.fr L (Str.ofString "place")]) ⟨fun _=>rfl,.inl ⟨fun _=>rfl,rfl,rfl⟩⟩ (A1 (bl rfl rfl rfl rfl rfl)) rfl rfl (by decide) (fun _=>(bl rfl rfl rfl rfl rfl)) (fun _=>I4) (fun _=>(C6 (A3 (M3 B ⟨rfl,rfl⟩ ⟨F.plainAttrs_str,F.slot_str_upper,F.type_str_upper⟩ E0 (A8 B (A1 (bc rfl rfl rfl rfl rfl rfl)) (A1 (bl rfl rfl rfl rfl rfl)) (fun _ _=>by first | exact .inl rfl | exact .inr rfl)) j7) (A3 E4 B1)))) (fun _=>rfl)) (A2O B) rfl) (D2 B (A1 (bl rfl rfl rfl rfl rfl)) (L6 B (F7 hlo) (ls:=fun L=>[.fr L (Str.ofString "place")]) ⟨fun _=>rfl,.inl ⟨fun _=>rfl,rfl,rfl⟩⟩ (A8 B (A1 (bc rfl rfl rfl rfl rfl rfl)) A6 (fun _ _=>by first | exact .inl rfl | exact .inr rfl)) rfl rfl (by decide) (fun _=>(bl rfl rfl rfl rfl rfl)) (fun _=>I4) (fun _=>(C6 (A3 (A8 B (A1 (bc rfl rfl rfl rfl rfl rfl)) (A1 (bl rfl rfl rfl rfl rfl)) (fun _ _=>by first | exact .inl rfl | exact .inr rfl)) (A3 (A8 B (A8 B (A1 (bc rfl rfl rfl rfl rfl rfl)) A6 (fun _ _=>by first | exact .inl rfl | exact .inr rfl)) (A1 (bl rfl rfl rfl rfl rfl)) (fun _ _=>by first | exact .inl rfl | exact .inr rfl)) B1)))) (fun _=>rfl)) (A2O B) rfl)) (B5 (E7 N8)) H0)
  (A5 (J2 (D2 B (A1 (bc rfl rfl rfl rfl rfl rfl)) (H7 B X rfl rfl rfl rfl rfl (A3U B X hlo TK) (A3 (A1 (bc rfl rfl rfl rfl rfl rfl)) (A3 (A1 (bc rfl rfl rfl rfl rfl rfl)) (A3 (A1 (bl rfl rfl rfl rfl rfl)) B1))) ⟨_,_,rfl,rfl,rfl⟩ rfl) (A2O B) rfl) (B5 (E7 N8)) H0)
  (A5 (Q6 B (F7 hlo) (ls:=fun L=>[.fr L (Str.ofString "place"),.cl (L+1)]) ⟨fun _=>rfl,.inr ⟨fun _=>rfl,rfl,rfl⟩⟩ (bl rfl rfl rfl rfl rfl) rfl (H1 B (bn B X rfl rfl rfl rfl rfl rfl (by decide) rfl (.t _)) A6 M5 rfl) rfl rfl (by decide) (fun _=>(bc rfl rfl rfl rfl rfl rfl)) (fun _=>I4) (fun _=>(L6 B (F7 hlo) (ls:=fun L=>[.fr L (Str.ofString "way")]) ⟨fun _=>rfl,.inl ⟨fun _=>rfl,rfl,rfl⟩⟩ (A1 (bc rfl rfl rfl rfl rfl rfl)) rfl rfl (by decide) (fun _=>(bl rfl rfl rfl rfl rfl)) (fun _=>(K1 (D2 B (A8 B (A8 B (A1 (bc rfl rfl rfl rfl rfl rfl)) (A1 (bl rfl rfl rfl rfl rfl)) (fun _ _=>by first | exact .inl rfl | exact .inr rfl)) A6 (fun _ _=>by first | exact .inl rfl | exact .inr rfl)) (A1 (bc rfl rfl rfl rfl rfl rfl)) (v7 B) rfl))) (fun _=>(A8 B (A1 (bc rfl rfl rfl rfl rfl rfl)) (A8 B (A8 B (A1 (bc rfl rfl rfl rfl rfl rfl)) (A1 (bl rfl rfl rfl rfl rfl)) (fun _ _=>by first | exact .inl rfl | exact .inr rfl)) A6 (fun _ _=>by first | exact .inl rfl | exact .inr rfl)) (fun _ _=>by first | exact .inl rfl | exact .inr rfl))) (fun _=>rfl))) (fun _=>rfl))
  (B5 (E7 (A5c B (L6 B (F7 hlo) (ls:=fun L=>[.fr L (Str.ofString "name")]) ⟨fun _=>rfl,.inl ⟨fun _=>rfl,rfl,rfl⟩⟩ (A1 (bc rfl rfl rfl rfl rfl rfl)) rfl rfl (by decide) (fun _=>(bl rfl rfl rfl rfl rfl)) (fun _=>I4) (fun _=>(H1 B (bn B X rfl rfl rfl rfl rfl rfl (by decide) rfl (.t _)) (A8 B (A8 B (A1 (bc rfl rfl rfl rfl rfl rfl)) (A1 (bl rfl rfl rfl rfl rfl)) (fun _ _=>by first | exact .inl rfl | exact .inr rfl)) A6 (fun _ _=>by first | exact .inl rfl | exact .inr rfl)) (v6 hlo) rfl)) (fun _=>rfl)) (L6 B (F7 hlo) (ls:=fun L=>[.fr L (Str.ofString "row"),.cl (L+1)]) ⟨fun _=>rfl,.inr ⟨fun _=>rfl,rfl,rfl⟩⟩ (A1 (bl rfl rfl rfl rfl rfl)) rfl rfl (by decide) (fun _=>(bc rfl rfl rfl rfl rfl rfl)) (fun _=>I4) (fun _=>(L6 B (F7 hlo) (ls:=fun L=>[.fr L (Str.ofString "k")]) ⟨fun _=>rfl,.inl ⟨fun _=>rfl,rfl,rfl⟩⟩ (H1 B (bn B X rfl rfl rfl rfl rfl rfl (by decide) rfl (.t _)) (H1 B (bn B X rfl rfl rfl rfl rfl rfl (by decide) rfl (.b _)) (A1 (bc rfl rfl rfl rfl rfl rfl)) A0o rfl) M5 rfl) rfl rfl (by decide) (fun _=>(bl rfl rfl rfl rfl rfl)) (fun _=>(K1 (D2 B (A8 B (A1 (bc rfl rfl rfl rfl rfl rfl)) (A1 (bl rfl rfl rfl rfl rfl)) (fun _ _=>by first | exact .inl rfl | exact .inr rfl)) (Q3 B (A1 (bc rfl rfl rfl rfl rfl rfl)) H9 (K8 (A1 (bl rfl rfl rfl rfl rfl))) H9 (fun _ _=>by first | exact .inl rfl | exact .inr rfl)) A6n rfl))) (fun _=>(A8 B (A1 (bc rfl rfl rfl rfl rfl rfl)) (A1 (bl rfl rfl rfl rfl rfl)) (fun _ _=>by first | exact .inl rfl | exact .inr rfl))) (fun _=>rfl))) (fun _=>rfl)) (v7 B) rfl))))))))))))))))))))) B.low TK.low Nat.one_pos X))
end
section
section
variable{α:Type}
theorem k4{p q:α→Bool}{l:List α}(h:∀ x∈l,p x=true→q x=true):l.countP p≤l.countP q:=List.countP_mono_left h
theorem A2E{p q:α→Bool}{l:List α}(h:∀ x∈l,p x=true→q x=true)(e:l.countP q≤l.countP p):∀ x∈l,q x=true→p x=true:=by
 induction l with
 | nil=>exact fun x hx=>nomatch hx
 | cons y l ih=>
  have h':∀ x∈l,p x=true→q x=true:=fun z hz=>h z (.tail _ hz)
  have hy:=h y (.head _)
  rw[List.countP_cons,List.countP_cons] at e
  intro x hx hq
  cases hp:p y with
  | true=>
   rw[hp,hy hp] at e
   rcases List.mem_cons.mp hx with rfl | hx
   ·exact hp
   ·exact ih h' (Nat.le_of_add_le_add_right e) x hx hq
  | false=>
   rw[hp] at e
   cases hqy:q y with
   | true=>rw[hqy] at e;exact absurd (Nat.lt_of_lt_of_le e (k4 h')) (Nat.lt_irrefl _)
   | false=>
    rw[hqy] at e
    rcases List.mem_cons.mp hx with rfl | hx
    ·rw[hqy] at hq;cases hq
    ·exact ih h' e x hx hq
end
structure Maze where
 src:Nat→Nat
 rv:Nat→Nat
 ways:List Nat
 nd:ways.Nodup
 rvm:∀ w∈ways,rv w∈ways
 rvrv:∀ w∈ways,rv (rv w)=w
noncomputable def Maze.dst(M:Maze)(w:Nat):Nat:=M.src (M.rv w)
theorem Maze.rv_perm(M:Maze):(M.ways.map M.rv).Perm M.ways:=by
 have nd:(M.ways.map M.rv).Nodup:=by
  rw[List.Nodup,List.pairwise_map]
  exact List.Pairwise.imp_of_mem (fun {a b} ha hb hne e=>hne (by rw[← M.rvrv a ha,e,M.rvrv b hb])) M.nd
 refine(List.perm_ext_iff_of_nodup nd M.nd).mpr fun w=>⟨fun h => ?_,fun h => ?_⟩
 ·obtain⟨v,hv,rfl⟩:=List.mem_map.mp h;exact M.rvm v hv
 ·exact List.mem_map.mpr ⟨M.rv w,M.rvm w h,M.rvrv w h⟩
theorem Maze.deg(M:Maze)(v:Nat):M.ways.countP (fun w=>M.dst w==v)=M.ways.countP (fun w=>M.src w==v):=by
 have:=(M.rv_perm).countP_eq (fun w=>M.src w==v)
 rw[List.countP_map] at this
 exact this
structure Tarry(M:Maze)(start here:Nat)(walk:List Nat)(tree:List (Nat×Nat)):Prop where
 sub:∀ w∈walk,w∈M.ways
 nd:walk.Nodup
 bal:∀ v,walk.countP (fun w=>M.dst w==v)+(if v=start then 1 else 0)=walk.countP (fun w=>M.src w==v)+(if v=here then 1 else 0)
 met:∀ w∈walk,M.dst w=start∨M.dst w∈tree.map (·.1)
 from_:∀ w∈walk,M.src w=start∨M.src w∈tree.map (·.1)
 at_:here=start∨here∈tree.map (·.1)
 rule:∀ p∈tree,M.rv p.2∈walk→∀ w∈M.ways,M.src w=p.1→w∈walk
 way:∀ p∈tree,p.2∈walk∧M.dst p.2=p.1∧p.1≠start
 old:∀ l p r,tree=l++p::r→M.src p.2=start∨M.src p.2∈r.map (·.1)
 keys:(tree.map (·.1)).Nodup
section
variable{M:Maze}{start:Nat}
theorem Tarry.count(I:Tarry M start here walk tree)(p:Nat→Bool):walk.countP p=M.ways.countP (fun w=>walk.contains w&&p w):=by
 have:(M.ways.filter fun w=>walk.contains w).Perm walk:=(List.perm_ext_iff_of_nodup (M.nd.filter _) I.nd).mpr fun w=>by
  rw[List.mem_filter,List.contains_iff_mem]
  exact⟨fun h=>h.2,fun h=>⟨I.sub w h,h⟩⟩
 rw[← this.countP_eq,List.countP_filter]
 exact List.countP_congr fun w _=>by rw[Bool.and_comm]
theorem Tarry.out_le(I:Tarry M start here walk tree)(v:Nat):walk.countP (fun w=>M.src w==v)≤M.ways.countP (fun w=>M.src w==v):=by
 rw[I.count];exact k4 fun w _ h=>(Bool.and_eq_true_iff.mp h).2
theorem Tarry.in_le(I:Tarry M start here walk tree)(v:Nat):walk.countP (fun w=>M.dst w==v)≤M.ways.countP (fun w=>M.dst w==v):=by
 rw[I.count];exact k4 fun w _ h=>(Bool.and_eq_true_iff.mp h).2
theorem Tarry.outs(I:Tarry M start here walk tree){v:Nat}(h:∀ w∈M.ways,M.src w=v→w∈walk):walk.countP (fun w=>M.src w==v)=M.ways.countP (fun w=>M.src w==v):=by
 refine Nat.le_antisymm (I.out_le v) ?_
 rw[I.count]
 exact k4 fun w hw e=>by rw[e,List.contains_iff_mem.mpr (h w hw (by simpa using e))];rfl
theorem Tarry.ins(I:Tarry M start here walk tree){v:Nat}(h:M.ways.countP (fun w=>M.dst w==v)≤walk.countP (fun w=>M.dst w==v)):∀ w∈M.ways,M.dst w=v→w∈walk:=fun w hw e=>by
 rw[I.count] at h
 have:=A2E (p:=fun w=>walk.contains w&&(M.dst w==v)) (fun w _ h=>(Bool.and_eq_true_iff.mp h).2) h w hw (by simpa using e)
 exact List.contains_iff_mem.mp (Bool.and_eq_true_iff.mp this).1
theorem Tarry.home(I:Tarry M start here walk tree)(st:∀ w∈M.ways,M.src w=here→w∈walk):here=start:=by
 refine Decidable.byContradiction fun hne => ?_
 have h1:=I.bal here
 have h2:=I.outs st
 have h3:=I.in_le here
 have h4:=M.deg here
 rw[if_neg hne,if_pos rfl] at h1
 lia
theorem Tarry.home_ins(I:Tarry M start here walk tree)(st:∀ w∈M.ways,M.src w=here→w∈walk):∀ w∈M.ways,M.dst w=start→w∈walk:=by
 have e:=I.home st
 subst e
 have h1:=I.bal here
 have h2:=I.outs st
 have h4:=M.deg here
 exact I.ins (by lia)
theorem Tarry.done(I:Tarry M start here walk tree)(st:∀ w∈M.ways,M.src w=here→w∈walk):∀ (l r:List (Nat×Nat)),tree=l++r→∀ v,v=start∨v∈r.map (·.1)→∀ w∈M.ways,M.src w=v∨M.dst w=v→w∈walk:=by
 have e:=I.home st
 intro l r
 induction r generalizing l with
 | nil=>
  intro _ v hv w hw h
  rcases hv with rfl | hv
  ·exact h.elim (fun h=>st w hw (h.trans e.symm)) (I.home_ins st w hw)
  ·cases hv
 | cons p r ih=>
  intro ht v hv w hw h
  have ih:=ih (l++[p]) (by rw[ht,List.append_assoc];rfl)
  by_cases hvr:v=start∨v∈r.map (·.1)
  ·exact ih v hvr w hw h
  ·rcases hv with hv | hv
   ·exact absurd (.inl hv) hvr
   ·have hvp:v=p.1:=by
     rcases List.mem_cons.mp hv with h | h
     ·exact h
     ·exact absurd (.inr h) hvr
    subst hvp
    have hp:p∈tree:=by rw[ht];simp
    obtain⟨w1,w2,w3⟩:=I.way p hp
    have hb:M.rv p.2∈walk:=ih _ (I.old l p r ht) _ (M.rvm _ (I.sub _ w1)) (.inr (by unfold Maze.dst;rw[M.rvrv _ (I.sub _ w1)]))
    have ho:=I.rule p hp hb
    rcases h with h | h
    ·exact ho w hw h
    ·have b:=I.bal p.1
     rw[if_neg w3,if_neg (by rw[e];exact w3),I.outs ho] at b
     have:=M.deg p.1
     exact I.ins (by lia) w hw h
noncomputable def Maze.Conn(M:Maze)(start:Nat):Prop:=∀ S:Nat→Prop,S start→(∀ w∈M.ways,S (M.src w)→S (M.dst w))→∀ w∈M.ways,S (M.src w)
theorem Tarry.all(I:Tarry M start here walk tree)(st:∀ w∈M.ways,M.src w=here→w∈walk)(C:M.Conn start):∀ w∈M.ways,w∈walk:=fun w hw=>by
 have h:=C (fun v=>v=start∨v∈tree.map (·.1)) (.inl rfl) (fun w hw h=>I.met w (I.done st [] tree rfl _ h w hw (.inl rfl))) w hw
 exact I.done st [] tree rfl _ h w hw (.inl rfl)
theorem Tarry.perm(I:Tarry M start here walk tree)(h:∀ w∈M.ways,w∈walk):walk.Perm M.ways:=(List.perm_ext_iff_of_nodup I.nd M.nd).mpr fun w=>⟨I.sub w,h w⟩
theorem Tarry.open_(I:Tarry M start here walk tree)(C:M.Conn start)(h:walk.length<M.ways.length):∃ w∈M.ways,M.src w=here∧w∉walk:=by
 refine Classical.byContradiction fun hn => ?_
 have st:∀ w∈M.ways,M.src w=here→w∈walk:=fun w hw e=>Classical.byContradiction fun q=>hn ⟨w,hw,e,q⟩
 have:=(I.perm (I.all st C)).length_eq
 lia
theorem Tarry.full(I:Tarry M start here walk tree)(h:walk.length=M.ways.length):∀ w∈M.ways,w∈walk:=fun w hw=>by
 have e:=I.count fun _=>true
 simp only[Bool.and_true,List.countP_true] at e
 have:=A2E (p:=fun w=>walk.contains w) (q:=fun _=>true) (l:=M.ways) (fun _ _ _=>rfl) (by simp only[List.countP_true];lia) w hw rfl
 exact List.contains_iff_mem.mp this
theorem Tarry.zero(M:Maze)(start:Nat):Tarry M start start [] [] where
 sub:=fun _ h=>by cases h
 nd:=.nil
 bal:=fun v=>by simp
 met:=fun _ h=>by cases h
 from_:=fun _ h=>by cases h
 at_:=.inl rfl
 rule:=fun _ h=>by cases h
 way:=fun _ h=>by cases h
 old:=fun l p r h=>by cases l <;> cases h
 keys:=.nil
theorem Tarry.step(I:Tarry M start here walk tree){w:Nat}(hw:w∈M.ways)(hs:M.src w=here)(hn:w∉walk)(hr:∀ p∈tree,p.1=here→w=M.rv p.2→∀ x∈M.ways,M.src x=here→x=w∨x∈walk):
  Tarry M start (M.dst w) (walk++[w]) (if M.dst w=start∨M.dst w∈tree.map (·.1) then tree else (M.dst w,w)::tree):=by
 have mem:∀ x,x∈walk++[w]↔x∈walk∨x=w:=fun x=>by simp
 have sub':∀ v,v=start∨v∈tree.map (·.1)→v=start∨v∈(if M.dst w=start∨M.dst w∈tree.map (·.1) then tree else (M.dst w,w)::tree).map (·.1):=fun v h=>by
  split
  ·exact h
  ·exact h.imp id fun h=>List.mem_cons_of_mem _ h
 have new:M.dst w=start∨M.dst w∈(if M.dst w=start∨M.dst w∈tree.map (·.1) then tree else (M.dst w,w)::tree).map (·.1):=by
  split
  ·assumption
  ·exact .inr List.mem_cons_self
 refine⟨fun x h => ?_,?_,fun v => ?_,fun x h => ?_,fun x h => ?_,new,fun p hp hb x hx hv => ?_,fun p hp => ?_,fun l p r h => ?_,?_⟩
 ·rcases(mem x).mp h with h | rfl
  ·exact I.sub x h
  ·exact hw
 ·exact List.nodup_append.mpr ⟨I.nd,List.nodup_cons.mpr ⟨by simp,.nil⟩,fun a ha b hb e=>hn (by rw[List.mem_singleton] at hb;rw[← hb,← e];exact ha)⟩
 ·have b:=I.bal v
  rw[List.countP_append,List.countP_append,List.countP_singleton,List.countP_singleton]
  have c1:(if (M.src w==v)=true then 1 else 0)=if v=here then 1 else 0:=by
   rw[hs];by_cases q:v=here
   ·rw[if_pos q,if_pos (by simp [q])]
   ·rw[if_neg q,if_neg (by simpa using fun e=>q e.symm)]
  have c2:(if (M.dst w==v)=true then 1 else 0)=if v=M.dst w then 1 else 0:=by
   by_cases q:v=M.dst w
   ·rw[if_pos q,if_pos (by simp [q])]
   ·rw[if_neg q,if_neg (by simpa using fun e=>q e.symm)]
  rw[c1,c2]
  lia
 ·rcases(mem x).mp h with h | rfl
  ·exact sub' _ (I.met x h)
  ·exact new
 ·rcases(mem x).mp h with h | rfl
  ·exact sub' _ (I.from_ x h)
  ·rw[hs];exact sub' _ I.at_
 ·have key:p∈tree→x∈walk++[w]:=fun hp=>by
   rcases(mem _).mp hb with hb | hb
   ·exact(mem x).mpr (.inl (I.rule p hp hb x hx hv))
   ·have e:p.1=here:=by
     obtain⟨w1,w2,_⟩:=I.way p hp
     rw[← hs,← hb,← w2];rfl
    exact(mem x).mpr ((hr p hp e hb.symm x hx (hv.trans e)).symm)
  by_cases q:M.dst w=start∨M.dst w∈tree.map (·.1)
  ·rw[if_pos q] at hp;exact key hp
  ·rw[if_neg q] at hp
   rcases List.mem_cons.mp hp with rfl | hp
   ·exfalso
    have hb':M.rv w∈walk∨M.rv w=w:=(mem _).mp hb
    have hsr:M.src (M.rv w)=start∨M.src (M.rv w)∈tree.map (·.1):=by
     rcases hb' with h | h
     ·exact I.from_ _ h
     ·rw[h,hs];exact I.at_
    exact q hsr
   ·exact key hp
 ·by_cases q:M.dst w=start∨M.dst w∈tree.map (·.1)
  ·rw[if_pos q] at hp
   obtain⟨a,b⟩:=I.way p hp
   exact⟨(mem _).mpr (.inl a),b⟩
  ·rw[if_neg q] at hp
   rcases List.mem_cons.mp hp with rfl | hp
   ·exact⟨(mem _).mpr (.inr rfl),rfl,fun e=>q (.inl e)⟩
   ·obtain⟨a,b⟩:=I.way p hp
    exact⟨(mem _).mpr (.inl a),b⟩
 ·by_cases q:M.dst w=start∨M.dst w∈tree.map (·.1)
  ·rw[if_pos q] at h;exact I.old l p r h
  ·rw[if_neg q] at h
   cases l with
   | nil=>cases h;rw[hs];exact I.at_
   | cons a l=>cases h;exact I.old l p r rfl
 ·split
  ·exact I.keys
  ·rename_i q
   exact List.nodup_cons.mpr ⟨fun h=>q (.inr h),I.keys⟩
end
end
noncomputable def F2(home:Bool)(m:Nat):Nat:=Nat.rec 1 (fun m r=>if home then (m+1) * r else if m=0 then 1 else m * r) m
theorem Y5{home:Bool}:F2 home (m+1)=if home then (m+1) * F2 home m else if m=0 then 1 else m * F2 home m:=rfl
theorem j6(home:Bool)(m:Nat):0<F2 home m:=by
 induction m with
 | zero=>exact Nat.one_pos
 | succ m ih=>
  rw[Y5]
  split
  ·exact Nat.mul_pos (Nat.succ_pos m) ih
  ·split
   ·exact Nat.one_pos
   ·exact Nat.mul_pos (Nat.pos_of_ne_zero (by assumption)) ih
noncomputable def A1y(home:Bool)(m:Nat):Nat:=if home then m else if m=1 then 1 else m - 1
theorem A5e(home:Bool)(m:Nat):A1y home (m+1) * F2 home m=F2 home (m+1):=by
 cases home with
 | true=>rfl
 | false=>
  by_cases h:m=0
  ·subst h;rfl
  ·show (if m+1=1 then 1 else m+1 - 1) * F2 false m=if m=0 then 1 else m * F2 false m
   rw[if_neg (fun e=>h (Nat.succ.inj e)),if_neg h,Nat.add_sub_cancel]
theorem B5O(acc weight n r:Nat):(acc+weight * (n % r))+(weight * r) * (n / r)=acc+weight * n:=by
 rw[Nat.mul_assoc,Nat.add_assoc,← Nat.mul_add,Nat.mod_add_div]
theorem A2j(n:Nat):n % 1=0∧n / 1=n:=⟨Nat.mod_one n,Nat.div_one n⟩
section
section
variable{α:Type}{lt:α→α→Bool}
theorem k8(asym:∀ a b,lt a b=true→lt b a=true→False){l1:List α}:∀ {l2:List α},l1.Perm l2→l1.Pairwise (fun a b=>lt a b=true)→l2.Pairwise (fun a b=>lt a b=true)→l1=l2:=by
 induction l1 with
 | nil=>exact fun p _ _=>by rw[p.nil_eq]
 | cons a l1 ih=>
  intro l2 p h1 h2
  cases l2 with
  | nil=>cases p.length_eq
  | cons b l2=>
   have h1':=List.pairwise_cons.mp h1
   have h2':=List.pairwise_cons.mp h2
   have hab:a=b:=by
    rcases List.mem_cons.mp (p.mem_iff.mp List.mem_cons_self) with h | h
    ·exact h
    ·rcases List.mem_cons.mp (p.mem_iff.mpr List.mem_cons_self) with h' | h'
     ·exact h'.symm
     ·exact absurd (h2'.1 _ h) fun q=>asym _ _ q (h1'.1 _ h')
   subst hab
   rw[ih (List.Perm.cons_inv p) h1'.2 h2'.2]
noncomputable def O3(lt:α→α→Bool)(x:α):List α→List α
 | []=>[x]
 | y::l=>if lt y x then y::O3 lt x l else x::y::l
theorem o5(x:α)(l:List α):(O3 lt x l).Perm (x::l):=by
 induction l with
 | nil=>exact .refl _
 | cons y l ih=>
  unfold O3
  split
  ·exact(ih.cons y).trans (.swap x y l)
  ·exact .refl _
theorem A3n(tr:∀ a b c,lt a b=true→lt b c=true→lt a c=true){x:α}{l:List α}(t:∀ y∈l,lt y x=true∨lt x y=true)(h:l.Pairwise (fun a b=>lt a b=true)):(O3 lt x l).Pairwise (fun a b=>lt a b=true):=by
 induction l with
 | nil=>exact List.pairwise_singleton _ _
 | cons y l ih=>
  have h':=List.pairwise_cons.mp h
  unfold O3
  split
  ·rename_i hy
   refine List.pairwise_cons.mpr ⟨fun z hz => ?_,ih (fun z hz=>t z (.tail _ hz)) h'.2⟩
   rcases List.mem_cons.mp ((o5 x l).mem_iff.mp hz) with rfl | hz
   ·exact hy
   ·exact h'.1 z hz
  ·rename_i hy
   have hxy:lt x y=true:=(t y (.head _)).resolve_left hy
   refine List.pairwise_cons.mpr ⟨fun z hz => ?_,h⟩
   rcases List.mem_cons.mp hz with rfl | hz
   ·exact hxy
   ·exact tr _ _ _ hxy (h'.1 z hz)
noncomputable def J7(lt:α→α→Bool)(x:α):List α→Nat
 | []=>0
 | y::l=>if lt y x then J7 lt x l+1 else 0
theorem A4i(x:α)(l:List α):O3 lt x l=l.take (J7 lt x l)++x::l.drop (J7 lt x l):=by
 induction l with
 | nil=>rfl
 | cons y l ih=>
  unfold O3 J7
  split
  ·rw[ih];rfl
  ·rfl
theorem A5j(x:α)(l:List α):J7 lt x l≤l.length:=by
 induction l with
 | nil=>exact Nat.le_refl _
 | cons y l ih=>
  unfold J7
  split
  ·exact Nat.succ_le_succ ih
  ·exact Nat.zero_le _
noncomputable def B1f(lt:α→α→Bool)(l:List α):List α:=l.foldl (fun acc x=>O3 lt x acc) []
theorem A5V(tr:∀ a b c,lt a b=true→lt b c=true→lt a c=true)(l:List α):∀ (acc:List α),(acc++l).Pairwise (fun a b=>lt a b=true∨lt b a=true)→acc.Pairwise (fun a b=>lt a b=true)→
  (l.foldl (fun acc x=>O3 lt x acc) acc).Perm (acc++l)∧(l.foldl (fun acc x=>O3 lt x acc) acc).Pairwise (fun a b=>lt a b=true):=by
 induction l with
 | nil=>exact fun acc _ h=>⟨by rw[List.append_nil];exact .refl _,h⟩
 | cons x l ih=>
  intro acc t h
  have t':=List.pairwise_append.mp t
  have p:(O3 lt x acc++l).Perm (acc++x::l):=((o5 x acc).append_right l).trans (List.perm_middle.symm)
  obtain⟨a,b⟩:=ih (O3 lt x acc) (t.perm p.symm fun h=>h.symm) (A3n tr (fun y hy=>t'.2.2 y hy x (.head _)) h)
  exact⟨a.trans p,b⟩
end
end
structure WS where
 left:Nat→List Nat
 back:List (Nat×Option Nat)
 here:Nat
 num:Nat
 walk:List Nat
noncomputable def F8(L:List Nat)(first:Option Nat):List Nat:=if L.filter (fun w=>some w != first)=[] then L else L.filter (fun w=>some w != first)
noncomputable def WS.first(s:WS):Option Nat:=(s.back.lookup s.here).join
noncomputable def WS.free(s:WS):List Nat:=F8 (s.left s.here) s.first
noncomputable def WS.way(s:WS):Nat:=s.free.getD (s.num % s.free.length) 0
noncomputable def WS.step(M:Maze)(s:WS):WS where
 left:=fun v=>if v=s.here then (s.left v).erase s.way else s.left v
 back:=if (s.back.lookup (M.dst s.way)).isSome then s.back else s.back++[(M.dst s.way,some (M.rv s.way))]
 here:=M.dst s.way
 num:=s.num / s.free.length
 walk:=s.walk++[s.way]
structure WInv(M:Maze)(line:List Nat)(start:Nat)(s:WS)(tree:List (Nat×Nat)):Prop where
 tarry:Tarry M start s.here s.walk tree
 left:∀ v,s.left v=line.filter fun w=>(M.src w==v) && !s.walk.contains w
 back:s.back=(start,none)::tree.reverse.map fun p=>(p.1,some (M.rv p.2))
theorem A0Q{f:Option Nat}(h:L≠[]):F8 L f≠[]:=by
 unfold F8;split
 ·exact h
 ·assumption
theorem N7{f:Option Nat}{w:Nat}(h:w∈F8 L f):w∈L:=by
 unfold F8 at h;split at h
 ·exact h
 ·exact(List.mem_filter.mp h).1
theorem A4k{f:Option Nat}{w:Nat}(h:w∈F8 L f)(e:f=some w):∀ x∈L,x=w:=by
 unfold F8 at h;split at h
 ·rename_i q
  intro x hx
  refine Decidable.byContradiction fun hne => ?_
  have:x∈L.filter (fun w=>some w != f):=List.mem_filter.mpr ⟨hx,by rw[e];simpa using hne⟩
  rw[q] at this;cases this
 ·have:=(List.mem_filter.mp h).2
  rw[e] at this;simp at this
theorem WS.way_mem{s:WS}(h:s.left s.here≠[]):s.way∈s.free:=by
 have hn:s.free≠[]:=A0Q h
 have hl:0<s.free.length:=List.length_pos_iff.mpr hn
 unfold WS.way
 rw[List.getD_eq_getElem?_getD,List.getElem?_eq_getElem (Nat.mod_lt _ hl)]
 exact List.getElem_mem _
theorem A0q{start v:Nat}{M:Maze}{p:Nat×Nat}(hk:(tree.map (·.1)).Nodup)(hs:∀ p∈tree,p.1≠start)(hp:p∈tree)(hv:p.1=v):
  (((start,none)::tree.reverse.map fun p=>(p.1,some (M.rv p.2))):List (Nat×Option Nat)).lookup v=some (some (M.rv p.2)):=by
 rw[List.lookup_cons]
 have:(v==start)=false:=by simpa using fun e=>hs p hp (hv.trans e)
 rw[this]
 have nd:(tree.reverse.map (·.1)).Nodup:=((List.reverse_perm tree).map _).nodup_iff.mpr hk
 have hm:p∈tree.reverse:=List.mem_reverse.mpr hp
 generalize tree.reverse=t at nd hm
 show List.lookup v (t.map _)=_
 induction t with
 | nil=>cases hm
 | cons q t ih=>
  rw[List.map_cons,List.lookup_cons]
  rw[List.map_cons] at nd
  have nd':=List.nodup_cons.mp nd
  rcases List.mem_cons.mp hm with rfl | hm
  ·simp [hv]
  ·have:(v==q.1)=false:=by
    simpa using fun e:v=q.1=>nd'.1 (List.mem_map.mpr ⟨p,hm,by rw[hv,e]⟩)
   simp only[this]
   exact ih nd'.2 hm
theorem W7{start v:Nat}{M:Maze}:((((start,none)::tree.reverse.map fun p=>(p.1,some (M.rv p.2))):List (Nat×Option Nat)).lookup v).isSome=true↔v=start∨v∈tree.map (·.1):=by
 rw[List.lookup_cons]
 by_cases h:v=start
 ·simp [h]
 ·have:(v==start)=false:=by simpa using h
  rw[this]
  have e:v∈tree.map (·.1)↔v∈tree.reverse.map (·.1):=by simp
  rw[e]
  generalize tree.reverse=t
  simp only[h,false_or]
  induction t with
  | nil=>simp
  | cons q t ih=>
   rw[List.map_cons,List.lookup_cons,List.map_cons,List.mem_cons]
   by_cases hq:v=q.1
   ·simp [hq]
   ·have:(v==q.1)=false:=by simpa using hq
    simp only[this,hq,false_or]
    exact ih
theorem WInv.zero{M:Maze}{start:Nat}:WInv M line start ⟨fun v=>line.filter (M.src ·==v),[(start,none)],start,num,[]⟩ []:=
 ⟨.zero M start,fun v=>by simp,rfl⟩
theorem WInv.mem{M:Maze}{start:Nat}{s:WS}(I:WInv M line start s tree)(hl:line.Perm M.ways){w v:Nat}:w∈s.left v↔w∈M.ways∧M.src w=v∧w∉s.walk:=by
 rw[I.left,List.mem_filter,hl.mem_iff]
 simp
theorem WInv.step{M:Maze}{start:Nat}{s:WS}(I:WInv M line start s tree)(hl:line.Perm M.ways)(hn:s.left s.here≠[]):
  WInv M line start (s.step M) (if M.dst s.way=start∨M.dst s.way∈tree.map (·.1) then tree else (M.dst s.way,s.way)::tree):=by
 have hw:=WS.way_mem hn
 obtain⟨h1,h2,h3⟩:=(I.mem hl).mp (N7 hw)
 refine⟨I.tarry.step h1 h2 h3 fun p hp hv e x hx hxs => ?_,fun v => ?_,?_⟩
 ·by_cases hxw:x∈s.walk
  ·exact .inr hxw
  ·refine .inl (A4k hw ?_ x ((I.mem hl).mpr ⟨hx,hxs,hxw⟩))
   unfold WS.first
   rw[I.back,A0q I.tarry.keys (fun p hp=>(I.tarry.way p hp).2.2) hp hv,e]
   rfl
 ·show (if v=s.here then (s.left v).erase s.way else s.left v)=_
  have nd:(s.left v).Nodup:=by rw[I.left];exact(hl.nodup_iff.mpr M.nd).filter _
  by_cases hv:v=s.here
  ·rw[if_pos hv,nd.erase_eq_filter,I.left,List.filter_filter]
   refine List.filter_congr fun x _ => ?_
   show _=((M.src x==v) && !(s.walk++[s.way]).contains x)
   rw[List.contains_eq_any_beq,List.contains_eq_any_beq,List.any_append]
   simp only[List.any_cons,List.any_nil,Bool.or_false]
   cases hx:x==s.way <;> simp [bne,hx,Bool.and_comm]
  ·rw[if_neg hv,I.left]
   refine List.filter_congr fun x _ => ?_
   show _=((M.src x==v) && !(s.walk++[s.way]).contains x)
   by_cases hx:x=s.way
   ·subst hx;rw[h2];simp [show ¬ s.here=v from fun e=>hv e.symm]
   ·simp [hx]
 ·show (if (s.back.lookup (M.dst s.way)).isSome then s.back else s.back++[(M.dst s.way,some (M.rv s.way))])=_
  have q:=W7 (M:=M) (start:=start) (v:=M.dst s.way) (tree:=tree)
  rw[← I.back] at q
  by_cases h:M.dst s.way=start∨M.dst s.way∈tree.map (·.1)
  ·rw[if_pos (q.mpr h),if_pos h,I.back]
  ·rw[if_neg (fun e=>h (q.mp e)),if_neg h,I.back]
   simp
section
section
variable{M:Maze}{start:Nat}{s:WS}
theorem A2U(nd:L.Nodup){w:Nat}(h:w∈L):(L.filter fun x=>some x != some w).length=L.length - 1:=by
 have:(L.filter fun x=>some x != some w)=L.erase w:=by
  rw[nd.erase_eq_filter]
  refine List.filter_congr fun x _ => ?_
  simp [bne]
 rw[this,List.length_erase_of_mem h]
theorem WInv.nodup(I:WInv M line start s tree)(hl:line.Perm M.ways)(v:Nat):(s.left v).Nodup:=by
 rw[I.left];exact(hl.nodup_iff.mpr M.nd).filter _
theorem WInv.free_len(I:WInv M line start s tree)(hl:line.Perm M.ways)(hn:s.left s.here≠[]):s.free.length=A1y (s.here==start) (s.left s.here).length:=by
 have nd:=I.nodup hl s.here
 have hpos:0<(s.left s.here).length:=List.length_pos_iff.mpr hn
 by_cases hs:s.here=start
 ·have hf:s.first=none:=by
   unfold WS.first;rw[I.back,hs];simp
  have:s.free=s.left s.here:=by
   unfold WS.free F8
   rw[hf]
   have:(s.left s.here).filter (fun w=>some w != none)=s.left s.here:=List.filter_eq_self.mpr fun _ _=>rfl
   rw[this,if_neg hn]
  rw[this];simp [A1y,hs]
 ·have hb:(s.here==start)=false:=by simpa using hs
  rw[hb]
  obtain⟨p,hp,hv⟩:=List.mem_map.mp (I.tarry.at_.resolve_left hs)
  have hf:s.first=some (M.rv p.2):=by
   unfold WS.first;rw[I.back,A0q I.tarry.keys (fun p hp=>(I.tarry.way p hp).2.2) hp hv];rfl
  have hmem:M.rv p.2∈s.left s.here:=by
   obtain⟨w1,w2,w3⟩:=I.tarry.way p hp
   refine(I.mem hl).mpr ⟨M.rvm _ (I.tarry.sub _ w1),w2.trans hv,fun q => ?_⟩
   obtain⟨x,hx⟩:=List.exists_mem_of_ne_nil _ hn
   obtain⟨x1,x2,x3⟩:=(I.mem hl).mp hx
   exact x3 (I.tarry.rule p hp q x x1 (x2.trans hv.symm))
  unfold WS.free F8
  rw[hf]
  have hlen:=A2U nd hmem
  split
  ·rename_i q
   rw[q] at hlen
   have:(s.left s.here).length=1:=by simp at hlen;lia
   rw[this];simp [A1y]
  ·rename_i q
   have:(s.left s.here).length≠1:=fun e=>q (List.length_eq_zero_iff.mp (by rw[hlen,e]))
   rw[hlen];simp [A1y,this]
noncomputable def A1f:List Nat→Nat
 | []=>1
 | x::l=>x * A1f l
theorem A7t{f g:Nat→Nat}{v r:Nat}{vs:List Nat}(nd:vs.Nodup)(h:v∈vs)(e:∀ u∈vs,u≠v→f u=g u)(hv:r * g v=f v):r * A1f (vs.map g)=A1f (vs.map f):=by
 induction vs with
 | nil=>cases h
 | cons u vs ih=>
  have nd':=List.nodup_cons.mp nd
  show r * (g u * A1f (vs.map g))=f u * A1f (vs.map f)
  by_cases q:u=v
  ·subst q
   rw[List.map_congr_left fun x hx=>(e x (.tail _ hx) fun q=>nd'.1 (q▸hx)).symm,← hv,Nat.mul_assoc]
  ·rw[← ih nd'.2 ((List.mem_cons.mp h).resolve_left fun x=>q x.symm) (fun x hx=>e x (.tail _ hx)),e u (.head _) q,← Nat.mul_assoc,← Nat.mul_assoc,Nat.mul_comm r]
noncomputable def WS.rest(start:Nat)(vs:List Nat)(s:WS):Nat:=A1f (vs.map fun v=>F2 (v==start) (s.left v).length)
theorem WInv.rest_step(I:WInv M line start s tree)(hl:line.Perm M.ways)(hn:s.left s.here≠[]){vs:List Nat}(nd:vs.Nodup)(hv:s.here∈vs):s.free.length * (s.step M).rest start vs=s.rest start vs:=by
 refine A7t nd hv (fun u _ hu => ?_) ?_
 ·show _=F2 _ (if u=s.here then _ else _:List Nat).length
  rw[if_neg hu]
 ·show _ * F2 _ (if s.here=s.here then (s.left s.here).erase s.way else _:List Nat).length=_
  rw[if_pos rfl,List.length_erase_of_mem (N7 (WS.way_mem hn)),I.free_len hl hn]
  have hpos:0<(s.left s.here).length:=List.length_pos_iff.mpr hn
  have:=A5e (s.here==start) ((s.left s.here).length - 1)
  rwa [Nat.sub_add_cancel hpos] at this
theorem A9K{start:Nat}{s:WS}{vs:List Nat}(h:∀ v∈vs,s.left v=[]):s.rest start vs=1:=by
 induction vs with
 | nil=>rfl
 | cons v vs ih=>
  have ih:=ih fun u hu=>h u (.tail _ hu)
  unfold WS.rest at ih ⊢
  rw[List.map_cons,A1f,ih,h v (.head _)];rfl
noncomputable def WS.run(M:Maze):Nat→WS→WS
 | 0,s=>s
 | n+1,s=>WS.run M n (s.step M)
structure Num(start n0 total:Nat)(vs:List Nat)(s:WS)(acc weight:Nat):Prop where
 num:acc+weight * s.num=n0
 all:weight * s.rest start vs=total
theorem Num.step{vs:List Nat}(N:Num start n0 total vs s acc weight)(I:WInv M line start s tree)(hl:line.Perm M.ways)(hn:s.left s.here≠[])(nd:vs.Nodup)(hv:s.here∈vs):
  Num start n0 total vs (s.step M) (acc+weight * (s.num % s.free.length)) (weight * s.free.length):=by
 refine⟨?_,?_⟩
 ·show _+_ * (s.num / s.free.length)=_
  rw[B5O];exact N.num
 ·rw[Nat.mul_assoc,I.rest_step hl hn nd hv];exact N.all
theorem Num.end_{vs:List Nat}(N:Num start n0 total vs s acc weight)(h:∀ v∈vs,s.left v=[])(hlt:n0<total):weight=total∧s.num=0∧acc=n0:=by
 have h1:=N.all
 rw[A9K h,Nat.mul_one] at h1
 have h2:=N.num
 have h3:s.num=0:=by
  rcases Nat.eq_zero_or_pos s.num with h | h
  ·exact h
  ·have:=Nat.le_mul_of_pos_right weight h
   lia
 rw[h3] at h2
 exact⟨h1,h3,by lia⟩
end
end
section
section
variable{M:Maze}{start:Nat}{s:WS}
theorem WInv.left_ne(I:WInv M line start s tree)(hl:line.Perm M.ways)(C:M.Conn start)(h:s.walk.length<M.ways.length):s.left s.here≠[]:=fun e=>by
 obtain⟨w,h1,h2,h3⟩:=I.tarry.open_ C h
 have:=(I.mem hl).mpr ⟨h1,h2,h3⟩
 rw[e] at this;cases this
theorem WInv.left_end(I:WInv M line start s tree)(hl:line.Perm M.ways)(h:s.walk.length=M.ways.length)(v:Nat):s.left v=[]:=by
 refine List.eq_nil_iff_forall_not_mem.mpr fun w hw => ?_
 obtain⟨h1,_,h3⟩:=(I.mem hl).mp hw
 exact h3 (I.tarry.full h w h1)
theorem WInv.home(I:WInv M line start s tree)(h:s.walk.length=M.ways.length):s.here=start:=I.tarry.home fun w hw _=>I.tarry.full h w hw
theorem A4C{s:WS}:(s.step M).walk.length=s.walk.length+1:=by show (s.walk++[s.way]).length=_;simp
end
end
noncomputable def G3(src:Nat→Nat)(walk:List Nat)(v:Nat):Nat:=walk.zipIdx.foldl (fun acc p=>if src p.1=v then p.2+1 else acc) 0
theorem L9{w v:Nat}:G3 src (walk++[w]) v=if src w=v then walk.length+1 else G3 src walk v:=by
 unfold G3
 rw[List.zipIdx_append,List.foldl_append]
 simp
structure Doors(src:Nat→Nat)(walk ord:List Nat):Prop where
 le:∀ v,G3 src walk v≤walk.length
 pw:ord.Pairwise fun a b=>G3 src walk a=0∨G3 src walk a<G3 src walk b
theorem Doors.zero:Doors src [] ord:=⟨fun _=>Nat.le_refl _,List.pairwise_of_forall fun _ _=>.inl rfl⟩
theorem Doors.step(D:Doors src walk ord)(w:Nat):Doors src (walk++[w]) (ord.filter (· != src w)++[src w]):=by
 refine⟨fun v => ?_,?_⟩
 ·rw[L9,List.length_append]
  split
  ·simp
  ·exact Nat.le_succ_of_le (D.le v)
 ·refine List.pairwise_append.mpr ⟨?_,by simp,fun a ha b hb => ?_⟩
  ·refine(D.pw.filter _).imp_of_mem fun {a b} ha hb h => ?_
   have na:¬ src w=a:=fun e=>by have:=(List.mem_filter.mp ha).2;simp [e] at this
   have nb:¬ src w=b:=fun e=>by have:=(List.mem_filter.mp hb).2;simp [e] at this
   rw[L9,L9,if_neg na,if_neg nb];exact h
  ·have na:¬ src w=a:=fun e=>by have:=(List.mem_filter.mp ha).2;simp [e] at this
   rw[List.mem_singleton] at hb
   subst hb
   rw[L9,L9,if_neg na,if_pos rfl]
   exact .inr (Nat.lt_succ_of_le (D.le a))
theorem A1t{v:Nat}:∀ {walk:List Nat},(∃ w∈walk,src w=v)→0<G3 src walk v:=fun {walk} h=>by
 have key:∀ (l:List Nat) (n acc:Nat),(0<acc∨∃ w∈l,src w=v)→0<(l.zipIdx n).foldl (fun acc p=>if src p.1=v then p.2+1 else acc) acc:=fun l=>by
  induction l with
  | nil=>
   intro n acc h
   rcases h with h | ⟨w,hw,_⟩
   ·exact h
   ·cases hw
  | cons x l ih=>
   intro n acc h
   rw[List.zipIdx_cons,List.foldl_cons]
   refine ih _ _ ?_
   by_cases q:src x=v
   ·left;simp [q]
   ·rcases h with h | ⟨w,hw,hs⟩
    ·left;simpa [q] using h
    ·rcases List.mem_cons.mp hw with rfl | hw
     ·exact absurd hs q
     ·exact .inr ⟨w,hw,hs⟩
 exact key walk 0 0 (.inr h)
theorem Doors.sorted(D:Doors src walk ord)(h:∀ v∈ord,∃ w∈walk,src w=v):ord.Pairwise fun a b=>decide (G3 src walk a<G3 src walk b)=true:=by
 refine D.pw.imp_of_mem fun {a b} ha _ q => ?_
 rcases q with q | q
 ·exact absurd (A1t (h a ha)) (by lia)
 ·simpa using q
theorem A9e(nd:ord.Nodup){v:Nat}(h:v∈ord):(ord.filter (· != v)++[v]).Perm ord:=by
 have:ord.filter (· != v)=ord.erase v:=(nd.erase_eq_filter v).symm
 rw[this]
 exact List.perm_append_comm.trans (List.perm_cons_erase h).symm
section
theorem u9{l1 l2:List Int}(p:l1.Perm l2):l1.sum=l2.sum:=by
 induction p with
 | nil=>rfl
 | cons x _ ih=>simp [ih]
 | swap x y l=>simp;lia
 | trans _ _ h1 h2=>rw[h1,h2]
section
variable{α:Type}[DecidableEq α]
noncomputable def G6(l:List α)(x:α):List α:=if x∈l then l else l++[x]
noncomputable def C4(l:List α):List α:=l.foldl G6 []
theorem T9(l:List α)(x:α):C4 (l++[x])=G6 (C4 l) x:=by unfold C4;rw[List.foldl_append];rfl
theorem A5q{l:List α}{x y:α}:y∈G6 l x↔y∈l∨y=x:=by
 unfold G6
 split
 ·rename_i h
  exact⟨.inl,fun q=>q.elim id fun e=>e▸h⟩
 ·simp
theorem A2T{l:List α}:∀ {acc:List α} {y:α},y∈l.foldl G6 acc↔y∈acc∨y∈l:=by
 induction l with
 | nil=>exact fun {acc y}=>⟨.inl,fun h=>h.elim id fun h=>nomatch h⟩
 | cons x l ih=>intro acc y;rw[List.foldl_cons,ih,A5q,List.mem_cons,or_assoc]
theorem mem_firsts{l:List α}{y:α}:y∈C4 l↔y∈l:=by unfold C4;rw[A2T];simp
end
end
section
noncomputable def code(w:Nat):Nat:=if w % 2=0 then 97+w / 2 else 65+w / 2
noncomputable def sgn(w:Nat):Str:=⟨#[code w]⟩
noncomputable def F9(L:List Nat):Str:=⟨(L.map code).toArray⟩
noncomputable def u5(w:Nat):Nat:=if w % 2=0 then w+1 else w - 1
theorem A7l:∀ w,w<10→Txt.lower (sgn w)=sgn (w - w % 2):=by decide +kernel
theorem A9C:∀ w,w<10→Txt.swapcase (sgn w)=sgn (u5 w):=by decide +kernel
theorem A4E:∀ w,w<10→Txt.islower (sgn w)=(w % 2==0):=by decide +kernel
theorem z6:∀ w,w<10→∀ v,v<10→code w=code v→w=v:=by decide +kernel
theorem A7M:∀ w,w<10→32≤code w∧code w<127:=by decide +kernel
theorem t8{w v:Nat}(hw:w<10)(hv:v<10)(h:sgn w=sgn v):w=v:=z6 w hw v hv (by injection h with h;simpa using h)
theorem L5(L:List Nat):(F9 L).length=L.length:=by show (L.map code).toArray.size=_;simp
theorem A8r(L:List Nat)(w:Nat):F9 L++sgn w=F9 (L++[w]):=by
 show (⟨(L.map code).toArray ++ #[code w]⟩:Str)=⟨((L++[w]).map code).toArray⟩
 simp
theorem A6S(L L':List Nat):F9 L++F9 L'=F9 (L++L'):=by
 show (⟨(L.map code).toArray++(L'.map code).toArray⟩:Str)=⟨((L++L').map code).toArray⟩
 simp
theorem B1S:F9 []=⟨#[]⟩:=rfl
theorem B1U(h:F9 L=⟨#[]⟩):L=[]:=by
 have:=congrArg Str.length h
 rw[L5] at this
 exact List.length_eq_zero_iff.mp this
section
variable(hL:∀ w∈L,w<10)
include hL
theorem A7d:(F9 L).cps.all (fun c=>32≤c&&c<127)=true:=by
 show (L.map code).toArray.all _=true
 rw[List.all_toArray]
 rw[List.all_eq_true]
 intro c hc
 obtain⟨w,hw,rfl⟩:=List.mem_map.mp hc
 have:=A7M w (hL w hw)
 simp [this.1,this.2]
theorem B1T{w:Nat}(hw:w<10):code w∈(F9 L).cps.toList↔w∈L:=by
 show code w∈(L.map code).toArray.toList↔_
 simp only[List.mem_map]
 exact⟨fun ⟨v,hv,e⟩=>z6 v (hL v hv) w hw e▸hv,fun h=>⟨w,h,rfl⟩⟩
end
end
section
open PySem.Builtin.Str PySem.StrLaws
theorem A3M{x y:Str}(h:x.cps.toList=y.cps.toList):x=y:=by
 cases x;cases y;simp at h;rw[h]
theorem g8(L:List Nat):(F9 L).cps.toList=L.map code:=rfl
section
variable(hL:∀ w∈L,w<10)(nd:L.Nodup){w:Nat}(hm:w∈L)
include hL nd hm
theorem A7N{i:Nat}:(L.map code)[i]?=some (code w)↔i=L.idxOf w:=by
 have hlt:L.idxOf w<L.length:=List.idxOf_lt_length_iff.mpr hm
 have hg:L[L.idxOf w]=w:=List.getElem_idxOf hlt
 constructor
 ·intro h
  rw[List.getElem?_map] at h
  obtain⟨v,hv,e⟩:=Option.map_eq_some_iff.mp h
  obtain⟨hi,hv'⟩:=List.getElem?_eq_some_iff.mp hv
  have:v=w:=z6 v (hL v (hv'▸List.getElem_mem hi)) w (hL w hm) e
  subst this
  exact(List.getElem_inj (h₀:=hi) (h₁:=hlt) nd).mp (hv'.trans hg.symm)
 ·rintro rfl
  rw[List.getElem?_map,List.getElem?_eq_getElem hlt,hg];rfl
theorem A6o{i:Nat}(h:i∈occurrences (F9 L) (sgn w) 0 (F9 L).length k):i=L.idxOf w:=
 (A7N hL nd hm).mp ((subAt_one (F9 L) (code w) i).mp (occ_spec (F9 L) (sgn w) 0 (F9 L).length k i h))
theorem A7e:∃ rest,occurrences (F9 L) (sgn w) 0 (F9 L).length 1=L.idxOf w::rest:=by
 have h:=found_one (F9 L) (code w)
 rw[decide_eq_true ((B1T hL (hL w hm)).mpr hm)] at h
 have hs:=fun i=>A6o hL nd hm (k:=1) (i:=i)
 show ∃ rest,occurrences (F9 L) ⟨#[code w]⟩ 0 (F9 L).length 1=_
 change ∀ i,i∈occurrences (F9 L) ⟨#[code w]⟩ 0 (F9 L).length 1→_ at hs
 cases e:occurrences (F9 L) ⟨#[code w]⟩ 0 (F9 L).length 1 with
 | nil=>rw[e] at h;cases h
 | cons i r=>rw[e] at hs;exact⟨r,by rw[hs i List.mem_cons_self]⟩
omit hL nd hm in
theorem A23:L.erase w=L.take (L.idxOf w)++L.drop (L.idxOf w+1):=by
 rw[List.erase_eq_eraseIdx_of_idxOf rfl,List.eraseIdx_eq_take_drop_succ]
theorem B11:occurrences (F9 L) (sgn w) 0 (F9 L).length ((F9 L).length+1)=[L.idxOf w]:=by
 obtain⟨f,hc,hf⟩:=occ_tight (F9 L) (sgn w) (Nat.le_refl 1)
 have hs:=fun i=>A6o hL nd hm (k:=(F9 L).length+1) (i:=i)
 have hat:At (F9 L) (sgn w) (F9 L).length (L.idxOf w):=(subAt_one (F9 L) (code w) _).mpr ((A7N hL nd hm).mpr rfl)
 generalize occurrences (F9 L) (sgn w) 0 (F9 L).length ((F9 L).length+1)=l at hc hs
 cases l with
 | nil=>
  have e:f=0:=hc
  exact absurd hat (hf _ (by lia))
 | cons i r=>
  have ei:=hs i List.mem_cons_self
  cases r with
  | nil=>rw[ei]
  | cons j r=>
   have ej:=hs j (List.mem_cons_of_mem _ List.mem_cons_self)
   have h2:i+1≤j:=hc.2.2.2.1
   lia
theorem A4A:Txt.replace (F9 L) (sgn w) ⟨#[]⟩=F9 (L.erase w):=by
 unfold Txt.replace
 rw[B11 hL nd hm,A23]
 rw[if_neg (show ¬ ((([L.idxOf w]:List Nat).isEmpty||((sgn w).length==0&&(⟨#[]⟩:Str).length==0))=true) from (by intro h;cases h))]
 refine A3M ?_
 rw[partsBetween_eq]
 show (glued ⟨#[]⟩ [strSub (F9 L) 0 (L.idxOf w),strSub (F9 L) (L.idxOf w+1) (F9 L).length]).cps.toList=_
 show ((strSub (F9 L) 0 (L.idxOf w)).cps ++ #[]++(strSub (F9 L) (L.idxOf w+1) (F9 L).length).cps).toList=_
 simp only[Array.append_empty,Array.toList_append,strSub_toList,g8,L5,List.map_append,List.map_take,List.map_drop,List.drop_zero,Nat.sub_zero]
 rw[List.take_of_length_le (i:=L.length - (L.idxOf w+1)) (by simp)]
end
theorem A9A(L:List Nat){i:Nat}(h:i≤L.length):Txt.slice (F9 L) none (some (i:Int))=F9 (L.take i):=by
 rw[beq_iff_eq.mp (slice_closes_to (x:=F9 L) (j:=(i:Int)) ⟨by lia,by rw[g8];simp;lia⟩)]
 refine A3M ?_
 simp only[g8,List.map_take]
 simp
theorem A5X(L:List Nat){i:Nat}(h:i≤L.length):Txt.slice (F9 L) (some (i:Int)) none=F9 (L.drop i):=by
 rw[beq_iff_eq.mp (slice_closes_from (x:=F9 L) (i:=(i:Int)) ⟨by lia,by rw[g8];simp;lia⟩)]
 refine A3M ?_
 simp only[g8,List.map_drop,List.length_map,Int.toNat_natCast]
 rw[List.take_of_length_le (by simp)]
end
section
section
variable{a c d:D}{p q:DB}{x:T}{v u:V}{i:Nat}
theorem A4l{t:T→St→Option St}{b:DS}(P:List T→St→Prop)(all:List T)(hs:∀ done x rest σ,all=done++x::rest→P done σ→∃ σ1 σ2,t x σ=some σ1∧b σ1=some (.next,σ2)∧P (done++[x]) σ2)(rest:List T):∀ (done:List T) (σ:St),all=done++rest→P done σ→∃ σ',M9 t b rest σ=some (.next,σ')∧P all σ':=by
 induction rest with
 | nil=>exact fun done σ e h=>⟨σ,rfl,by rw[e,List.append_nil];exact h⟩
 | cons x rest ih=>
  intro done σ e h
  obtain⟨σ1,σ2,h1,h2,h3⟩:=hs done x rest σ e h
  obtain⟨σ',h4,h5⟩:=ih (done++[x]) σ2 (by rw[e,List.append_assoc];rfl) h3
  exact⟨σ',B4 h1 (B4 h2 h4),h5⟩
theorem z0{α:Type}{p:DB}{d:D}{n:Nat}{h:α→T}{f:α→Bool}{g:α→T}(l0:List (Option V))(o:List AO)(hn:n=l0.length)(xs:List α):∀ (ys:List T) (w:Option V),(∀ x∈xs,p ⟨l0++[some (.t (h x))],o⟩=some (f x,⟨l0++[some (.t (h x))],o⟩)∧(f x=true→d ⟨l0++[some (.t (h x))],o⟩=some (.t (g x),⟨l0++[some (.t (h x))],o⟩)))→
   ∃ w',A2F p d n (xs.map h) ⟨l0++[w],o⟩ ys=some (ys++(xs.filter f).map g,⟨l0++[w'],o⟩):=by
 subst hn
 induction xs with
 | nil=>exact fun ys w _=>⟨w,congrArg (fun z=>some (z,(⟨l0++[w],o⟩:St))) (List.append_nil ys).symm⟩
 | cons x xs ih=>
  intro ys w hx
  obtain⟨h1,h2⟩:=hx x List.mem_cons_self
  have hs:(⟨(l0++[w]).set l0.length (some (V.t (h x))),o⟩:St)=⟨l0++[some (.t (h x))],o⟩:=by rw[List.set_append_right _ _ (Nat.le_refl _),Nat.sub_self];rfl
  rw[← hs] at h1
  rw[List.filter_cons]
  cases q:f x with
  | true=>
   obtain⟨w',ih⟩:=ih (ys++[g x]) (some (.t (h x))) fun y hy=>hx y (.tail _ hy)
   exact⟨w',B4 h1 ((if_pos q).trans (B4 ((congrArg d hs).trans (h2 q)) (B4 rfl (ih.trans (by rw[List.append_assoc];rfl)))))⟩
  | false=>
   obtain⟨w',ih⟩:=ih ys (some (.t (h x))) fun y hy=>hx y (.tail _ hy)
   exact⟨w',B4 h1 ((if_neg (by rw[q];exact Bool.noConfusion)).trans ((congrArg (fun z=>A2F p d l0.length (xs.map h) z ys) hs).trans ih))⟩
theorem O8{α:Type}{itf:T→Option (List T)}{p:DB}{d:D}{xs:List α}{h:α→T}{f:α→Bool}{g:α→T}(h1:a σ=some (.t y,σ))(hi:itf (A1m y)=some (xs.map h))(hn:xs.length<1000)(hx:∀ x∈xs,p ⟨σ.loc++[some (.t (h x))],σ.objs⟩=some (f x,⟨σ.loc++[some (.t (h x))],σ.objs⟩)∧(f x=true→d ⟨σ.loc++[some (.t (h x))],σ.objs⟩=some (.t (g x),⟨σ.loc++[some (.t (h x))],σ.objs⟩))):
  E3 1 itf a p d σ=some (.t (.lst ((xs.filter f).map g)),σ):=by
 obtain⟨w',e⟩:=z0 σ.loc σ.objs rfl xs [] none hx
 exact B4 h1 (B4 rfl (B4 hi (B4 e (G4 (by rw[List.nil_append,List.length_map];exact Nat.lt_of_le_of_lt (List.length_filter_le _ _) hn) (B4 (x:=⟨(σ.loc++[w']).take σ.loc.length,σ.objs⟩) rfl (by rw[List.take_left' rfl];rfl))))))
theorem A7C{α:Type}{itf:T→Option (List T)}{p:DB}{d:D}{xs:List α}{h:α→T}{f:α→Bool}{g:α→T}(h1:a σ=some (.t y,σ))(hi:itf (A1m y)=some (xs.map h))(hn:xs.length<1000)(hx:∀ x∈xs,p ⟨σ.loc++[none]++[some (.t (h x))],σ.objs⟩=some (f x,⟨σ.loc++[none]++[some (.t (h x))],σ.objs⟩)∧(f x=true→d ⟨σ.loc++[none]++[some (.t (h x))],σ.objs⟩=some (.t (g x),⟨σ.loc++[none]++[some (.t (h x))],σ.objs⟩))):
  E3 2 itf a p d σ=some (.t (.lst ((xs.filter f).map g)),σ):=by
 obtain⟨w',e⟩:=z0 (n:=σ.loc.length+1) (σ.loc++[none]) σ.objs (by simp) xs [] none hx
 rw[List.append_assoc] at e
 exact B4 h1 (B4 rfl (B4 hi (B4 e (G4 (by rw[List.nil_append,List.length_map];exact Nat.lt_of_le_of_lt (List.length_filter_le _ _) hn) (B4 (x:=⟨(σ.loc++([none]++[w'])).take σ.loc.length,σ.objs⟩) (by rw[List.append_assoc];rfl) (by rw[List.take_left' rfl];rfl))))))
end
theorem I6{t:T→St→Option St}{b:DS}{x:T}{xs:List T}{r:Option (Fl×St)}(h1:t x σ=some σ1)(h2:b σ1=some (.next,σ2))(h3:M9 t b xs σ2=r):M9 t b (x::xs) σ=r:=B4 h1 (B4 h2 h3)
theorem B2e{t:T→St→Option St}{b:DS}{x:T}{xs:List T}{v:V}(h1:t x σ=some σ1)(h2:b σ1=some (.ret v,σ2)):M9 t b (x::xs) σ=some (.ret v,σ2):=B4 h1 (B4 h2 rfl)
theorem B5w{p:DB}{b:DS}{n:Nat}{r:Option (Fl×St)}(h1:p σ=some (true,σ1))(h2:b σ1=some (.next,σ2))(h3:dWh p b n σ2=r):dWh p b (n+1) σ=r:=B4 h1 (B4 h2 h3)
theorem B3S{p:DB}{b:DS}{n:Nat}(h1:p σ=some (false,σ1)):dWh p b (n+1) σ=some (.next,σ1):=B4 h1 rfl
theorem G2{o:AO}:(objs++[o])[objs.length]?=some o:=by rw[List.getElem?_append_right (Nat.le_refl _),Nat.sub_self];rfl
theorem K5{o:AO}:(objs++[o]).set objs.length o'=objs++[o']:=by rw[List.set_append_right _ _ (Nat.le_refl _),Nat.sub_self];rfl
theorem W9{x:T}{vs:List V}{xs:List T}(h:toTs σ vs=some (xs,σ1)):toTs σ (.t x::vs)=some (x::xs,σ1):=(B4 h rfl:(toTs σ vs).bind (fun q=>some (x::q.1,q.2))=_)
theorem A8X{v:V}{x:T}(h:toT σ v=some (x,σ1)):toTs σ [v]=some ([x],σ1):=(B4 h rfl:(toT σ v).bind (fun p=>some ([p.1],p.2))=_)
theorem B4d{v:V}{x:T}{vs:List V}{xs:List T}(h:toT σ v=some (x,σ1))(h2:toTs σ1 vs=some (xs,σ2)):toTs σ (v::vs)=some (x::xs,σ2):=(B4 h (B4 h2 rfl):(toT σ v).bind (fun p=>(toTs p.2 vs).bind fun q=>some (p.1::q.1,q.2))=_)
theorem A3Z{c:Addr}{n:Str}{w:V}:A71 c n (.obj c n w)=some w:=by
 show (if c=c∧n=n then some w else none)=_
 exact if_pos ⟨rfl,rfl⟩
theorem A4f{c:Addr}{n:Str}{w:V}:A0s c n (.obj c n w)=true:=congrArg Option.isSome A3Z
theorem A1A{i:Nat}{xs:List T}(h:σ.objs[i]?=some (.lst xs)):objL σ (.ref i)=true:=congrArg (fun o=>(o.bind aoL).isSome) h
theorem i8{i:Nat}{xs:List T}(h:σ.objs[i]?=some (.lst xs)):Q9 σ i=some xs:=B4 h rfl
theorem A11(k:Nat):2 * k % 2=0:=Nat.mul_mod_right 2 k
theorem A3X(k:Nat):(2 * k+1) % 2=1:=(Nat.mul_add_mod 2 k 1)
theorem A3r(k:Nat):2 * k / 2=k:=Nat.mul_div_cancel_left k (by decide)
theorem A3Y(k:Nat):(2 * k+1) / 2=k:=(Nat.mul_add_div (by decide) k 1)
theorem B0X(w:Nat):∃ k,w=2 * k∨w=2 * k+1:=⟨w / 2,(Nat.mod_two_eq_zero_or_one w).imp (fun h=>(h▸Nat.div_add_mod w 2).symm) fun h=>(h▸Nat.div_add_mod w 2).symm⟩
section
variable{n:Nat}(hl:σ.loc.length=n)
include hl
theorem U9{i:Nat}{u:V}(hi:i<n)(h:σ.loc[i]?=some (some u))(x:List (Option V)):A0 i ⟨σ.loc++x,σ.objs⟩=some (u,⟨σ.loc++x,σ.objs⟩):=B4 (by rw[List.getElem?_append_left (hl▸hi)];exact h) rfl
theorem t7{x:List (Option V)}{u:V}(k:Nat)(h:x[k]?=some (some u)):A0 (n+k) ⟨σ.loc++x,σ.objs⟩=some (u,⟨σ.loc++x,σ.objs⟩):=B4 (by rw[List.getElem?_append_right (hl▸Nat.le_add_right n k),hl,Nat.add_sub_cancel_left];exact h) rfl
end
theorem B5m{i n:Nat}(h:i<n)(hn:n≤1000):(i:Int)<2 ^ 60:=Int.lt_trans (Int.ofNat_lt.mpr (Nat.lt_of_lt_of_le h hn)) (by decide)
theorem A7Q{α:Type}{f:Nat→Option α}{i:Nat}(h:i<1000):atI f i=f i:=if_pos ⟨Int.natCast_nonneg _,B5m h (Nat.le_refl _)⟩
theorem fItem_l{xs:List T}{i:Int}:fItem (.lst xs) (.int i)=atI (xs[·]?) i:=rfl
theorem fItem_s{s:Str}{i:Int}:fItem (.str s) (.int i)=atI (fun i=>(s.cps[i]?).map fun c=>.str ⟨#[c]⟩) i:=rfl
theorem I0{xs:List T}{i:Nat}{x:T}(h:xs[i]?=some x)(hi:i<1000):fItem (.lst xs) (.int i)=some x:=fItem_l.trans ((A7Q hi).trans h)
theorem A82{xs:List T}{i:Int}{x:T}(h:0≤i∧i<2 ^ 60∧i.toNat<xs.length):O7 (.lst xs) (.int i) x=some (.lst (xs.set i.toNat x)):=if_pos h
theorem A1Q{xs:List T}{i:Nat}{x:T}(h:i<1000)(h2:i<xs.length):O7 (.lst xs) (.int i) x=some (.lst (xs.set i x)):=A82 ⟨Int.natCast_nonneg _,B5m h (Nat.le_refl _),h2⟩
end
section
set_option exponentiation.threshold 5000
noncomputable def dgn(n:Nat)(x k:Nat):List Nat:=Nat.rec (fun _=>[]) (fun _ ih x=>x % 2 ^ n::ih (x / 2 ^ n)) k x
noncomputable def k7(n:Nat)(ds:List Nat):Nat:=ds.foldr (fun d v=>d+2 ^ n * v) 0
noncomputable def J0(ds:List Nat):List T:=ds.map fun (d:Nat)=>.int d
theorem A7I{n:Nat}(k:Nat):∀ x,(dgn n x k).length=k:=by
 induction k with
 | zero=>exact fun _=>rfl
 | succ k ih=>exact fun x=>congrArg (·+1) (ih (x / 2 ^ n))
theorem B1R{n:Nat}(k:Nat):∀ x,k7 n (dgn n x k)=x % 2 ^ (n * k):=by
 induction k with
 | zero=>exact fun x=>(Nat.mod_one x).symm
 | succ k ih=>
  intro x
  show x % 2 ^ n+2 ^ n * k7 n (dgn n (x / 2 ^ n) k)=_
  rw[ih,Nat.mul_succ,Nat.add_comm (n * k) n,Nat.pow_add,Nat.mod_mul]
theorem B4n{n:Nat}(k:Nat):∀ x d,d∈dgn n x k→d<2 ^ n:=by
 induction k with
 | zero=>exact fun x d h=>nomatch h
 | succ k ih=>
  intro x d h
  rcases List.mem_cons.mp h with rfl | h
  ·exact Nat.mod_lt _ (Nat.two_pow_pos _)
  ·exact ih _ d h
theorem B2o{n:Nat}(a b:Nat):∀ x,dgn n (x % 2 ^ (a * n)) a++dgn n (x / 2 ^ (a * n)) b=dgn n x (a+b):=by
 induction a with
 | zero=>intro x;rw[Nat.zero_mul,Nat.pow_zero,Nat.div_one,Nat.zero_add];rfl
 | succ a ih=>
  intro x
  rw[Nat.succ_add]
  show (x % 2 ^ ((a+1) * n) % 2 ^ n)::(dgn n (x % 2 ^ ((a+1) * n) / 2 ^ n) a++dgn n (x / 2 ^ ((a+1) * n)) b)=(x % 2 ^ n)::dgn n (x / 2 ^ n) (a+b)
  rw[Nat.succ_mul,Nat.add_comm,Nat.pow_add,Nat.mod_mul_right_mod,Nat.mod_mul_right_div_self,← Nat.div_div_eq_div_mul,ih]
theorem A5Q{n:Nat}(a b:List Nat):k7 n (a++b)=k7 n a+k7 n b * 2 ^ (a.length * n):=by
 induction a with
 | nil=>rw[List.length_nil,Nat.zero_mul,Nat.pow_zero,Nat.mul_one];exact(Nat.zero_add _).symm
 | cons d a ih=>
  show d+2 ^ n * k7 n (a++b)=d+2 ^ n * k7 n a+_
  rw[ih,Nat.mul_add,Nat.add_assoc,List.length_cons,Nat.succ_mul,Nat.add_comm (a.length * n),Nat.pow_add,Nat.mul_left_comm]
theorem A0p(a b:List Nat):J0 (a++b)=J0 a++J0 b:=List.map_append
theorem M6(a:List Nat):(J0 a).length=a.length:=List.length_map _
theorem B1M(x s:Nat):Builtin.bitXor (x:Int) ((x / 2 ^ s * 2 ^ s:Nat):Int)=((x % 2 ^ s:Nat):Int):=by
 have hi:x &&& (x / 2 ^ s * 2 ^ s)=x / 2 ^ s * 2 ^ s:=by
  apply Nat.eq_of_testBit_eq
  intro i
  rw[Nat.testBit_and,← Nat.shiftRight_eq_div_pow,← Nat.shiftLeft_eq,Nat.testBit_shiftLeft]
  by_cases h:s≤i
  ·rw[Nat.testBit_shiftRight,Nat.add_sub_cancel' h,Bool.and_left_comm,Bool.and_self]
  ·rw[decide_eq_false h,Bool.false_and,Bool.and_false]
 rw[bitXor_and,bitAnd_pp (Int.natCast_nonneg _) (Int.natCast_nonneg _),Int.toNat_natCast,Int.toNat_natCast,hi]
 have:=Nat.div_add_mod x (2 ^ s)
 rw[Nat.mul_comm] at this
 lia
theorem i3{a:Nat}(h:a<2 ^ 60):I9 (a:Int)=true:=decide_eq_true h
theorem x9(a b:Nat):fAdd (.int a) (.int b)=some (.int (a+b:Nat)):=rfl
theorem A9k(a b:Nat):fSub (.int (a+b:Nat)) (.int a)=some (.int b):=congrArg (fun z=>some (T.int z)) (by rw[Int.natCast_add,Int.add_comm,Int.add_sub_cancel])
theorem B3L{a b:Nat}(h:b<2 ^ 60):fMul (.int a) (.int b)=some (.int (a * b:Nat)):=by
 exact G4 (by rw[i3 h,Bool.or_true]) rfl
theorem A6T(s:Nat):(2:Int) ^ s=((2 ^ s:Nat):Int):=(Int.natCast_pow 2 s).symm
theorem A9l(a s:Nat):fShr (.int a) (.int s)=some (.int (a / 2 ^ s:Nat)):=by
 refine(if_pos (Int.natCast_nonneg s):(if (0:Int)≤s then some (T.int ((a:Int).fdiv (2 ^ (s:Int).toNat))) else none)=_).trans (congrArg (fun z=>some (T.int z)) ?_)
 rw[Int.toNat_natCast,A6T s,Int.fdiv_eq_ediv_of_nonneg _ (Int.natCast_nonneg _)]
 rfl
theorem A9m{a s:Nat}(h:a<2 ^ 60)(hs:s<1000):fShl (.int a) (.int s)=some (.int (a * 2 ^ s:Nat)):=by
 refine G4 ⟨Int.natCast_nonneg s,Int.ofNat_lt.mpr hs,i3 h⟩ (congrArg (fun z=>some (T.int z)) ?_)
 rw[Int.toNat_natCast,A6T s]
 rfl
theorem B5h(x s:Nat):fXor (.int x) (.int (x / 2 ^ s * 2 ^ s:Nat))=some (.int (x % 2 ^ s:Nat)):=congrArg (fun z=>some (T.int z)) (B1M x s)
theorem B3M{a b:Nat}(h:a=b):fEq (.int a) (.int b)=some (.bool true):=congrArg (fun z=>some (T.bool z)) (beq_iff_eq.mpr (congrArg Int.ofNat h))
theorem B3N{a b:Nat}(h:a≠b):fEq (.int a) (.int b)=some (.bool false):=congrArg (fun z=>some (T.bool z)) (beq_eq_false_iff_ne.mpr fun e=>h (Int.ofNat.inj e))
theorem B14{p q:List T}{x:T}(h:p.length<1000):O7 (.lst (p++y::q)) (.int p.length) x=some (.lst (p++x::q)):=by
 refine(A1Q h (by rw[List.length_append];exact Nat.lt_add_of_pos_right (Nat.succ_pos _))).trans ?_
 rw[List.set_append_right _ _ (Nat.le_refl _),Nat.sub_self]
 rfl
theorem B4J{p q:List T}(h:p.length<1000):fItem (.lst (p++y::q)) (.int p.length)=some y:=by
 refine I0 ?_ h
 rw[List.getElem?_append_right (Nat.le_refl _),Nat.sub_self]
 rfl
theorem q9{xs:List T}(h:σ.objs[j]?=some (.lst xs)):view σ (.ref j)=some (.lst xs):=B4 h rfl
theorem A42{i:Nat}{v:V}(h:σ.loc[i]?=some (some v)):A0 i σ=some (v,σ):=B4 h rfl
theorem B4g{a c:D}{p q r:V}{t kx:T}{i:Nat}{o:AO}(h1:a σ=some (p,σ1))(h2:b σ1=some (q,σ2))(h3:c σ2=some (r,σ3))(h4:toT σ3 p=some (t,σ4))(h5:u7 q=some i)(h6:view σ4 r=some kx)(h7:σ4.objs[i]?=some o)(h8:O7 o kx t=some o'):
  O9 a b c σ=some (.next,⟨σ4.loc,σ4.objs.set i o'⟩):=B4 h1 (B4 h2 (B4 h3 (B4 h4 (B4 h5 (B4 h6 (B4 h7 (B4 h8 rfl)))))))
section
variable{lo vs:List (Option V)}{v:V}{i:Nat}
theorem E1(h:vs[i]?=some (some v)):A0 (lo.length+i) ⟨lo++vs,objs⟩=some (v,⟨lo++vs,objs⟩):=A42 ((B2X rfl).trans h)
theorem A7A(h:lo[i]?=some (some v)):A0 i ⟨lo++vs,objs⟩=some (v,⟨lo++vs,objs⟩):=A42 (P6 h)
theorem A0U{a:D}(h:a ⟨lo++vs,objs⟩=some (v,⟨lo++vs,objs⟩)):B9 (lo.length+i) a ⟨lo++vs,objs⟩=some (.next,⟨lo++vs.set i (some v),objs⟩):=(C3 h).trans (by rw[B1r rfl])
theorem A3v{mk:List V→Option (List (Option V))}{d:Nat→DS}{vs':List (Option V)}(hm:mk us=some vs)(hd:d lo.length ⟨lo++vs,objs⟩=some (fl,⟨lo++vs',objs'⟩))(hr:B5N fl=some v):x8 mk d us ⟨lo,objs⟩=some (v,⟨lo,objs'⟩):=
 B4 hm (B4 hd (B4 hr (by rw[List.take_left' rfl])))
theorem k3{sp:SpecN}{l:DL}{r:Option (V×St)}(h:l σ=some (us,σ1))(h2:sp us σ1=r):A0x sp l σ=r:=B4 h h2
theorem A53{a:D}(h:a σ=some (.t .none,σ1)):A44 a σ=some (.next,σ1):=B4 h rfl
end
theorem B0Q{d w:Nat}(h1:1≤w)(hw:w≠1)(h:w≤2 ^ (d+1)):∃ a b,w=a+b∧1≤a∧1≤b∧a≤2 ^ d∧b≤2 ^ d∧∀ L,(L+(L+w)) / 2 ^ 1=L+a:=by
 rw[Nat.pow_succ,Nat.mul_comm] at h
 have e:∀ L k:Nat,L+(L+2 * k)=2 * (L+k):=fun L k=>by rw[← Nat.add_assoc,← Nat.two_mul,← Nat.mul_add]
 obtain⟨k,rfl | rfl⟩:=B0X w
 ·have hk:1≤k:=Nat.pos_of_ne_zero (by rintro rfl;exact absurd h1 (by decide))
  have h2:=Nat.le_of_mul_le_mul_left h (by decide)
  exact⟨k,k,Nat.two_mul k,hk,hk,h2,h2,fun L=>by rw[e];exact A3r _⟩
 ·have hk:1≤k:=Nat.pos_of_ne_zero (by rintro rfl;exact hw rfl)
  have h2:k+1≤2 ^ d:=Nat.lt_of_mul_lt_mul_left h
  exact⟨k,k+1,by rw[Nat.two_mul,Nat.add_assoc],hk,Nat.succ_pos k,Nat.le_of_succ_le h2,h2,fun L=>by rw[show L+(L+(2 * k+1))=2 * (L+k)+1 from congrArg (·+1) (e L k)];exact A3Y _⟩
theorem B1d{n a b w x:Nat}(e:w=a+b)(hx:x<2 ^ (n * w)):x % 2 ^ (a * n)<2 ^ (n * a)∧x / 2 ^ (a * n)<2 ^ (n * b):=by
 rw[Nat.mul_comm a]
 refine⟨Nat.mod_lt _ (Nat.two_pow_pos _),?_⟩
 rw[Nat.div_lt_iff_lt_mul (Nat.two_pow_pos _),← Nat.pow_add,← Nat.mul_add,Nat.add_comm b,← e]
 exact hx
theorem A6Y{d x:Nat}{lo:List (Option V)}{p q:List T}(hj:lo[2]?=some (some (.ref j)))(hl:p.length<1000)(ho:objs[j]?=some (.lst (p++y::q))):
  spI (d+1) [.t (.int x),.t (.int p.length),.t (.int (p.length+1:Nat))] ⟨lo,objs⟩=some (.t .none,⟨lo,objs.set j (.lst (p++.int x::q))⟩):=
 A3v rfl (U3 (H8 (I2 (C5 (C5 (E1 rfl) rfl rfl rfl (x9 _ 1)) (E1 rfl) rfl rfl (B3M rfl)) rfl rfl) (B0 (B4g (E1 rfl) (A7A hj) (E1 rfl) rfl rfl rfl ho (B14 hl)) (K0 rfl)))) rfl
theorem B3v{n:Nat}(h8:n≤8)(d:Nat):∀ (lo:List (Option V)) (w x:Nat) (p z q:List T) (objs:List AO),lo[1]?=some (some (.t (.int n)))→lo[2]?=some (some (.ref j))→1≤w→w≤2 ^ d→z.length=w→p.length+w<100→x<2 ^ (n * w)→x<2 ^ 60→objs[j]?=some (.lst (p++(z++q)))→
  spI (d+1) [.t (.int x),.t (.int p.length),.t (.int (p.length+w:Nat))] ⟨lo,objs⟩=some (.t .none,⟨lo,objs.set j (.lst (p++(J0 (dgn n x w)++q)))⟩):=by
 induction d with
 | zero=>
  intro lo w x p z q objs hn hj h1 h2 hz hl hx hx2 ho
  cases Nat.le_antisymm h2 h1
  match z,hz with
  | [y],_=>exact(A6Y (d:=_) hj (Nat.lt_trans (Nat.lt_of_succ_lt hl) (by decide)) ho).trans (congrArg (fun u:Nat=>some (V.t .none,(⟨lo,objs.set j (.lst (p++.int u::q))⟩:St))) (Nat.mod_eq_of_lt (Nat.mul_one n▸hx)).symm)
 | succ d ih=>
  intro lo w x p z q objs hn hj h1 h2 hz hl hx hx2 ho
  by_cases hw:w=1
  ·subst hw
   match z,hz with
   | [y],_=>exact(A6Y (d:=_) hj (Nat.lt_trans (Nat.lt_of_succ_lt hl) (by decide)) ho).trans (congrArg (fun u:Nat=>some (V.t .none,(⟨lo,objs.set j (.lst (p++.int u::q))⟩:St))) (Nat.mod_eq_of_lt (Nat.mul_one n▸hx)).symm)
  ·obtain⟨a,b,e,ha,hb,ha2,hb2,hm⟩:=B0Q h1 hw h2
   obtain⟨t1,t2⟩:=B1d e hx
   have hlt:=fun u:Nat => @Nat.lt_of_le_of_lt u x (2 ^ 60)
   subst e
   have hp:(p++J0 (dgn n (x % 2 ^ (a * n)) a)).length=p.length+a:=by rw[List.length_append,M6,A7I]
   have hab:p.length+(a+b)=p.length+a+b:=(Nat.add_assoc _ _ _).symm
   have e1:=fun lo hn hj=>ih lo a (x % 2 ^ (a * n)) p (z.take a) (z.drop a++q) objs hn hj ha ha2 (by rw[List.length_take,hz,Nat.min_eq_left (Nat.le_add_right a b)]) (Nat.lt_of_le_of_lt (by rw[hab];exact Nat.le_add_right _ _) hl) t1 (hlt _ (Nat.mod_le _ _) hx2) (by rw[← List.append_assoc (z.take a),List.take_append_drop];exact ho)
   have e2:=fun lo hn hj=>ih lo b (x / 2 ^ (a * n)) (p++J0 (dgn n (x % 2 ^ (a * n)) a)) (z.drop a) q (objs.set j (.lst (p++(J0 (dgn n (x % 2 ^ (a * n)) a)++(z.drop a++q))))) hn hj hb hb2 (by rw[List.length_drop,hz,Nat.add_sub_cancel_left]) (by rw[hp,← hab];exact hl) t2 (hlt _ (Nat.div_le_self _ _) hx2) (by rw[List.append_assoc];exact M8 ho)
   rw[hp,← hab] at e2
   have hs:a * n<1000:=Nat.lt_of_le_of_lt (Nat.mul_le_mul (Nat.le_trans (Nat.le_trans (Nat.le_add_right a b) (Nat.le_add_left _ p.length)) (Nat.le_of_lt hl)) h8) (by decide)
   have hfin:(objs.set j (.lst (p++(J0 (dgn n (x % 2 ^ (a * n)) a)++(z.drop a++q))))).set j (.lst (p++J0 (dgn n (x % 2 ^ (a * n)) a)++(J0 (dgn n (x / 2 ^ (a * n)) b)++q)))=objs.set j (.lst (p++(J0 (dgn n x (a+b))++q))):=by
    rw[List.set_set,← B2o,A0p,List.append_assoc,List.append_assoc]
   rw[← hfin]
   refine A3v (fl:=.next) (vs':=[some (.t (.int x)),some (.t (.int p.length)),some (.t (.int (p.length+(a+b):Nat))),some (.t (.int (p.length+a:Nat))),some (.t (.int (a * n:Nat))),some (.t (.int (x / 2 ^ (a * n):Nat))),some (.t (.int (x % 2 ^ (a * n):Nat)))]) rfl (B0 (H8 (I2 (C5 (C5 (E1 rfl) rfl rfl rfl (x9 _ 1)) (E1 rfl) rfl rfl (B3N fun q=>hw (Nat.add_left_cancel q).symm)) rfl rfl) rfl) ?_) rfl
   refine B0 (A0U (C5 (C5 (E1 rfl) (E1 rfl) rfl rfl (x9 _ _)) rfl rfl rfl ((A9l _ 1).trans (congrArg (fun z:Nat=>some (T.int z)) (hm _))))) ?_
   refine B0 (A0U (C5 (C5 (E1 rfl) (E1 rfl) rfl rfl (A9k _ a)) (A7A hn) rfl rfl (B3L (Nat.lt_of_le_of_lt h8 (by decide))))) ?_
   refine B0 (A0U (C5 (E1 rfl) (E1 rfl) rfl rfl (A9l x _))) ?_
   refine B0 (A0U (C5 (E1 rfl) (C5 (E1 rfl) (E1 rfl) rfl rfl (A9m (hlt _ (Nat.div_le_self _ _) hx2) hs)) rfl rfl (B5h x _))) ?_
   refine B0 (A53 (k3 (A4 (E1 rfl) (A4 (E1 rfl) (A4 (E1 rfl) B8))) (e1 _ (P6 hn) (P6 hj)))) ?_
   exact A53 (k3 (A4 (E1 rfl) (A4 (E1 rfl) (A4 (E1 rfl) B8))) (e2 _ (P6 hn) (P6 hj)))
noncomputable def A05(a n:Nat):Nat:=(Builtin.Int.intBits (a:Int)+(n - 1)) / n
theorem A7G{a n:Nat}(h:a<2 ^ 40)(h8:n≤8):A05 a n≤47:=
 Nat.le_trans (Nat.div_le_self _ _) (Nat.add_le_add (intBits_le_iff.mpr (by rw[Int.natAbs_natCast];exact h):Builtin.Int.intBits (a:Int)≤40) (Nat.sub_le_sub_right h8 1))
theorem A2H{a n:Nat}(hn:1≤n):a<2 ^ (n * A05 a n):=by
 have h:Builtin.Int.intBits (a:Int)≤n * A05 a n:=by
  have h1:=Nat.div_add_mod (Builtin.Int.intBits (a:Int)+(n - 1)) n
  have h2:=Nat.mod_lt (Builtin.Int.intBits (a:Int)+(n - 1)) hn
  unfold A05
  lia
 have:=intBits_le_iff.mp h
 rwa [Int.natAbs_natCast] at this
theorem B5j{a b:Nat}(h0:1≤b)(h:b<2 ^ 60):fDiv (.int a) (.int b)=some (.int (a / b:Nat)):=by
 refine G4 ⟨fun e=>Nat.ne_of_gt h0 (Int.ofNat.inj e),i3 h⟩ (congrArg (fun z=>some (T.int z)) ?_)
 rw[Int.fdiv_eq_ediv_of_nonneg _ (Int.natCast_nonneg _)]
 rfl
theorem B50{a:D}{xs:List T}{n:Int}(h1:a σ=some (.t (.lst xs),σ1))(h2:b σ1=some (.t (.int n),σ2))(h3:B4Y (.lst xs) (.int n)=some (.lst ys)):B4s a b σ=some (.ref σ2.objs.length,⟨σ2.loc,σ2.objs++[.lst ys]⟩):=B4 (C5 h1 h2 rfl rfl h3) rfl
theorem B5i(h:k<1000):B4Y (.lst [.int 0]) (.int k)=some (.lst (List.replicate k (.int 0))):=by
 refine G4 ⟨by rw[Int.toNat_natCast];exact(Nat.one_mul k).symm▸h,Int.ofNat_lt.mpr h,Int.lt_of_lt_of_le (by decide) (Int.natCast_nonneg k)⟩ ?_
 rw[Int.toNat_natCast,List.flatten_replicate_singleton]
theorem A9n{xs:List T}(e:xs.length=k)(h:k<1000):fLen (.lst xs)=some (.int k):=by
 subst e
 exact G4 h rfl
theorem B2S{a n:Nat}(objs:List AO)(ha:a<2 ^ 40)(hn:1≤n)(h8:n≤8):B0r ⟨[some (.t (.int a)),some (.t (.int n)),none],objs⟩=some (.ret (.ref objs.length),⟨[some (.t (.int a)),some (.t (.int n)),some (.ref objs.length)],objs++[.lst (J0 (dgn n a (A05 a n)))]⟩):=by
 have hk:=A7G ha h8
 have hs:fSub (.int (Builtin.Int.intBits (a:Int)+n:Nat)) (.int 1)=some (.int (Builtin.Int.intBits (a:Int)+(n - 1):Nat)):=by
  rw[show Builtin.Int.intBits (a:Int)+n=1+(Builtin.Int.intBits (a:Int)+(n - 1)) from by rw[Nat.add_left_comm,Nat.add_sub_cancel' hn]]
  exact A9k 1 _
 refine B0 (C3 (B50 rfl (C5 (C5 (C5 (A2V rfl rfl rfl rfl) rfl rfl rfl (x9 _ n)) rfl rfl rfl hs) rfl rfl rfl (B5j hn (Nat.lt_of_le_of_lt h8 (by decide)))) (B5i (Nat.lt_of_le_of_lt hk (by decide))))) ?_
 show A9 _ _ ⟨[some (.t (.int a)),some (.t (.int n)),some (.ref objs.length)],objs++[.lst (List.replicate (A05 a n) (.int 0))]⟩=_
 by_cases h0:a=0
 ·subst h0
  have hd:A05 0 n=0:=Nat.div_eq_of_lt (by rw[show Builtin.Int.intBits ((0:Nat):Int)=0 from rfl,Nat.zero_add];exact Nat.sub_lt hn Nat.one_pos)
  rw[hd]
  exact B0 (H8 (I2 rfl rfl rfl) rfl) (K0 rfl)
 ·have hw:1≤A05 a n:=Nat.pos_of_ne_zero fun e=>h0 (Nat.lt_one_iff.mp (by have:=A2H (a:=a) hn;rwa [e] at this))
  have hb:((a:Int) != 0)=true:=bne_iff_ne.mpr fun e=>h0 (Int.ofNat.inj e)
  refine B0 (H8 (I2 rfl rfl (congrArg some hb)) (A53 (k3 (A4 rfl (A4 rfl (A4 (U4 rfl (q9 G2) (A9n List.length_replicate (Nat.lt_of_le_of_lt hk (by decide)))) B8))) ((congrArg (fun r:Nat=>spI 7 [.t (.int a),.t (.int (0:Nat)),.t (.int r)] _) (Nat.zero_add _).symm).trans (B3v h8 6 _ (A05 a n) a [] (List.replicate (A05 a n) (.int 0)) [] _ rfl rfl hw (Nat.le_trans hk (by decide)) List.length_replicate (by rw[List.length_nil,Nat.zero_add];exact Nat.lt_of_le_of_lt hk (by decide)) (A2H hn) (Nat.lt_trans ha (by decide)) (by rw[List.append_nil];exact G2)))))) ?_
  rw[List.append_nil,K5]
  exact K0 rfl
theorem B1P(n y:Nat):k7 n [y]=y:=Nat.add_eq_left.mpr (Nat.mul_zero _)
theorem B3u{n:Nat}(h8:n≤8)(d:Nat):∀ (lo:List (Option V)) (p ds q:List Nat) (objs:List AO),lo[1]?=some (some (.t (.int n)))→lo[0]?=some (some (.ref j))→1≤ds.length→ds.length≤2 ^ d→p.length+ds.length<100→k7 n ds<2 ^ 60→objs[j]?=some (.lst (J0 (p++(ds++q))))→
  spJ (d+1) [.t (.int p.length),.t (.int (p.length+ds.length:Nat))] ⟨lo,objs⟩=some (.t (.int (k7 n ds)),⟨lo,objs⟩):=by
 have one:∀ (d:Nat) (lo:List (Option V)) (p q:List Nat) (y:Nat) (objs:List AO),lo[0]?=some (some (.ref j))→p.length<100→objs[j]?=some (.lst (J0 (p++y::q)))→spJ (d+1) [.t (.int p.length),.t (.int (p.length+1:Nat))] ⟨lo,objs⟩=some (.t (.int (k7 n [y])),⟨lo,objs⟩):=fun d lo p q y objs hj hl ho=>by
  have hi:fItem (.lst (J0 (p++y::q))) (.int p.length)=some (.int y):=by
   rw[A0p,← M6 p]
   exact B4J (by rw[M6];exact Nat.lt_trans hl (by decide))
  rw[B1P]
  exact A3v rfl (U3 (H8 (I2 (C5 (C5 (E1 rfl) rfl rfl rfl (x9 _ 1)) (E1 rfl) rfl rfl (B3M rfl)) rfl rfl) (K0 (G7 (A7A hj) (E1 rfl) (q9 ho) rfl rfl hi)))) rfl
 induction d with
 | zero=>
  intro lo p ds q objs hn hj h1 h2 hl hv ho
  match ds,Nat.le_antisymm h2 h1 with
  | [y],_=>exact one 0 lo p q y objs hj (Nat.lt_of_succ_lt hl) ho
 | succ d ih=>
  intro lo p ds q objs hn hj h1 h2 hl hv ho
  by_cases hw:ds.length=1
  ·match ds,hw with
   | [y],_=>exact one _ lo p q y objs hj (Nat.lt_of_succ_lt hl) ho
  ·obtain⟨a,b,e,ha,hb,ha2,hb2,hm⟩:=B0Q h1 hw h2
   have h3:(ds.take a).length=a:=by rw[List.length_take,e,Nat.min_eq_left (Nat.le_add_right a b)]
   have h4:(ds.drop a).length=b:=by rw[List.length_drop,e,Nat.add_sub_cancel_left]
   have hds:=List.take_append_drop a ds
   have hvs:=A5Q (n:=n) (ds.take a) (ds.drop a)
   rw[hds,h3] at hvs
   have hv1:k7 n (ds.take a)<2 ^ 60:=Nat.lt_of_le_of_lt (by rw[hvs];exact Nat.le_add_right _ _) hv
   have hv2:k7 n (ds.drop a)<2 ^ 60:=Nat.lt_of_le_of_lt (by rw[hvs];exact Nat.le_trans (Nat.le_mul_of_pos_right _ (Nat.two_pow_pos _)) (Nat.le_add_left _ _)) hv
   have hab:p.length+ds.length=p.length+a+b:=by rw[e,Nat.add_assoc]
   have hp:(p++ds.take a).length=p.length+a:=by rw[List.length_append,h3]
   have e1:=fun lo hn hj=>ih lo p (ds.take a) (ds.drop a++q) objs hn hj (h3.symm▸ha) (h3.symm▸ha2) (by rw[h3];exact Nat.lt_of_le_of_lt (by rw[hab];exact Nat.le_add_right _ _) hl) hv1 (by rw[← List.append_assoc (ds.take a),hds];exact ho)
   have e2:=fun lo hn hj=>ih lo (p++ds.take a) (ds.drop a) q objs hn hj (h4.symm▸hb) (h4.symm▸hb2) (by rw[hp,h4,← hab];exact hl) hv2 (by rw[List.append_assoc,← List.append_assoc (ds.take a),hds];exact ho)
   rw[h3] at e1
   rw[hp,h4,← hab] at e2
   have hs:a * n<1000:=Nat.lt_of_le_of_lt (Nat.mul_le_mul (Nat.le_trans (Nat.le_trans (Nat.le_add_left a p.length) (by rw[hab];exact Nat.le_add_right _ _)) (Nat.le_of_lt hl)) h8) (by decide)
   have hm2:(p.length+(p.length+ds.length)) / 2 ^ 1=p.length+a:=hm _
   rw[hvs,Nat.add_comm (k7 n (ds.take a))]
   refine A3v (fl:=.ret (.t (.int _))) (vs':=[some (.t (.int p.length)),some (.t (.int (p.length+ds.length:Nat))),some (.t (.int (p.length+a:Nat))),some (.t (.int (a * n:Nat)))]) rfl (B0 (H8 (I2 (C5 (C5 (E1 rfl) rfl rfl rfl (x9 _ 1)) (E1 rfl) rfl rfl (B3N fun q=>hw (Nat.add_left_cancel q).symm)) rfl rfl) rfl) ?_) rfl
   refine B0 (A0U (C5 (C5 (E1 rfl) (E1 rfl) rfl rfl (x9 _ _)) rfl rfl rfl ((A9l _ 1).trans (congrArg (fun z:Nat=>some (T.int z)) hm2)))) ?_
   refine B0 (A0U (C5 (C5 (E1 rfl) (E1 rfl) rfl rfl (A9k _ a)) (A7A hn) rfl rfl (B3L (Nat.lt_of_le_of_lt h8 (by decide))))) ?_
   exact K0 (C5 (C5 (k3 (A4 (E1 rfl) (A4 (E1 rfl) B8)) (e2 _ (P6 hn) (P6 hj))) (E1 rfl) rfl rfl (A9m hv2 hs)) (k3 (A4 (E1 rfl) (A4 (E1 rfl) B8)) (e1 _ (P6 hn) (P6 hj))) rfl rfl (x9 _ _))
theorem B2n{n:Nat}(h8:n≤8)(hl:ds.length≤64)(hv:k7 n ds<2 ^ 60)(ho:objs[j]?=some (.lst (J0 ds))):B0s ⟨[some (.ref j),some (.t (.int n))],objs⟩=some (.ret (.t (.int (k7 n ds))),⟨[some (.ref j),some (.t (.int n))],objs⟩):=by
 have ht:A07 (.lst (J0 ds))=some !(J0 ds).isEmpty:=by
  exact G4 (by rw[M6];exact Nat.lt_of_le_of_lt hl (by decide)) rfl
 refine K0 (A4t (I2 rfl (q9 ho) ht) ?_)
 cases ds with
 | nil=>rfl
 | cons d ds=>
  exact k3 (A4 rfl (A4 (U4 rfl (q9 ho) (A9n (M6 _) (Nat.lt_of_le_of_lt hl (by decide)))) B8)) ((congrArg (fun r:Nat=>spJ 7 [.t (.int (0:Nat)),.t (.int r)] _) (Nat.zero_add _).symm).trans (B3u h8 6 _ [] (d::ds) [] _ rfl rfl (Nat.succ_le_succ (Nat.zero_le _)) hl (by rw[List.length_nil,Nat.zero_add];exact Nat.lt_of_le_of_lt hl (by decide)) hv (by rw[List.append_nil];exact ho)))
end
section
set_option exponentiation.threshold 5000
noncomputable def dvq(n b:Nat)(ds:List Nat):List Nat:=List.rec [] (fun d ds r=>((k7 n ds % b) * 2 ^ n+d) / b::r) ds
theorem B3V{n b:Nat}(d V:Nat):d+2 ^ n * V=(V % b * 2 ^ n+d)+b * (2 ^ n * (V / b)):=by
 have h:=Nat.mod_add_div V b
 calc d+2 ^ n * V=d+2 ^ n * (V % b+b * (V / b)):=by rw[h]
  _=_:=by rw[Nat.mul_add,Nat.mul_comm (2 ^ n) (V % b),← Nat.mul_assoc (2 ^ n) b,Nat.mul_comm (2 ^ n) b,Nat.mul_assoc];lia
theorem B4m{n b:Nat}(d V:Nat):(V % b * 2 ^ n+d) % b=(d+2 ^ n * V) % b:=by rw[B3V (b:=b) d V,Nat.add_mul_mod_self_left]
theorem B1Q{n b:Nat}(hb:0<b)(ds:List Nat):k7 n (dvq n b ds)=k7 n ds / b:=by
 induction ds with
 | nil=>exact(Nat.zero_div b).symm
 | cons d ds ih=>
  show (k7 n ds % b * 2 ^ n+d) / b+2 ^ n * k7 n (dvq n b ds)=(d+2 ^ n * k7 n ds) / b
  rw[ih,B3V (b:=b) d (k7 n ds),Nat.add_mul_div_left _ _ hb]
theorem A3y{n b:Nat}(ds:List Nat):(dvq n b ds).length=ds.length:=by
 induction ds with
 | nil=>rfl
 | cons d ds ih=>exact congrArg (·+1) ih
theorem B23{x:Nat}(h:x<2 ^ k):Builtin.Int.intBits (x:Int)≤k:=intBits_le_iff.mpr (by rw[Int.natAbs_natCast];exact h)
theorem B40(a b n:Nat)(objs:List AO)(hb:0<b)(hs:b<1000)(ha:a<2 ^ 4000):sp_div2n1n [.t (.int a),.t (.int b),.t (.int n)] [] objs=some (.tup [.int (a / b:Nat),.int (a % b:Nat)],objs):=by
 have h1:decide ((Builtin.Int.intBits (a:Int):Int) - (n:Int)≤4000)=true:=decide_eq_true (Int.le_trans (Int.sub_le_self _ (Int.natCast_nonneg n)) (Int.ofNat_le.mpr (B23 ha)))
 have hle:fLe (.int ((Builtin.Int.intBits (a:Int):Int) - (n:Int))) (.int 4000)=some (.bool true):=congrArg (fun b=>some (T.bool b)) h1
 have h2:I9 (b:Int)=true:=i3 (Nat.lt_trans hs (by decide))
 have h3:(b:Int)≠0:=fun e=>Nat.ne_of_gt hb (Int.ofNat.inj e)
 have hd:fDivmod (.int a) (.int b)=some (.tup [.int (a / b:Nat),.int (a % b:Nat)]):=by
  refine G4 ⟨h3,h2⟩ (congrArg (fun z=>some (T.tup z)) ?_)
  rw[Int.fdiv_eq_ediv_of_nonneg _ (Int.natCast_nonneg _),Int.fmod_eq_emod_of_nonneg _ (Int.natCast_nonneg _)]
  rfl
 refine S7 (fl:=.ret (.t (.tup [.int (a / b:Nat),.int (a % b:Nat)]))) (σ1:=⟨[some (.t (.int a)),some (.t (.int b)),some (.t (.int n))]++List.replicate 8 none,objs⟩) rfl ?_ rfl List.take_length
 exact U3 (H8 (I2 (C5 (C5 (A2V rfl rfl rfl rfl) rfl rfl rfl rfl) rfl rfl rfl hle) rfl rfl) (K0 (C5 rfl rfl rfl rfl hd)))
noncomputable abbrev B0y:DS:=A9 (A2A [7,4] (F0 sp_div2n1n (A2 (d2 fAdd (d2 fShl (A0 4) (A0 2)) (A0 6)) (A2 (A0 1) (A2 (A0 2) dNil))))) (Z5 (A0a (A0 5) (A0 7)))
theorem B2j{a:V}{b n r d:Nat}{w3:V}{q:List T}(hb:0<b)(hb2:b<16)(hn:n<8)(hr:r<b)(hd:d<2 ^ n)(hq:q.length<900):
  B0y ⟨[some a,some (.t (.int b)),some (.t (.int n)),some w3,some (.t (.int r)),some (.ref objs.length),some (.t (.int d)),w7,none],objs++[.lst q]⟩=
   some (.next,⟨[some a,some (.t (.int b)),some (.t (.int n)),some w3,some (.t (.int ((r * 2 ^ n+d) % b:Nat))),some (.ref objs.length),some (.t (.int d)),some (.t (.int ((r * 2 ^ n+d) / b:Nat))),none],objs++[.lst (q++[.int ((r * 2 ^ n+d) / b:Nat)])]⟩):=by
 have hx:r * 2 ^ n+d<2 ^ 4000:=
  Nat.lt_trans (Nat.add_lt_add_of_le_of_lt (Nat.mul_le_mul (Nat.le_of_lt (Nat.lt_trans hr hb2)) (Nat.pow_le_pow_right (by decide) (Nat.le_of_lt hn))) (Nat.lt_of_lt_of_le hd (Nat.pow_le_pow_right (by decide) (Nat.le_of_lt hn))):_<16 * 2 ^ 8+2 ^ 8) (Nat.lt_of_lt_of_le (by decide:16 * 2 ^ 8+2 ^ 8<2 ^ 13) (Nat.pow_le_pow_right (by decide) (by decide)))
 have e:=B40 (r * 2 ^ n+d) b n (objs++[.lst q]) hb (Nat.lt_trans hb2 (by decide)) hx
 refine B0 (A4q (J8 (A4 (C5 (C5 rfl rfl rfl rfl (A9m (Nat.lt_trans hr (Nat.lt_trans hb2 (by decide))) (Nat.lt_trans hn (by decide)))) rfl rfl rfl (x9 _ d)) (A4 rfl (A4 rfl B8))) e) rfl) ?_
 refine(A0v (A7D (j:=objs.length) (xs:=q) rfl (A1A G2) rfl rfl (i8 G2) (Nat.lt_trans hq (by decide))) rfl).trans ?_
 exact congrArg (fun o=>some (Fl.next,(⟨[some a,some (.t (.int b)),some (.t (.int n)),some w3,some (.t (.int ((r * 2 ^ n+d) % b:Nat))),some (.ref objs.length),some (.t (.int d)),some (.t (.int ((r * 2 ^ n+d) / b:Nat))),none],o⟩:St))) K5
theorem B6I:∀ b:Nat,b<16→2≤b→1≤Builtin.Int.intBits (b:Int)∧Builtin.Int.intBits (b:Int)<8:=by decide
theorem A7r{o:List AO}{i:Nat}{xs:List T}(h:o[i]?=some (.lst xs)):A2i (.ret (.ref i)) ⟨l,o⟩=some (.lst xs,⟨l,o.set i .gone⟩):=(B4 h rfl:toT ⟨l,o⟩ (.ref i)=_)
theorem B6D{a n:Nat}(objs:List AO)(ha:a<2 ^ 40)(hn1:1≤n)(hn2:n<8)(hK:A05 a n=k):sp_int2digits [.t (.int a),.t (.int n)] [] objs=some (.lst (J0 (dgn n a k)),objs):=
 (A54 rfl (hK▸B2S objs ha hn1 (Nat.le_of_lt hn2)) (A7r G2)).trans (by rw[K5,List.take_left' rfl])
theorem B6F{n q:Nat}(objs:List AO)(hn1:1≤n)(hn2:n<8)(hl:ds.length≤64)(hq:k7 n ds=q)(h:q<2 ^ 40):sp_digits2int [.ref objs.length,.t (.int n)] [] (objs++[.lst (J0 ds)])=some (.int q,objs++[.lst (J0 ds)]):=by
 subst hq
 exact(A54 rfl (B2n (Nat.le_of_lt hn2) hl (Nat.lt_trans h (by decide)) G2) rfl).trans (by rw[List.take_of_length_le (Nat.le_refl _)])
noncomputable abbrev A8Y(a b n:Nat)(ds us:List Nat)(objs:List AO)(w6 w7 w8:Option V):St:=⟨[some (.t (.int a)),some (.t (.int b)),some (.t (.int n)),some (.t (.lst (J0 ds))),some (.t (.int (k7 n us % b:Nat))),some (.ref objs.length),w6,w7,w8],objs++[.lst (J0 (dvq n b us)).reverse]⟩
theorem B2i{a b n:Nat}(hb:2≤b)(hb2:b<16)(hn2:n<8)(hl:ds.length≤47)(hd:∀ d∈ds,d<2 ^ n):∃ w6 w7,M9 (tN 6) B0y (J0 ds).reverse (A8Y a b n ds [] objs none none none)=some (.next,A8Y a b n ds ds objs w6 w7 none):=by
 obtain⟨σ',h1,us,w6,w7,h2,h3⟩:=A4l (t:=tN 6) (b:=B0y) (fun done σ=>∃ us w6 w7,done.reverse=J0 us∧σ=A8Y a b n ds us objs w6 w7 none) (J0 ds).reverse
  (fun done x rest σ e ⟨us,w6,w7,h2,h3⟩=>by
   have e':J0 ds=rest.reverse++x::J0 us:=by
    have:=congrArg List.reverse e
    rw[List.reverse_reverse] at this
    rw[this,← h2];simp
   have hx:x∈J0 ds:=e'▸List.mem_append_right _ (.head _)
   obtain⟨d,hdm,rfl⟩:=List.mem_map.mp hx
   have hul:us.length≤47:=Nat.le_trans (by
    have:=congrArg List.length e'
    rw[M6,List.length_append,List.length_cons,M6] at this
    rw[this]
    exact Nat.le_trans (Nat.le_succ _) (Nat.le_add_left _ _)) hl
   refine⟨_,_,rfl,?_,d::us,some (.t (.int d)),some (.t (.int ((k7 n us % b * 2 ^ n+d) / b:Nat))),?_,rfl⟩
   ·subst h3
    refine(B2j (q:=(J0 (dvq n b us)).reverse) (Nat.lt_of_lt_of_le (by decide) hb) hb2 hn2 (Nat.mod_lt _ (Nat.lt_of_lt_of_le (by decide) hb)) (hd d hdm) (by rw[List.length_reverse,M6,A3y];exact Nat.lt_of_le_of_lt hul (by decide))).trans ?_
    rw[show (k7 n us % b * 2 ^ n+d) % b=k7 n (d::us) % b from B4m d (k7 n us)]
    exact congrArg (fun o=>some (Fl.next,(⟨[some (.t (.int a)),some (.t (.int b)),some (.t (.int n)),some (.t (.lst (J0 ds))),some (.t (.int (k7 n (d::us) % b:Nat))),some (.ref objs.length),some (.t (.int d)),some (.t (.int ((k7 n us % b * 2 ^ n+d) / b:Nat))),none],objs++[AO.lst o]⟩:St))) List.reverse_cons.symm
   ·rw[List.reverse_append,h2];rfl) (J0 ds).reverse [] (A8Y a b n ds [] objs none none none) rfl ⟨[],none,none,rfl,rfl⟩
 have hus:us=ds:=by
  rw[List.reverse_reverse] at h2
  exact((List.map_inj_right fun x y e=>by injection e with e;exact Int.ofNat.inj e).mp h2).symm
 subst hus
 exact⟨w6,w7,by rw[← h3];exact h1⟩
theorem B07(a b:Nat)(objs:List AO)(ha:a<2 ^ 40)(hb:2≤b)(hb2:b<16):sp_divmod_pos [.t (.int a),.t (.int b)] [] objs=some (.tup [.int (a / b:Nat),.int (a % b:Nat)],objs):=by
 obtain⟨hn1,hn2⟩:=B6I b hb2 hb
 generalize hN:Builtin.Int.intBits (b:Int)=n at hn1 hn2
 have hk:=A7G (n:=n) ha (Nat.le_of_lt hn2)
 have hf:=A2H (a:=a) hn1
 generalize hK:A05 a n=k at hk hf
 have hv:k7 n (dgn n a k)=a:=by rw[B1R,Nat.mod_eq_of_lt hf]
 have hlen:=A7I (n:=n) k a
 have hd:∀ d∈dgn n a k,d<2 ^ n:=B4n k a
 have e1:=B6D objs ha hn1 hn2 hK
 generalize hds:dgn n a k=us at hv hlen hd e1
 have hb0:0<b:=Nat.lt_of_lt_of_le (by decide) hb
 have hl47:us.length≤47:=hlen▸hk
 obtain⟨w6,w7,h1⟩:=B2i (a:=a) (objs:=objs) hb hb2 hn2 hl47 hd
 have e2:=B6F (n:=n) (q:=a / b) (ds:=dvq n b us) objs hn1 hn2 (by rw[A3y];exact Nat.le_trans hl47 (by decide)) (by rw[B1Q hb0,hv]) (Nat.lt_of_le_of_lt (Nat.div_le_self _ _) ha)
 refine(A54 (σ1:=⟨[some (.t (.int a)),some (.t (.int b)),some (.t (.int n)),some (.t (.lst (J0 us))),some (.t (.int (a % b:Nat))),some (.ref objs.length),w6,w7,some (.t (.int (a / b:Nat)))],objs++[.lst (J0 (dvq n b us))]⟩) (fl:=.ret (.t (.tup [.int (a / b:Nat),.int (a % b:Nat)]))) rfl ?_ rfl).trans (by rw[List.take_left' rfl])
 refine B0 (C3 (A2V rfl rfl rfl (show fBits (.int b)=some (.int n) from by show some (T.int _)=_;rw[hN]))) ?_
 refine B0 (C3 (J8 (A4 rfl (A4 rfl B8)) e1)) ?_
 refine B0 (C3 rfl) ?_
 refine B0 (C3 (A4s B8 (by decide) rfl)) ?_
 refine B0 (B4k rfl rfl rfl h1 rfl) ?_
 rw[show A8Y a b n us us objs w6 w7 none=⟨[some (.t (.int a)),some (.t (.int b)),some (.t (.int n)),some (.t (.lst (J0 us))),some (.t (.int (a % b:Nat))),some (.ref objs.length),w6,w7,none],objs++[.lst (J0 (dvq n b us)).reverse]⟩ from by rw[A8Y,hv]]
 refine B0 (A0v (B5z (j:=objs.length) (xs:=(J0 (dvq n b us)).reverse) rfl (A1A G2) (i8 G2) (by rw[List.length_reverse,M6,A3y];exact Nat.lt_of_le_of_lt hl47 (by decide))) rfl) ?_
 rw[show (objs++[AO.lst (J0 (dvq n b us)).reverse]).set objs.length (.lst (J0 (dvq n b us)).reverse.reverse)=objs++[.lst (J0 (dvq n b us))] from by rw[K5,List.reverse_reverse]]
 refine B0 (C3 (J8 (A4 rfl (A4 rfl B8)) e2)) ?_
 exact K0 (I8 (A4 rfl (A4 rfl B8)) (show 2<1000 from by decide) rfl)
end
theorem B4y(a b:Int)(objs:List AO):sp_isub [.t (.int a),.t (.int b)] [] objs=some (.int (a - b),objs):=
 S7 rfl (show _=some (Fl.ret (.t (.int (a - b))),⟨[some (.t (.int (a - b))),some (.t (.int b))],objs⟩) from rfl) rfl List.take_length
theorem A5C(a b:Str)(objs:List AO)(h:a.length+b.length<1000):sp_concat [.t (.str a),.t (.str b)] [] objs=some (.str (a++b),objs):=by
 refine S7 (fl:=.ret (.t (.str (a++b)))) (σ1:=⟨[some (.t (.str a)),some (.t (.str b)),none],objs⟩) rfl ?_ rfl List.take_length
 exact B0 rfl (K0 (C5 rfl rfl rfl rfl (if_pos h)))
theorem B6d(xs:List T)(objs:List AO)(h:xs.length<1000):sp_length_hint [.t (.lst xs)] [] objs=some (.int xs.length,objs):=by
 refine S7 (fl:=.ret (.t (.int xs.length))) (σ1:=⟨[some (.t (.lst xs)),some (.t (.int 0)),none,none,none],objs⟩) rfl ?_ rfl List.take_length
 exact B0 rfl (U3 (B4 (K0 (U4 rfl rfl (if_pos h))) rfl))
noncomputable def D5(s:Str):Prop:=s.cps.all M4=true∧s.length<1000
theorem B4e{ps:List Addr}{a:D}{p:Addr}{v:V}{x:Str}(h1:a σ=some (v,σ))(hp:A7U ps v=some p)(h2:b σ=some (.t (.str x),σ))(hx:D5 x):A1J ps a b σ=some (.t .none,σ):=
 B4 h1 (G4 (congrArg Option.isSome hp) (B4 h2 (B4 hp (B4 rfl (G4 hx rfl)))))
theorem B41(o:V)(s:Str)(b:Bool)(objs:List AO)(h:D5 s):sp_H_convert_string_type [o,.t (.str s)] [(Str.ofString "name", .t (.bool b))] objs=some (.str s,objs):=by
 have key:∀ p:Addr,p∈[43,48]→A9 (H5 (C1 (A1J [43,48] (A0 3) (A0 1))) dNoS dSkip) (G5 (A0 1)) ⟨[some o,some (.t (.str s)),some (.t (.bool b)),some (.t (.cst (.ref p)))],objs⟩=some (.ret (.t (.str s)),⟨[some o,some (.t (.str s)),some (.t (.bool b)),some (.t (.cst (.ref p)))],objs⟩):=fun p hp=>
  B0 (H8 (I2 (B4e rfl (if_pos hp) rfl h) rfl rfl) rfl) (K0 rfl)
 have hm:A5p [o,.t (.str s)] [(Str.ofString "name", .t (.bool b))]=some [some o,some (.t (.str s)),some (.t (.bool b)),none]:=if_pos ⟨rfl,rfl⟩
 refine S7 (σ1:=⟨[some o,some (.t (.str s)),some (.t (.bool b)),some (.t (.cst (.ref (if b then 43 else 48))))],objs⟩) (fl:=.ret (.t (.str s))) hm (U3 ?_) rfl List.take_length
 refine H8 (b:=true) rfl ((if_pos rfl).trans ?_)
 cases b
 ·exact B0 rfl (key 48 (by decide))
 ·exact B0 rfl (key 43 (by decide))
noncomputable def J9(p:Str×Str):T:=.tup [.str p.1,.str p.2]
noncomputable def hobj(i:Nat):V:=.obj 171 (Str.ofString "_headers") (.ref i)
structure HAt(i:Nat)(objs:List AO)(kvs:List (Str×Str)):Prop where
 at_:objs[i]?=some (.lst (kvs.map J9))
 low:∀ p∈kvs,(Txt.lower p.1).length<1000
 few:kvs.length<900
theorem B4F(i:Nat):A71 171 (Str.ofString "_headers") (hobj i)=some (.ref i):=A3Z
theorem T6(i:Nat):A0s 171 (Str.ofString "_headers") (hobj i)=true:=A4f
theorem A0X{a:D}{i:Nat}(h:a σ=some (hobj i,σ)):U0 171 (Str.ofString "_headers") a σ=some (.ref i,σ):=
 B4 h (B4 (B4F i) (G4 rfl rfl))
theorem A3x{i:Nat}{a:D}{s:Str}{q:Bool}(h1:a σ=some (hobj i,σ))(h2:b σ=some (.t (.str s),σ))(h:D5 s):E9 171 (Str.ofString "_headers") sp_H_convert_string_type a (A2 b dNil) [Str.ofString "name"] (A2 (dT (.bool q)) dNil) σ=some (.t (.str s),σ):=
 A0V h1 (T6 i) (A4 h2 B8) (A4 rfl B8) (B41 _ _ _ _ h)
theorem A1G{a:D}{s:Str}(h:a σ=some (.t (.str s),σ))(hs:(Txt.lower s).length<1000):P1 isStrT fLower a σ=some (.t (.str (Txt.lower s)),σ):=A2V h rfl rfl (if_pos hs)
theorem Z1{a:D}{s:Str}(h:a σ=some (.t (.str s),σ))(hs:(Txt.upper s).length<1000):P1 isStrT fUpper a σ=some (.t (.str (Txt.upper s)),σ):=A2V h rfl rfl (if_pos hs)
noncomputable def M7(n:Str)(p:Str×Str):Bool:=Txt.lower p.1==Txt.lower n
theorem A9D{i:Nat}{x:AO}(h:objs[i]?=some x):(objs.set i .gone).set i x=objs:=by
 rw[List.set_set];obtain⟨_,e⟩:=List.getElem?_eq_some_iff.mp h;rw[← e];exact List.set_getElem_self _
theorem A3F{l0:List (Option V)}{i:Nat}{x:AO}(h:objs[i]?=some x):L4 (.ref i) ⟨l0,objs⟩ ⟨l,objs.set i .gone⟩=some ⟨l,objs⟩:=by
 have hi:i<objs.length:=(List.getElem?_eq_some_iff.mp h).1
 have hg:(objs.set i AO.gone)[i]?=some .gone:=by rw[List.getElem?_set_self hi]
 exact B4 h (B4 hg (B4 rfl (congrArg (fun o=>some (⟨l,o⟩:St)) (A9D h))))
noncomputable abbrev B5r:DS:=(H5 (C1 (d2 fEq (P1 isStrT fLower (A0 3)) (A0 1))) (G5 (A0 4)) dSkip)
noncomputable def hit(n:Str)(kvs:List (Str×Str))(r:Fl)(f:Str→Fl):Fl:=(kvs.find? (M7 n)).elim r fun p=>f p.2
noncomputable abbrev A8R(o d:Option V)(n:Str)(objs:List AO)(x y:Option V):St:=⟨[o,some (.t (.str (Txt.lower n))),d,x,y],objs⟩
theorem B0S(o d:Option V)(n:Str)(objs:List AO)(kvs:List (Str×Str)):∀ (x y:Option V),(∀ p∈kvs,(Txt.lower p.1).length<1000)→
  ∃ x' y',M9 (tT [3,4]) B5r (kvs.map J9) (A8R o d n objs x y)=some (hit n kvs .next fun s=>.ret (.t (.str s)),A8R o d n objs x' y'):=by
 induction kvs with
 | nil=>exact fun x y _=>⟨x,y,rfl⟩
 | cons p kvs ih=>
  intro x y h
  obtain⟨x',y',ih⟩:=ih (some (.t (.str p.1))) (some (.t (.str p.2))) fun q hq=>h q (.tail _ hq)
  have e:∀ {r},(if M7 n p=true then some (Fl.ret (.t (.str p.2)),A8R o d n objs (some (.t (.str p.1))) (some (.t (.str p.2)))) else some (Fl.next,A8R o d n objs (some (.t (.str p.1))) (some (.t (.str p.2)))))=r→B5r (A8R o d n objs (some (.t (.str p.1))) (some (.t (.str p.2))))=r:=
   fun hr=>H8 (I2 (C5 (A1G rfl (h p (.head _))) rfl rfl rfl rfl) rfl rfl) hr
  unfold hit
  rw[List.find?_cons]
  cases q:M7 n p with
  | true=>exact⟨some (.t (.str p.1)),some (.t (.str p.2)),B4 (e (if_pos q)) rfl⟩
  | false=>exact⟨x',y',B4 (e (if_neg (by rw[q];exact Bool.noConfusion))) ih⟩
theorem B3Z{i:Nat}{n:Str}{dv:T}(H:HAt i objs kvs)(hn:D5 (Txt.lower n)):
  ∀ us,A9u us []=some [some (hobj i),some (.t (.str n)),some (.t dv),none,none]→sp_H_get us [] objs=some ((kvs.find? (M7 n)).elim dv fun p=>.str p.2,objs):=fun us hu=>by
 obtain⟨x',y',hl⟩:=B0S (some (hobj i)) (some (.t dv)) n (objs.set i .gone) kvs none none H.low
 have hv:view (A8R (some (hobj i)) (some (.t dv)) n objs none none) (.ref i)=some (.lst (kvs.map J9)):=B4 H.at_ rfl
 have s1:=C3 (i:=1) (A3x (i:=i) (q:=true) (σ:=⟨[some (hobj i),some (.t (.str n)),some (.t dv),none,none],objs⟩) (a:=A0 0) rfl (A1G (a:=A0 1) rfl hn.2) hn)
 unfold hit at hl
 cases q:kvs.find? (M7 n) with
 | some p=>
  rw[q] at hl
  exact S7 hu (B0 s1 (U3 (O4 (itf:=itT) (A0X (i:=i) (a:=A0 0) rfl) hv rfl hl (A3F H.at_)))) rfl List.take_length
 | none=>
  rw[q] at hl
  exact S7 hu (B0 s1 (B0 (O4 (itf:=itT) (A0X (i:=i) (a:=A0 0) rfl) hv rfl hl (A3F H.at_)) (K0 rfl))) rfl List.take_length
theorem B0k{i:Nat}{a:D}{n:Str}(h1:a σ=some (hobj i,σ))(h2:b σ=some (.t (.str n),σ))(H:HAt i σ.objs kvs)(hn:D5 (Txt.lower n)):
  E9 171 (Str.ofString "_headers") sp_H_get a (A2 b dNil) [] dNil σ=some (.t ((kvs.find? (M7 n)).elim .none fun p=>.str p.2),σ):=
 A0V h1 (T6 i) (A4 h2 B8) B8 (B3Z H hn _ rfl)
theorem B4j{i:Nat}{a c:D}{n:Str}{d:T}(h1:a σ=some (hobj i,σ))(h2:b σ=some (.t (.str n),σ))(h3:c σ=some (.t d,σ))(H:HAt i σ.objs kvs)(hn:D5 (Txt.lower n)):
  E9 171 (Str.ofString "_headers") sp_H_get a (A2 b (A2 c dNil)) [] dNil σ=some (.t ((kvs.find? (M7 n)).elim d fun p=>.str p.2),σ):=
 A0V h1 (T6 i) (A4 h2 (A4 h3 B8)) B8 (B3Z H hn _ rfl)
theorem HAt.obj{i:Nat}(H:HAt i objs kvs)(l:List (Option V)):objL ⟨l,objs⟩ (.ref i)=true:=A1A H.at_
theorem HAt.lst{i:Nat}(H:HAt i objs kvs)(l:List (Option V)):Q9 ⟨l,objs⟩ i=some (kvs.map J9):=i8 H.at_
theorem B0h{i:Nat}{a c:D}{n v:Str}(H:HAt i objs kvs)(h1:a ⟨l,objs⟩=some (hobj i,⟨l,objs⟩))(h2:b ⟨l,objs⟩=some (.t (.str n),⟨l,objs⟩))(h3:c ⟨l,objs⟩=some (.t (.str v),⟨l,objs⟩))(pn:D5 n)(pv:D5 v):
  Z5 (A0a (U0 171 (Str.ofString "_headers") a) (E5 (A2 (E9 171 (Str.ofString "_headers") sp_H_convert_string_type a (A2 b dNil) [Str.ofString "name"] (A2 (dT (.bool true)) dNil)) (A2 (E9 171 (Str.ofString "_headers") sp_H_convert_string_type a (A2 c dNil) [Str.ofString "name"] (A2 (dT (.bool false)) dNil)) dNil)))) ⟨l,objs⟩=
   some (.next,⟨l,objs.set i (.lst ((kvs++[(n,v)]).map J9))⟩):=by
 refine(A0v (A7D (j:=i) (A0X h1) (H.obj l) (I8 (A4 (A3x h1 h2 pn) (A4 (A3x h1 h3 pv) B8)) (show 2<1000 from by decide) rfl) rfl (H.lst l) (by rw[List.length_map];exact Nat.lt_trans H.few (by decide))) rfl).trans ?_
 rw[List.map_append];rfl
theorem take_set{i:Nat}{x:AO}:(objs.set i x).take objs.length=objs.set i x:=List.take_of_length_le (Nat.le_of_eq List.length_set)
theorem A5B{i:Nat}{n v:Str}(H:HAt i objs kvs)(ln:D5 (Txt.lower n))(pn:D5 n)(pv:D5 v):
  sp_H_setdefault [hobj i,.t (.str n),.t (.str v)] [] objs=some ((kvs.find? (M7 n)).elim (.str v,objs.set i (.lst ((kvs++[(n,v)]).map J9))) fun p=>(.str p.2,objs)):=by
 have s1:=C3 (i:=3) (B0k (σ:=⟨[some (hobj i),some (.t (.str n)),some (.t (.str v)),none],objs⟩) (a:=A0 0) (b:=A0 1) rfl rfl H ln)
 cases q:kvs.find? (M7 n) with
 | some p=>
  rw[q] at s1
  exact S7 rfl (B0 s1 (H8 (b:=false) rfl (K0 (v:=.t (.str p.2)) rfl))) rfl List.take_length
 | none=>
  rw[q] at s1
  exact S7 rfl (B0 s1 (H8 (b:=true) rfl (B0 (B0h H rfl rfl rfl pn pv) (K0 (v:=.t (.str v)) rfl)))) rfl take_set
noncomputable def K6(n:Str)(kvs:List (Str×Str)):List (Str×Str):=kvs.filter fun p => !M7 n p
theorem B6E{i:Nat}{n:Str}(H:HAt i objs kvs)(ln:D5 (Txt.lower n)):sp_H_delitem [hobj i,.t (.str n)] [] objs=some (.none,objs.set i (.lst ((K6 n kvs).map J9))):=by
 have s1:=C3 (i:=1) (A3x (i:=i) (q:=true) (σ:=⟨[some (hobj i),some (.t (.str n))],objs⟩) (a:=A0 0) rfl (A1G (a:=A0 1) rfl ln.2) ln)
 refine S7 (fl:=.next) (σ1:=⟨[some (hobj i),some (.t (.str (Txt.lower n)))],objs.set i (.lst ((K6 n kvs).map J9))⟩) rfl (B0 s1 ?_) rfl take_set
 have hv:view ⟨[some (hobj i),some (.t (.str (Txt.lower n)))],objs⟩ (.ref i)=some (.lst (kvs.map J9)):=B4 H.at_ rfl
 obtain⟨w',e⟩:=z0 (p:=C1 (d2 fNe (P1 isStrT fLower (A7 (A0 2) (dT (.int 0)))) (A0 1))) (d:=A0 2) (h:=J9) (f:=fun p => !M7 n p) (g:=J9) [some (hobj i),some (.t (.str (Txt.lower n)))] (objs.set i .gone) rfl kvs [] none fun p hp=>
  ⟨I2 (C5 (A1G (G7 (z:=.str p.1) rfl rfl rfl rfl rfl rfl) (H.low p hp)) rfl rfl rfl rfl) rfl rfl,fun _=>rfl⟩
 have hl:((K6 n kvs).map J9).length<1000:=by
  rw[List.length_map];exact Nat.lt_of_le_of_lt (List.length_filter_le _ kvs) (Nat.lt_trans H.few (by decide))
 have hk:(kvs.map J9).length<1000:=by rw[List.length_map];exact Nat.lt_trans H.few (by decide)
 have e2:E3 1 itN (U0 171 (Str.ofString "_headers") (A0 0)) (C1 (d2 fNe (P1 isStrT fLower (A7 (A0 2) (dT (.int 0)))) (A0 1))) (A0 2) ⟨[some (hobj i),some (.t (.str (Txt.lower n)))],objs⟩=some (.t (.lst ((K6 n kvs).map J9)),⟨[some (hobj i),some (.t (.str (Txt.lower n)))],objs⟩):=
  B4 (A0X rfl) (B4 hv (B4 rfl (B4 e (G4 hl (B4 (A3F H.at_) rfl)))))
 exact B4 e2 (B4 (A0X rfl) (B4 rfl (B4 rfl (B4 (H.lst _) (G4 ⟨hk,hl⟩ rfl)))))
theorem A8g{i:Nat}{n v:Str}(H:HAt i objs kvs)(ln:D5 (Txt.lower n))(pn:D5 n)(pv:D5 v):
  sp_H_setitem [hobj i,.t (.str n),.t (.str v)] [] objs=some (.none,objs.set i (.lst ((K6 n kvs++[(n,v)]).map J9))):=by
 have hi:i<objs.length:=(List.getElem?_eq_some_iff.mp H.at_).1
 have H2:HAt i (objs.set i (.lst ((K6 n kvs).map J9))) (K6 n kvs):=⟨by rw[List.getElem?_set_self hi],fun p hp=>H.low p (List.mem_filter.mp hp).1,Nat.lt_of_le_of_lt (List.length_filter_le _ _) H.few⟩
 have e:=B0h (l:=[some (hobj i),some (.t (.str n)),some (.t (.str v))]) (a:=A0 0) (b:=A0 1) (c:=A0 2) H2 rfl rfl rfl pn pv
 rw[List.set_set] at e
 exact S7 rfl (B0 (B4 rfl (G4 (T6 i) (B4 rfl (B4 (B6E H ln) rfl)))) e) rfl take_set
noncomputable def A5P(i:Nat):Str:=match i with | 0=>Str.ofString "f" | 1=>Str.ofString "<f" | _=>Str.ofString "f>"
noncomputable def nm(wi sp v:Nat):Str:=match v with
 | 0=>Str.ofString "{<f>}"
 | 1=>A5P wi
 | 2=>(Str.ofString "f:" ++ (Str.ofString (toString (sp:Int))))++Str.ofString "(f)"
 | _=>(Str.ofString "~:" ++ (Str.ofString (toString ((sp:Int)+1))))++Str.ofString "(<f>)"
noncomputable def A6H(wi sp v:Nat):T:=match v with
 | 0=>.tup [.str (Str.ofString "~"),.int 0,.str (Str.ofString "<<f>>")]
 | 1=>.tup [.str (Str.ofString "~"),.int 0,.str (A5P wi)]
 | 2=>.tup [.str (Str.ofString "f"),.int sp,.str (Str.ofString "f")]
 | _=>.tup [.str (Str.ofString "~"),.int ((sp:Int)+1),.str (Str.ofString "<f>")]
theorem B5g{P:Nat→Prop}(h0:P 0)(h1:P 1)(h2:P 2)(h3:P 3)(h4:P 4)(h5:P 5)(h6:P 6)(h7:P 7)(h8:P 8):∀ v,v<9→P v
 | 0,_=>h0
 | 1,_=>h1
 | 2,_=>h2
 | 3,_=>h3
 | 4,_=>h4
 | 5,_=>h5
 | 6,_=>h6
 | 7,_=>h7
 | 8,_=>h8
noncomputable def N3(wi sp v:Nat):Prop:=sp_func_std_string [.t (A6H wi sp v)] [] []=some (.str (nm wi sp v),[])
theorem B6a:∀ sp,sp<9→N3 0 sp 2:=B5g (by unfold N3;kernel_rfl) (by unfold N3;kernel_rfl) (by unfold N3;kernel_rfl) (by unfold N3;kernel_rfl) (by unfold N3;kernel_rfl) (by unfold N3;kernel_rfl) (by unfold N3;kernel_rfl) (by unfold N3;kernel_rfl) (by unfold N3;kernel_rfl)
theorem B6Z:∀ sp,sp<9→N3 0 sp 3:=B5g (by unfold N3;kernel_rfl) (by unfold N3;kernel_rfl) (by unfold N3;kernel_rfl) (by unfold N3;kernel_rfl) (by unfold N3;kernel_rfl) (by unfold N3;kernel_rfl) (by unfold N3;kernel_rfl) (by unfold N3;kernel_rfl) (by unfold N3;kernel_rfl)
theorem fss(hw:wi<3)(hs:sp<9):∀ v,v<4→N3 wi sp v
 | 0,_=>(by unfold N3;kernel_rfl:N3 0 0 0)
 | 1,_=>match wi,hw with
  | 0,_=>(by unfold N3;kernel_rfl:N3 0 0 1)
  | 1,_=>(by unfold N3;kernel_rfl:N3 1 0 1)
  | 2,_=>(by unfold N3;kernel_rfl:N3 2 0 1)
 | 2,_=>B6a sp hs
 | 3,_=>B6Z sp hs
structure NmOk(nm:Nat→Str):Prop where
 pl:∀ v,v<4→D5 (nm v)
 plU:∀ v,v<4→D5 (Txt.upper (nm v))
 plL:∀ v,v<4→D5 (Txt.lower (nm v))
 lowU:∀ v,v<4→Txt.lower (Txt.upper (nm v))=Txt.lower (nm v)
 inj:∀ u,u<4→∀ v,v<4→Txt.lower (nm u)=Txt.lower (nm v)→u=v
noncomputable def A3R(s:Str):Bool:=s.cps.all M4&&decide (s.length<1000)
theorem A2l{s:Str}(h:A3R s=true):D5 s:=by
 unfold A3R at h
 exact⟨(Bool.and_eq_true_iff.mp h).1,of_decide_eq_true (Bool.and_eq_true_iff.mp h).2⟩
noncomputable def ck(s:Str):Bool:=(A3R s&&A3R (Txt.upper s))&&(Txt.lower s==s&&Txt.lower (Txt.upper s)==s)
theorem ck0:∀ v,v<4→ck (nm 0 0 v)=true:=by decide +kernel
theorem ck1:∀ wi,wi<3→ck (nm wi 0 1)=true:=by decide +kernel
theorem ck2:∀ sp,sp<9→ck (nm 0 sp 2)=true:=by decide +kernel
theorem ck3:∀ sp,sp<9→ck (nm 0 sp 3)=true:=by decide +kernel
theorem B5f(hw:wi<3)(hs:sp<9):∀ v,v<4→ck (nm wi sp v)=true
 | 0,_=>ck0 0 (by decide)
 | 1,_=>ck1 wi hw
 | 2,_=>ck2 sp hs
 | 3,_=>ck3 sp hs
 | v+4,h=>by lia
theorem B4I:∀ wi,wi<3→∀ sp,sp<9→∀ u,u<4→∀ v,v<4→nm wi sp u=nm wi sp v→u=v:=by decide +kernel
theorem B6B{s:Str}(h:ck s=true):D5 s∧D5 (Txt.upper s)∧Txt.lower s=s∧Txt.lower (Txt.upper s)=s:=by
 simp only[ck,Bool.and_eq_true,beq_iff_eq] at h
 exact⟨A2l h.1.1,A2l h.1.2,h.2⟩
theorem B5e(hw:wi<3)(hs:sp<9):NmOk (nm wi sp):=by
 have c:=fun v hv=>B6B (B5f hw hs v hv)
 refine⟨fun v hv=>(c v hv).1,fun v hv=>(c v hv).2.1,fun v hv => ?_,fun v hv => ?_,fun u hu v hv e => ?_⟩
 ·rw[(c v hv).2.2.1];exact(c v hv).1
 ·rw[(c v hv).2.2.1];exact(c v hv).2.2.2
 ·rw[(c u hu).2.2.1,(c v hv).2.2.1] at e
  exact B4I wi hw sp hs u hu v hv e
theorem NmOk.eq{nm:Nat→Str}(N:NmOk nm){u v:Nat}(hu:u<4)(hv:v<4)(h:nm u=nm v):u=v:=N.inj u hu v hv (by rw[h])
theorem NmOk.lU{nm:Nat→Str}(N:NmOk nm){v:Nat}(hv:v<4):D5 (Txt.lower (Txt.upper (nm v))):=by rw[N.lowU v hv];exact N.plL v hv
section
theorem A1z{P:Nat→Prop}(h0:P 0)(h1:P 1)(h2:P 2)(h3:P 3):∀ v,v<4→P v
 | 0,_=>h0
 | 1,_=>h1
 | 2,_=>h2
 | 3,_=>h3
theorem A6g(k:Nat):u5 (2 * k)=2 * k+1:=if_pos (A11 k)
theorem A6f(k:Nat):u5 (2 * k+1)=2 * k:=if_neg (by rw[A3X];decide)
structure Mz where
 src:Nat→Nat
 ri:Nat→Int
 lt4:∀ w,src w<4
 odd:∀ w,w % 2=1→ri w = -ri (w - 1)
noncomputable def Mz.endT(Z:Mz)(w:Nat):T:=.tup [.int (Z.src w),.int (Z.src (u5 w)),.int (Z.ri w)]
noncomputable def W10:List Nat:=List.range 10
theorem W10_lt{w:Nat}:w∈W10↔w<10:=List.mem_range
theorem A6I:W10.Nodup:=List.nodup_range
noncomputable def Mz.endsT(Z:Mz):T:=.ds (W10.map sgn) (W10.map Z.endT)
theorem A9z{K:Type}[DecidableEq K]{key:Nat→K}{f:Nat→T}{v:Nat}(h:∀ u∈ks,key u=key v→u=v):lk (ks.map key) (ks.map f) (key v)=if v∈ks then some (f v) else none:=by
 induction ks with
 | nil=>rfl
 | cons u ks ih=>
  rw[List.map_cons,List.map_cons,A3j]
  by_cases q:key u=key v
  ·have:=h u (.head _) q
   subst this
   rw[if_pos rfl,if_pos (.head _)]
  ·rw[if_neg q,ih fun x hx=>h x (.tail _ hx)]
   by_cases m:v∈ks
   ·rw[if_pos m,if_pos (.tail _ m)]
   ·rw[if_neg m,if_neg fun h=>(List.mem_cons.mp h).elim (fun e=>q (by rw[e])) m]
theorem B6X{f:Nat→T}{w:Nat}(hw:w<10):lk (W10.map sgn) (W10.map f) (sgn w)=some (f w):=by
 rw[A9z fun u hu e=>t8 (W10_lt.mp hu) hw e,if_pos (W10_lt.mpr hw)]
section
variable{Z:Mz}{a:D}{v:V}{w:Nat}
theorem B0m(h1:a σ=some (.t Z.endsT,σ))(h2:b σ=some (v,σ))(hv:view σ v=some (.str (sgn w)))(hw:w<10):A7 a b σ=some (.t (Z.endT w),σ):=G7 h1 h2 rfl hv rfl (B6X hw)
theorem A24(h1:a σ=some (.t Z.endsT,σ))(h2:b σ=some (v,σ))(hv:view σ v=some (.str (sgn w)))(hw:w<10):A7 (A7 a b) (dT (.int 0)) σ=some (.t (.int (Z.src w)),σ):=G7 (B0m h1 h2 hv hw) rfl rfl rfl rfl rfl
theorem A4u(h1:a σ=some (.t Z.endsT,σ))(h2:b σ=some (v,σ))(hv:view σ v=some (.str (sgn w)))(hw:w<10):A7 (A7 a b) (dT (.int 1)) σ=some (.t (.int (Z.src (u5 w))),σ):=G7 (B0m h1 h2 hv hw) rfl rfl rfl rfl rfl
theorem B0g(h1:a σ=some (.t Z.endsT,σ))(h2:b σ=some (v,σ))(hv:view σ v=some (.str (sgn w)))(hw:w<10):A7 (A7 a b) (dT (.int 2)) σ=some (.t (.int (Z.ri w)),σ):=G7 (B0m h1 h2 hv hw) rfl rfl rfl rfl rfl
noncomputable def I5(nm:Nat→Str):T:=.lst [.str (nm 0),.str (nm 1),.str (nm 2),.str (nm 3)]
theorem N0{nm:Nat→Str}{p:Nat}(h1:a σ=some (.t (I5 nm),σ))(h2:b σ=some (.t (.int p),σ))(hp:p<4):A7 a b σ=some (.t (.str (nm p)),σ):=by
 exact G7 h1 h2 rfl rfl rfl (A1z (P:=fun p=>fItem (I5 nm) (.int (p:Nat))=some (.str (nm p))) rfl rfl rfl rfl p hp)
end
structure Ky where
 d0:Int
 d1:Int
 h0:d0=1∨d0 = -2
 h1:d1=1∨d1 = -3
noncomputable def Ky.T(K:Ky):T:=.lst [.tup [.int 0,.int K.d0],.tup [.int 1,.int K.d1]]
noncomputable def y0(Z:Mz)(K:Ky)(u w:Nat):Bool:=decide (K.d0 * Z.ri u<K.d0 * Z.ri w∨(K.d0 * Z.ri u=K.d0 * Z.ri w∧K.d1 * (code u:Int)<K.d1 * (code w:Int)))
noncomputable def A47(Z:Mz)(K:Ky)(u w:Nat):Int:=if Z.ri u<Z.ri w then -K.d0 else if Z.ri w<Z.ri u then K.d0 else if code u<code w then -K.d1 else if code w<code u then K.d1 else 0
theorem B6A{d x y t:Int}(hd:d=1∨d<0):(if x<y then -d else if y<x then d else t)<0↔(d * x<d * y∨(d * x=d * y∧t<0)):=by
 rcases Int.lt_trichotomy x y with h | h | h
 ·rw[if_pos h]
  rcases hd with rfl | hd
  ·rw[Int.one_mul,Int.one_mul];exact⟨fun _=>.inl h,fun _=>by decide⟩
  ·have:=Int.mul_lt_mul_of_neg_left h hd
   exact⟨fun q=>absurd q (Int.not_lt.mpr (Int.le_of_lt (Int.neg_pos_of_neg hd))),fun q=>q.elim (fun q=>absurd q (Int.not_lt.mpr (Int.le_of_lt this))) fun q=>absurd q.1.symm (Int.ne_of_lt this)⟩
 ·subst h
  rw[if_neg (Int.lt_irrefl x),if_neg (Int.lt_irrefl x)]
  exact⟨fun q=>.inr ⟨rfl,q⟩,fun q=>q.elim (fun q=>absurd q (Int.lt_irrefl _)) fun q=>q.2⟩
 ·rw[if_neg (Int.not_lt.mpr (Int.le_of_lt h)),if_pos h]
  rcases hd with rfl | hd
  ·rw[Int.one_mul,Int.one_mul];exact⟨fun q=>absurd q (by decide),fun q=>q.elim (fun q=>absurd q (Int.not_lt.mpr (Int.le_of_lt h))) fun q=>absurd q.1.symm (Int.ne_of_lt h)⟩
  ·exact⟨fun _=>.inl (Int.mul_lt_mul_of_neg_left h hd),fun _=>hd⟩
theorem B4u(Z:Mz)(K:Ky)(u w:Nat):decide (A47 Z K u w<0)=y0 Z K u w:=by
 have e:A47 Z K u w=if Z.ri u<Z.ri w then -K.d0 else if Z.ri w<Z.ri u then K.d0 else if (code u:Int)<(code w:Int) then -K.d1 else if (code w:Int)<(code u:Int) then K.d1 else 0:=by
  simp only[Int.ofNat_lt];rfl
 unfold y0
 rw[decide_eq_decide,e,B6A (K.h0.imp id fun h=>by rw[h];decide),B6A (K.h1.imp id fun h=>by rw[h];decide)]
 exact or_congr Iff.rfl (and_congr Iff.rfl ⟨fun h=>h.elim id fun h=>absurd h.2 (Int.lt_irrefl 0),.inl⟩)
theorem A4V{Z:Mz}{K:Ky}(u w:Nat)(h:y0 Z K u w=true)(h2:y0 Z K w u=true):False:=
 (of_decide_eq_true h).elim (fun h=>(of_decide_eq_true h2).elim (fun g=>Int.lt_asymm h g) fun g=>absurd g.1.symm (Int.ne_of_lt h)) fun h=>(of_decide_eq_true h2).elim (fun g=>absurd h.1.symm (Int.ne_of_lt g)) fun g=>Int.lt_asymm h.2 g.2
theorem A2t{Z:Mz}{K:Ky}(u v w:Nat)(h:y0 Z K u v=true)(h2:y0 Z K v w=true):y0 Z K u w=true:=
 decide_eq_true ((of_decide_eq_true h).elim (fun h=>(of_decide_eq_true h2).elim (fun g=>.inl (Int.lt_trans h g)) fun g=>.inl (g.1▸h)) fun h=>(of_decide_eq_true h2).elim (fun g=>.inl (h.1▸g)) fun g=>.inr ⟨h.1.trans g.1,Int.lt_trans h.2 g.2⟩)
theorem A6u{Z:Mz}{K:Ky}{u w:Nat}(hu:u<10)(hw:w<10)(ne:u≠w):y0 Z K u w=true∨y0 Z K w u=true:=by
 have hc:code u≠code w:=fun e=>ne (z6 u hu w hw e)
 have hd:K.d1 * (code u:Int)≠K.d1 * (code w:Int):=fun e=>by
  have:(code u:Int)=code w:=Int.eq_of_mul_eq_mul_left (by rcases K.h1 with h | h <;> rw[h] <;> decide) e
  lia
 rcases Int.lt_trichotomy (K.d0 * Z.ri u) (K.d0 * Z.ri w) with h | h | h
 ·exact .inl (decide_eq_true (.inl h))
 ·exact(Int.lt_or_gt_of_ne hd).imp (fun q=>decide_eq_true (.inr ⟨h,q⟩)) fun q=>decide_eq_true (.inr ⟨h.symm,q⟩)
 ·exact .inr (decide_eq_true (.inl h))
noncomputable def Mz.rowT(Z:Mz)(w:Nat):T:=.tup [.int (Z.ri w),.str (sgn w)]
noncomputable def B58:Str:=Str.ofString "comp_select_list"
noncomputable def A2G(K:Ky):V:=.obj 263 B58 (.t K.T)
theorem A6Z(u w:Nat):decide ((sgn u).cps.toList<(sgn w).cps.toList)=decide (code u<code w):=by
 show decide ([code u]<[code w])=_
 rw[decide_eq_decide,List.cons_lt_cons_iff]
 simp
noncomputable abbrev B59:DS:=(A9 (B9 5 (A7 (A0 1) (A0 3))) (A9 (B9 6 (A7 (A0 2) (A0 3))) (A9 (H5 (C1 (d2 fLt (A0 5) (A0 6))) (G5 (d1 fNeg (A0 4))) dSkip) (H5 (C1 (d2 fGt (A0 5) (A0 6))) (G5 (A0 4)) dSkip))))
theorem A46{o x y:V}{i d:Int}{l r l' r':T}{b1 b2:Bool}(hx:A7 (A0 1) (A0 3) ⟨[some o,some x,some y,some (.t (.int i)),some (.t (.int d)),w5,w6],objs⟩=some (.t l,⟨[some o,some x,some y,some (.t (.int i)),some (.t (.int d)),w5,w6],objs⟩))(hy:A7 (A0 2) (A0 3) ⟨[some o,some x,some y,some (.t (.int i)),some (.t (.int d)),some (.t l),w6],objs⟩=some (.t r,⟨[some o,some x,some y,some (.t (.int i)),some (.t (.int d)),some (.t l),w6],objs⟩))(hl:A1m l=l')(hr:A1m r=r')(h1:fLt l' r'=some (.bool b1))(h2:fGt l' r'=some (.bool b2)):
  B59 ⟨[some o,some x,some y,some (.t (.int i)),some (.t (.int d)),w5,w6],objs⟩=some (if b1 then .ret (.t (.int (-d))) else if b2 then .ret (.t (.int d)) else .next,⟨[some o,some x,some y,some (.t (.int i)),some (.t (.int d)),some (.t l),some (.t r)],objs⟩):=by
 subst hl hr
 refine B0 (C3 hx) (B0 (C3 hy) ?_)
 have c1:=I2 (σ:=⟨[some o,some x,some y,some (.t (.int i)),some (.t (.int d)),some (.t l),some (.t r)],objs⟩) (C5 (f:=fLt) (a:=A0 5) (b:=A0 6) rfl rfl rfl rfl h1) rfl rfl
 have c2:=I2 (σ:=⟨[some o,some x,some y,some (.t (.int i)),some (.t (.int d)),some (.t l),some (.t r)],objs⟩) (C5 (f:=fGt) (a:=A0 5) (b:=A0 6) rfl rfl rfl rfl h2) rfl rfl
 cases b1
 ·refine B0 (H8 c1 rfl) (H8 c2 ?_)
  cases b2 <;> rfl
 ·exact U3 (H8 c1 rfl)
theorem B6G(Z:Mz)(K:Ky)(u w:Nat)(objs:List AO):sp_T_compare [A2G K,.t (Z.rowT u),.t (Z.rowT w)] [] objs=some (.int (A47 Z K u w),objs):=by
 have b0:=fun w5 w6=>A46 (o:=A2G K) (x:=.t (Z.rowT u)) (y:=.t (Z.rowT w)) (i:=0) (d:=K.d0) (w5:=w5) (w6:=w6) (objs:=objs) (l:=.int (Z.ri u)) (r:=.int (Z.ri w)) rfl rfl rfl rfl rfl rfl
 have b1:=fun w5 w6=>A46 (o:=A2G K) (x:=.t (Z.rowT u)) (y:=.t (Z.rowT w)) (i:=1) (d:=K.d1) (w5:=w5) (w6:=w6) (objs:=objs) (l:=.str (sgn u)) (r:=.str (sgn w)) rfl rfl rfl rfl rfl rfl
 have ha:U0 263 (Str.ofString "comp_select_list") (A0 0) ⟨[some (A2G K),some (.t (Z.rowT u)),some (.t (Z.rowT w)),none,none,none,none],objs⟩=some (.t K.T,⟨[some (A2G K),some (.t (Z.rowT u)),some (.t (Z.rowT w)),none,none,none,none],objs⟩):=B4 rfl (B4 A3Z (G4 rfl rfl))
 rw[A6Z,A6Z] at b1
 have fin:∀ fl σ',M9 (tT [3,4]) B59 [.tup [.int 0,.int K.d0],.tup [.int 1,.int K.d1]] ⟨[some (A2G K),some (.t (Z.rowT u)),some (.t (Z.rowT w)),none,none,none,none],objs⟩=some (fl,⟨σ',objs⟩)→(fl=.ret (.t (.int (A47 Z K u w)))∨(fl=.next∧A47 Z K u w=0))→sp_T_compare [A2G K,.t (Z.rowT u),.t (Z.rowT w)] [] objs=some (.int (A47 Z K u w),objs):=fun fl σ' h hf=>by
  rcases hf with rfl | ⟨rfl,h0⟩
  ·exact S7 rfl (U3 (O4 ha rfl rfl h rfl)) rfl List.take_length
  ·rw[h0];exact S7 rfl (B0 (O4 ha rfl rfl h rfl) (K0 rfl)) rfl List.take_length
 unfold A47 at fin ⊢
 have e0:=b0 none none
 by_cases c1:Z.ri u<Z.ri w
 ·rw[decide_eq_true c1,if_pos rfl] at e0
  exact fin _ _ (B4 e0 rfl) (.inl (by rw[if_pos c1]))
 rw[decide_eq_false c1,if_neg (by decide)] at e0
 rw[if_neg c1] at fin ⊢
 by_cases c2:Z.ri w<Z.ri u
 ·rw[decide_eq_true c2,if_pos rfl] at e0
  exact fin _ _ (B4 e0 rfl) (.inl (by rw[if_pos c2]))
 rw[decide_eq_false c2,if_neg (by decide)] at e0
 rw[if_neg c2] at fin ⊢
 have e1:=b1 (some (.t (.int (Z.ri u)))) (some (.t (.int (Z.ri w))))
 by_cases c3:code u<code w
 ·rw[decide_eq_true c3,if_pos rfl] at e1
  exact fin _ _ (B4 e0 (B4 e1 rfl)) (.inl (by rw[if_pos c3]))
 rw[decide_eq_false c3,if_neg (by decide)] at e1
 rw[if_neg c3] at fin ⊢
 by_cases c4:code w<code u
 ·rw[decide_eq_true c4,if_pos rfl] at e1
  exact fin _ _ (B4 e0 (B4 e1 rfl)) (.inl (by rw[if_pos c4]))
 rw[decide_eq_false c4,if_neg (by decide)] at e1
 rw[if_neg c4] at fin ⊢
 exact fin _ _ (B4 e0 (B4 e1 rfl)) (.inr ⟨rfl,rfl⟩)
end
section
theorem B3U{p q:DB}{b:Bool}{r:Option (Bool×St)}(h:p σ=some (b,σ1))(h2:(if b then q σ1 else some (false,σ1))=r):B1C p q σ=r:=B4 h h2
theorem B0i{p q:DB}{b:Bool}{r:Option (Bool×St)}(h:p σ=some (b,σ1))(h2:(if b then some (true,σ1) else q σ1)=r):bOr p q σ=r:=B4 h h2
theorem B53{a c:D}{i:Nat}{j:Int}{u:V}{xs:List T}(h1:a σ=some (.ref i,σ1))(ho:objL σ1 (.ref i)=true)(h2:b σ1=some (.t (.int j),σ2))(h3:c σ2=some (u,σ3))(ht:toT σ3 u=some (z,σ4))(hl:Q9 σ4 i=some xs)(hn:xs.length<1000∧0≤j∧j<1000):
  B2u a b c σ=some (.t .none,⟨σ4.loc,σ4.objs.set i (.lst (xs.take j.toNat++z::xs.drop j.toNat))⟩):=B4 h1 (G4 ho (B4 h2 (B4 h3 (B4 ht (B4 rfl (B4 rfl (B4 hl (G4 hn rfl))))))))
section
variable{Z:Mz}{K:Ky}
noncomputable abbrev A04(Z:Mz)(K:Ky)(L:List Nat)(w4 w5 w6:Option V):St:=⟨[some (.t Z.endsT),some (.t K.T),some (A2G K),some (.ref 0),w4,w5,w6],[.lst (L.map Z.rowT)]⟩
noncomputable abbrev liP:DB:=B1C (C1 (d2 fLt (A0 6) (d1 fLen (A0 3)))) (C1 (d2 fLt (E9 263 (Str.ofString "comp_select_list") sp_T_compare (A0 2) (A2 (A7 (A0 3) (A0 6)) (A2 (A0 5) dNil)) [] dNil) (dT (.int 0))))
theorem B2B{w i u:Nat}(hL:L.length<1000)(h:L[i]?=some u):liP (A04 Z K L w4 (some (.t (Z.rowT w))) (some (.t (.int i))))=some (y0 Z K u w,A04 Z K L w4 (some (.t (Z.rowT w))) (some (.t (.int i)))):=by
 have hi:i<L.length:=(List.getElem?_eq_some_iff.mp h).1
 have hl:(L.map Z.rowT).length<1000:=by rw[List.length_map];exact hL
 have c:decide ((i:Int)<((L.map Z.rowT).length:Int))=true:=by rw[List.length_map];exact decide_eq_true (Int.ofNat_lt.mpr hi)
 have hg:fItem (.lst (L.map Z.rowT)) (.int i)=some (Z.rowT u):=I0 (by rw[List.getElem?_map,h];rfl) (Nat.lt_trans hi hL)
 refine B3U (I2 (C5 rfl (U4 rfl rfl (if_pos hl)) rfl rfl rfl) rfl rfl) ?_
 rw[c,if_pos rfl,← B4u]
 exact I2 (C5 (A0V (z:=.int (A47 Z K u w)) rfl A4f (A4 (G7 rfl rfl rfl rfl rfl hg) (A4 rfl B8)) B8 (B6G Z K u w _)) rfl rfl rfl rfl) rfl rfl
theorem B4L{w i:Nat}(hL:L.length<1000)(h:L.length≤i):liP (A04 Z K L w4 (some (.t (Z.rowT w))) (some (.t (.int i))))=some (false,A04 Z K L w4 (some (.t (Z.rowT w))) (some (.t (.int i)))):=by
 have hl:(L.map Z.rowT).length<1000:=by rw[List.length_map];exact hL
 have c:decide ((i:Int)<((L.map Z.rowT).length:Int))=false:=by rw[List.length_map];exact decide_eq_false (Int.not_lt.mpr (Int.ofNat_le.mpr h))
 refine B3U (I2 (C5 rfl (U4 rfl rfl (if_pos hl)) rfl rfl rfl) rfl rfl) ?_
 rw[c];rfl
theorem B5n{w:Nat}(hL:L.length<1000)(rest:List Nat):∀ (i fuel:Nat),L.drop i=rest→rest.length<fuel→
  dWh liP (y9 6 fAdd (dT (.int 1))) fuel (A04 Z K L w4 (some (.t (Z.rowT w))) (some (.t (.int i))))=some (.next,A04 Z K L w4 (some (.t (Z.rowT w))) (some (.t (.int (i+J7 (y0 Z K) w rest:Nat))))):=by
 induction rest with
 | nil=>
  intro i fuel h hf
  cases fuel with
  | zero=>exact absurd hf (Nat.not_lt_zero _)
  | succ fuel=>exact B3S (B4L hL (List.drop_eq_nil_iff.mp h))
 | cons u rest ih=>
  intro i fuel h hf
  cases fuel with
  | zero=>exact absurd hf (Nat.not_lt_zero _)
  | succ fuel=>
   have hg:L[i]?=some u:=by rw[← Nat.add_zero i,← List.getElem?_drop,h];rfl
   have ht:=B2B (Z:=Z) (K:=K) (w4:=w4) (w:=w) hL hg
   cases q:y0 Z K u w with
   | false=>
    rw[q] at ht
    exact(B3S ht).trans (by unfold J7;rw[if_neg (by rw[q];exact Bool.noConfusion)];rfl)
   | true=>
    rw[q] at ht
    refine B5w ht (σ2:=A04 Z K L w4 (some (.t (Z.rowT w))) (some (.t (.int ((i+1:Nat):Int))))) rfl ((ih (i+1) fuel (by rw[← List.drop_drop,h];rfl) (Nat.lt_of_succ_lt_succ hf)).trans ?_)
    rw[show J7 (y0 Z K) w (u::rest)=J7 (y0 Z K) w rest+1 from if_pos q,Nat.add_assoc,Nat.add_comm 1]
noncomputable abbrev liB:DS:=(A9 (B9 5 (E5 (A2 (A7 (A7 (A0 0) (A0 4)) (dT (.int 2))) (A2 (A0 4) dNil)))) (A9 (B9 6 (dT (.int 0))) (A9 (dWh liP (y9 6 fAdd (dT (.int 1))) 64) (Z5 (B2u (A0 3) (A0 6) (A0 5))))))
theorem B2D{w:Nat}(hw:w<10)(hL:L.length<60):liB (A04 Z K L (some (.t (.str (sgn w)))) w5 w6)=some (.next,A04 Z K (O3 (y0 Z K) w L) (some (.t (.str (sgn w)))) (some (.t (Z.rowT w))) (some (.t (.int (J7 (y0 Z K) w L:Nat))))):=by
 have hp:=A5j (lt:=y0 Z K) w L
 have e:=B5n (Z:=Z) (K:=K) (w4:=some (.t (.str (sgn w)))) (w:=w) (Nat.lt_trans hL (by decide)) L 0 64 rfl (Nat.lt_trans hL (by decide))
 rw[Nat.zero_add] at e
 refine B0 (C3 (I8 (A4 (B0g rfl rfl rfl hw) (A4 rfl B8)) (show 2<1000 from by decide) rfl)) (B0 (C3 rfl) (B0 e ?_))
 refine(A0v (B53 rfl rfl rfl rfl rfl rfl ⟨by rw[List.length_map];exact Nat.lt_trans hL (by decide),Int.natCast_nonneg _,Int.ofNat_lt.mpr (Nat.lt_of_le_of_lt hp (Nat.lt_trans hL (by decide)))⟩) rfl).trans ?_
 have:(O3 (y0 Z K) w L).map Z.rowT=(L.map Z.rowT).take (J7 (y0 Z K) w L)++Z.rowT w::(L.map Z.rowT).drop (J7 (y0 Z K) w L):=by rw[A4i,List.map_append,List.map_cons,List.map_take,List.map_drop]
 exact congrArg (fun x=>some (Fl.next,(⟨[some (.t Z.endsT),some (.t K.T),some (A2G K),some (.ref 0),some (.t (.str (sgn w))),some (.t (Z.rowT w)),some (.t (.int (J7 (y0 Z K) w L:Nat)))],[.lst x]⟩:St))) this.symm
theorem A8M{lt:Nat→Nat→Bool}{x:Nat}{l:List Nat}:(O3 lt x l).length=l.length+1:=by rw[(o5 x l).length_eq];rfl
theorem B2C(ws:List Nat):∀ (L:List Nat) (w4 w5 w6:Option V),(∀ w∈ws,w<10)→L.length+ws.length<60→∃ w4' w5' w6',M9 (tN 4) liB ((ws.map sgn).map .str) (A04 Z K L w4 w5 w6)=some (.next,A04 Z K (ws.foldl (fun acc x=>O3 (y0 Z K) x acc) L) w4' w5' w6'):=by
 induction ws with
 | nil=>exact fun L w4 w5 w6 _ _=>⟨w4,w5,w6,rfl⟩
 | cons w ws ih=>
  intro L w4 w5 w6 h hl
  obtain⟨w4',w5',w6',ih⟩:=ih (O3 (y0 Z K) w L) (some (.t (.str (sgn w)))) (some (.t (Z.rowT w))) (some (.t (.int (J7 (y0 Z K) w L:Nat)))) (fun x hx=>h x (.tail _ hx)) (by rw[A8M,Nat.succ_add];exact hl)
  exact⟨w4',w5',w6',I6 rfl (B2D (h w (.head _)) (Nat.lt_of_le_of_lt (Nat.le_add_right _ _) hl)) ih⟩
noncomputable def K4(Z:Mz)(K:Ky):List Nat:=B1f (y0 Z K) W10
theorem A1C(Z:Mz)(K:Ky):(K4 Z K).Perm W10∧(K4 Z K).Pairwise (fun a b=>y0 Z K a b=true):=by
 have:=A5V (lt:=y0 Z K) A2t W10 [] (by
  rw[List.nil_append]
  exact List.Pairwise.imp_of_mem (fun {a b} ha hb ne=>A6u (W10_lt.mp ha) (W10_lt.mp hb) ne) A6I) List.Pairwise.nil
 exact this
noncomputable def c0(L:List Nat):T:=.lst (L.map fun w=>.str (sgn w))
theorem B4x(Z:Mz)(K:Ky):sp_law_line [.t Z.endsT,.t K.T] [] []=some (c0 (K4 Z K),[]):=by
 obtain⟨w4,w5,w6,h⟩:=B2C (Z:=Z) (K:=K) W10 [] none none none (fun w hw=>W10_lt.mp hw) (by decide)
 have hc:=(A1C Z K).1
 refine S7 (σ1:=A04 Z K (K4 Z K) w4 w5 w6) (fl:=.ret (.t (c0 (K4 Z K)))) rfl ?_ rfl rfl
 refine B0 (C3 (v:=A2G K) rfl) (B0 (C3 (A4s B8 (by decide) rfl)) (B0 (O4 rfl rfl rfl h rfl) (K0 ?_)))
 obtain⟨w',e⟩:=z0 (p:=G0 true) (d:=A7 (A0 7) (dT (.int 1))) (h:=Z.rowT) (f:=fun _=>true) (g:=fun w=>.str (sgn w)) [some (.t Z.endsT),some (.t K.T),some (A2G K),some (.ref 0),w4,w5,w6] [.gone] rfl (K4 Z K) [] none fun x hx=>⟨rfl,fun _=>rfl⟩
 rw[List.filter_eq_self.mpr (fun _ _=>rfl),List.nil_append] at e
 exact B4 rfl (B4 rfl (B4 rfl (B4 e (G4 (by rw[List.length_map,hc.length_eq];decide) rfl))))
end
end
section
theorem A8l{l:List Nat}{x:Nat}(h:l.Nodup):(G6 l x).Nodup:=by
 unfold G6
 split
 ·exact h
 ·rename_i q
  exact List.nodup_append.mpr ⟨h,by simp,fun a ha b hb e=>q (by rw[List.mem_singleton] at hb;rw[← hb,← e];exact ha)⟩
theorem M0(l:List Nat):(C4 l).Nodup:=by
 have key:∀ (l acc:List Nat),acc.Nodup→(l.foldl G6 acc).Nodup:=fun l=>by
  induction l with
  | nil=>intro acc h;exact h
  | cons x l ih=>intro acc h;exact ih _ (A8l h)
 exact key l [] .nil
noncomputable def Z2(nm:Nat→Str)(ks:List Nat)(f:Nat→T):T:=.ds (ks.map nm) (ks.map f)
noncomputable def N1(nm:Nat→Str)(ks:List Nat)(f:Nat→T):AO:=.ds (ks.map nm) (ks.map f)
section
variable{nm:Nat→Str}(N:NmOk nm)(hk:∀ v∈ks,v<4){d:Nat}(hd:d<4)
include N hk hd
theorem A1n:nm d∈ks.map nm↔d∈ks:=by
 rw[List.mem_map]
 exact⟨fun ⟨u,hu,e⟩=>N.eq (hk u hu) hd e▸hu,fun h=>⟨d,h,rfl⟩⟩
theorem A4Y{f:Nat→T}:lk (ks.map nm) (ks.map f) (nm d)=if d∈ks then some (f d) else none:=A9z fun u hu e=>N.eq (hk u hu) hd e
theorem B5K{f:Nat→T}(hl:ks.length<1000):O7 (N1 nm ks f) (.str (nm d)) y=some (N1 nm (G6 ks d) fun v=>if v=d then y else f v):=by
 have e:O7 (N1 nm ks f) (.str (nm d)) y=some (.ds (stK (ks.map nm) (nm d)) (stX (ks.map nm) (ks.map f) (nm d) y)):=if_pos (by rw[List.length_map];exact hl)
 rw[e]
 have hr:∀ l:List Nat,(∀ v∈l,v<4)→rep (l.map nm) (l.map f) (nm d) y=l.map fun v=>if v=d then y else f v:=fun l=>by
  induction l with
  | nil=>intro _;rfl
  | cons u l ih=>
   intro h
   refine List.cons_eq_cons.mpr ⟨?_,ih fun v hv=>h v (.tail _ hv)⟩
   show (if nm u=nm d then y else f u)=if u=d then y else f u
   by_cases q:u=d
   ·rw[if_pos q,if_pos (by rw[q])]
   ·rw[if_neg q,if_neg (fun e=>q (N.eq (h u List.mem_cons_self) hd e))]
 unfold stK stX G6 N1
 by_cases q:d∈ks
 ·rw[if_pos ((A1n N hk hd).mpr q),if_pos ((A1n N hk hd).mpr q),if_pos q,hr ks hk]
 ·rw[if_neg (fun h=>q ((A1n N hk hd).mp h)),if_neg (fun h=>q ((A1n N hk hd).mp h)),if_neg q,List.map_append,List.map_append]
  have:ks.map f=ks.map fun v=>if v=d then y else f v:=List.map_congr_left fun v hv=>by rw[if_neg (fun e:v=d=>q (e▸hv))]
  rw[this]
  simp
end
theorem A0L(nd:ks.Nodup)(hk:∀ v∈ks,v<4):ks.length≤4:=by
 have p:((List.range 4).filter fun v=>ks.contains v).Perm ks:=(List.perm_ext_iff_of_nodup (List.nodup_range.filter _) nd).mpr fun v=>by
  rw[List.mem_filter,List.contains_iff_mem,List.mem_range]
  exact⟨fun h=>h.2,fun h=>⟨hk v h,h⟩⟩
 rw[← p.length_eq]
 exact List.length_filter_le _ _
theorem A3L{nm:Nat→Str}{f:Nat→T}{i:Nat}(h:σ.objs[i]?=some (N1 nm ks f)):toT σ (.ref i)=some (Z2 nm ks f,⟨σ.loc,σ.objs.set i .gone⟩):=B4 h rfl
theorem A1Z{nm:Nat→Str}{f:Nat→T}{o:List AO}{i:Nat}(h:o[i]?=some (N1 nm ks f)):A2i (.ret (.ref i)) ⟨l,o⟩=some (Z2 nm ks f,⟨l,o.set i .gone⟩):=A3L h
theorem A4r{nm:Nat→Str}(N:NmOk nm){a c:D}{i d:Nat}{f:Nat→T}{v:V}(h1:a σ=some (v,σ1))(h2:b σ1=some (.ref i,σ1))(h3:c σ1=some (.t (.str (nm d)),σ1))(ht:toT σ1 v=some (y,σ2))(ho:σ2.objs[i]?=some (N1 nm ks f))(nd:ks.Nodup)(hk:∀ v∈ks,v<4)(hd:d<4):
  O9 a b c σ=some (.next,⟨σ2.loc,σ2.objs.set i (N1 nm (G6 ks d) fun v=>if v=d then y else f v)⟩):=
 B4 h1 (B4 h2 (B4 h3 (B4 ht (B4 rfl (B4 rfl (B4 ho (B4 (B5K N hk hd (Nat.lt_of_le_of_lt (A0L nd hk) (by decide))) rfl)))))))
theorem A8e{nm:Nat→Str}(N:NmOk nm){f:Nat→T}{A B:V}(l:List Nat):∀ (pre:List Nat) (w3 w4:Option V),(pre++l).Nodup→(∀ v∈pre++l,v<4)→
  ∃ w3' w4',M9 (tT [3,4]) (O9 (A0 4) (A0 2) (A0 3)) (prs (l.map nm) (l.map f)) ⟨[some A,some B,some (.ref objs.length),w3,w4],objs++[N1 nm pre f]⟩=some (.next,⟨[some A,some B,some (.ref objs.length),w3',w4'],objs++[N1 nm (pre++l) f]⟩):=by
 induction l with
 | nil=>exact fun pre w3 w4 _ _=>⟨w3,w4,by rw[List.append_nil];rfl⟩
 | cons v l ih=>
  intro pre w3 w4 nd hk
  have hv:v∉pre:=fun h=>(List.nodup_append.mp nd).2.2 v h v (.head _) rfl
  have e:G6 pre v=pre++[v]:=if_neg hv
  have ef:N1 nm (pre++[v]) (fun u=>if u=v then f v else f u)=N1 nm (pre++[v]) f:=
   congrArg (AO.ds _) (List.map_congr_left fun u _=>by
    by_cases q:u=v
    ·rw[if_pos q,q]
    ·rw[if_neg q])
  obtain⟨w3',w4',ih⟩:=ih (pre++[v]) (some (.t (.str (nm v)))) (some (.t (f v))) (by rwa [List.append_assoc]) (by rwa [List.append_assoc])
  refine⟨w3',w4',I6 rfl (A4r N (i:=objs.length) (d:=v) (ks:=pre) (f:=f) (y:=f v) rfl rfl rfl rfl G2 (List.nodup_append.mp nd).1 (fun u hu=>hk u (List.mem_append_left _ hu)) (hk v (List.mem_append_right _ (.head _)))) ?_⟩
  rw[e,ef,K5]
  rw[List.append_assoc] at ih
  exact ih
noncomputable def t3(a b c:Int):T:=.tup [.int a,.int b,.int c]
theorem B43{nm:Nat→Str}(N:NmOk nm){a b c:Nat→Int}{u:Nat}{x p q:Int}(nd:ks.Nodup)(hk:∀ v∈ks,v<4)(hu:u<4):
  sp_add_callers [.t (Z2 nm ks fun v=>t3 (a v) (b v) (c v)),.t (Z2 nm [u] fun _=>t3 x p q)] [] objs=
   some (Z2 nm (G6 ks u) (fun v=>if v=u then (if u∈ks then t3 (x+a u) (p+b u) (q+c u) else t3 x p q) else t3 (a v) (b v) (c v)),objs):=by
 obtain⟨w3,w4,h1⟩:=A8e N (f:=fun v=>t3 (a v) (b v) (c v)) (A:=.t (Z2 nm ks fun v=>t3 (a v) (b v) (c v))) (B:=.t (Z2 nm [u] fun _=>t3 x p q)) (objs:=objs) ks [] none none (by rwa [List.nil_append]) (by rwa [List.nil_append])
 rw[List.nil_append] at h1
 generalize hy:(if u∈ks then t3 (x+a u) (p+b u) (q+c u) else t3 x p q)=y
 let σ:St:=⟨[some (.t (Z2 nm ks fun v=>t3 (a v) (b v) (c v))),some (.t (Z2 nm [u] fun _=>t3 x p q)),some (.ref objs.length),some (.t (.str (nm u))),some (.t (t3 x p q))],objs++[N1 nm ks fun v=>t3 (a v) (b v) (c v)]⟩
 have put:∀ (w:V) (e:D),e σ=some (w,σ)→toT σ w=some (y,σ)→O9 e (A0 2) (A0 3) σ=some (.next,⟨σ.loc,σ.objs.set objs.length (N1 nm (G6 ks u) fun v=>if v=u then y else t3 (a v) (b v) (c v))⟩):=
  fun w e h1 ht=>A4r N (f:=fun v=>t3 (a v) (b v) (c v)) h1 rfl rfl ht G2 nd hk hu
 have hv:view ⟨[some (.t (Z2 nm ks fun v=>t3 (a v) (b v) (c v))),some (.t (Z2 nm [u] fun _=>t3 x p q)),some (.ref objs.length),some (.t (.str (nm u))),some (.t (t3 x p q))],objs++[N1 nm ks fun v=>t3 (a v) (b v) (c v)]⟩ (.ref objs.length)=some (Z2 nm ks fun v=>t3 (a v) (b v) (c v)):=B4 G2 rfl
 have hs:(objs++[N1 nm ks fun v=>t3 (a v) (b v) (c v)]).set objs.length (N1 nm (G6 ks u) fun v=>if v=u then y else t3 (a v) (b v) (c v))=objs++[N1 nm (G6 ks u) fun v=>if v=u then y else t3 (a v) (b v) (c v)]:=K5
 have put:∀ (w:V) (e:D),e σ=some (w,σ)→toT σ w=some (y,σ)→O9 e (A0 2) (A0 3) σ=some (.next,⟨σ.loc,objs++[N1 nm (G6 ks u) fun v=>if v=u then y else t3 (a v) (b v) (c v)]⟩):=fun w e h1 ht=>hs▸put w e h1 ht
 have h2:(H5 (C1 (d2 fIn (A0 3) (A0 2))) (H5 (C1 (d2 fIsTup (A0 4) (dT (.cst (.type "tuple"))))) (O9 (B4q (A0 4) (A7 (A0 2) (A0 3))) (A0 2) (A0 3)) (A0Z fAdd (A0 2) (A0 3) (A0 4))) (O9 (A0 4) (A0 2) (A0 3)))
   ⟨[some (.t (Z2 nm ks fun v=>t3 (a v) (b v) (c v))),some (.t (Z2 nm [u] fun _=>t3 x p q)),some (.ref objs.length),some (.t (.str (nm u))),some (.t (t3 x p q))],objs++[N1 nm ks fun v=>t3 (a v) (b v) (c v)]⟩=
   some (.next,⟨[some (.t (Z2 nm ks fun v=>t3 (a v) (b v) (c v))),some (.t (Z2 nm [u] fun _=>t3 x p q)),some (.ref objs.length),some (.t (.str (nm u))),some (.t (t3 x p q))],objs++[N1 nm (G6 ks u) fun v=>if v=u then y else t3 (a v) (b v) (c v)]⟩):=by
  have hlk:=A4Y N hk hu (f:=fun v=>t3 (a v) (b v) (c v))
  by_cases m:u∈ks
  ·rw[if_pos m] at hlk hy
   have hin:fIn (.str (nm u)) (Z2 nm ks fun v=>t3 (a v) (b v) (c v))=some (.bool true):=congrArg (fun o=>some (T.bool (Option.isSome o))) hlk
   refine H8 (I2 (C5 rfl rfl rfl hv hin) rfl rfl) (H8 rfl ?_)
   refine put (.t y) _ ?_ rfl
   subst hy
   exact B4 rfl (B4 (G7 rfl rfl hv rfl rfl hlk) (B4 (x:=[.int x,.int p,.int q]) rfl (B4 (x:=[.int (a u),.int (b u),.int (c u)]) rfl (B4 (x:=[x,p,q]) rfl (B4 (x:=[a u,b u,c u]) rfl rfl)))))
  ·rw[if_neg m] at hlk hy
   have hin:fIn (.str (nm u)) (Z2 nm ks fun v=>t3 (a v) (b v) (c v))=some (.bool false):=congrArg (fun o=>some (T.bool (Option.isSome o))) hlk
   refine H8 (I2 (C5 rfl rfl rfl hv hin) rfl rfl) ?_
   subst hy
   exact put (.t (t3 x p q)) _ rfl rfl
 refine S7 rfl (B0 (C3 rfl) (B0 (O4 rfl rfl rfl h1 rfl) (B0 (O4 rfl rfl rfl (I6 rfl h2 rfl) rfl) (K0 rfl)))) (A1Z G2) (by rw[K5,List.take_left' rfl])
end
section
noncomputable def t5(a b c d:Int)(e:T):T:=.tup [.int a,.int b,.int c,.int d,e]
theorem B6H{old new:T}{e:T}{a b c d a' b' c' d':Int}(h:sp_add_callers [.t old,.t new] [] objs=some (e,objs)):
  sp_add_func_stats [.t (t5 a b c d old),.t (t5 a' b' c' d' new)] [] objs=some (t5 (a'+a) (b'+b) (c'+c) (d'+d) e,objs):=by
 refine S7 rfl (B0 (A4q rfl rfl) (B0 (A4q rfl rfl) (K0 (I8 (A4 rfl (A4 rfl (A4 rfl (A4 rfl (A4 (J8 (A4 rfl (A4 rfl B8)) h) B8))))) (show 5<1000 from by decide) rfl)))) rfl List.take_length
section
variable(Z:Mz)(nm:Nat→Str)(start:Nat)
noncomputable def Mz.ab(w:Nat):Int:=Z.ri (w - w % 2)
noncomputable def Mz.dst(w:Nat):Nat:=Z.src (u5 w)
noncomputable def Mz.into(W:List Nat)(v:Nat):List Nat:=W.filter fun w=>Z.dst w==v
noncomputable def cT(I:List Nat)(u:Nat):T:=t3 (I.countP (Z.src ·==u):Nat) ((I.filter (Z.src ·==u)).map Z.ri).sum ((I.filter (Z.src ·==u)).map Z.ab).sum
noncomputable def d4(I:List Nat):T:=Z2 nm (C4 (I.map Z.src)) (cT Z I)
noncomputable def E2(W:List Nat)(v:Nat):T:=t5 (if v=start then 0 else 1) (Z.into W v).length ((Z.into W v).map Z.ri).sum ((Z.into W v).map Z.ab).sum (d4 Z nm (Z.into W v))
noncomputable def M2(W:List Nat):List Nat:=C4 (W.map Z.dst)
end
section
variable{Z:Mz}{nm:Nat→Str}{start:Nat}
theorem A21{l:List Nat}(h:∀ v∈l,v<4):∀ v∈C4 l,v<4:=fun v hv=>h v (mem_firsts.mp hv)
theorem A0E(I:List Nat):∀ v∈C4 (I.map Z.src),v<4:=A21 fun v hv=>by obtain⟨w,_,rfl⟩:=List.mem_map.mp hv;exact Z.lt4 w
theorem A16(I:List Nat):∀ v∈M2 Z I,v<4:=A21 fun v hv=>by obtain⟨w,_,rfl⟩:=List.mem_map.mp hv;exact Z.lt4 _
theorem s9{l:List Int}{x:Int}:(l++[x]).sum=x+l.sum:=by simp [Int.add_comm]
theorem A7O(I:List Nat)(w v:Nat):cT Z (I++[w]) v=if v=Z.src w then t3 (1+(I.countP (Z.src ·==v):Nat)) (Z.ri w+((I.filter (Z.src ·==v)).map Z.ri).sum) (Z.ab w+((I.filter (Z.src ·==v)).map Z.ab).sum) else cT Z I v:=by
 unfold cT
 rw[List.countP_append,List.filter_append,List.map_append,List.map_append]
 by_cases q:v=Z.src w
 ·subst q
  rw[if_pos rfl]
  have h1:[w].countP (fun x=>Z.src x==Z.src w)=1:=by simp
  have h2:[w].filter (fun x=>Z.src x==Z.src w)=[w]:=by simp
  rw[h1,h2,List.map_cons,List.map_nil,List.map_cons,List.map_nil,s9,s9,Int.natCast_add,Int.add_comm];rfl
 ·have:(Z.src w==v)=false:=by simpa using fun e=>q e.symm
  rw[if_neg q]
  simp [this]
theorem A7P{I:List Nat}{v:Nat}(h:v∉C4 (I.map Z.src)):I.countP (Z.src ·==v)=0∧I.filter (Z.src ·==v)=[]:=by
 have h:∀ w∈I,¬ (Z.src w==v)=true:=fun w hw e=>h (mem_firsts.mpr (List.mem_map.mpr ⟨w,hw,by simpa using e⟩))
 exact⟨List.countP_eq_zero.mpr h,List.filter_eq_nil_iff.mpr h⟩
theorem A8Z{f g:Nat→T}(h:∀ v∈ks,f v=g v):Z2 nm ks f=Z2 nm ks g:=by unfold Z2;rw[List.map_congr_left h]
theorem A6E(I:List Nat)(w:Nat):d4 Z nm (I++[w])=Z2 nm (G6 (C4 (I.map Z.src)) (Z.src w)) fun v=>if v=Z.src w then (if Z.src w∈C4 (I.map Z.src) then t3 (1+(I.countP (Z.src ·==Z.src w):Nat)) (Z.ri w+((I.filter (Z.src ·==Z.src w)).map Z.ri).sum) (Z.ab w+((I.filter (Z.src ·==Z.src w)).map Z.ab).sum) else t3 1 (Z.ri w) (Z.ab w)) else cT Z I v:=by
 unfold d4
 rw[List.map_append,List.map_cons,List.map_nil,T9]
 refine A8Z fun v _ => ?_
 rw[A7O]
 by_cases q:v=Z.src w
 ·rw[if_pos q,if_pos q,q]
  split
  ·rfl
  ·rename_i h
   obtain⟨h1,h2⟩:=A7P h
   rw[h1,h2];simp [t3]
 ·rw[if_neg q,if_neg q]
theorem B2z(N:NmOk nm)(I:List Nat)(w:Nat)(objs:List AO):sp_add_callers [.t (d4 Z nm I),.t (Z2 nm [Z.src w] fun _=>t3 1 (Z.ri w) (Z.ab w))] [] objs=some (d4 Z nm (I++[w]),objs):=
 (B43 N (M0 _) (A0E I) (Z.lt4 w)).trans (by rw[A6E];rfl)
theorem A2z(W:List Nat)(w v:Nat):Z.into (W++[w]) v=if v=Z.dst w then Z.into W v++[w] else Z.into W v:=by
 unfold Mz.into
 rw[List.filter_append]
 by_cases q:v=Z.dst w
 ·rw[if_pos q,q];simp
 ·have:(Z.dst w==v)=false:=by simpa using fun e=>q e.symm
  rw[if_neg q];simp [this]
end
end
section
theorem B0j{a c:D}{v:V}{y:Str}{w:V}{ks:List Str}{xs:List T}{r:T}(h1:a σ=some (v,σ))(hv:view σ v=some (.ds ks xs))(h2:b σ=some (.t (.str y),σ))(h3:c σ=some (w,σ1))(hv2:view σ1 v=some (.ds ks xs))(hr:(lk ks xs y).elim (some (w,σ1)) (fun z=>some (V.t z,σ1))=some (.t r,σ1)):A59 a b c σ=some (.t r,σ1):=
 B4 h1 (G4 (congrArg (fun o=>o.elim false isDsT) hv) (B4 h2 (B4 h3 (B4 hv2 hr))))
theorem B52{a:D}{v:V}{w:Nat}(h:a σ=some (v,σ))(hv:view σ v=some (.str (sgn w)))(hw:w<10):P1 isStrT fLower a σ=some (.t (.str (sgn (w - w % 2))),σ):=
 A2V h hv rfl (by show A1U (Txt.lower (sgn w))=_;rw[A7l w hw];rfl)
theorem n9{α:Type}(f:α→Int)(l:List α):N6 (l.map fun x=>.int (f x))=some (l.map f):=by
 induction l with
 | nil=>rfl
 | cons x l ih=>
  show (some (f x)).bind (fun y=>(N6 (l.map fun x=>.int (f x))).map (y :: ·))=_
  rw[ih];rfl
theorem B5y{a:D}{α:Type}{f:α→Int}{l:List α}(h:a σ=some (.t (.lst (l.map fun x=>.int (f x))),σ)):d1 fSum a σ=some (.t (.int (l.map f).sum),σ):=U4 h rfl (by show (N6 _).map _=_;rw[n9];rfl)
section
variable{Z:Mz}{nm:Nat→Str}{start:Nat}
theorem B2h{a:D}{v:V}{w:Nat}(h1:a σ=some (.t Z.endsT,σ))(h2:b σ=some (v,σ))(hv:view σ v=some (.str (sgn w)))(hw:w<10):A7 (A7 a (P1 isStrT fLower b)) (dT (.int 2)) σ=some (.t (.int (Z.ab w)),σ):=
 B0g h1 (B52 h2 hv hw) rfl (Nat.lt_of_le_of_lt (Nat.sub_le _ _) hw)
theorem B44(N:NmOk nm)(I:List Nat){u:Nat}(hu:u<4):(lk ((C4 (I.map Z.src)).map nm) ((C4 (I.map Z.src)).map (cT Z I)) (nm u)).elim (some (.t (t3 0 0 0),σ)) (fun z=>some (V.t z,σ))=some (.t (cT Z I u),σ):=by
 rw[A4Y N (A0E I) hu]
 by_cases m:u∈C4 (I.map Z.src)
 ·rw[if_pos m];rfl
 ·rw[if_neg m]
  obtain⟨h1,h2⟩:=A7P m
  rw[cT,h1,h2];rfl
theorem A6F(I:List Nat)(w:Nat):N1 nm (G6 (C4 (I.map Z.src)) (Z.src w)) (fun v=>if v=Z.src w then t3 ((I.countP (Z.src ·==Z.src w):Nat)+1) (((I.filter (Z.src ·==Z.src w)).map Z.ri).sum+Z.ri w) (((I.filter (Z.src ·==Z.src w)).map Z.ab).sum+Z.ab w) else cT Z I v)=N1 nm (C4 ((I++[w]).map Z.src)) (cT Z (I++[w])):=by
 rw[List.map_append,List.map_cons,List.map_nil,T9]
 unfold N1
 congr 1
 refine List.map_congr_left fun v _ => ?_
 rw[A7O]
 by_cases q:v=Z.src w
 ·rw[if_pos q,if_pos q,q,Int.add_comm,Int.add_comm (_:Int) (Z.ri w),Int.add_comm (_:Int) (Z.ab w)]
 ·rw[if_neg q,if_neg q]
noncomputable abbrev B1A(Z:Mz)(nm:Nat→Str)(start p:Nat)(I:T)(n:Nat)(w7 w8 w9 w10:Option V)(o:List AO):St:=⟨[some (.t Z.endsT),some (.t (I5 nm)),some (.t (.int start)),some (.ref 0),some (.t (.int p)),some (.t I),some (.ref n),w7,w8,w9,w10],o⟩
noncomputable abbrev bkW:DS:=(A9 (B9 8 (A7 (A0 1) (A7 (A7 (A0 0) (A0 7)) (dT (.int 0))))) (A9 (B9 9 (A59 (A0 6) (A0 8) (E5 (A2 (dT (.int 0)) (A2 (dT (.int 0)) (A2 (dT (.int 0)) dNil)))))) (O9 (E5 (A2 (d2 fAdd (A7 (A0 9) (dT (.int 0))) (dT (.int 1))) (A2 (d2 fAdd (A7 (A0 9) (dT (.int 1))) (A7 (A7 (A0 0) (A0 7)) (dT (.int 2)))) (A2 (d2 fAdd (A7 (A0 9) (dT (.int 2))) (A7 (A7 (A0 0) (P1 isStrT fLower (A0 7))) (dT (.int 2)))) dNil)))) (A0 6) (A0 8))))
theorem A36{o:List AO}{f:Nat→T}:view ⟨l,o++[N1 nm ks f]⟩ (.ref o.length)=some (Z2 nm ks f):=B4 G2 rfl
theorem B45(N:NmOk nm){p:Nat}{L:T}{I:List Nat}{w:Nat}(hw:w<10){w8 w9:Option V}{o:List AO}:bkW (B1A Z nm start p L o.length (some (.t (.str (sgn w)))) w8 w9 w10 (o++[N1 nm (C4 (I.map Z.src)) (cT Z I)]))=
  some (.next,B1A Z nm start p L o.length (some (.t (.str (sgn w)))) (some (.t (.str (nm (Z.src w))))) (some (.t (cT Z I (Z.src w)))) w10 (o++[N1 nm (C4 ((I++[w]).map Z.src)) (cT Z (I++[w]))])):=by
 refine B0 (C3 (N0 rfl (A24 rfl rfl rfl hw) (Z.lt4 w))) ?_
 refine B0 (C3 (B0j rfl A36 rfl (I8 (A4 rfl (A4 rfl (A4 rfl B8))) (show 3<1000 from by decide) rfl) A36 (B44 N I (Z.lt4 w)))) ?_
 refine(A4r N (d:=Z.src w) (ks:=C4 (I.map Z.src)) (f:=cT Z I) (i:=o.length) (I8 (A4 (C5 rfl rfl rfl rfl rfl) (A4 (C5 rfl (B0g rfl rfl rfl hw) rfl rfl rfl) (A4 (C5 rfl (B2h rfl rfl rfl hw) rfl rfl rfl) B8))) (show 3<1000 from by decide) rfl) rfl rfl rfl G2 (M0 _) (A0E I) (Z.lt4 w)).trans ?_
 exact congrArg (fun x=>some (Fl.next,B1A Z nm start p L o.length (some (.t (.str (sgn w)))) (some (.t (.str (nm (Z.src w))))) (some (.t (cT Z I (Z.src w)))) w10 x)) ((congrArg (List.set _ _) (A6F (Z:=Z) (nm:=nm) I w)).trans K5)
theorem B21(N:NmOk nm){p:Nat}{L:T}{o:List AO}(rest:List Nat):∀ (I:List Nat) (w7 w8 w9 w10:Option V),(∀ w∈rest,w<10)→∃ w7' w8' w9',M9 (tN 7) bkW (rest.map fun w=>.str (sgn w)) (B1A Z nm start p L o.length w7 w8 w9 w10 (o++[N1 nm (C4 (I.map Z.src)) (cT Z I)]))=some (.next,B1A Z nm start p L o.length w7' w8' w9' w10 (o++[N1 nm (C4 ((I++rest).map Z.src)) (cT Z (I++rest))])):=by
 induction rest with
 | nil=>exact fun I w7 w8 w9 w10 _=>⟨w7,w8,w9,by rw[List.append_nil];rfl⟩
 | cons w rest ih=>
  intro I w7 w8 w9 w10 h
  obtain⟨w7',w8',w9',ih⟩:=ih (I++[w]) (some (.t (.str (sgn w)))) (some (.t (.str (nm (Z.src w))))) (some (.t (cT Z I (Z.src w)))) w10 fun x hx=>h x (.tail _ hx)
  rw[List.append_assoc] at ih
  exact⟨w7',w8',w9',I6 rfl (B45 N (h w (.head _))) ih⟩
end
end
section
theorem Z0{α:Type}(l:List α):l.filter (fun _=>true)=l:=List.filter_eq_self.mpr fun _ _=>rfl
theorem X2(a b:Nat):((a:Int)==(b:Int))=(a==b):=by
 rw[Bool.eq_iff_iff,beq_iff_eq,beq_iff_eq];exact⟨Int.ofNat.inj,congrArg _⟩
theorem A33:(W10.map sgn).map T.str=W10.map fun w=>.str (sgn w):=by rw[List.map_map];rfl
section
variable{Z:Mz}{nm:Nat→Str}{start:Nat}
theorem B4h{p:Nat}(h1:A0 0 σ=some (.t Z.endsT,σ))(hs:∀ w,w<10→A7 (A7 (A0 0) (A0 σ.loc.length)) (dT (.int 1)) ⟨σ.loc++[some (.t (.str (sgn w)))],σ.objs⟩=some (.t (.int (Z.dst w)),⟨σ.loc++[some (.t (.str (sgn w)))],σ.objs⟩))(hb:∀ x,b ⟨σ.loc++[x],σ.objs⟩=some (.t (.int p),⟨σ.loc++[x],σ.objs⟩)):E3 1 itN (A0 0) (C1 (d2 fEq (A7 (A7 (A0 0) (A0 σ.loc.length)) (dT (.int 1))) b)) (A0 σ.loc.length) σ=some (.t (c0 (Z.into W10 p)),σ):=by
 refine O8 (xs:=W10) (h:=fun w=>.str (sgn w)) (f:=fun w=>Z.dst w==p) (g:=fun w=>.str (sgn w)) h1 (congrArg some A33) (by decide) fun w hw=>⟨?_,fun _ => ?_⟩
 ·rw[← X2]
  exact I2 (C5 (hs w (W10_lt.mp hw)) (hb _) rfl rfl rfl) rfl rfl
 ·exact B4 (by rw[List.getElem?_append_right (Nat.le_refl _),Nat.sub_self];rfl) rfl
theorem A60{v w:Nat}(h:w∈Z.into W10 v):w<10:=W10_lt.mp (List.mem_filter.mp h).1
noncomputable abbrev bkB:DS:=(A9 (B9 5 (E3 1 itN (A0 0) (C1 (d2 fEq (A7 (A7 (A0 0) (A0 11)) (dT (.int 1))) (A0 4))) (A0 11))) (A9 (B9 6 dNewDs) (A9 (U6 itN (A0 5) (tN 7) bkW) (A9 (B9 10 (L2 (A2 (d1 fSum (E3 1 itN (A0 5) (G0 true) (A7 (A7 (A0 0) (A0 11)) (dT (.int 2))))) (A2 (d1 fSum (E3 1 itN (A0 5) (G0 true) (A7 (A7 (A0 0) (P1 isStrT fLower (A0 11))) (dT (.int 2))))) dNil)))) (O9 (E5 (A2 (dIf (C1 (d2 fEq (A0 4) (A0 2))) (dT (.int 0)) (dT (.int 1))) (A2 (d1 fLen (A0 5)) (A2 (A7 (A0 10) (dT (.int 0))) (A2 (A7 (A0 10) (dT (.int 1))) (A2 (A0 6) dNil)))))) (A0 3) (A7 (A0 1) (A0 4)))))))
noncomputable abbrev A8i(Z:Mz)(nm:Nat→Str)(start:Nat)(w4 w5 w6 w7 w8 w9 w10:Option V)(o:List AO):St:=⟨[some (.t Z.endsT),some (.t (I5 nm)),some (.t (.int start)),some (.ref 0),w4,w5,w6,w7,w8,w9,w10],o⟩
theorem A4g(v:Nat):(Z.into W10 v).length<1000:=Nat.lt_of_le_of_lt (List.length_filter_le _ _) (by decide)
theorem z7(N:NmOk nm){ps:List Nat}{p:Nat}(hp:p<4)(nd:ps.Nodup)(hk:∀ v∈ps,v<4)(hn:p∉ps){w8 w9:Option V}{gs:List AO}:
  ∃ w5' w6' w7' w8' w9' w10' gs',bkB (A8i Z nm start (some (.t (.int p))) w5 w6 w7 w8 w9 w10 (N1 nm ps (E2 Z nm start W10)::gs))=
   some (.next,A8i Z nm start (some (.t (.int p))) w5' w6' w7' w8' w9' w10' (N1 nm (ps++[p]) (E2 Z nm start W10)::gs')):=by
 obtain⟨w7',w8',w9',h⟩:=B21 (Z:=Z) (start:=start) N (p:=p) (L:=c0 (Z.into W10 p)) (o:=N1 nm ps (E2 Z nm start W10)::gs) (Z.into W10 p) [] w7 w8 w9 w10 fun w hw=>A60 hw
 rw[List.nil_append] at h
 refine⟨some (.t (c0 (Z.into W10 p))),some (.ref (gs.length+1)),w7',w8',w9',some (.t (.lst [.int ((Z.into W10 p).map Z.ri).sum,.int ((Z.into W10 p).map Z.ab).sum])),gs++[.gone],?_⟩
 refine B0 (C3 (B4h (p:=p) (σ:=A8i Z nm start (some (.t (.int p))) w5 w6 w7 w8 w9 w10 (N1 nm ps (E2 Z nm start W10)::gs)) rfl (fun w hw=>A4u rfl rfl rfl hw) (fun _=>rfl))) ?_
 refine B0 (C3 rfl) (B0 (O4 rfl rfl rfl h rfl) ?_)
 have hs:∀ (f:Nat→Int) (d:D) (σ:St),A0 5 σ=some (.t (c0 (Z.into W10 p)),σ)→(∀ w,w<10→d ⟨σ.loc++[some (.t (.str (sgn w)))],σ.objs⟩=some (.t (.int (f w)),⟨σ.loc++[some (.t (.str (sgn w)))],σ.objs⟩))→d1 fSum (E3 1 itN (A0 5) (G0 true) d) σ=some (.t (.int ((Z.into W10 p).map f).sum),σ):=fun f d σ h5 hd=>by
  have e:=O8 (itf:=itN) (p:=G0 true) (d:=d) (xs:=Z.into W10 p) (h:=fun w=>.str (sgn w)) (f:=fun _=>true) (g:=fun w=>.int (f w)) h5 rfl (A4g p) fun w hw=>⟨rfl,fun _=>hd w (A60 hw)⟩
  rw[Z0] at e
  exact B5y e
 refine B0 (C3 (m5 (A4 (hs Z.ri _ _ rfl fun w hw=>B0g rfl rfl rfl hw) (A4 (hs Z.ab _ _ rfl fun w hw=>B2h rfl rfl rfl hw) B8)) (show 2<1000 from by decide) rfl)) ?_
 have e0:G6 ps p=ps++[p]:=if_neg hn
 have ef:N1 nm (ps++[p]) (fun u=>if u=p then E2 Z nm start W10 p else E2 Z nm start W10 u)=N1 nm (ps++[p]) (E2 Z nm start W10):=by
  exact congrArg (AO.ds _) (List.map_congr_left fun u _=>by
   by_cases q:u=p
   ·rw[if_pos q,q]
   ·rw[if_neg q])
 generalize hx:V.t (.lst [.int ((Z.into W10 p).map Z.ri).sum,.int ((Z.into W10 p).map Z.ab).sum])=x10
 let σ:St:=A8i Z nm start (some (.t (.int p))) (some (.t (c0 (Z.into W10 p)))) (some (.ref (gs.length+1))) w7' w8' w9' (some x10) (N1 nm ps (E2 Z nm start W10)::gs++[N1 nm (C4 ((Z.into W10 p).map Z.src)) (cT Z (Z.into W10 p))])
 have ht:E5 (A2 (dIf (C1 (d2 fEq (A0 4) (A0 2))) (dT (.int 0)) (dT (.int 1))) (A2 (d1 fLen (A0 5)) (A2 (A7 (A0 10) (dT (.int 0))) (A2 (A7 (A0 10) (dT (.int 1))) (A2 (A0 6) dNil))))) σ=some (.t (E2 Z nm start W10 p),⟨σ.loc,N1 nm ps (E2 Z nm start W10)::gs++[.gone]⟩):=by
  subst hx
  have h1:dIf (C1 (d2 fEq (A0 4) (A0 2))) (dT (.int 0)) (dT (.int 1)) σ=some (.t (.int (if p=start then 0 else 1)),σ):=by
   refine A4t (b:=(p:Int)==(start:Int)) rfl ?_
   rw[X2]
   by_cases q:p=start
   ·rw[if_pos q,if_pos (by simpa using q)];rfl
   ·rw[if_neg q,if_neg (by simpa using q)];rfl
  have h2:d1 fLen (A0 5) σ=some (.t (.int (Z.into W10 p).length),σ):=U4 rfl rfl ((if_pos (by rw[List.length_map];exact A4g p)).trans (by rw[List.length_map]))
  refine I8 (A4 h1 (A4 h2 (A4 rfl (A4 rfl (A4 rfl B8))))) (show 5<1000 from by decide) ?_
  have ho:σ.objs[gs.length+1]?=some (N1 nm (C4 ((Z.into W10 p).map Z.src)) (cT Z (Z.into W10 p))):=G2 (objs:=N1 nm ps (E2 Z nm start W10)::gs)
  have hg:σ.objs.set (gs.length+1) .gone=N1 nm ps (E2 Z nm start W10)::gs++[.gone]:=K5 (objs:=N1 nm ps (E2 Z nm start W10)::gs)
  have h5:toT σ (.ref (gs.length+1))=some (d4 Z nm (Z.into W10 p),⟨σ.loc,N1 nm ps (E2 Z nm start W10)::gs++[.gone]⟩):=by
   rw[← hg]
   exact A3L ho
  exact W9 (W9 (W9 (W9 (A8X h5))))
 have e:=A4r N (σ:=σ) (b:=A0 3) (c:=A7 (A0 1) (A0 4)) (d:=p) (ks:=ps) (f:=E2 Z nm start W10) (i:=0) ht rfl (N0 rfl rfl hp) rfl rfl nd hk hp
 rw[e0,ef] at e
 exact e
theorem B2y(N:NmOk nm):sp_law_books [.t Z.endsT,.t (I5 nm),.t (.int start)] [] []=some (Z2 nm [0,1,2,3] (E2 Z nm start W10),[]):=by
 obtain⟨a5,a6,a7,a8,a9,a10,ga,ha⟩:=z7 (Z:=Z) (start:=start) N (ps:=[]) (p:=0) (w5:=none) (w6:=none) (w7:=none) (w8:=none) (w9:=none) (w10:=none) (gs:=[]) (by decide) (by decide) (by decide) (by decide)
 obtain⟨b5,b6,b7,b8,b9,b10,gb,hb⟩:=z7 (Z:=Z) (start:=start) N (ps:=[0]) (p:=1) (w5:=a5) (w6:=a6) (w7:=a7) (w8:=a8) (w9:=a9) (w10:=a10) (gs:=ga) (by decide) (by decide) (by decide) (by decide)
 obtain⟨c5,c6,c7,c8,c9,c10,gc,hc⟩:=z7 (Z:=Z) (start:=start) N (ps:=[0,1]) (p:=2) (w5:=b5) (w6:=b6) (w7:=b7) (w8:=b8) (w9:=b9) (w10:=b10) (gs:=gb) (by decide) (by decide) (by decide) (by decide)
 obtain⟨d5,d6,d7,d8,d9,d10,gd,hd⟩:=z7 (Z:=Z) (start:=start) N (ps:=[0,1,2]) (p:=3) (w5:=c5) (w6:=c6) (w7:=c7) (w8:=c8) (w9:=c9) (w10:=c10) (gs:=gc) (by decide) (by decide) (by decide) (by decide)
 have h:M9 (tN 4) bkB [.int 0,.int 1,.int 2,.int 3] (A8i Z nm start none none none none none none none [N1 nm [] (E2 Z nm start W10)])=some (.next,A8i Z nm start (some (.t (.int 3))) d5 d6 d7 d8 d9 d10 (N1 nm [0,1,2,3] (E2 Z nm start W10)::gd)):=
  I6 rfl ha (I6 rfl hb (I6 rfl hc (I6 rfl hd rfl)))
 exact S7 rfl (B0 (C3 rfl) (B0 (O4 rfl rfl rfl h rfl) (K0 rfl))) (A1Z rfl) rfl
end
end
section
noncomputable def R9(n:Str)(kvs:List (Str×Str)):Option Str:=(kvs.find? (M7 n)).map (·.2)
theorem A2u{α:Type}{n x:Str}(h:R9 n kvs=some x)(f:Str→α)(d:α):((kvs.find? (M7 n)).elim d fun p=>f p.2)=f x:=by
 unfold R9 at h
 obtain⟨p,hp,e⟩:=Option.map_eq_some_iff.mp h
 rw[hp,← e]
 rfl
theorem A2v{α:Type}{n:Str}(h:R9 n kvs=none)(f:Str→α)(d:α):((kvs.find? (M7 n)).elim d fun p=>f p.2)=d:=by
 unfold R9 at h
 rw[Option.map_eq_none_iff.mp h]
 rfl
section
variable{i:Nat}{a c:D}{n x:Str}{d:T}
theorem A15(h1:a σ=some (hobj i,σ))(h2:b σ=some (.t (.str n),σ))(H:HAt i σ.objs kvs)(hn:D5 (Txt.lower n))(h:R9 n kvs=some x):E9 171 (Str.ofString "_headers") sp_H_get a (A2 b dNil) [] dNil σ=some (.t (.str x),σ):=
 (B0k h1 h2 H hn).trans (congrArg (fun t=>some (V.t t,σ)) (A2u h T.str _))
theorem B4i(h1:a σ=some (hobj i,σ))(h2:b σ=some (.t (.str n),σ))(H:HAt i σ.objs kvs)(hn:D5 (Txt.lower n))(h:R9 n kvs=none):E9 171 (Str.ofString "_headers") sp_H_get a (A2 b dNil) [] dNil σ=some (.t .none,σ):=
 (B0k h1 h2 H hn).trans (congrArg (fun t=>some (V.t t,σ)) (A2v h T.str _))
theorem B2f(h1:a σ=some (hobj i,σ))(h2:b σ=some (.t (.str n),σ))(h3:c σ=some (.t (.str x),σ)){y:Str}(H:HAt i σ.objs kvs)(hn:D5 (Txt.lower n))(h:(R9 n kvs).getD x=y):E9 171 (Str.ofString "_headers") sp_H_get a (A2 b (A2 c dNil)) [] dNil σ=some (.t (.str y),σ):=by
 refine(B4j h1 h2 h3 H hn).trans (congrArg (fun t=>some (V.t t,σ)) ?_)
 cases q:R9 n kvs with
 | some z=>rw[q] at h;exact(A2u q T.str _).trans (congrArg T.str h)
 | none=>rw[q] at h;exact(A2v q T.str _).trans (congrArg T.str h)
theorem A68{v:Str}(h1:a σ=some (.t (.str v),σ))(h2:b σ=some (hobj i,σ))(h3:c σ=some (.t (.str n),σ))(H:HAt i σ.objs kvs)(ln:D5 (Txt.lower n))(pn:D5 n)(pv:D5 v):
  Z4 171 (Str.ofString "_headers") sp_H_setitem a b c σ=some (.next,⟨σ.loc,σ.objs.set i (.lst ((K6 n kvs++[(n,v)]).map J9))⟩):=
 B4 h1 (B4 h2 (G4 (T6 i) (B4 h3 (B4 (A8g H ln pn pv) rfl))))
end
section
variable{nm:Nat→Str}(N:NmOk nm)
noncomputable def E8(nm:Nat→Str)(up:Nat→Bool)(f:Nat→List Nat)(od:List Nat):List (Str×Str):=od.map fun v=>(if up v then Txt.upper (nm v) else nm v,F9 (f v))
variable{up:Nat→Bool}{f:Nat→List Nat}(ho:∀ v∈od,v<4)
include N ho
theorem A4v{v:Nat}(hv:v∈od):Txt.lower (if up v then Txt.upper (nm v) else nm v)=Txt.lower (nm v):=by
 split
 ·exact N.lowU v (ho v hv)
 ·rfl
theorem A1H{i:Nat}{o:List AO}(nd:od.Nodup)(h:o[i]?=some (.lst ((E8 nm up f od).map J9))):HAt i o (E8 nm up f od):=
 ⟨h,fun p hp=>by
  obtain⟨v,hv,rfl⟩:=List.mem_map.mp hp
  rw[A4v N ho hv];exact(N.plL v (ho v hv)).2,by
  rw[E8,List.length_map];exact Nat.lt_of_le_of_lt (A0L nd ho) (by decide)⟩
theorem A4w{n:Str}{d:Nat}(hd:d<4)(hn:Txt.lower n=Txt.lower (nm d)){v:Nat}(hv:v∈od):M7 n (if up v then Txt.upper (nm v) else nm v,F9 (f v))=(v==d):=by
 unfold M7
 rw[A4v N ho hv,hn,Bool.eq_iff_iff,beq_iff_eq,beq_iff_eq]
 exact⟨N.inj v (ho v hv) d hd,fun e=>by rw[e]⟩
omit ho in
theorem A18{n:Str}{d:Nat}(hd:d<4)(hn:Txt.lower n=Txt.lower (nm d))(ho:∀ v∈od,v<4):R9 n (E8 nm up f od)=if d∈od then some (F9 (f d)) else none:=by
 induction od with
 | nil=>rfl
 | cons v od ih=>
  have ih:=ih fun u hu=>ho u (.tail _ hu)
  have hk:=A4w N (up:=up) (f:=f) ho hd hn (.head _)
  unfold R9 E8 at ih ⊢
  rw[List.map_cons,List.find?_cons,hk]
  by_cases q:v=d
  ·subst q;rw[beq_self_eq_true,if_pos List.mem_cons_self];rfl
  ·rw[beq_eq_false_iff_ne.mpr q]
   refine ih.trans ?_
   by_cases m:d∈od
   ·rw[if_pos m,if_pos (List.mem_cons_of_mem _ m)]
   ·rw[if_neg m,if_neg fun h=>(List.mem_cons.mp h).elim (fun e=>q e.symm) m]
theorem A7F{n:Str}{d:Nat}(hd:d<4)(hn:Txt.lower n=Txt.lower (nm d)):K6 n (E8 nm up f od)=E8 nm up f (od.filter (· != d)):=by
 unfold K6 E8
 rw[List.filter_map]
 congr 1
 refine List.filter_congr fun v hv => ?_
 show (!M7 n _)=_
 rw[A4w N ho hd hn hv];rfl
end
theorem A3H(hL:∀ w∈L,w<10)(hl:L.length<1000):D5 (F9 L):=⟨A7d hL,by rw[L5];exact hl⟩
theorem W8:Str.ofString "" = F9 []:=by decide +kernel
section
variable{Z:Mz}{nm:Nat→Str}(N:NmOk nm)
noncomputable abbrev A55(Z:Mz)(Ln:T)(nm:Nat→Str)(S nu:Option V)(w6 w7:Option V)(o:List AO):St:=⟨[some (.t Z.endsT),some (.t Ln),some (.t (I5 nm)),S,nu,some (hobj 0),w6,w7,none,none,none,none,none,none,none,none,none,none,none,none,none,none,none,none,none,none],o⟩
noncomputable abbrev drB:DS:=(A9 (B9 7 (A7 (A0 2) (A7 (A7 (A0 0) (A0 6)) (dT (.int 0))))) (Z4 171 (Str.ofString "_headers") sp_H_setitem (F0 sp_concat (A2 (E9 171 (Str.ofString "_headers") sp_H_get (A0 5) (A2 (P1 isStrT fUpper (A0 7)) (A2 (dT (.str (Str.ofString ""))) dNil)) [] dNil) (A2 (A0 6) dNil))) (A0 5) (A0 7)))
include N
theorem B55{P:List Nat}{w:Nat}(hs:Z.src w<4)(ho:∀ v∈od,v<4):K6 (nm (Z.src w)) (E8 nm (fun _=>false) (fun v=>P.filter (Z.src ·==v)) od)++[(nm (Z.src w),F9 (P.filter (Z.src ·==Z.src w)++[w]))]=E8 nm (fun _=>false) (fun v=>(P++[w]).filter (Z.src ·==v)) (od.filter (· != Z.src w)++[Z.src w]):=by
 rw[A7F N ho hs rfl]
 unfold E8
 rw[List.map_append]
 congr 1
 ·refine List.map_congr_left fun v hv => ?_
  have:(Z.src w==v)=false:=beq_eq_false_iff_ne.mpr fun e=>bne_iff_ne.mp (List.mem_filter.mp hv).2 e.symm
  have:(P++[w]).filter (Z.src ·==v)=P.filter (Z.src ·==v):=by rw[List.filter_append,List.filter_cons,this];exact List.append_nil _
  exact congrArg (fun l=>(nm v,F9 l)) this.symm
 ·have:(P++[w]).filter (Z.src ·==Z.src w)=P.filter (Z.src ·==Z.src w)++[w]:=by rw[List.filter_append,List.filter_cons,beq_self_eq_true];rfl
  exact congrArg (fun l=>[(nm (Z.src w),F9 l)]) this.symm
theorem B2m{S nu:Option V}{P:List Nat}{w:Nat}(hw:w<10)(hP:∀ x∈P,x<10)(hl:P.length<900)(nd:od.Nodup)(ho:∀ v∈od,v<4)(hm:∀ v,v∉od→P.filter (Z.src ·==v)=[]):
  drB (A55 Z Ln nm S nu (some (.t (.str (sgn w)))) w7 [.lst ((E8 nm (fun _=>false) (fun v=>P.filter (Z.src ·==v)) od).map J9)])=
   some (.next,A55 Z Ln nm S nu (some (.t (.str (sgn w)))) (some (.t (.str (nm (Z.src w))))) [.lst ((E8 nm (fun _=>false) (fun v=>(P++[w]).filter (Z.src ·==v)) (od.filter (· != Z.src w)++[Z.src w])).map J9)]):=by
 have hs:=Z.lt4 w
 have hf:(P.filter (Z.src ·==Z.src w)).length≤P.length:=List.length_filter_le _ _
 have H:HAt 0 [.lst ((E8 nm (fun _=>false) (fun v=>P.filter (Z.src ·==v)) od).map J9)] (E8 nm (fun _=>false) (fun v=>P.filter (Z.src ·==v)) od):=A1H N ho nd rfl
 refine B0 (C3 (N0 rfl (A24 rfl rfl rfl hw) hs)) ?_
 have hc:=A5C (F9 (P.filter (Z.src ·==Z.src w))) (sgn w) [.lst ((E8 nm (fun _=>false) (fun v=>P.filter (Z.src ·==v)) od).map J9)] (by rw[L5];exact Nat.lt_of_le_of_lt (Nat.succ_le_succ hf) (Nat.lt_trans (Nat.succ_lt_succ hl) (by decide)))
 rw[A8r] at hc
 have hg:=B2f (a:=A0 5) (b:=P1 isStrT fUpper (A0 7)) (c:=dT (.str (Str.ofString ""))) (y:=F9 (P.filter (Z.src ·==Z.src w))) (σ:=A55 Z Ln nm S nu (some (.t (.str (sgn w)))) (some (.t (.str (nm (Z.src w))))) [.lst ((E8 nm (fun _=>false) (fun v=>P.filter (Z.src ·==v)) od).map J9)]) rfl (Z1 rfl (N.plU _ hs).2) rfl H (N.lU hs) (by
   rw[A18 N hs (N.lowU _ hs) ho]
   by_cases q:Z.src w∈od
   ·rw[if_pos q];rfl
   ·rw[if_neg q,hm _ q];exact W8)
 have hp:D5 (F9 (P.filter (Z.src ·==Z.src w)++[w])):=A3H (fun x hx=>by
    rcases List.mem_append.mp hx with h | h
    ·exact hP x (List.mem_filter.mp h).1
    ·rw[List.mem_singleton] at h;rw[h];exact hw) (by rw[List.length_append];exact Nat.lt_of_le_of_lt (Nat.succ_le_succ hf) (Nat.lt_trans (Nat.succ_lt_succ hl) (by decide)))
 refine(A68 (σ:=A55 Z Ln nm S nu (some (.t (.str (sgn w)))) (some (.t (.str (nm (Z.src w))))) [.lst ((E8 nm (fun _=>false) (fun v=>P.filter (Z.src ·==v)) od).map J9)]) (b:=A0 5) (c:=A0 7) (J8 (A4 hg (A4 (a:=A0 6) rfl B8)) hc) rfl rfl H (N.plL _ hs) (N.pl _ hs) hp).trans ?_
 exact congrArg (fun k=>some (Fl.next,A55 Z Ln nm S nu (some (.t (.str (sgn w)))) (some (.t (.str (nm (Z.src w))))) [.lst (List.map J9 k)])) (B55 N hs ho)
end
end
section
noncomputable def chT(w:Nat):T:=.ch (sgn w)
noncomputable def fS:Option Nat→Str
 | none=>F9 []
 | some w=>sgn w
theorem B0e{a c d:D}{v v3:V}{x w:T}{lo hi st:Option Int}{r:T}(h:a σ=some (v,σ))(h1:b σ=some (v1,σ))(h2:c σ=some (v2,σ))(h3:d σ=some (v3,σ))(hx:view σ v=some x)(hy:view σ v1=some y)(hz:view σ v2=some z)(hw:view σ v3=some w)(hs:A80 x=true)(l1:o9 y=some lo)(l2:o9 z=some hi)(l3:o9 w=some st)(hr:o6 x lo hi st=some r):dSl a b c d σ=some (.t r,σ):=
 B4 h (B4 h1 (B4 h2 (B4 h3 (B4 hx (B4 hy (B4 hz (B4 hw (G4 hs (B4 l1 (B4 l2 (B4 l3 (B4 hr rfl))))))))))))
theorem B3i(h:L≠[]):(F9 L==Str.ofString "")=false:=by
 rw[W8]
 exact beq_eq_false_iff_ne.mpr fun e=>h (B1U (e.trans B1S))
theorem A48(L:List Nat):A6D (F9 L)=L.map chT:=by
 show (L.map code).map _=_
 rw[List.map_map];rfl
theorem A7R(hL:∀ w∈L,w<10):A1v (F9 L)=true:=by
 show (L.map code).toArray.all _=true
 rw[List.all_toArray,List.all_eq_true]
 intro c hc
 obtain⟨w,hw,rfl⟩:=List.mem_map.mp hc
 have:=(A7M w (hL w hw)).2
 exact decide_eq_true (by lia)
theorem B5u{w:Nat}(hw:w<10){o:Option Nat}(ho:∀ x,o=some x→x<10):(sgn w==fS o)=(some w==o):=by
 cases o with
 | none=>exact beq_eq_false_iff_ne.mpr fun e=>by have:=congrArg Str.length e;cases this
 | some x=>
  rw[Bool.eq_iff_iff,beq_iff_eq,beq_iff_eq]
  exact⟨fun e=>by rw[t8 hw (ho x rfl) e],fun e=>by rw[Option.some.inj e];rfl⟩
theorem A0S{w:Nat}(hw:w<10):fSwap (.str (sgn w))=some (.str (sgn (u5 w))):=by show A1U (Txt.swapcase (sgn w))=_;rw[A9C w hw];rfl
section
variable{first:Option Nat}(hL:∀ w∈L,w<10)(hl:L.length<1000)(hf:∀ x,first=some x→x<10)
include hL hl hf
theorem B0l{n:Nat}(hn:n=σ.loc.length){a:D}(h13:a σ=some (.t (.str (F9 L)),σ))(h14:∀ x,b ⟨σ.loc++[some (.t (chT x))],σ.objs⟩=some (.t (.str (fS first)),⟨σ.loc++[some (.t (chT x))],σ.objs⟩)):E3 1 itN a (C1 (d2 fNe (A0 n) b)) (A0 n) σ=some (.t (.lst ((L.filter fun w=>some w != first).map chT)),σ):=by
 subst hn
 refine O8 (xs:=L) (h:=chT) (g:=chT) (y:=.str (F9 L)) h13 ((if_pos (A7R hL)).trans (congrArg some (A48 L))) hl fun w hw => ?_
 have hs:A0 σ.loc.length ⟨σ.loc++[some (.t (chT w))],σ.objs⟩=some (.t (chT w),⟨σ.loc++[some (.t (chT w))],σ.objs⟩):=B4 (x:=some (.t (chT w))) (by simp) rfl
 refine⟨I2 (x:=.bool (some w != first)) (C5 (z:=.bool (some w != first)) hs (h14 w) rfl rfl ?_) rfl rfl,fun _=>hs⟩
 show some (T.bool (!(sgn w==fS first)))=_
 rw[B5u (hL w hw) hf];rfl
omit hf in
theorem A7B{a:D}(A:List Nat)(hA:A.length<1000)(hj:σ.loc[j]?=some (some (.t (.lst (A.map chT)))))(h13:a σ=some (.t (.str (F9 L)),σ)):H5 (C1 (d2 fEq (A0 j) (L2 dNil))) (B9 j (d1 fListS a)) dSkip σ=some (.next,⟨σ.loc.set j (some (.t (.lst ((if A=[] then L else A).map chT)))),σ.objs⟩):=by
 have hs:A0 j σ=some (.t (.lst (A.map chT)),σ):=B4 hj rfl
 cases A with
 | nil=>
  refine H8 (b:=true) (I2 (C5 hs (m5 B8 (by decide) rfl) rfl rfl rfl) rfl rfl) ?_
  refine(if_pos rfl).trans (C3 (U4 h13 rfl ?_))
  show (if A1v (F9 L)=true∧(F9 L).length<1000 then some (T.lst (A6D (F9 L))) else none)=_
  rw[if_pos ⟨A7R hL,by rw[L5];exact hl⟩,A48];rfl
 | cons w A=>
  refine H8 (b:=false) (I2 (C5 hs (m5 B8 (by decide) rfl) rfl rfl rfl) rfl rfl) ?_
  refine(if_neg Bool.noConfusion).trans ?_
  have:σ.loc.set j (some (.t (.lst ((if (w::A)=[] then L else w::A).map chT))))=σ.loc:=by
   rw[if_neg (List.cons_ne_nil _ _)]
   obtain⟨_,e⟩:=List.getElem?_eq_some_iff.mp hj
   rw[← e];exact List.set_getElem_self _
  rw[this];rfl
end
theorem B54{i:Nat}(hi:σ.loc[i]?=some (some (.t (.int num))))(hj:σ.loc[j]?=some (some (.t (.lst (F.map chT)))))(hs:is.length=2)(hn:num<2 ^ 40)(h0:F≠[])(h16:F.length<16):
  A2A is (dIf (C1 (d2 fGt (F0 sp_length_hint (A2 (A0 j) dNil)) (dT (.int 1)))) (F0 sp_divmod_pos (A2 (A0 i) (A2 (F0 sp_length_hint (A2 (A0 j) dNil)) dNil))) (E5 (A2 (A0 i) (A2 (dT (.int 0)) dNil)))) σ=some (.next,⟨t9 σ.loc is [.t (.int (num / F.length:Nat)),.t (.int (num % F.length:Nat))],σ.objs⟩):=by
 have e1:A0 i σ=some (.t (.int num),σ):=B4 hi rfl
 have e2:A0 j σ=some (.t (.lst (F.map chT)),σ):=B4 hj rfl
 have hlh:=B6d (F.map chT) σ.objs (by rw[List.length_map];exact Nat.lt_trans h16 (by decide))
 rw[List.length_map] at hlh
 have hp:0<F.length:=List.length_pos_iff.mpr h0
 refine A4q (xs:=[.int (num / F.length:Nat),.int (num % F.length:Nat)]) ?_ hs.symm
 refine A4t (I2 (C5 (J8 (A4 e2 B8) hlh) rfl rfl rfl rfl) rfl rfl) ?_
 by_cases q:1<F.length
 ·rw[decide_eq_true (by lia),if_pos rfl]
  exact J8 (A4 e1 (A4 (J8 (A4 e2 B8) hlh) B8)) (B07 num F.length σ.objs hn q h16)
 ·rw[decide_eq_false (by lia),if_neg Bool.noConfusion,show F.length=1 by lia,(A2j num).1,(A2j num).2]
  exact I8 (A4 e1 (A4 rfl B8)) (show 2<1000 from by decide) rfl
noncomputable abbrev A6V:DS:=(A9 (B9 13 (E9 171 (Str.ofString "_headers") sp_H_get (A0 5) (A2 (A7 (A0 2) (A0 11)) dNil) [] dNil)) (A9 (H5 (C1 (d2 fEq (A0 13) (dT (.str (Str.ofString ""))))) (A9 (Z5 (A0a (P0 171 (Str.ofString "_headers") sp_H_items (A0 8)) (E5 (A2 (dT (.str (Str.ofString ""))) (A2 (dT (.str (Str.ofString ""))) dNil))))) (G5 (E5 (A2 (A0 10) (A2 (A0 4) (A2 (P0 171 (Str.ofString "_headers") sp_H_items (A0 5)) (A2 (P0 171 (Str.ofString "_headers") sp_H_items (A0 8)) (A2 (A0 9) dNil)))))))) dSkip) (A9 (B9 14 (E9 171 (Str.ofString "_headers") sp_H_get (A0 8) (A2 (P1 isStrT fUpper (A7 (A0 2) (A0 11))) dNil) [] dNil)) (A9 (B9 15 (E3 1 itN (A0 13) (C1 (d2 fNe (A0 26) (A0 14))) (A0 26))) (A9 (H5 (C1 (d2 fEq (A0 15) (L2 dNil))) (B9 15 (d1 fListS (A0 13))) dSkip) (A9 (A2A [4,16] (dIf (C1 (d2 fGt (F0 sp_length_hint (A2 (A0 15) dNil)) (dT (.int 1)))) (F0 sp_divmod_pos (A2 (A0 4) (A2 (F0 sp_length_hint (A2 (A0 15) dNil)) dNil))) (E5 (A2 (A0 4) (A2 (dT (.int 0)) dNil))))) (A9 (B9 6 (A7 (A0 15) (A0 16))) (A9 (Z5 (A0a (A0 10) (A0 6))) (A9 (B9 17 (dM1 isStrT fIndex (A0 13) (A0 6))) (A9 (Z4 171 (Str.ofString "_headers") sp_H_setitem (F0 sp_concat (A2 (dSl (A0 13) (dT .none) (A0 17) (dT .none)) (A2 (dSl (A0 13) (d2 fAdd (A0 17) (dT (.int 1))) (dT .none) (dT .none)) dNil))) (A0 5) (P1 isStrT fUpper (A7 (A0 2) (A0 11)))) (A9 (B9 18 (A7 (A0 2) (A7 (A7 (A0 0) (A0 6)) (dT (.int 1))))) (A9 (B9 19 (dIf (C1 (d2 fIs (E9 171 (Str.ofString "_headers") sp_H_get (A0 8) (A2 (P1 isStrT fUpper (A0 18)) dNil) [] dNil) (dT .none))) (dT (.int 1)) (dT (.int 0)))) (A9 (B9 20 (E9 171 (Str.ofString "_headers") sp_H_setdefault (A0 8) (A2 (A0 18) (A2 (P1 isStrT fSwap (A0 6)) dNil)) [] dNil)) (A9 (B9 21 (A7 (A7 (A0 0) (P1 isStrT fLower (A0 6))) (dT (.int 2)))) (A9 (B9 22 (dIf (C1 (P1 isStrT fIsLower (A0 6))) (A0 21) (F0 sp_isub (A2 (dT (.int 0)) (A2 (A0 21) dNil))))) (A9 (B9 23 (E5 (A2 (A0 19) (A2 (dT (.int 1)) (A2 (A0 22) (A2 (A0 21) (A2 (B0x (A7 (A0 2) (A0 11)) (E5 (A2 (dT (.int 1)) (A2 (A0 22) (A2 (A0 21) dNil))))) dNil))))))) (A9 (B9 24 (A59 (A0 9) (A0 18) (E5 (A2 (dT (.int 0)) (A2 (dT (.int 0)) (A2 (dT (.int 0)) (A2 (dT (.int 0)) (A2 dNewDs dNil)))))))) (A9 (B9 25 (d1 fListS (U5 (A7 (A0 24) (dT (.int 4)))))) (A9 (H5 (bOr (C1 (d2 fIsNot (F0 sp_setitem (A2 (A0 9) (A2 (A0 18) (A2 (F0 sp_add_func_stats (A2 (A0 24) (A2 (A0 23) dNil))) dNil)))) (dT .none))) (bOr (C1 (d2 fNe (d1 fListS (U5 (A7 (A0 24) (dT (.int 4))))) (A0 25))) (C1 (d2 fNe (A0 20) (E9 171 (Str.ofString "_headers") sp_H_get (A0 8) (A2 (P1 isStrT fUpper (A0 18)) dNil) [] dNil))))) (G5 (E5 (A2 (A0 10) (A2 (d1 fNeg (dT (.int 1))) (A2 (L2 dNil) (A2 (L2 dNil) (A2 (A0 9) dNil))))))) dSkip) (B9 11 (A7 (A7 (A0 0) (A0 6)) (dT (.int 1)))))))))))))))))))))))
noncomputable abbrev wSt(Z:Mz)(Ln:T)(nm:Nat→Str)(start num here:Nat)(j:Nat→Option V)(o:List AO):St:=⟨[some (.t Z.endsT),some (.t Ln),some (.t (I5 nm)),some (.t (.int start)),some (.t (.int num)),some (hobj 0),j 6,j 7,some (hobj 1),some (.ref 2),some (.ref 3),some (.t (.int here)),j 12,j 13,j 14,j 15,j 16,j 17,j 18,j 19,j 20,j 21,j 22,j 23,j 24,j 25],o⟩
theorem B3l{Z:Mz}{nm:Nat→Str}(N:NmOk nm){start:Nat}{j:Nat→Option V}{kd kb:List (Str×Str)}{bo:AO}{wk:List T}{rest:List AO}{first:Option Nat}{R:DS}{r:Option (Fl×St)}(Hd:HAt 0 (.lst (kd.map J9)::.lst (kb.map J9)::bo::.lst wk::rest) kd)(Hb:HAt 1 (.lst (kd.map J9)::.lst (kb.map J9)::bo::.lst wk::rest) kb)(hh:here<4)(hL:∀ w∈L,w<10)(hl:L.length<16)(hne:L≠[])(hf:∀ x,first=some x→x<10)(gd:R9 (nm here) kd=some (F9 L))(gb:R9 (Txt.upper (nm here)) kb=some (fS first))(hn:num<2 ^ 40)(hw:wk.length<900)(hr:R ⟨[some (.t Z.endsT),some (.t Ln),some (.t (I5 nm)),some (.t (.int start)),some (.t (.int (num / (F8 L first).length:Nat))),some (hobj 0),some (.t (chT ((F8 L first).getD (num % (F8 L first).length) 0))),j 7,some (hobj 1),some (.ref 2),some (.ref 3),some (.t (.int here)),j 12,some (.t (.str (F9 L))),some (.t (.str (fS first))),some (.t (.lst ((F8 L first).map chT))),some (.t (.int (num % (F8 L first).length:Nat))),j 17,j 18,j 19,j 20,j 21,j 22,j 23,j 24,j 25],.lst (kd.map J9)::.lst (kb.map J9)::bo::.lst (wk++[chT ((F8 L first).getD (num % (F8 L first).length) 0)])::rest⟩=r):
  A9 (B9 13 (E9 171 (Str.ofString "_headers") sp_H_get (A0 5) (A2 (A7 (A0 2) (A0 11)) dNil) [] dNil)) (A9 (H5 (C1 (d2 fEq (A0 13) (dT (.str (Str.ofString ""))))) (A9 (Z5 (A0a (P0 171 (Str.ofString "_headers") sp_H_items (A0 8)) (E5 (A2 (dT (.str (Str.ofString ""))) (A2 (dT (.str (Str.ofString ""))) dNil))))) (G5 (E5 (A2 (A0 10) (A2 (A0 4) (A2 (P0 171 (Str.ofString "_headers") sp_H_items (A0 5)) (A2 (P0 171 (Str.ofString "_headers") sp_H_items (A0 8)) (A2 (A0 9) dNil)))))))) dSkip)
   (A9 (B9 14 (E9 171 (Str.ofString "_headers") sp_H_get (A0 8) (A2 (P1 isStrT fUpper (A7 (A0 2) (A0 11))) dNil) [] dNil)) (A9 (B9 15 (E3 1 itN (A0 13) (C1 (d2 fNe (A0 26) (A0 14))) (A0 26))) (A9 (H5 (C1 (d2 fEq (A0 15) (L2 dNil))) (B9 15 (d1 fListS (A0 13))) dSkip)
   (A9 (A2A [4,16] (dIf (C1 (d2 fGt (F0 sp_length_hint (A2 (A0 15) dNil)) (dT (.int 1)))) (F0 sp_divmod_pos (A2 (A0 4) (A2 (F0 sp_length_hint (A2 (A0 15) dNil)) dNil))) (E5 (A2 (A0 4) (A2 (dT (.int 0)) dNil))))) (A9 (B9 6 (A7 (A0 15) (A0 16))) (A9 (Z5 (A0a (A0 10) (A0 6))) R)))))))
   (wSt Z Ln nm start num here j (.lst (kd.map J9)::.lst (kb.map J9)::bo::.lst wk::rest))=r:=by
 have hF:F8 L first≠[]:=A0Q hne
 have hFl:(F8 L first).length<16:=by
  unfold F8;split
  ·exact hl
  ·exact Nat.lt_of_le_of_lt (List.length_filter_le _ _) hl
 have hl1:L.length<1000:=Nat.lt_trans hl (by decide)
 have hpos:0<(F8 L first).length:=List.length_pos_iff.mpr hF
 have hi:=Nat.mod_lt num hpos
 have hg:((F8 L first).map chT)[num % (F8 L first).length]?=some (chT ((F8 L first).getD (num % (F8 L first).length) 0)):=by
  rw[List.getElem?_map,List.getD_eq_getElem?_getD,List.getElem?_eq_getElem hi];rfl
 refine B0 (C3 (A15 rfl (N0 rfl rfl hh) Hd (N.plL _ hh) gd)) ?_
 refine B0 (H8 (b:=false) (I2 (x:=.bool (F9 L==Str.ofString "")) (C5 rfl rfl rfl rfl rfl) rfl (by rw[B3i hne];rfl)) rfl) ?_
 refine B0 (C3 (A15 rfl (Z1 (N0 rfl rfl hh) (N.plU _ hh).2) Hb (N.lU hh) gb)) ?_
 refine B0 (C3 (B0l (L:=L) (first:=first) hL hl1 hf rfl rfl (fun _=>rfl))) ?_
 refine B0 (A7B (L:=L) hL hl1 (L.filter fun w=>some w != first) (Nat.lt_of_le_of_lt (List.length_filter_le _ _) hl1) rfl rfl) ?_
 refine B0 (B54 (F:=F8 L first) (num:=num) rfl rfl rfl hn hF hFl) ?_
 refine B0 (C3 (G7 rfl rfl rfl rfl rfl (I0 hg (Nat.lt_trans hi (Nat.lt_trans hFl (by decide)))))) ?_
 exact B0 (A0v (A7D (j:=3) (xs:=wk) rfl rfl rfl rfl rfl (Nat.lt_trans hw (by decide))) rfl) hr
end
section
section
variable{i:Nat}{a c:D}{n v x:Str}
theorem B2d(h1:a σ=some (hobj i,σ))(h2:b σ=some (.t (.str n),σ))(h3:c σ=some (.t (.str v),σ))(H:HAt i σ.objs kvs)(ln:D5 (Txt.lower n))(pn:D5 n)(pv:D5 v)(h:R9 n kvs=some x):E9 171 (Str.ofString "_headers") sp_H_setdefault a (A2 b (A2 c dNil)) [] dNil σ=some (.t (.str x),σ):=by
 have e:=A5B H ln pn pv
 unfold R9 at h
 obtain⟨p,hp,rfl⟩:=Option.map_eq_some_iff.mp h
 rw[hp] at e
 exact A0V h1 (T6 i) (A4 h2 (A4 h3 B8)) B8 e
theorem A69(h1:a σ=some (hobj i,σ))(h2:b σ=some (.t (.str n),σ))(h3:c σ=some (.t (.str v),σ))(H:HAt i σ.objs kvs)(ln:D5 (Txt.lower n))(pn:D5 n)(pv:D5 v)(h:R9 n kvs=none):E9 171 (Str.ofString "_headers") sp_H_setdefault a (A2 b (A2 c dNil)) [] dNil σ=some (.t (.str v),⟨σ.loc,σ.objs.set i (.lst ((kvs++[(n,v)]).map J9))⟩):=by
 have e:=A5B H ln pn pv
 unfold R9 at h
 rw[Option.map_eq_none_iff.mp h] at e
 exact A0V h1 (T6 i) (A4 h2 (A4 h3 B8)) B8 e
end
noncomputable def B3K(kb:List (Str×Str))(ob:Option Str)(n v:Str):List (Str×Str):=ob.elim (kb++[(n,v)]) fun _=>kb
theorem A2k{w:Nat}(hw:w<10):D5 (sgn w):=A3H (L:=[w]) (fun x hx=>by rw[List.mem_singleton] at hx;rw[hx];exact hw) (by show 1<1000;decide)
theorem B1m:∀ w,w<10→u5 w<10:=by decide +kernel
theorem A0F{w:Nat}(hw:w<10):u5 w<10:=B1m w hw
theorem B5x{Z:Mz}{a:D}{w:Nat}(h1:a σ=some (.t (chT w),σ))(h2:b σ=some (.t (.int (Z.ab w)),σ))(hw:w<10):dIf (C1 (P1 isStrT fIsLower a)) b (F0 sp_isub (A2 (dT (.int 0)) (A2 b dNil))) σ=some (.t (.int (Z.ri w)),σ):=by
 refine A4t (b:=w % 2==0) (I2 (x:=.bool (w % 2==0)) (A2V (z:=.bool (w % 2==0)) h1 rfl rfl (by show some (T.bool (Txt.islower (sgn w)))=_;rw[A4E w hw])) rfl rfl) ?_
 by_cases q:w % 2=0
 ·rw[if_pos (by simpa using q),h2,Mz.ab,q];rfl
 ·rw[if_neg (by simpa using q)]
  have q1:w % 2=1:=by lia
  have e:Z.ri w=0 - Z.ab w:=by rw[Mz.ab,q1,Z.odd w q1];lia
  rw[e]
  exact J8 (A4 rfl (A4 h2 B8)) (B4y 0 (Z.ab w) σ.objs)
theorem B3T{nm:Nat→Str}{a:D}{u:Nat}(h1:a σ=some (.t (.str (nm u)),σ))(h2:b σ=some (.t y,σ)):B0x a b σ=some (.ref σ.objs.length,⟨σ.loc,σ.objs++[N1 nm [u] fun _=>y]⟩):=B4 h1 (B4 (x:=nm u) rfl (B4 h2 (B4 rfl rfl)))
theorem A3J{nm:Nat→Str}{o:List AO}{f:Nat→T}:toT ⟨l,o++[N1 nm ks f]⟩ (.ref o.length)=some (Z2 nm ks f,⟨l,o++[.gone]⟩):=(A3L G2).trans (by rw[K5])
theorem B3k{Z:Mz}{nm:Nat→Str}(N:NmOk nm){S:V}{v4 w12 w14 w15 w16 w17 w18 w19 w20 w21 w22 w23 w24 w25:Option V}{w:Nat}{kd kb:List (Str×Str)}{bo wko:AO}{rest:List AO}{ob:Option Str}{R:DS}{r:Option (Fl×St)}(Hd:HAt 0 (.lst (kd.map J9)::.lst (kb.map J9)::bo::wko::rest) kd)(lb:∀ p∈kb,(Txt.lower p.1).length<1000)(fb:kb.length<900)(hh:here<4)(hL:∀ w∈L,w<10)(nd:L.Nodup)(hl:L.length<16)(hw:w∈L)(g1:R9 (nm (Z.dst w)) kb=ob)(g2:R9 (Txt.upper (nm (Z.dst w))) kb=ob)(hr:R ⟨[some (.t Z.endsT),some (.t Ln),some (.t (I5 nm)),some S,v4,some (hobj 0),some (.t (chT w)),w7,some (hobj 1),some (.ref 2),some (.ref 3),some (.t (.int here)),w12,some (.t (.str (F9 L))),w14,w15,w16,some (.t (.int (L.idxOf w))),some (.t (.str (nm (Z.dst w)))),some (.t (.int (if ob.isNone then 1 else 0))),some (.t (.str (ob.getD (sgn (u5 w))))),some (.t (.int (Z.ab w))),some (.t (.int (Z.ri w))),some (.t (t5 (if ob.isNone then 1 else 0) 1 (Z.ri w) (Z.ab w) (Z2 nm [here] fun _=>t3 1 (Z.ri w) (Z.ab w)))),w24,w25],
   .lst ((K6 (Txt.upper (nm here)) kd++[(Txt.upper (nm here),F9 (L.erase w))]).map J9)::.lst ((B3K kb ob (nm (Z.dst w)) (sgn (u5 w))).map J9)::bo::wko::(rest++[.gone])⟩=r):
  A9 (B9 17 (dM1 isStrT fIndex (A0 13) (A0 6))) (A9 (Z4 171 (Str.ofString "_headers") sp_H_setitem (F0 sp_concat (A2 (dSl (A0 13) (dT .none) (A0 17) (dT .none)) (A2 (dSl (A0 13) (d2 fAdd (A0 17) (dT (.int 1))) (dT .none) (dT .none)) dNil))) (A0 5) (P1 isStrT fUpper (A7 (A0 2) (A0 11))))
   (A9 (B9 18 (A7 (A0 2) (A7 (A7 (A0 0) (A0 6)) (dT (.int 1))))) (A9 (B9 19 (dIf (C1 (d2 fIs (E9 171 (Str.ofString "_headers") sp_H_get (A0 8) (A2 (P1 isStrT fUpper (A0 18)) dNil) [] dNil) (dT .none))) (dT (.int 1)) (dT (.int 0))))
   (A9 (B9 20 (E9 171 (Str.ofString "_headers") sp_H_setdefault (A0 8) (A2 (A0 18) (A2 (P1 isStrT fSwap (A0 6)) dNil)) [] dNil)) (A9 (B9 21 (A7 (A7 (A0 0) (P1 isStrT fLower (A0 6))) (dT (.int 2)))) (A9 (B9 22 (dIf (C1 (P1 isStrT fIsLower (A0 6))) (A0 21) (F0 sp_isub (A2 (dT (.int 0)) (A2 (A0 21) dNil)))))
   (A9 (B9 23 (E5 (A2 (A0 19) (A2 (dT (.int 1)) (A2 (A0 22) (A2 (A0 21) (A2 (B0x (A7 (A0 2) (A0 11)) (E5 (A2 (dT (.int 1)) (A2 (A0 22) (A2 (A0 21) dNil))))) dNil))))))) R)))))))
   ⟨[some (.t Z.endsT),some (.t Ln),some (.t (I5 nm)),some S,v4,some (hobj 0),some (.t (chT w)),w7,some (hobj 1),some (.ref 2),some (.ref 3),some (.t (.int here)),w12,some (.t (.str (F9 L))),w14,w15,w16,w17,w18,w19,w20,w21,w22,w23,w24,w25],.lst (kd.map J9)::.lst (kb.map J9)::bo::wko::rest⟩=r:=by
 have hw10:=hL w hw
 have hd:=Z.lt4 (u5 w)
 have hi:L.idxOf w<L.length:=List.idxOf_lt_length_iff.mpr hw
 have h1000:L.length<1000:=Nat.lt_trans hl (by decide)
 have hx:fIndex (.str (F9 L)) (.str (sgn w))=some (.int (L.idxOf w)):=by
  obtain⟨r,e⟩:=A7e hL nd hw
  exact congrArg (fun l:List Nat=>l.head?.map fun i:Nat=>T.int i) e
 have s1:o6 (.str (F9 L)) none (some (L.idxOf w:Int)) none=some (.str (F9 (L.take (L.idxOf w)))):=by
  rw[← A9A L (Nat.le_of_lt hi)];exact if_pos ⟨rfl,by rw[L5];exact h1000⟩
 have s2:o6 (.str (F9 L)) (some ((L.idxOf w:Int)+1)) none none=some (.str (F9 (L.drop (L.idxOf w+1)))):=by
  rw[← A5X L hi];exact if_pos ⟨rfl,by rw[L5];exact h1000⟩
 have hcc:=A5C (F9 (L.take (L.idxOf w))) (F9 (L.drop (L.idxOf w+1))) (.lst (kd.map J9)::.lst (kb.map J9)::bo::wko::rest) (by rw[L5,L5];exact Nat.lt_of_le_of_lt (Nat.add_le_add (List.length_take_le _ _) (by rw[List.length_drop];exact Nat.sub_le _ _)) (Nat.lt_trans (Nat.add_lt_add (Nat.lt_trans hi hl) hl) (by decide:16+16<1000)))
 rw[A6S,← A23 (L:=L) (w:=w)] at hcc
 have hpe:D5 (F9 (L.erase w)):=A3H (fun x hx=>hL x (List.mem_of_mem_erase hx)) (Nat.lt_of_le_of_lt List.length_erase_le h1000)
 have Hb:∀ x,HAt 1 (x::.lst (kb.map J9)::bo::wko::rest) kb:=fun x=>⟨rfl,lb,fb⟩
 refine B0 (C3 (B51 rfl rfl rfl rfl rfl rfl hx)) ?_
 refine B0 (A68 (kvs:=kd) (i:=0) (n:=Txt.upper (nm here)) (v:=F9 (L.erase w)) (J8 (A4 (B0e rfl rfl rfl rfl rfl rfl rfl rfl rfl rfl rfl rfl s1) (A4 (B0e rfl (C5 rfl rfl rfl rfl rfl) rfl rfl rfl rfl rfl rfl rfl rfl rfl rfl s2) B8)) hcc) rfl (Z1 (N0 rfl rfl hh) (N.plU _ hh).2) Hd (N.lU hh) (N.plU _ hh) hpe) ?_
 refine B0 (C3 (N0 rfl (A4u rfl rfl rfl hw10) hd)) ?_
 cases ob with
 | none=>
  refine B0 (C3 (A4t (b:=true) (I2 (C5 (B4i (i:=1) (kvs:=kb) rfl (Z1 rfl (N.plU _ hd).2) (Hb _) (N.lU hd) g2) rfl rfl rfl rfl) rfl rfl) rfl)) ?_
  refine B0 (C3 (A69 (i:=1) (kvs:=kb) rfl rfl (A2V rfl rfl rfl (A0S hw10)) (Hb _) (N.plL _ hd) (N.pl _ hd) (A2k (A0F hw10)) g1)) ?_
  refine B0 (C3 (B2h rfl rfl rfl hw10)) (B0 (C3 (B5x rfl rfl hw10)) ?_)
  exact B0 (C3 (I8 (A4 rfl (A4 rfl (A4 rfl (A4 rfl (A4 (B3T (u:=here) (N0 rfl rfl hh) (I8 (A4 rfl (A4 rfl (A4 rfl B8))) (show 3<1000 from by decide) rfl)) B8))))) (show 5<1000 from by decide) (W9 (W9 (W9 (W9 (A8X A3J))))))) hr
 | some a=>
  refine B0 (C3 (A4t (b:=false) (I2 (C5 (A15 (i:=1) (kvs:=kb) rfl (Z1 rfl (N.plU _ hd).2) (Hb _) (N.lU hd) g2) rfl rfl rfl rfl) rfl rfl) rfl)) ?_
  refine B0 (C3 (B2d (i:=1) (kvs:=kb) rfl rfl (A2V rfl rfl rfl (A0S hw10)) (Hb _) (N.plL _ hd) (N.pl _ hd) (A2k (A0F hw10)) g1)) ?_
  refine B0 (C3 (B2h rfl rfl rfl hw10)) (B0 (C3 (B5x rfl rfl hw10)) ?_)
  exact B0 (C3 (I8 (A4 rfl (A4 rfl (A4 rfl (A4 rfl (A4 (B3T (u:=here) (N0 rfl rfl hh) (I8 (A4 rfl (A4 rfl (A4 rfl B8))) (show 3<1000 from by decide) rfl)) B8))))) (show 5<1000 from by decide) (W9 (W9 (W9 (W9 (A8X A3J))))))) hr
end
section
theorem A0d{f:T→T→Option Bool}{xs:List T}(h:∀ x∈xs,f x x=some true):A32 f xs xs=some true:=by
 induction xs with
 | nil=>rfl
 | cons x xs ih=>exact(B4 (h x (.head _)) (B4 (ih fun y hy=>h y (.tail _ hy)) rfl):(f x x).bind (fun b=>(A32 f xs xs).bind fun c=>some (b&&c))=_)
theorem A3s{n:Nat}{xs:List T}(h:∀ x∈xs,eqN n x x=some true):eqN (n+1) (.tup xs) (.tup xs)=some true:=(if_pos rfl).trans (A0d h)
theorem A51{xs:List T}(h:∀ x∈xs,eqN 6 x x=some true):A8U (.lst xs) (.lst xs)=some true:=(if_pos rfl).trans (A0d h)
theorem B1s{nm:Nat→Str}{f:Nat→T}(ks:List Nat):prs (ks.map nm) (ks.map f)=ks.map fun v=>.tup [.str (nm v),f v]:=by
 induction ks with
 | nil=>rfl
 | cons v ks ih=>exact congrArg (T.tup [.str (nm v),f v] :: ·) ih
theorem B4Z{nm:Nat→Str}{a b c:Nat→Int}(ks:List Nat):fNe (.lst (prs (ks.map nm) (ks.map fun v=>t3 (a v) (b v) (c v)))) (.lst (prs (ks.map nm) (ks.map fun v=>t3 (a v) (b v) (c v))))=some (.bool false):=by
 unfold fNe
 rw[A51]
 ·rfl
 ·rw[B1s]
  intro x hx
  obtain⟨v,_,rfl⟩:=List.mem_map.mp hx
  have hi:∀ i:Int,eqN 4 (.int i) (.int i)=some true:=fun i=>congrArg some (beq_self_eq_true i)
  have h3:∀ x∈[T.int (a v),.int (b v),.int (c v)],eqN 4 x x=some true:=List.forall_mem_cons.mpr ⟨hi _,List.forall_mem_cons.mpr ⟨hi _,List.forall_mem_cons.mpr ⟨hi _,fun _ h=>nomatch h⟩⟩⟩
  exact A3s (List.forall_mem_cons.mpr ⟨congrArg some (beq_self_eq_true (nm v)),List.forall_mem_cons.mpr ⟨A3s h3,fun _ h=>nomatch h⟩⟩)
theorem B2w{nm:Nat→Str}(N:NmOk nm){i d:Nat}{f:Nat→T}(ho:objs[i]?=some (N1 nm ks f))(nd:ks.Nodup)(hk:∀ v∈ks,v<4)(hd:d<4):sp_setitem [.ref i,.t (.str (nm d)),.t y] [] objs=some (.none,objs.set i (N1 nm (G6 ks d) fun v=>if v=d then y else f v)):=
 S7 rfl (A4r N rfl rfl rfl rfl ho nd hk hd) rfl take_set
section
variable{Z:Mz}{nm:Nat→Str}{start:Nat}
noncomputable def cc0(Z:Mz)(start:Nat)(W:List Nat)(d:Nat):Int:=if d∈M2 Z W then (if d=start then 0 else 1) else 0
noncomputable def A5l(Z:Mz)(nm:Nat→Str)(start:Nat)(W:List Nat)(d:Nat):T:=t5 (cc0 Z start W d) (Z.into W d).length ((Z.into W d).map Z.ri).sum ((Z.into W d).map Z.ab).sum (d4 Z nm (Z.into W d))
theorem A8L{d:Nat}(h:d∉M2 Z W):Z.into W d=[]:=List.filter_eq_nil_iff.mpr fun w hw e=>h (mem_firsts.mpr (List.mem_map.mpr ⟨w,hw,by simpa using e⟩))
theorem B4D(N:NmOk nm)(W:List Nat){d:Nat}(hd:d<4):(lk ((M2 Z W).map nm) ((M2 Z W).map (E2 Z nm start W)) (nm d)).elim (some (.t (t5 0 0 0 0 (.ds [] [])),σ)) (fun z=>some (V.t z,σ))=some (.t (A5l Z nm start W d),σ):=by
 rw[A4Y N (A16 W) hd]
 by_cases m:d∈M2 Z W
 ·rw[if_pos m,A5l,cc0,if_pos m];rfl
 ·rw[if_neg m,A5l,cc0,if_neg m,A8L m];rfl
theorem A8h{w:Nat}{new:Int}(hnew:new+cc0 Z start W (Z.dst w)=if Z.dst w=start then 0 else 1):t5 (new+cc0 Z start W (Z.dst w)) (1+(Z.into W (Z.dst w)).length) (Z.ri w+((Z.into W (Z.dst w)).map Z.ri).sum) (Z.ab w+((Z.into W (Z.dst w)).map Z.ab).sum) (d4 Z nm (Z.into W (Z.dst w)++[w]))=E2 Z nm start (W++[w]) (Z.dst w):=by
 unfold E2
 rw[A2z,if_pos rfl,hnew,List.map_append,List.map_append,List.map_cons,List.map_nil,List.map_cons,List.map_nil,s9,s9,List.length_append,Int.natCast_add,Int.add_comm];rfl
theorem A6G{w:Nat}:N1 nm (G6 (M2 Z W) (Z.dst w)) (fun v=>if v=Z.dst w then E2 Z nm start (W++[w]) (Z.dst w) else E2 Z nm start W v)=N1 nm (M2 Z (W++[w])) (E2 Z nm start (W++[w])):=by
 unfold M2
 rw[List.map_append,List.map_cons,List.map_nil,T9]
 refine congrArg (AO.ds _) (List.map_congr_left fun v _ => ?_)
 by_cases q:v=Z.dst w
 ·rw[if_pos q,q]
 ·rw[if_neg q,E2,E2,A2z,if_neg q]
theorem B3j(N:NmOk nm){S:V}{v4 w12 w13 w14 w15 w16 w17 w19 w21 w22 w24 w25:Option V}{w:Nat}{kdO wko:AO}{kb:List (Str×Str)}{rest:List AO}{ans:Str}{new:Int}{R:DS}{r:Option (Fl×St)}(lb:∀ p∈kb,(Txt.lower p.1).length<1000)(fb:kb.length<900)(hw:w<10)(g:R9 (Txt.upper (nm (Z.dst w))) kb=some ans)(hnew:new+cc0 Z start W (Z.dst w)=if Z.dst w=start then 0 else 1)(he:here=Z.src w)(hr:R ⟨[some (.t Z.endsT),some (.t Ln),some (.t (I5 nm)),some S,v4,some (hobj 0),some (.t (chT w)),w7,some (hobj 1),some (.ref 2),some (.ref 3),some (.t (.int here)),w12,w13,w14,w15,w16,w17,some (.t (.str (nm (Z.dst w)))),w19,some (.t (.str ans)),w21,w22,some (.t (t5 new 1 (Z.ri w) (Z.ab w) (Z2 nm [here] fun _=>t3 1 (Z.ri w) (Z.ab w)))),some (.t (A5l Z nm start W (Z.dst w))),some (.t (.lst (prs ((C4 ((Z.into W (Z.dst w)).map Z.src)).map nm) ((C4 ((Z.into W (Z.dst w)).map Z.src)).map (cT Z (Z.into W (Z.dst w)))))))],
   kdO::.lst (kb.map J9)::N1 nm (M2 Z (W++[w])) (E2 Z nm start (W++[w]))::wko::(rest++[.gone])⟩=r):
  A9 (B9 24 (A59 (A0 9) (A0 18) (E5 (A2 (dT (.int 0)) (A2 (dT (.int 0)) (A2 (dT (.int 0)) (A2 (dT (.int 0)) (A2 dNewDs dNil)))))))) (A9 (B9 25 (d1 fListS (U5 (A7 (A0 24) (dT (.int 4)))))) (A9 (H5 (bOr (C1 (d2 fIsNot (F0 sp_setitem (A2 (A0 9) (A2 (A0 18) (A2 (F0 sp_add_func_stats (A2 (A0 24) (A2 (A0 23) dNil))) dNil)))) (dT .none))) (bOr (C1 (d2 fNe (d1 fListS (U5 (A7 (A0 24) (dT (.int 4))))) (A0 25))) (C1 (d2 fNe (A0 20) (E9 171 (Str.ofString "_headers") sp_H_get (A0 8) (A2 (P1 isStrT fUpper (A0 18)) dNil) [] dNil))))) (G5 (E5 (A2 (A0 10) (A2 (d1 fNeg (dT (.int 1))) (A2 (L2 dNil) (A2 (L2 dNil) (A2 (A0 9) dNil))))))) dSkip) R))
   ⟨[some (.t Z.endsT),some (.t Ln),some (.t (I5 nm)),some S,v4,some (hobj 0),some (.t (chT w)),w7,some (hobj 1),some (.ref 2),some (.ref 3),some (.t (.int here)),w12,w13,w14,w15,w16,w17,some (.t (.str (nm (Z.dst w)))),w19,some (.t (.str ans)),w21,w22,some (.t (t5 new 1 (Z.ri w) (Z.ab w) (Z2 nm [here] fun _=>t3 1 (Z.ri w) (Z.ab w)))),w24,w25],
   kdO::.lst (kb.map J9)::N1 nm (M2 Z W) (E2 Z nm start W)::wko::rest⟩=r:=by
 subst he
 have hd:=Z.lt4 (u5 w)
 have hv:∀ l o,view ⟨l,kdO::.lst (kb.map J9)::N1 nm (M2 Z W) (E2 Z nm start W)::wko::o⟩ (.ref 2)=some (.ds ((M2 Z W).map nm) ((M2 Z W).map (E2 Z nm start W))):=fun _ _=>rfl
 have hk:∀ σ:St,A0 24 σ=some (.t (A5l Z nm start W (Z.dst w)),σ)→d1 fListS (U5 (A7 (A0 24) (dT (.int 4)))) σ=some (.t (.lst (prs ((C4 ((Z.into W (Z.dst w)).map Z.src)).map nm) ((C4 ((Z.into W (Z.dst w)).map Z.src)).map (cT Z (Z.into W (Z.dst w)))))),σ):=fun σ h24=>
  U4 (v:=.t (.itv _ _)) (B4 (G7 (z:=d4 Z nm (Z.into W (Z.dst w))) h24 rfl rfl rfl rfl rfl) (B4 rfl rfl)) rfl (if_pos (by rw[List.length_map];exact Nat.lt_of_le_of_lt (A0L (M0 _) (A0E (Z:=Z) (Z.into W (Z.dst w)))) (by decide)))
 have ha:sp_add_func_stats [.t (A5l Z nm start W (Z.dst w)),.t (t5 new 1 (Z.ri w) (Z.ab w) (Z2 nm [Z.src w] fun _=>t3 1 (Z.ri w) (Z.ab w)))] [] (kdO::.lst (kb.map J9)::N1 nm (M2 Z W) (E2 Z nm start W)::wko::(rest++[.gone]))=some (E2 Z nm start (W++[w]) (Z.dst w),kdO::.lst (kb.map J9)::N1 nm (M2 Z W) (E2 Z nm start W)::wko::(rest++[.gone])):=by
  rw[← A8h hnew]
  exact B6H (B2z N _ w _)
 have hs:=B2w N (objs:=kdO::.lst (kb.map J9)::N1 nm (M2 Z W) (E2 Z nm start W)::wko::(rest++[.gone])) (i:=2) (d:=Z.dst w) (y:=E2 Z nm start (W++[w]) (Z.dst w)) rfl (M0 _) (A16 W) hd
 rw[A6G] at hs
 refine B0 (C3 (B0j rfl (hv _ _) rfl (I8 (A4 rfl (A4 rfl (A4 rfl (A4 rfl (A4 rfl B8))))) (show 5<1000 from by decide) (W9 (W9 (W9 (W9 (A8X (A3J (nm:=nm) (ks:=[]) (f:=fun _=>.none)))))))) (hv _ _) (B4D N W hd))) ?_
 refine B0 (C3 (hk _ rfl)) ?_
 refine B0 (H8 (b:=false) (B0i (I2 (C5 (J8 (A4 rfl (A4 rfl (A4 (J8 (A4 rfl (A4 rfl B8)) ha) B8))) hs) rfl rfl rfl rfl) rfl rfl) (B0i (I2 (x:=.bool false) (C5 (hk _ rfl) rfl rfl rfl (B4Z _)) rfl rfl) (I2 (x:=.bool false) (C5 (z:=.bool false) rfl (A15 (i:=1) (kvs:=kb) rfl (Z1 rfl (N.plU _ hd).2) ⟨rfl,lb,fb⟩ (N.lU hd) g) rfl rfl ?_) rfl rfl))) rfl) hr
 show some (T.bool (!(ans==ans)))=_
 rw[beq_self_eq_true];rfl
end
end
section
theorem A5d(w:Nat):u5 (u5 w)=w:=by
 obtain⟨k,rfl | rfl⟩:=B0X w
 ·rw[A6g,A6f]
 ·rw[A6f,A6g]
noncomputable def Mz.M(Z:Mz):Maze:=⟨Z.src,u5,W10,A6I,fun _ h=>W10_lt.mpr (A0F (W10_lt.mp h)),fun w _=>A5d w⟩
noncomputable def E6(nm:Nat→Str)(back:List (Nat×Option Nat)):List (Str×Str):=back.map fun p=>(nm p.1,fS p.2)
theorem z8{nm:Nat→Str}(N:NmOk nm){n:Str}{d:Nat}(hd:d<4)(hn:Txt.lower n=Txt.lower (nm d)){back:List (Nat×Option Nat)}(h:∀ p∈back,p.1<4):R9 n (E6 nm back)=(back.lookup d).map fS:=by
 induction back with
 | nil=>rfl
 | cons p back ih=>
  have ih:=ih fun q hq=>h q (.tail _ hq)
  have hk:M7 n (nm p.1,fS p.2)=(d==p.1):=by
   unfold M7
   rw[hn,Bool.eq_iff_iff,beq_iff_eq,beq_iff_eq]
   exact⟨fun e=>(N.inj p.1 (h p (.head _)) d hd e).symm,fun e=>by rw[e]⟩
  unfold R9 E6 at ih ⊢
  rw[List.map_cons,List.find?_cons,hk,List.lookup_cons]
  cases q:d==p.1
  ·exact ih
  ·rfl
section
variable{Z:Mz}{start:Nat}{s:WS}(I:WInv Z.M line start s tree)(hl:line.Perm W10)(hs:start<4)
include I
theorem A3I{p:Nat×Nat}(hp:p∈tree):p.1<4:=by rw[← (I.tarry.way p hp).2.1];exact Z.lt4 _
omit hs in
theorem j2:s.back.length<900:=by
 rw[I.back,List.length_cons,List.length_map,List.length_reverse]
 have:=A0L I.tarry.keys fun v hv=>by
  obtain⟨p,hp,rfl⟩:=List.mem_map.mp hv
  exact A3I I hp
 rw[List.length_map] at this
 exact Nat.lt_of_le_of_lt (Nat.succ_le_succ this) (by decide)
include hs
theorem A1K:∀ p∈s.back,p.1<4:=by
 rw[I.back]
 intro p hp
 rcases List.mem_cons.mp hp with rfl | hp
 ·exact hs
 ·obtain⟨q,hq,rfl⟩:=List.mem_map.mp hp
  exact A3I I (List.mem_reverse.mp hq)
omit hs in
theorem A5E{v:Nat}{x:Nat}(h:s.back.lookup v=some (some x)):x<10:=by
 have:(v,some x)∈s.back:=A1r h
 rw[I.back] at this
 rcases List.mem_cons.mp this with e | hp
 ·cases e
 ·obtain⟨q,hq,e⟩:=List.mem_map.mp hp
  have e2:Z.M.rv q.2=x:=Option.some.inj (congrArg Prod.snd e)
  rw[← e2]
  exact A0F (W10_lt.mp (I.tarry.sub _ (I.tarry.way q (List.mem_reverse.mp hq)).1))
omit hs in
theorem A0c(v:Nat):(s.back.lookup v).isSome=true↔v=start∨v∈tree.map (·.1):=by
 rw[I.back];exact W7 (M:=Z.M)
theorem Y9:s.here<4:=by
 rcases I.tarry.at_ with h | h
 ·rw[h];exact hs
 ·obtain⟨p,hp,e⟩:=List.mem_map.mp h
  rw[← e];exact A3I I hp
omit hs in
theorem y3(hl:line.Perm W10){v w:Nat}(h:w∈s.left v):w<10:=W10_lt.mp ((I.mem hl).mp h).1
omit hs in
theorem A1s(hl:line.Perm W10)(v:Nat):(s.left v).length<16:=by
 rw[I.left]
 refine Nat.lt_of_le_of_lt (List.length_filter_le _ _) ?_
 rw[hl.length_eq];decide
omit hs in
theorem B4v{d:Nat}:(if ((s.back.lookup d).map fS).isNone then (1:Int) else 0)+cc0 Z start s.walk d=if d=start then 0 else 1:=by
 have hb:=A0c I d
 have h1:d∈M2 Z s.walk→d=start∨d∈tree.map (·.1):=fun h=>by
  obtain⟨w,hw,e⟩:=List.mem_map.mp (mem_firsts.mp h)
  rw[← e];exact I.tarry.met w hw
 have h2:d∈tree.map (·.1)→d∈M2 Z s.walk:=fun h=>by
  obtain⟨p,hp,e⟩:=List.mem_map.mp h
  obtain⟨w1,w2,_⟩:=I.tarry.way p hp
  exact mem_firsts.mpr (List.mem_map.mpr ⟨p.2,w1,w2.trans e⟩)
 have e1:((s.back.lookup d).map fS).isNone = !(s.back.lookup d).isSome:=by cases s.back.lookup d <;> rfl
 rw[e1]
 unfold cc0
 by_cases m:d∈M2 Z s.walk
 ·rw[if_pos m,hb.mpr (h1 m)]
  show (0:Int)+_=_
  rw[Int.zero_add]
 ·rw[if_neg m]
  by_cases q:d=start
  ·rw[if_pos q,hb.mpr (.inl q)];rfl
  ·have:(s.back.lookup d).isSome=false:=Bool.eq_false_iff.mpr fun h=>(hb.mp h).elim q fun h=>m (h2 h)
   rw[if_neg q,this];rfl
omit I hs in
theorem B3P{nm:Nat→Str}{v:Nat}{b b':Bool}{l l':List Nat}(h1:b=b')(h2:l=l'):((if b=true then Txt.upper (nm v) else nm v:Str),F9 l)=(if b'=true then Txt.upper (nm v) else nm v,F9 l'):=by subst h1 h2;rfl
noncomputable def wkO(Z:Mz)(nm:Nat→Str)(start:Nat)(s:WS)(od:List Nat)(rest:List AO):List AO:=.lst ((E8 nm (fun v=>(s.walk.map Z.src).contains v) s.left od).map J9)::.lst ((E6 nm s.back).map J9)::N1 nm (M2 Z s.walk) (E2 Z nm start s.walk)::.lst (s.walk.map chT)::rest
omit I hs in
theorem B2N{nm:Nat→Str}(N:NmOk nm)(ho:∀ v∈od,v<4)(hh:s.here<4)(hsrc:Z.src s.way=s.here):K6 (Txt.upper (nm s.here)) (E8 nm (fun v=>(s.walk.map Z.src).contains v) s.left od)++[(Txt.upper (nm s.here),F9 ((s.left s.here).erase s.way))]=
  E8 nm (fun v=>((s.step Z.M).walk.map Z.src).contains v) (s.step Z.M).left (od.filter (· != s.here)++[s.here]):=by
 rw[A7F N ho hh (N.lowU _ hh)]
 unfold E8
 rw[List.map_append]
 have hw:∀ v,((s.step Z.M).walk.map Z.src).contains v=((s.walk.map Z.src).contains v||v==s.here):=fun v=>by
  show ((s.walk++[s.way]).map Z.src).contains v=_
  rw[List.map_append,List.map_cons,List.map_nil,hsrc,Bool.eq_iff_iff];simp
 congr 1
 ·refine List.map_congr_left fun v hv => ?_
  have hne:v≠s.here:=bne_iff_ne.mp (List.mem_filter.mp hv).2
  have e1:((s.step Z.M).walk.map Z.src).contains v=(s.walk.map Z.src).contains v:=by rw[hw,beq_eq_false_iff_ne.mpr hne,Bool.or_false]
  have e2:(s.step Z.M).left v=s.left v:=if_neg hne
  exact B3P e1.symm e2.symm
 ·have e1:((s.step Z.M).walk.map Z.src).contains s.here=true:=by rw[hw,beq_self_eq_true,Bool.or_true]
  have e2:(s.step Z.M).left s.here=(s.left s.here).erase s.way:=if_pos rfl
  exact congrArg (fun x=>[x]) (B3P (nm:=nm) (v:=s.here) (b:=true) e1.symm e2.symm)
omit I hs in
theorem B2O{nm:Nat→Str}:B3K (E6 nm s.back) ((s.back.lookup (Z.dst s.way)).map fS) (nm (Z.dst s.way)) (sgn (u5 s.way))=E6 nm (s.step Z.M).back:=by
 show _=E6 nm (if (s.back.lookup (Z.dst s.way)).isSome then s.back else s.back++[(Z.dst s.way,some (u5 s.way))])
 cases s.back.lookup (Z.dst s.way) with
 | none=>
  show E6 nm s.back++[(nm (Z.dst s.way),sgn (u5 s.way))]=E6 nm (s.back++[(Z.dst s.way,some (u5 s.way))])
  unfold E6
  rw[List.map_append];rfl
 | some o=>rfl
theorem B1V{nm:Nat→Str}(N:NmOk nm){j:Nat→Option V}{rest:List AO}(hl:line.Perm W10)(hne:s.left s.here≠[])(nd:od.Nodup)(ho:∀ v∈od,v<4)(hm:s.here∈od)(hn:s.num<2 ^ 40)(hw:s.walk.length<900):
  ∃ j' rest',A6V (wSt Z Ln nm start s.num s.here j (wkO Z nm start s od rest))=some (.next,wSt Z Ln nm start (s.step Z.M).num (s.step Z.M).here j' (wkO Z nm start (s.step Z.M) (od.filter (· != s.here)++[s.here]) rest')):=by
 have hh:=Y9 I hs
 have hwm:=WS.way_mem hne
 have hwl:s.way∈s.left s.here:=N7 hwm
 have hw10:=y3 I hl hwl
 have hsrc:Z.src s.way=s.here:=((I.mem hl).mp hwl).2.1
 have hd:Z.dst s.way<4:=Z.lt4 (u5 s.way)
 have I':=I.step hl hne
 have bl:=A1K I hs
 have bl':=A1K I' hs
 have hfs:∃ o,s.back.lookup s.here=some o:=Option.isSome_iff_exists.mp ((A0c I _).mpr I.tarry.at_)
 obtain⟨o,ho2⟩:=hfs
 have hfirst:s.first=o:=by unfold WS.first;rw[ho2];rfl
 have lowb:∀ (b:List (Nat×Option Nat)),(∀ p∈b,p.1<4)→∀ p∈E6 nm b,(Txt.lower p.1).length<1000:=fun b hb p hp=>by
  obtain⟨q,hq,rfl⟩:=List.mem_map.mp hp
  exact(N.plL _ (hb q hq)).2
 have fewb:(E6 nm s.back).length<900:=by unfold E6;rw[List.length_map];exact j2 I
 have fewb':(E6 nm (s.step Z.M).back).length<900:=by unfold E6;rw[List.length_map];exact j2 I'
 have gans:R9 (Txt.upper (nm (Z.dst s.way))) (E6 nm (s.step Z.M).back)=some (((s.back.lookup (Z.dst s.way)).map fS).getD (sgn (u5 s.way))):=by
  rw[z8 N hd (N.lowU _ hd) bl']
  show Option.map fS (List.lookup (Z.dst s.way) (if (s.back.lookup (Z.dst s.way)).isSome then s.back else s.back++[(Z.dst s.way,some (u5 s.way))]))=_
  cases q:s.back.lookup (Z.dst s.way) with
  | some o=>rw[if_pos (show (some o).isSome=true from rfl),q];rfl
  | none=>rw[if_neg (show ¬ (none:Option (Option Nat)).isSome=true from Bool.noConfusion),List.lookup_append,q,List.lookup_cons,beq_self_eq_true];rfl
 refine⟨fun i=>([none,none,none,none,none,none,some (.t (chT s.way)),j 7,none,none,none,none,j 12,some (.t (.str (F9 (s.left s.here)))),some (.t (.str (fS s.first))),some (.t (.lst (s.free.map chT))),some (.t (.int (s.num % s.free.length:Nat))),some (.t (.int ((s.left s.here).idxOf s.way))),some (.t (.str (nm (Z.dst s.way)))),some (.t (.int (if ((s.back.lookup (Z.dst s.way)).map fS).isNone then 1 else 0))),some (.t (.str (((s.back.lookup (Z.dst s.way)).map fS).getD (sgn (u5 s.way))))),some (.t (.int (Z.ab s.way))),some (.t (.int (Z.ri s.way))),
  some (.t (t5 (if ((s.back.lookup (Z.dst s.way)).map fS).isNone then 1 else 0) 1 (Z.ri s.way) (Z.ab s.way) (Z2 nm [s.here] fun _=>t3 1 (Z.ri s.way) (Z.ab s.way)))),some (.t (A5l Z nm start s.walk (Z.dst s.way))),some (.t (.lst (prs ((C4 ((Z.into s.walk (Z.dst s.way)).map Z.src)).map nm) ((C4 ((Z.into s.walk (Z.dst s.way)).map Z.src)).map (cT Z (Z.into s.walk (Z.dst s.way)))))))]:List (Option V)).getD i none,rest++[.gone]++[.gone],?_⟩
 refine B3l N (first:=s.first) (L:=s.left s.here) (kd:=E8 nm (fun v=>(s.walk.map Z.src).contains v) s.left od) (kb:=E6 nm s.back) (A1H N ho nd rfl) ⟨rfl,lowb _ bl,fewb⟩ hh (fun w h=>y3 I hl h) (A1s I hl _) hne (fun x e=>A5E I (v:=s.here) (by rw[ho2,← hfirst,e])) (by rw[A18 N hh rfl ho,if_pos hm]) (by rw[z8 N hh (N.lowU _ hh) bl,ho2,hfirst];rfl) hn (by rw[List.length_map];exact hw) ?_
 refine B3k N (ob:=(s.back.lookup (Z.dst s.way)).map fS) (L:=s.left s.here) (w:=s.way) (A1H N ho nd rfl) (lowb _ bl) fewb hh (fun w h=>y3 I hl h) (I.nodup hl _) (A1s I hl _) hwl (z8 N hd rfl bl) (z8 N hd (N.lowU _ hd) bl) ?_
 rw[B2N N ho hh hsrc,B2O]
 refine B3j N (lowb _ bl') fewb' hw10 gans (B4v I) hsrc.symm ?_
 refine(C3 (A4u rfl rfl rfl hw10)).trans ?_
 unfold wkO
 rw[show (s.step Z.M).walk=s.walk++[s.way] from rfl,List.map_append (f:=chT)];rfl
end
end
section
theorem A4L(n:Nat):sliceRange 0 (n:Int) 1=List.range n:=by
 show (List.range (if (0:Int)<n then ((n:Int) - 0+1 - 1) / 1 else 0:Int).toNat).map (fun (k:Nat)=>((0:Int)+1 * (k:Int)).toNat)=_
 have e:(if (0:Int)<n then ((n:Int) - 0+1 - 1) / 1 else 0:Int).toNat=n:=by
  rw[Int.ediv_one,Int.add_sub_cancel,Int.sub_zero]
  cases n with
  | zero=>rfl
  | succ n=>rw[if_pos (show (0:Int)<((n+1:Nat):Int) from Int.ofNat_lt.mpr (Nat.succ_pos n))];rfl
 rw[e,List.map_congr_left (g:=id) (fun k _=>by show ((0:Int)+1 * (k:Int)).toNat=k;rw[Int.one_mul,Int.zero_add];rfl),List.map_id]
theorem A9S(xs:List T):m0 xs none none none=xs:=(congrArg (List.filterMap (xs[·]?)) (A4L xs.length)).trans ((A0I xs _).trans List.take_length)
theorem B1u(xs:List T)(h:k≤xs.length):m0 xs none (some (k:Int)) none=xs.take k:=by
 have b:sliceBounds none (some (k:Int)) none xs.length=((0:Int),(k:Int),(1:Int)):=by
  show ((0:Int),(if (1:Int)>0 then max 0 (min (if (k:Int)<0 then (k:Int)+xs.length else k) xs.length) else _),(1:Int))=_
  rw[if_pos (by decide),if_neg (Int.not_lt.mpr (Int.natCast_nonneg k)),Int.min_eq_left (Int.ofNat_le.mpr h),Int.max_eq_right (Int.natCast_nonneg k)]
 unfold m0
 rw[b]
 exact(congrArg (List.filterMap (xs[·]?)) (A4L k)).trans (A0I xs k)
theorem A3K{i:Nat}{xs:List T}(h:σ.objs[i]?=some (.lst xs)):toT σ (.ref i)=some (.lst xs,⟨σ.loc,σ.objs.set i .gone⟩):=B4 h rfl
theorem B2g{mk:List V→List (Str×V)→Option (List (Option V))}{kw:List (Str×V)}{loc:List (Option V)}{xs:List T}(hm:mk us kw=some loc)(hd:dd ⟨loc,objs⟩=some (.ret (.ref objs.length),⟨l,objs++[.lst xs]⟩)):A31 mk dd us kw objs=some (xs,objs):=
 B4 hm (B4 hd (G4 rfl (B4 (i8 G2) (by rw[List.take_left' rfl]))))
theorem B2x{i:Nat}(H:HAt i objs kvs):sp_H_items [hobj i] [] objs=some (kvs.map J9,objs):=by
 have hv:view ⟨[some (hobj i)],objs⟩ (.ref i)=some (.lst (kvs.map J9)):=B4 H.at_ rfl
 have e:B4t (U0 171 (Str.ofString "_headers") (A0 0)) ⟨[some (hobj i)],objs⟩=some (.ref objs.length,⟨[some (hobj i)],objs++[.lst (kvs.map J9)]⟩):=by
  refine B4 (A0X rfl) (B4 hv (B4 rfl (G4 (by rw[List.length_map];exact Nat.lt_trans H.few (by decide)) ?_)))
  rw[A9S]
 exact B2g rfl (K0 e)
theorem A3w{a:D}{i:Nat}(h:a σ=some (hobj i,σ))(H:HAt i σ.objs kvs):P0 171 (Str.ofString "_headers") sp_H_items a σ=some (.ref σ.objs.length,⟨σ.loc,σ.objs++[.lst (kvs.map J9)]⟩):=
 B4 h (G4 (T6 i) (B4 (B2x H) rfl))
noncomputable def A6R(Z:Mz)(nm:Nat→Str)(start:Nat)(s:WS)(od:List Nat):T:=.tup [.lst (s.walk.map chT),.int s.num,.lst ((E8 nm (fun v=>(s.walk.map Z.src).contains v) s.left od).map J9),.lst ((E6 nm s.back).map J9),Z2 nm (M2 Z s.walk) (E2 Z nm start s.walk)]
section
variable{Z:Mz}{nm:Nat→Str}(N:NmOk nm){start:Nat}
theorem B0c{d b w x:List T}{f:Nat→T}{num:Int}{rest:List AO}:∃ o',toTs ⟨l,(.lst d::.lst b::N1 nm ks f::.lst w::rest)++[.lst x]++[.lst d]++[.lst b]⟩ [.ref 3,.t (.int num),.ref (rest.length+5),.ref (rest.length+6),.ref 2]=some ([.lst w,.int num,.lst d,.lst b,Z2 nm ks f],⟨l,o'⟩):=by
 refine⟨_,B4d (A3K rfl) (W9 (B4d (A3K (xs:=d) ?_) (B4d (A3K (xs:=b) ?_) (A8X (A3L (nm:=nm) (ks:=ks) (f:=f) rfl)))))⟩
 ·show (rest++[AO.lst x]++[AO.lst d]++[AO.lst b])[rest.length+1]?=_
  rw[List.append_assoc,List.append_assoc,List.getElem?_append_right (Nat.le_add_right _ _),Nat.add_sub_cancel_left];rfl
 ·refine(List.getElem?_set_ne (Nat.ne_of_lt (Nat.lt_succ_self (rest.length+5)))).trans ?_
  show (rest++[AO.lst x]++[AO.lst d]++[AO.lst b])[rest.length+2]?=_
  rw[List.append_assoc,List.append_assoc,List.getElem?_append_right (Nat.le_add_right _ _),Nat.add_sub_cancel_left];rfl
include N
theorem A8s{s:WS}{j:Nat→Option V}{rest:List AO}(I:WInv Z.M line start s tree)(hs:start<4)(hl:line.Perm W10)(he:s.left s.here=[])(nd:od.Nodup)(ho:∀ v∈od,v<4)(hm:s.here∈od):
  ∃ σ',A6V (wSt Z Ln nm start s.num s.here j (wkO Z nm start s od rest))=some (.ret (.t (A6R Z nm start s od)),σ'):=by
 have hh:=Y9 I hs
 have bl:=A1K I hs
 have fewb:(E6 nm s.back).length<900:=by unfold E6;rw[List.length_map];exact j2 I
 have lowb:∀ p∈E6 nm s.back,(Txt.lower p.1).length<1000:=fun p hp=>by
  obtain⟨q,hq,rfl⟩:=List.mem_map.mp hp
  exact(N.plL _ (bl q hq)).2
 have Hd:HAt 0 (wkO Z nm start s od rest) (E8 nm (fun v=>(s.walk.map Z.src).contains v) s.left od):=A1H N ho nd rfl
 have Hb:∀ o,HAt 1 (wkO Z nm start s od rest++o) (E6 nm s.back):=fun o=>⟨rfl,lowb,fewb⟩
 have g:R9 (nm s.here) (E8 nm (fun v=>(s.walk.map Z.src).contains v) s.left od)=some (Str.ofString ""):=by
  rw[A18 N hh rfl ho,if_pos hm,he,W8]
 have hv:B9 13 (E9 171 (Str.ofString "_headers") sp_H_get (A0 5) (A2 (A7 (A0 2) (A0 11)) dNil) [] dNil) (wSt Z Ln nm start s.num s.here j (wkO Z nm start s od rest))=_:=C3 (A15 rfl (N0 rfl rfl hh) Hd (N.plL _ hh) g)
 obtain⟨o',ht⟩:=B0c (nm:=nm) (l:=(wSt Z Ln nm start s.num s.here j (wkO Z nm start s od rest)).loc.set 13 (some (.t (.str (Str.ofString ""))))) (d:=(E8 nm (fun v=>(s.walk.map Z.src).contains v) s.left od).map J9) (b:=(E6 nm s.back).map J9) (w:=s.walk.map chT) (x:=(E6 nm s.back).map J9++[.tup [.str (Str.ofString ""),.str (Str.ofString "")]]) (ks:=M2 Z s.walk) (f:=E2 Z nm start s.walk) (num:=s.num) (rest:=rest)
 have hx:Q9 ⟨(wSt Z Ln nm start s.num s.here j (wkO Z nm start s od rest)).loc.set 13 (some (.t (.str (Str.ofString "")))),wkO Z nm start s od rest++[.lst ((E6 nm s.back).map J9)]⟩ (wkO Z nm start s od rest).length=some ((E6 nm s.back).map J9):=i8 G2
 have hset:(wkO Z nm start s od rest++[AO.lst ((E6 nm s.back).map J9)]).set (wkO Z nm start s od rest).length (.lst ((E6 nm s.back).map J9++[.tup [.str (Str.ofString ""),.str (Str.ofString "")]]))=wkO Z nm start s od rest++[.lst ((E6 nm s.back).map J9++[.tup [.str (Str.ofString ""),.str (Str.ofString "")]])]:=K5
 have e1:=A0v (A7D (j:=(wkO Z nm start s od rest).length) (a:=P0 171 (Str.ofString "_headers") sp_H_items (A0 8)) (b:=E5 (A2 (dT (.str (Str.ofString ""))) (A2 (dT (.str (Str.ofString ""))) dNil))) (σ:=⟨(wSt Z Ln nm start s.num s.here j (wkO Z nm start s od rest)).loc.set 13 (some (.t (.str (Str.ofString "")))),wkO Z nm start s od rest⟩) (A3w (i:=1) rfl ⟨rfl,lowb,fewb⟩) (A1A G2) (I8 (A4 rfl (A4 rfl B8)) (show 2<1000 from by decide) rfl) rfl hx (by rw[List.length_map];exact Nat.lt_trans fewb (by decide))) rfl
 rw[hset] at e1
 refine⟨⟨(wSt Z Ln nm start s.num s.here j (wkO Z nm start s od rest)).loc.set 13 (some (.t (.str (Str.ofString "")))),o'⟩,B0 hv (U3 (H8 (b:=true) rfl (G4 rfl (B0 e1 (K0 (I8 (A4 rfl (A4 rfl (A4 (A3w (i:=0) (kvs:=E8 nm (fun v=>(s.walk.map Z.src).contains v) s.left od) rfl ⟨rfl,Hd.low,Hd.few⟩) (A4 (A3w (i:=1) (kvs:=E6 nm s.back) rfl ⟨rfl,lowb,fewb⟩) (A4 rfl B8))))) (show 5<1000 from by decide) ?_))))))⟩
 have l1:∀ x:AO,(wkO Z nm start s od rest++[x]).length=rest.length+5:=fun x=>by rw[List.length_append];rfl
 have l2:∀ x y:AO,(wkO Z nm start s od rest++[x]++[y]).length=rest.length+6:=fun x y=>by rw[List.length_append,List.length_append];rfl
 rw[← l1 (.lst ((E6 nm s.back).map J9++[.tup [.str (Str.ofString ""),.str (Str.ofString "")]])),← l2 (.lst ((E6 nm s.back).map J9++[.tup [.str (Str.ofString ""),.str (Str.ofString "")]])) (.lst ((E8 nm (fun v=>(s.walk.map Z.src).contains v) s.left od).map J9))] at ht
 exact ht
end
end
section
section
variable{Z:Mz}{nm:Nat→Str}(N:NmOk nm){start:Nat}
structure OdOk(od:List Nat):Prop where
 nd:od.Nodup
 lt:∀ v,v∈od↔v<4
theorem OdOk.step(h:OdOk od){v:Nat}(hv:v<4):OdOk (od.filter (· != v)++[v]):=by
 have p:=A9e h.nd ((h.lt v).mpr hv)
 exact⟨p.nodup_iff.mpr h.nd,fun u=>by rw[p.mem_iff];exact h.lt u⟩
structure B3c(Z:Mz)(line:List Nat)(start:Nat)(s0 s:WS)(od:List Nat):Prop where
 run:s=s0.run Z.M 10
 inv:∃ tree,WInv Z.M line start s tree
 len:s.walk.length=10
 ord:OdOk od
 doors:Doors Z.src s.walk od
include N
theorem A7f(hs:start<4)(hl:line.Perm W10)(C:Z.M.Conn start)(n:Nat):∀ (xs:List T) (s:WS) (tree:List (Nat×Nat)) (od:List Nat) (j:Nat→Option V) (rest:List AO),xs.length=n+1→WInv Z.M line start s tree→s.walk.length+n=10→OdOk od→Doors Z.src s.walk od→s.num<2 ^ 40→
  ∃ od' σ',M9 (tN 12) A6V xs (wSt Z Ln nm start s.num s.here j (wkO Z nm start s od rest))=some (.ret (.t (A6R Z nm start (s.run Z.M n) od')),σ')∧(∃ tree',WInv Z.M line start (s.run Z.M n) tree')∧(s.run Z.M n).walk.length=10∧OdOk od'∧Doors Z.src (s.run Z.M n).walk od':=by
 induction n with
 | zero=>
  intro xs s tree od j rest hx I hw O D hn
  obtain⟨x,rfl⟩:=A5r hx
  obtain⟨σ',e⟩:=A8s N (Ln:=Ln) (j:=fun i=>if i=12 then some (.t x) else j i) (rest:=rest) I hs hl (I.left_end hl (by rw[show s.walk.length=10 from hw];rfl) _) O.nd (fun v h=>(O.lt v).mp h) ((O.lt _).mpr (Y9 I hs))
  exact⟨od,σ',B2e rfl e,⟨tree,I⟩,hw,O,D⟩
 | succ n ih=>
  intro xs s tree od j rest hx I hw O D hn
  cases xs with
  | nil=>cases hx
  | cons x xs=>
   have hw10:s.walk.length<10:=hw▸Nat.lt_add_of_pos_right (Nat.succ_pos n)
   have hne:=I.left_ne hl C hw10
   obtain⟨j',rest',e⟩:=B1V I hs N (Ln:=Ln) (j:=fun i=>if i=12 then some (.t x) else j i) (rest:=rest) hl hne O.nd (fun v h=>(O.lt v).mp h) ((O.lt _).mpr (Y9 I hs)) hn (Nat.lt_trans hw10 (by decide))
   have hsrc:Z.src s.way=s.here:=((I.mem hl).mp (N7 (WS.way_mem hne))).2.1
   have D':=D.step s.way
   rw[hsrc] at D'
   obtain⟨od',σ',h1,h2⟩:=ih xs (s.step Z.M) _ (od.filter (· != s.here)++[s.here]) j' rest' (Nat.succ.inj hx) (I.step hl hne) (by rw[A4C,Nat.succ_add];exact hw) (O.step (Y9 I hs)) D' (Nat.lt_of_le_of_lt (Nat.div_le_self _ _) hn)
   exact⟨od',σ',I6 rfl e h1,h2⟩
theorem B2l{S nu:Option V}(rest:List Nat):∀ (P od:List Nat) (w6 w7:Option V),(∀ x∈P++rest,x<10)→(P++rest).length<900→od.Nodup→(∀ v∈od,v<4)→(∀ v,v∉od→P.filter (Z.src ·==v)=[])→
  ∃ od' w6' w7',M9 (tN 6) drB (rest.map fun w=>.str (sgn w)) (A55 Z Ln nm S nu w6 w7 [.lst ((E8 nm (fun _=>false) (fun v=>P.filter (Z.src ·==v)) od).map J9)])=some (.next,A55 Z Ln nm S nu w6' w7' [.lst ((E8 nm (fun _=>false) (fun v=>(P++rest).filter (Z.src ·==v)) od').map J9)])∧od'.Nodup∧(∀ v∈od',v<4)∧∀ v,v∉od'→(P++rest).filter (Z.src ·==v)=[]:=by
 induction rest with
 | nil=>exact fun P od w6 w7 hP hl nd ho hm=>⟨od,w6,w7,by rw[List.append_nil];rfl,nd,ho,by rwa [List.append_nil]⟩
 | cons w rest ih=>
  intro P od w6 w7 hP hl nd ho hm
  have hs:=Z.lt4 w
  have hl':P.length<900:=Nat.lt_of_le_of_lt (by rw[List.length_append];exact Nat.le_add_right _ _) hl
  have ho':∀ v∈od.filter (· != Z.src w)++[Z.src w],v<4:=fun v hv=>by
   rcases List.mem_append.mp hv with h | h
   ·exact ho v (List.mem_filter.mp h).1
   ·rw[List.mem_singleton] at h;rw[h];exact hs
  obtain⟨od',w6',w7',h1,h2⟩:=ih (P++[w]) (od.filter (· != Z.src w)++[Z.src w]) (some (.t (.str (sgn w)))) (some (.t (.str (nm (Z.src w))))) (by rwa [List.append_assoc]) (by rwa [List.append_assoc]) (List.nodup_append.mpr ⟨nd.filter _,List.pairwise_singleton _ _,fun a ha b hb e=>by
   rw[List.mem_singleton] at hb
   exact bne_iff_ne.mp (List.mem_filter.mp ha).2 (e.trans hb)⟩) ho' (fun v hv=>by
   have hv1:v≠Z.src w:=fun e=>hv (List.mem_append_right _ (by rw[e];exact List.mem_singleton_self _))
   have hv2:v∉od:=fun h=>hv (List.mem_append_left _ (List.mem_filter.mpr ⟨h,bne_iff_ne.mpr hv1⟩))
   rw[List.filter_append,hm v hv2,List.filter_cons,beq_eq_false_iff_ne.mpr fun e=>hv1 e.symm];rfl)
  rw[List.append_assoc] at h1 h2
  exact⟨od',w6',w7',I6 rfl (B2m N (hP w (List.mem_append_right _ (.head _))) (fun x hx=>hP x (List.mem_append_left _ hx)) hl' nd ho hm) h1,h2⟩
noncomputable def K9(Z:Mz)(line:List Nat)(start num:Nat):WS:=⟨fun v=>line.filter (Z.src ·==v),[(start,none)],start,num,[]⟩
theorem B4w(hs:start<4)(hl:line.Perm W10)(C:Z.M.Conn start)(hsur:∀ v,v<4→∃ w,w<10∧Z.src w=v)(hn:num<2 ^ 40):
  ∃ s od,B3c Z line start (K9 Z line start num) s od∧sp_law_walk [.t Z.endsT,.t (c0 line),.t (I5 nm),.t (.int start),.t (.int num)] [] []=some (A6R Z nm start s od,[]):=by
 have hlt:∀ x∈line,x<10:=fun x hx=>W10_lt.mp (hl.mem_iff.mp hx)
 obtain⟨od,w6,w7,h1,nd,ho,hm⟩:=B2l N (Z:=Z) (Ln:=c0 line) (S:=some (.t (.int start))) (nu:=some (.t (.int num))) line [] [] none none (by rwa [List.nil_append]) (by rw[List.nil_append,hl.length_eq];decide) .nil (fun v h=>by cases h) (fun v _=>rfl)
 rw[List.nil_append] at h1 hm
 have O:OdOk od:=⟨nd,fun v=>⟨ho v,fun hv=>Classical.byContradiction fun h=>by
  obtain⟨w,hw,e⟩:=hsur v hv
  have:w∈line.filter (Z.src ·==v):=List.mem_filter.mpr ⟨hl.mem_iff.mpr (W10_lt.mpr hw),by rw[e];exact beq_self_eq_true v⟩
  rw[hm v h] at this;cases this⟩⟩
 have I:WInv Z.M line start (K9 Z line start num) []:=WInv.zero
 obtain⟨od',σ',h2,ht,hlen,O',D'⟩:=A7f N (Ln:=c0 line) hs hl C 10 (A0G 0 11) (K9 Z line start num) [] od (fun i=>if i=6 then w6 else if i=7 then w7 else none) [] rfl I rfl O Doors.zero hn
 refine⟨_,od',⟨rfl,ht,hlen,O',D'⟩,?_⟩
 refine S7 rfl (B0 (C3 (v:=hobj 0) rfl) (B0 (O4 rfl rfl rfl h1 rfl) (B0 (C3 (v:=hobj 1) rfl) (B0 (A0v (A69 (i:=1) (kvs:=[]) rfl (N0 rfl rfl hs) rfl ⟨rfl,fun _ h=>(nomatch h),Nat.zero_lt_succ _⟩ (N.plL _ hs) (N.pl _ hs) ?_ rfl) rfl) (B0 (A3u (A4 rfl (A4 (A4s B8 (by decide) rfl) (A4 rfl B8))) (show 3=3∧3<1000 from by decide)) (U3 (O4 rfl rfl rfl (h2:M9 (tN 12) A6V _ (wSt Z (c0 line) nm start num start _ (wkO Z nm start (K9 Z line start num) od []))=_) rfl))))))) rfl rfl
 ·rw[W8];exact A3H (fun x h=>by cases h) (by decide)
end
end
theorem A5h(ws:List Nat):(List.range ws.length).map (fun i=>ws.getD i 0)=ws:=by
 refine List.ext_getElem (by simp) fun i h1 h2 => ?_
 simp [List.getD_eq_getElem?_getD,h2]
theorem A87{ws:List Nat}{h:Nat→T}{lt:Nat→Nat→Bool}(h2:2≤ws.length)(nd:ws.Nodup)(hlt:∀ u∈ws,∀ v∈ws,ltK (key u) (key v)=lt u v)(asym:∀ u v,lt u v=true→lt v u=true→False)(tr:∀ u v w,lt u v=true→lt v w=true→lt u w=true)(tot:∀ u∈ws,∀ v∈ws,u≠v→lt u v=true∨lt v u=true):
  ∃ l:List Nat,A1R (ws.map key) (ws.map h)=l.map h∧l.Perm ws∧l.Pairwise fun a b=>lt a b=true:=by
 have hin:∀ i,i<ws.length→(ws.map key).getD i .none=key (ws.getD i 0)∧ws.getD i 0∈ws:=fun i hi=>by
  rw[List.getD_eq_getElem?_getD,List.getElem?_map,List.getD_eq_getElem?_getD,List.getElem?_eq_getElem hi]
  exact⟨rfl,List.getElem_mem hi⟩
 have hout:∀ i,¬ i<ws.length→(ws.map key).getD i .none=.none:=fun i hi=>by
  rw[List.getD_eq_getElem?_getD,List.getElem?_eq_none (by rw[List.length_map];lia)];rfl
 have n1:∀ x,ltK .none x=false:=fun _=>rfl
 have n2:∀ x,ltK x .none=false:=fun x=>by
  have h:ltP x .none=false:=by
   show (A2n x).elim false (fun _=>false)=false
   cases A2n x <;> rfl
  show (B0J x).elim (ltP x .none) (fun _=>ltP x .none)=false
  rw[h]
  cases B0J x <;> rfl
 have fact:∀ i j,ltK ((ws.map key).getD i .none) ((ws.map key).getD j .none)=true→i<ws.length∧j<ws.length∧lt (ws.getD i 0) (ws.getD j 0)=true:=fun i j e=>by
  by_cases hi:i<ws.length
  ·by_cases hj:j<ws.length
   ·refine⟨hi,hj,?_⟩
    rwa [(hin i hi).1,(hin j hj).1,hlt _ (hin i hi).2 _ (hin j hj).2] at e
   ·rw[hout j hj,n2] at e;cases e
  ·rw[hout i hi,n1] at e;cases e
 have back:∀ i j,i<ws.length→j<ws.length→ltK ((ws.map key).getD i .none) ((ws.map key).getD j .none)=lt (ws.getD i 0) (ws.getD j 0):=fun i j hi hj=>by
  rw[(hin i hi).1,(hin j hj).1,hlt _ (hin i hi).2 _ (hin j hj).2]
 have T:Tot ws.length (fun i j=>ltK ((ws.map key).getD i .none) ((ws.map key).getD j .none)):=⟨fun i j k e e2=>by
   obtain⟨hi,hj,e⟩:=fact i j e
   obtain⟨_,hk,e2⟩:=fact j k e2
   rw[back i k hi hk];exact tr _ _ _ e e2,fun i j hi hj ne=>by
   rw[back i j hi hj,back j i hj hi]
   refine tot _ (hin i hi).2 _ (hin j hj).2 fun e=>ne ?_
   rw[List.getD_eq_getElem?_getD,List.getD_eq_getElem?_getD,List.getElem?_eq_getElem hi,List.getElem?_eq_getElem hj] at e
   exact(List.getElem_inj nd).mp e⟩
 obtain⟨P,A⟩:=B1e T h2
 unfold A1R
 rw[List.length_map]
 generalize I3 _ (kas_sort ws.length)=p at P A
 have pp:p.toList.Perm _:=P
 refine⟨p.toList.map fun i=>ws.getD i 0,?_,?_,?_⟩
 ·rw[List.map_map]
  refine List.map_congr_left fun i hi => ?_
  have:i<ws.length:=List.mem_range.mp (pp.mem_iff.mp hi)
  show (ws.map h).getD i .none=h (ws.getD i 0)
  rw[List.getD_eq_getElem?_getD,List.getElem?_map,List.getD_eq_getElem?_getD,List.getElem?_eq_getElem this];rfl
 ·have:=pp.map fun i=>ws.getD i 0
  rwa [A5h] at this
 ·rw[List.pairwise_map,List.pairwise_iff_getElem]
  intro i j hi hj hij
  have hj':j<ws.length:=by rw[← P.size];simpa using hj
  have:=A i j hij hj'
  rw[Array.getD_eq_getD_getElem?,Array.getD_eq_getD_getElem?,← Array.getElem?_toList,← Array.getElem?_toList,List.getElem?_eq_getElem hi,List.getElem?_eq_getElem hj] at this
  exact(fact _ _ this).2.2
theorem B0v{d:D}{n:Nat}{h:Nat→T}(l0:List (Option V))(o:List AO)(hn:n=l0.length)(ws:List Nat)(hw:∀ w∈ws,d ⟨l0++[some (.t (h w))],o⟩=some (.t (key w),⟨l0++[some (.t (h w))],o⟩)):A2B d n (ws.map h) ⟨l0,o⟩=some (ws.map key,⟨l0,o⟩):=by
 subst hn
 induction ws with
 | nil=>rfl
 | cons w ws ih=>
  have ih:=ih fun x hx=>hw x (.tail _ hx)
  refine B4 (hw w (.head _)) (B4 rfl ?_)
  show (A2B d l0.length (ws.map h) ⟨(l0++[some (V.t (h w))]).take l0.length,o⟩).bind _=_
  rw[List.take_left' rfl]
  exact B4 ih rfl
theorem B0d{a kd:D}{n:Nat}{ws:List Nat}{h:Nat→T}{lt:Nat→Nat→Bool}(h1:a σ=some (.t y,σ))(hi:itK (A1m y)=some (ws.map h))(hn:n=σ.loc.length)(hk:∀ w∈ws,kd ⟨σ.loc++[some (.t (h w))],σ.objs⟩=some (.t (key w),⟨σ.loc++[some (.t (h w))],σ.objs⟩))(hok:n7 (ws.map key)=true)(h2:2≤ws.length∧ws.length<64)(nd:ws.Nodup)(hlt:∀ u∈ws,∀ v∈ws,ltK (key u) (key v)=lt u v)(asym:∀ u v,lt u v=true→lt v u=true→False)(tr:∀ u v w,lt u v=true→lt v w=true→lt u w=true)(tot:∀ u∈ws,∀ v∈ws,u≠v→lt u v=true∨lt v u=true):
  ∃ l:List Nat,A26 n kd a σ=some (.t (.lst (l.map h)),σ)∧l.Perm ws∧l.Pairwise fun a b=>lt a b=true:=by
 obtain⟨l,e,p,q⟩:=A87 (h:=h) h2.1 nd hlt asym tr tot
 refine⟨l,B4 h1 (B4 rfl (B4 hi (G4 (by rw[List.length_map];exact h2) (B4 (B0v σ.loc σ.objs hn ws hk) (G4 hok ?_))))),p,q⟩
 rw[e]
section
noncomputable def F6(f:Nat→List Nat):List T:=[.str (F9 (f 0)),.str (F9 (f 1)),.str (F9 (f 2)),.str (F9 (f 3))]
theorem A2x(f:Nat→List Nat){v:Nat}(h:v<4):(F6 f)[v]?=some (.str (F9 (f v))):=A1z (P:=fun v=>(F6 f)[v]?=some (.str (F9 (f v)))) rfl rfl rfl rfl v h
theorem A2w(f:Nat→List Nat)(L:List Nat){v:Nat}(h:v<4):(F6 f).set v (.str (F9 L))=F6 fun u=>if u=v then L else f u:=A1z (P:=fun v=>(F6 f).set v (.str (F9 L))=F6 fun u=>if u=v then L else f u) rfl rfl rfl rfl v h
theorem B4l{o:List AO}{a c:D}{i v:Nat}{f:Nat→List Nat}(h1:b ⟨l,o⟩=some (.ref i,⟨l,o⟩))(h2:c ⟨l,o⟩=some (.t (.int v),⟨l,o⟩))(h3:a ⟨l,o⟩=some (.t (.str (F9 L)),⟨l,o⟩))(ho:o[i]?=some (.lst (F6 f)))(hv:v<4)(hl:(f v).length+L.length<1000):
  A0Z fAdd b c a ⟨l,o⟩=some (.next,⟨l,o.set i (.lst (F6 fun u=>if u=v then f v++L else f u))⟩):=by
 have hvw:view ⟨l,o⟩ (.ref i)=some (.lst (F6 f)):=B4 ho rfl
 have hadd:fAdd (A1m (.str (F9 (f v)))) (.str (F9 L))=some (.str (F9 (f v++L))):=by
  rw[← A6S];exact if_pos (by rw[L5,L5];exact hl)
 have hg:=I0 (A2x f hv) (Nat.lt_trans hv (by decide))
 have hst:=A1Q (xs:=F6 f) (x:=.str (F9 (f v++L))) (Nat.lt_trans hv (by decide)) (show v<4 from hv)
 rw[A2w f _ hv] at hst
 refine B4 h1 (B4 h2 (B4 hvw (B4 (x:=.int v) rfl ?_)))
 refine(congrArg (fun x=>Option.bind x _) hg).trans ?_
 refine B4 rfl (B4 h3 (B4 (x:=.str (F9 L)) rfl (B4 hadd (B4 (x:=i) rfl (B4 (x:=.int v) rfl (B4 ho ?_))))))
 exact(congrArg (fun x=>Option.bind x _) hst).trans rfl
section
variable{Z:Mz}{K:Ky}
noncomputable abbrev laB:DS:=A0Z fAdd (A0 4) (A7 (A7 (A0 1) (A0 5)) (dT (.int 0))) (A0 5)
noncomputable abbrev A8H(Z:Mz)(K:Ky)(W:List Nat)(start:Nat)(w5:Option V)(o:List AO):St:=⟨[some (.t (.lst (W.map chT))),some (.t Z.endsT),some (.t K.T),some (.t (.int start)),some (.ref 0),w5,none,none,none,none,none],o⟩
theorem y2{f g:Nat→List Nat}(h:∀ v,f v=g v):F6 f=F6 g:=by rw[show f=g from funext h]
theorem B2J{start:Nat}(rest:List Nat):∀ (P:List Nat) (w5:Option V),(∀ x∈rest,x<10)→P.length+rest.length<900→∃ w5',M9 (tN 5) laB (rest.map fun w=>.str (sgn w)) (A8H Z K W start w5 [.lst (F6 fun v=>P.filter (Z.src ·==v))])=some (.next,A8H Z K W start w5' [.lst (F6 fun v=>(P++rest).filter (Z.src ·==v))]):=by
 induction rest with
 | nil=>exact fun P w5 _ _=>⟨w5,by rw[List.append_nil];rfl⟩
 | cons w rest ih=>
  intro P w5 hr hl
  have hw:=hr w (.head _)
  obtain⟨w5',ih⟩:=ih (P++[w]) (some (.t (.str (sgn w)))) (fun x hx=>hr x (.tail _ hx)) (by rw[List.length_append,Nat.add_assoc,Nat.add_comm [w].length];exact hl)
  rw[List.append_assoc,List.singleton_append] at ih
  have hf:(P.filter (Z.src ·==Z.src w)).length<900:=Nat.lt_of_le_of_lt (List.length_filter_le _ P) (Nat.lt_of_le_of_lt (Nat.le_add_right _ _) hl)
  have e:=B4l (l:=(A8H Z K W start (some (.t (.str (sgn w)))) []).loc) (o:=[.lst (F6 fun v=>P.filter (Z.src ·==v))]) (i:=0) (v:=Z.src w) (f:=fun v=>P.filter (Z.src ·==v)) (L:=[w]) (a:=A0 5) (b:=A0 4) (c:=A7 (A7 (A0 1) (A0 5)) (dT (.int 0))) rfl (A24 rfl rfl rfl hw) rfl rfl (Z.lt4 w) (Nat.lt_of_le_of_lt hf (by decide))
  refine⟨w5',I6 (σ2:=A8H Z K W start (some (.t (.str (sgn w)))) [.lst (F6 fun v=>(P++[w]).filter (Z.src ·==v))]) rfl (e.trans ?_) ih⟩
  refine congrArg (fun x=>some (Fl.next,A8H Z K W start (some (.t (.str (sgn w)))) [.lst x])) (y2 fun v => ?_)
  rw[List.filter_append,List.filter_cons]
  by_cases q:v=Z.src w
  ·rw[if_pos q,q,beq_self_eq_true];rfl
  ·rw[if_neg q,beq_eq_false_iff_ne.mpr fun e=>q e.symm];exact(List.append_nil _).symm
theorem A89(K:Ky):I9 K.d0=true:=by rcases K.h0 with h | h <;> rw[h] <;> rfl
theorem A88(K:Ky):I9 K.d1=true:=by rcases K.h1 with h | h <;> rw[h] <;> rfl
theorem B0W{a b:Int}(h:I9 a=true):fMul (.int a) (.int b)=some (.int (a * b)):=if_pos (by rw[h];rfl)
theorem A5z{a b:Int}(h:I9 b=true):fMul (.int a) (.int b)=some (.int (a * b)):=if_pos (by rw[h,Bool.or_true])
theorem B2I(h1:A0 1 σ=some (.t Z.endsT,σ))(hl:σ.loc.length=11)(h1':σ.loc[1]?=some (some (.t Z.endsT)))(h2':σ.loc[2]?=some (some (.t K.T))):
  A26 11 (E5 (A2 (d2 fMul (A7 (A7 (A0 2) (dT (.int 0))) (dT (.int 1))) (A7 (A7 (A0 1) (A0 11)) (dT (.int 2)))) (A2 (d2 fMul (A7 (A7 (A0 2) (dT (.int 1))) (dT (.int 1))) (d1 fOrd (A0 11))) dNil))) (A0 1) σ=some (.t (c0 (K4 Z K)),σ):=by
 obtain⟨l,e,p,q⟩:=B0d (σ:=σ) (a:=A0 1) (n:=11) (ws:=W10) (h:=fun w=>.str (sgn w)) (key:=fun w=>.tup [.int (K.d0 * Z.ri w),.int (K.d1 * (code w:Int))]) (lt:=y0 Z K)
  (kd:=E5 (A2 (d2 fMul (A7 (A7 (A0 2) (dT (.int 0))) (dT (.int 1))) (A7 (A7 (A0 1) (A0 11)) (dT (.int 2)))) (A2 (d2 fMul (A7 (A7 (A0 2) (dT (.int 1))) (dT (.int 1))) (d1 fOrd (A0 11))) dNil)))
  h1 (congrArg some A33) hl.symm (fun w hw=>by
   have hw:=W10_lt.mp hw
   have s1:A0 1 ⟨σ.loc++[some (.t (.str (sgn w)))],σ.objs⟩=some (.t Z.endsT,⟨σ.loc++[some (.t (.str (sgn w)))],σ.objs⟩):=B4 (by rw[List.getElem?_append_left (hl▸by decide)];exact h1') rfl
   have s2:A0 2 ⟨σ.loc++[some (.t (.str (sgn w)))],σ.objs⟩=some (.t K.T,⟨σ.loc++[some (.t (.str (sgn w)))],σ.objs⟩):=B4 (by rw[List.getElem?_append_left (hl▸by decide)];exact h2') rfl
   have s11:A0 11 ⟨σ.loc++[some (.t (.str (sgn w)))],σ.objs⟩=some (.t (.str (sgn w)),⟨σ.loc++[some (.t (.str (sgn w)))],σ.objs⟩):=B4 (x:=some (.t (.str (sgn w)))) (by rw[← hl,List.getElem?_append_right (Nat.le_refl _),Nat.sub_self];rfl) rfl
   exact I8 (A4 (C5 (G7 (G7 s2 rfl rfl rfl rfl rfl) rfl rfl rfl rfl rfl) (B0g s1 s11 rfl hw) rfl rfl (B0W (A89 K))) (A4 (C5 (G7 (G7 s2 rfl rfl rfl rfl rfl) rfl rfl rfl rfl rfl) (U4 (z:=.int (code w)) s11 rfl rfl) rfl rfl (B0W (A88 K))) B8)) (show 2<1000 from by decide) rfl)
  (by
   have:(W10.map fun w=>T.tup [.int (K.d0 * Z.ri w),.int (K.d1 * (code w:Int))]).all A6w=true:=by rw[List.all_map];exact List.all_eq_true.mpr fun _ _=>rfl
   unfold n7;rw[this,Bool.or_true]) (by decide) A6I
  (fun u _ v _=>by
   show (if (K.d0 * Z.ri u==K.d0 * Z.ri v)=true then decide (K.d1 * (code u:Int)<K.d1 * (code v:Int)) else decide (K.d0 * Z.ri u<K.d0 * Z.ri v))=_
   unfold y0
   by_cases h:K.d0 * Z.ri u=K.d0 * Z.ri v
   ·rw[if_pos (beq_iff_eq.mpr h),h,decide_eq_decide];exact⟨fun q=>.inr ⟨rfl,q⟩,fun q=>q.elim (fun q=>absurd q (Int.lt_irrefl _)) And.right⟩
   ·rw[if_neg (fun e=>h (beq_iff_eq.mp e)),decide_eq_decide];exact⟨.inl,fun q=>q.resolve_right fun q=>h q.1⟩) A4V A2t (fun u hu v hv ne=>A6u (W10_lt.mp hu) (W10_lt.mp hv) ne)
 have hlo:=A1C Z K
 rw[k8 A4V (p.trans hlo.1.symm) q hlo.2] at e
 exact e
end
end
noncomputable def bkK(b:List (Nat×Option Nat)):List Int:=b.map fun p=>(p.1:Int)
noncomputable def bkX(b:List (Nat×Option Nat)):List T:=b.map fun p=>.str (fS p.2)
theorem B09{v:Nat}{b:List (Nat×Option Nat)}:lk (bkK b) (bkX b) (v:Int)=(b.lookup v).map fun o=>.str (fS o):=by
 induction b with
 | nil=>rfl
 | cons p b ih=>
  unfold bkK bkX at ih ⊢
  rw[List.map_cons,List.map_cons,A3j,List.lookup_cons]
  by_cases q:v=p.1
  ·rw[if_pos (by rw[q]),beq_iff_eq.mpr q];rfl
  ·rw[if_neg (fun e:(p.1:Int)=v=>q (Int.ofNat.inj e).symm),beq_eq_false_iff_ne.mpr q];exact ih
theorem B46{v:Nat}{b:List (Nat×Option Nat)}(h:b.lookup v=none):(v:Int)∉bkK b:=fun hm=>by
 obtain⟨p,hp,e⟩:=List.mem_map.mp hm
 have e':p.1=v:=Int.ofNat.inj e
 have:(b.lookup v).isSome=true:=by
  clear h hm e
  induction b with
  | nil=>cases hp
  | cons q b ih=>
   rw[List.lookup_cons]
   by_cases r:v=q.1
   ·rw[beq_iff_eq.mpr r];rfl
   ·rw[beq_eq_false_iff_ne.mpr r]
    rcases List.mem_cons.mp hp with rfl | hp
    ·exact absurd e'.symm r
    ·exact ih hp
 rw[h] at this;cases this
theorem B0f{o:List AO}{a c:D}{i v:Nat}{bk:List (Nat×Option Nat)}{w:Nat}(h1:a ⟨l,o⟩=some (.ref i,⟨l,o⟩))(h2:b ⟨l,o⟩=some (.t (.int v),⟨l,o⟩))(h3:c ⟨l,o⟩=some (.t (.str (sgn w)),⟨l,o⟩))(ho:o[i]?=some (.di (bkK bk) (bkX bk)))(hl:bk.length<900):
  ∃ y,A1I a b c ⟨l,o⟩=some (.t (.str y),⟨l,o.set i (.di (bkK (if (bk.lookup v).isSome then bk else bk++[(v,some w)])) (bkX (if (bk.lookup v).isSome then bk else bk++[(v,some w)])))⟩):=by
 have hd:B0p ⟨l,o⟩ i=some (bkK bk,bkX bk):=B4 ho rfl
 have hlen:(bkK bk).length<1000:=by unfold bkK;rw[List.length_map];exact Nat.lt_trans hl (by decide)
 have hk:=B09 (v:=v) (b:=bk)
 cases q:bk.lookup v with
 | some x=>
  rw[q] at hk
  refine⟨fS x,B4 h1 (G4 (congrArg Option.isSome hd) (B4 h2 (B4 h3 (B4 rfl (B4 rfl (B4 rfl (B4 hd (G4 hlen ?_))))))))⟩
  show (lk (bkK bk) (bkX bk) (v:Int)).elim _ _=_
  rw[hk]
  have:o.set i (.di (bkK bk) (bkX bk))=o:=by obtain⟨_,e⟩:=List.getElem?_eq_some_iff.mp ho;rw[← e];exact List.set_getElem_self _
  rw[if_pos (show (some x).isSome=true from rfl),this];rfl
 | none=>
  rw[q] at hk
  refine⟨sgn w,B4 h1 (G4 (congrArg Option.isSome hd) (B4 h2 (B4 h3 (B4 rfl (B4 rfl (B4 rfl (B4 hd (G4 hlen ?_))))))))⟩
  show (lk (bkK bk) (bkX bk) (v:Int)).elim _ _=_
  rw[hk]
  have hn:=B46 q
  have e1:stK (bkK bk) (v:Int)=bkK (bk++[(v,some w)]):=by unfold stK;rw[if_neg hn];unfold bkK;rw[List.map_append];rfl
  have e2:stX (bkK bk) (bkX bk) (v:Int) (.str (sgn w))=bkX (bk++[(v,some w)]):=by unfold stX;rw[if_neg hn];unfold bkX;rw[List.map_append];rfl
  rw[if_neg (show ¬ (none:Option (Option Nat)).isSome=true from Bool.noConfusion),← e1,← e2];rfl
theorem A6X(F:List Nat):O6 (F.map chT)=some (F.map sgn):=by
 induction F with
 | nil=>rfl
 | cons w F ih=>
  show (some (sgn w)).bind (fun y=>(O6 (F.map chT)).map (y :: ·))=_
  rw[ih];rfl
theorem A6t(hF:∀ w∈F,w<10){w:Nat}(hw:w<10):sgn w∈F.map sgn↔w∈F:=by
 rw[List.mem_map]
 exact⟨fun ⟨v,hv,e⟩=>t8 (hF v hv) hw e▸hv,fun h=>⟨w,h,rfl⟩⟩
theorem B2U{w:Nat}(hw:w<10)(h:∀ w∈F,w<10):(F.map sgn).idxOf (sgn w)=F.idxOf w:=by
 induction F with
 | nil=>rfl
 | cons v F ih=>
  rw[List.map_cons,List.idxOf_cons,List.idxOf_cons,ih fun x hx=>h x (.tail _ hx)]
  by_cases q:v=w
  ·rw[q,beq_self_eq_true,beq_self_eq_true]
  ·rw[beq_eq_false_iff_ne.mpr q,beq_eq_false_iff_ne.mpr fun e=>q (t8 (h v (.head _)) hw e)]
theorem B0n{i:Nat}{f:T→T→Option T}{a:D}{v:V}(h:d2 f (A0 i) a σ=some (v,σ1)):y9 i f a σ=some (.next,⟨σ1.loc.set i (some v),σ1.objs⟩):=B4 h rfl
noncomputable abbrev lbB:DS:=(A9 (B9 10 (E3 1 itN (A7 (A0 4) (A0 9)) (C1 (d2 fNe (A0 11) (A7 (A0 6) (A0 9)))) (A0 11))) (A9 (H5 (C1 (d2 fEq (A0 10) (L2 dNil))) (B9 10 (d1 fListS (A7 (A0 4) (A0 9)))) dSkip) (A9 (H5 (C1 (d2 fNotIn (A0 5) (A0 10))) (G5 (dT .none)) dSkip) (A9 (y9 7 fAdd (d2 fMul (A0 8) (dM1 isLstT fFind (A0 10) (A0 5)))) (A9 (y9 8 fMul (d1 fLen (A0 10))) (A9 (O9 (A43 (A7 (A0 4) (A0 9)) (A0 5)) (A0 4) (A0 9)) (A9 (B9 9 (A7 (A7 (A0 1) (A0 5)) (dT (.int 1)))) (Z5 (A1I (A0 6) (A0 9) (P1 isStrT fSwap (A0 5)))))))))))
noncomputable abbrev A8F(Z:Mz)(K:Ky)(W:List Nat)(start:Nat)(w5:Option V)(acc weight here:Nat)(w10:Option V)(f:Nat→List Nat)(bk:List (Nat×Option Nat)):St:=⟨[some (.t (.lst (W.map chT))),some (.t Z.endsT),some (.t K.T),some (.t (.int start)),some (.ref 0),w5,some (.ref 1),some (.t (.int acc)),some (.t (.int weight)),some (.t (.int here)),w10],[.lst (F6 f),.di (bkK bk) (bkX bk)]⟩
theorem B2F{Z:Mz}{K:Ky}{start:Nat}{s:WS}(I:WInv Z.M line start s tree)(hs:start<4)(hl:line.Perm W10)(hne:s.left s.here≠[]):
  ∃ w10',lbB (A8F Z K W start (some (.t (chT s.way))) acc weight s.here w10 s.left s.back)=some (.next,A8F Z K W start (some (.t (chT s.way))) (acc+weight * (s.num % s.free.length)) (weight * s.free.length) (s.step Z.M).here w10' (s.step Z.M).left (s.step Z.M).back):=by
 have hh:=Y9 I hs
 have hwm:=WS.way_mem hne
 have hwl:s.way∈s.left s.here:=N7 hwm
 have hw10:=y3 I hl hwl
 have hL:∀ w∈s.left s.here,w<10:=fun w h=>y3 I hl h
 have hlen:=A1s I hl s.here
 have nd:=I.nodup hl s.here
 obtain⟨o,ho2⟩:=Option.isSome_iff_exists.mp ((A0c I _).mpr I.tarry.at_)
 have hfirst:s.first=o:=by unfold WS.first;rw[ho2];rfl
 have hlk:lk (bkK s.back) (bkX s.back) (s.here:Int)=some (.str (fS s.first)):=by rw[B09,ho2,hfirst];rfl
 have hf:∀ x,s.first=some x→x<10:=fun x e=>A5E I (v:=s.here) (by rw[ho2,← hfirst,e])
 have hFs:∀ w∈s.free,w<10:=fun w h=>hL w (N7 h)
 have hFl:s.free.length<16:=by
  unfold WS.free F8;split
  ·exact hlen
  ·exact Nat.lt_of_le_of_lt (List.length_filter_le _ _) hlen
 have hFn:s.free.Nodup:=by
  unfold WS.free F8;split
  ·exact nd
  ·exact nd.filter _
 have hpos:0<s.free.length:=List.length_pos_iff.mpr (A0Q hne)
 have hi:=Nat.mod_lt s.num hpos
 have hway:s.way=s.free[s.num % s.free.length]:=by unfold WS.way;rw[List.getD_eq_getElem?_getD,List.getElem?_eq_getElem hi];rfl
 have hidx:s.free.idxOf s.way=s.num % s.free.length:=by rw[hway];exact hFn.idxOf_getElem _ hi
 have hg:=I0 (A2x s.left hh) (Nat.lt_trans hh (by decide))
 have hmem:(s.free.map sgn).contains (sgn s.way)=true:=List.contains_iff_mem.mpr ((A6t hFs hw10).mpr hwm)
 have hni:fNotIn (.str (sgn s.way)) (.lst (s.free.map chT))=some (.bool false):=by
  show (O6 (s.free.map chT)).map (fun l=>T.bool (!l.contains (sgn s.way)))=_
  rw[A6X,Option.map_some,hmem];rfl
 have hF1:s.free.length<1000:=Nat.lt_trans hFl (by decide)
 have hl1:(s.left s.here).length<1000:=Nat.lt_trans hlen (by decide)
 have hfi:fFind (.lst (s.free.map chT)) (.str (sgn s.way))=some (.int ((s.num % s.free.length:Nat):Int)):=by
  show (O6 (s.free.map chT)).bind (fun l=>if sgn s.way∈l∧l.length<1000 then some (T.int (l.idxOf (sgn s.way))) else none)=_
  rw[A6X,Option.bind_some,if_pos ⟨(A6t hFs hw10).mpr hwm,by rw[List.length_map];exact hF1⟩,B2U hw10 hFs,hidx]
 have hsm:∀ n:Nat,n<16→I9 (n:Int)=true:=fun n h=>i3 (Nat.lt_trans h (by decide))
 have hm1:fMul (.int weight) (.int ((s.num % s.free.length:Nat):Int))=some (.int ((weight * (s.num % s.free.length):Nat):Int)):=by rw[A5z (hsm _ (Nat.lt_trans hi hFl)),Int.natCast_mul]
 have ha1:fAdd (.int acc) (.int ((weight * (s.num % s.free.length):Nat):Int))=some (.int ((acc+weight * (s.num % s.free.length):Nat):Int)):=by rw[Int.natCast_add];rfl
 have hm2:fMul (.int weight) (.int (s.free.length:Int))=some (.int ((weight * s.free.length:Nat):Int)):=by rw[A5z (hsm _ hFl),Int.natCast_mul]
 have hll:fLen (.lst (s.free.map chT))=some (.int (s.free.length:Int)):=A9n (List.length_map _) hF1
 have hrep:Txt.replace (F9 (s.left s.here)) (sgn s.way) ⟨#[]⟩=F9 ((s.left s.here).erase s.way):=A4A hL nd hwl
 have hst:O7 (.lst (F6 s.left)) (.int s.here) (.str (F9 ((s.left s.here).erase s.way)))=some (.lst (F6 (s.step Z.M).left)):=by
  rw[A1Q (xs:=F6 s.left) (Nat.lt_trans hh (by decide)) hh,A2w s.left _ hh]
  refine congrArg (fun x=>some (AO.lst x)) (y2 fun u => ?_)
  show (if u=s.here then (s.left s.here).erase s.way else s.left u)=if u=s.here then (s.left u).erase s.way else s.left u
  by_cases q:u=s.here
  ·rw[if_pos q,if_pos q,q]
  ·rw[if_neg q,if_neg q]
 have hcut:∀ σ:St,σ.objs=[.lst (F6 s.left),.di (bkK s.back) (bkX s.back)]→A0 4 σ=some (.ref 0,σ)→A0 9 σ=some (.t (.int s.here),σ)→A0 5 σ=some (.t (chT s.way),σ)→O9 (A43 (A7 (A0 4) (A0 9)) (A0 5)) (A0 4) (A0 9) σ=some (.next,⟨σ.loc,[.lst (F6 (s.step Z.M).left),.di (bkK s.back) (bkX s.back)]⟩):=fun σ ho h4 h9 h5=>by
  have hv:view σ (.ref 0)=some (.lst (F6 s.left)):=B4 (by rw[ho];rfl) rfl
  have hl0:A7 (A0 4) (A0 9) σ=some (.t (.str (F9 (s.left s.here))),σ):=G7 h4 h9 hv rfl rfl hg
  have hr:A43 (A7 (A0 4) (A0 9)) (A0 5) σ=some (.t (.str (F9 ((s.left s.here).erase s.way))),σ):=by
   rw[← hrep]
   exact B4 hl0 (G4 rfl (B4 h5 (B4 rfl (B4 rfl (B4 rfl (G4 ⟨by rw[L5];exact hl1,rfl⟩ rfl))))))
  refine B4 hr (B4 h4 (B4 h9 (B4 rfl (B4 (x:=0) rfl (B4 (x:=.int s.here) rfl (B4 (x:=.lst (F6 s.left)) (by rw[ho];rfl) ?_))))))
  refine(congrArg (fun x=>Option.bind x _) hst).trans (B4 rfl ?_)
  rw[ho];rfl
 obtain⟨y,hsd⟩:=B0f (l:=[some (.t (.lst (W.map chT))),some (.t Z.endsT),some (.t K.T),some (.t (.int start)),some (.ref 0),some (.t (chT s.way)),some (.ref 1),some (.t (.int ((acc+weight * (s.num % s.free.length):Nat):Int))),some (.t (.int ((weight * s.free.length:Nat):Int))),some (.t (.int (Z.dst s.way))),some (.t (.lst (s.free.map chT)))]) (o:=[.lst (F6 (s.step Z.M).left),.di (bkK s.back) (bkX s.back)]) (a:=A0 6) (b:=A0 9) (c:=P1 isStrT fSwap (A0 5)) (i:=1) (v:=Z.dst s.way) (bk:=s.back) (w:=u5 s.way) rfl rfl (A2V rfl rfl rfl (A0S hw10)) rfl (j2 I)
 refine⟨some (.t (.lst (s.free.map chT))),?_⟩
 refine B0 (C3 (B0l (L:=s.left s.here) (first:=s.first) hL hl1 hf rfl (G7 rfl rfl rfl rfl rfl hg) (fun _=>G7 rfl rfl rfl rfl rfl hlk))) ?_
 refine B0 (A7B (L:=s.left s.here) hL hl1 ((s.left s.here).filter fun w=>some w != s.first) (Nat.lt_of_le_of_lt (List.length_filter_le _ _) hl1) rfl (G7 rfl rfl rfl rfl rfl hg)) ?_
 refine B0 (H8 (b:=false) (I2 (x:=.bool false) (C5 (x:=.str (sgn s.way)) (y:=.lst (s.free.map chT)) rfl rfl rfl rfl hni) rfl rfl) rfl) ?_
 refine B0 (B0n (C5 rfl (C5 rfl (B51 (x:=.lst (s.free.map chT)) (y:=.str (sgn s.way)) rfl rfl rfl rfl rfl rfl hfi) rfl rfl hm1) rfl rfl ha1)) ?_
 refine B0 (B0n (C5 rfl (U4 (x:=.lst (s.free.map chT)) rfl rfl hll) rfl rfl hm2)) ?_
 refine B0 (hcut _ rfl rfl rfl rfl) ?_
 refine B0 (C3 (A4u rfl rfl rfl hw10)) ?_
 exact A0v hsd rfl
section
noncomputable def WS.trace(M:Maze)(n:Nat):WS→List Nat:=Nat.rec (motive:=fun _=>WS→List Nat) (fun _=>[]) (fun _ go s=>s.way::go (s.step M)) n
theorem A9I(M:Maze)(n:Nat):∀ (s:WS),(s.run M n).walk=s.walk++WS.trace M n s:=by
 induction n with
 | zero=>exact fun s=>(List.append_nil _).symm
 | succ n ih=>
  refine fun s=>(ih (s.step M)).trans ?_
  show s.walk++[s.way]++_=s.walk++s.way::_
  rw[List.append_assoc];rfl
section
variable{Z:Mz}{K:Ky}{start:Nat}
noncomputable def V4:List Nat:=[0,1,2,3]
theorem V4_mem{v:Nat}:v∈V4↔v<4:=by unfold V4;rw[show ([0,1,2,3]:List Nat)=List.range 4 from rfl,List.mem_range]
theorem A7Z:V4.Nodup:=by decide
theorem B2G(hs:start<4)(hl:line.Perm W10)(C:Z.M.Conn start)(n:Nat):∀ (s:WS) (tree:List (Nat×Nat)) (acc weight:Nat) (w5 w10:Option V),WInv Z.M line start s tree→s.walk.length+n=10→Num start n0 total V4 s acc weight→
  ∃ w5' w10' acc' weight',M9 (tN 5) lbB ((WS.trace Z.M n s).map chT) (A8F Z K W start w5 acc weight s.here w10 s.left s.back)=some (.next,A8F Z K W start w5' acc' weight' (s.run Z.M n).here w10' (s.run Z.M n).left (s.run Z.M n).back)∧Num start n0 total V4 (s.run Z.M n) acc' weight':=by
 induction n with
 | zero=>exact fun s tree acc weight w5 w10 I hw N=>⟨w5,w10,acc,weight,rfl,N⟩
 | succ n ih=>
  intro s tree acc weight w5 w10 I hw N
  have hne:=I.left_ne hl C (show s.walk.length<10 from hw▸Nat.lt_add_of_pos_right (Nat.succ_pos n))
  obtain⟨w10',e⟩:=B2F (K:=K) (W:=W) (acc:=acc) (weight:=weight) (w10:=w10) I hs hl hne
  obtain⟨w5',w10'',acc',weight',h1,h2⟩:=ih (s.step Z.M) _ (acc+weight * (s.num % s.free.length)) (weight * s.free.length) (some (.t (chT s.way))) w10' (I.step hl hne) (by rw[A4C,Nat.succ_add];exact hw) (N.step I hl hne A7Z (V4_mem.mpr (Y9 I hs)))
  exact⟨w5',w10'',acc',weight',I6 rfl e h1,h2⟩
theorem B3o{i:Nat}{ks:List Int}{xs:List T}(h:σ.objs[i]?=some (.di ks xs)):toT σ (.ref i)=some (.di ks xs,⟨σ.loc,σ.objs.set i .gone⟩):=B4 h rfl
theorem B42(hs:start<4)(C:Z.M.Conn start)(ht:(K9 Z (K4 Z K) start num).rest start V4=total)(hn:num<total){s:WS}(E:B3c Z (K4 Z K) start (K9 Z (K4 Z K) start num) s od):
  sp_law_back [.t (.lst (s.walk.map chT)),.t Z.endsT,.t K.T,.t (.int start)] [] []=some (.tup [.int num,.int total,.int start,.di (bkK s.back) (bkX s.back)],[])∧s.num=0:=by
 have hl:=(A1C Z K).1
 obtain⟨tree,I⟩:=E.inv
 have hsurf:s=(K9 Z (K4 Z K) start num).run Z.M 10:=E.run
 obtain⟨w5,h1⟩:=B2J (Z:=Z) (K:=K) (W:=s.walk) (start:=start) (K4 Z K) [] none (fun x hx=>W10_lt.mp (hl.mem_iff.mp hx)) (by rw[hl.length_eq];decide)
 rw[List.nil_append] at h1
 obtain⟨w5',w10',acc',weight',h2,N⟩:=B2G (K:=K) (W:=s.walk) hs hl C (n0:=num) (total:=total) 10 (K9 Z (K4 Z K) start num) [] 0 1 w5 none WInv.zero rfl ⟨by show 0+1 * num=num;rw[Nat.one_mul,Nat.zero_add],by rw[ht,Nat.one_mul]⟩
 rw[← hsurf] at h2 N
 have hw:s.walk=WS.trace Z.M 10 (K9 Z (K4 Z K) start num):=by
  have:=A9I Z.M 10 (K9 Z (K4 Z K) start num)
  rw[← hsurf] at this
  exact this
 rw[← hw] at h2
 obtain⟨e1,e2,e3⟩:=N.end_ (fun v _=>I.left_end hl E.len v) hn
 have eh:s.here=start:=I.home E.len
 rw[e1,e3,eh] at h2
 refine⟨?_,e2⟩
 have hu:sp_law_back=C7 (mkP 4 7) d_law_back:=rfl
 rw[hu]
 unfold d_law_back
 rw[W8]
 refine S7 (fl:=.ret (.t (.tup [.int num,.int total,.int start,.di (bkK s.back) (bkX s.back)]))) (σ1:=⟨(A8F Z K s.walk start w5' num total start w10' s.left s.back).loc,[.lst (F6 s.left),.gone]⟩) rfl ?_ rfl rfl
 refine B0 (C3 (A4s (A4 rfl (A4 rfl (A4 rfl (A4 rfl B8)))) (show 4<1000 from by decide) rfl)) (B0 (O4 (B2I rfl rfl rfl rfl) rfl rfl (h1:M9 (tN 5) laB _ (A8H Z K s.walk start none [.lst (F6 fun v=>[].filter (Z.src ·==v))])=_) rfl) ?_)
 refine B0 (C3 (B4 rfl (B4 (x:=(start:Int)) rfl (B4 rfl (B4 rfl rfl))))) (B0 (B4f (A4 rfl (A4 rfl (A4 rfl B8))) (show 3=3∧3<1000 from by decide)) (B0 (O4 rfl rfl rfl (h2:M9 (tN 5) lbB _ (A8F Z K s.walk start w5 0 1 start none (fun v=>(K4 Z K).filter (Z.src ·==v)) [(start,none)])=_) rfl) (K0 (I8 (A4 rfl (A4 rfl (A4 rfl (A4 rfl B8)))) (show 4<1000 from by decide) (W9 (W9 (W9 (A8X (B3o (ks:=bkK s.back) (xs:=bkX s.back) rfl)))))))))
end
end
theorem I1(x:Int)(hm:0<m):(((x.fmod m).toNat:Nat):Int)=x.fmod m∧(x.fmod m).toNat<m:=
 have h1:0≤x.fmod m:=Int.fmod_nonneg_of_pos x (Int.natCast_pos.mpr hm)
 ⟨Int.toNat_of_nonneg h1,(Int.toNat_lt h1).mpr (Int.fmod_lt_of_pos x (Int.natCast_pos.mpr hm))⟩
noncomputable def O2(c:Nat→Int)(k:Nat):Nat:=if k<3 then k+1 else ((c k).fmod (4:Nat)).toNat
noncomputable def j0(c:Nat→Int)(k:Nat):Nat:=if k<3 then ((c k).fmod ((k+1:Nat):Int)).toNat else (((c k).fdiv 4).fmod (4:Nat)).toNat
noncomputable def p9(c:Nat→Int):Mz where
 src:=fun w=>if w % 2=0 then O2 c (w / 2) else j0 c (w / 2)
 ri:=fun w=>if w % 2=0 then (c (w / 2)).fdiv 16 else -((c (w / 2)).fdiv 16)
 lt4:=fun w=>by
  have h1:O2 c (w / 2)<4:=by
   unfold O2;split
   ·exact Nat.succ_lt_succ (by assumption)
   ·exact(I1 _ (by decide)).2
  have h2:j0 c (w / 2)<4:=by
   unfold j0;split
   ·exact Nat.lt_trans (I1 (c (w / 2)) (m:=w / 2+1) (Nat.succ_pos _)).2 (Nat.succ_lt_succ (by assumption))
   ·exact(I1 _ (by decide)).2
  show (if _ then _ else _)<4
  split <;> assumption
 odd:=fun w h=>by
  obtain⟨k,rfl | rfl⟩:=B0X w
  ·rw[A11] at h;cases h
  ·show (if (2 * k+1) % 2=0 then _ else _) = -(if (2 * k+1 - 1) % 2=0 then _ else _:Int)
   rw[Nat.add_sub_cancel,if_neg (by rw[A3X];decide),if_pos (A11 k),A3Y,A3r]
theorem Y0(c:Nat→Int)(k:Nat):(p9 c).src (2 * k)=O2 c k∧(p9 c).src (2 * k+1)=j0 c k:=by
 refine⟨?_,?_⟩
 ·show (if _ then _ else _)=_
  rw[if_pos (A11 k),A3r]
 ·show (if _ then _ else _)=_
  rw[if_neg (by rw[A3X];decide),A3Y]
theorem B3G(c:Nat→Int)(k:Nat):(p9 c).ri (2 * k)=(c k).fdiv 16∧(p9 c).ri (2 * k+1) = -((c k).fdiv 16):=by
 refine⟨?_,?_⟩
 ·show (if _ then _ else _)=_
  rw[if_pos (A11 k),A3r]
 ·show (if _ then _ else _)=_
  rw[if_neg (by rw[A3X];decide),A3Y]
noncomputable def Z7(c:Nat→Int):T:=.lst ((List.range 8).map fun k=>.int (c k))
theorem B05(c:Nat→Int)(h:k<8):fItem (Z7 c) (.int k)=some (.int (c k)):=I0 (by rw[List.getElem?_map,List.getElem?_range h];rfl) (Nat.lt_trans h (by decide))
theorem A0W{a:D}{c:Nat→Int}(h1:a σ=some (.t (Z7 c),σ))(h2:b σ=some (.t (.int k),σ))(h:k<8):A7 a b σ=some (.t (.int (c k)),σ):=G7 h1 h2 rfl rfl rfl (B05 c h)
theorem A8C:∀ k,k<5→(Str.ofString "abcde").cps[k]?=some (code (2 * k)):=by decide +kernel
theorem A8D:∀ k,k<5→(Str.ofString "ABCDE").cps[k]?=some (code (2 * k+1)):=by decide +kernel
theorem A22{s:Str}{c:Nat}(h:s.cps[k]?=some c)(hk:k<1000):fItem (.str s) (.int k)=some (.str ⟨#[c]⟩):=by
 refine fItem_s.trans ((A7Q hk).trans ?_)
 rw[h];rfl
noncomputable def dsW(Z:Mz)(L:List Nat):AO:=.ds (L.map sgn) (L.map Z.endT)
theorem A6j{Z:Mz}{a c:D}{w i:Nat}{v:V}(h1:a σ=some (v,σ1))(h2:b σ1=some (.ref i,σ1))(h3:c σ1=some (.t (.str (sgn w)),σ1))(ht:toT σ1 v=some (Z.endT w,σ1))(ho:σ1.objs[i]?=some (dsW Z L))(hL:∀ u∈L,u<10)(hw:w<10)(hn:w∉L)(hl:L.length<100):O9 a b c σ=some (.next,⟨σ1.loc,σ1.objs.set i (dsW Z (L++[w]))⟩):=by
 have hm:sgn w∉L.map sgn:=fun h=>by
  obtain⟨u,hu,e⟩:=List.mem_map.mp h
  exact hn (t8 (hL u hu) hw e▸hu)
 have hs:O7 (dsW Z L) (.str (sgn w)) (Z.endT w)=some (dsW Z (L++[w])):=by
  have e:O7 (dsW Z L) (.str (sgn w)) (Z.endT w)=some (.ds (stK (L.map sgn) (sgn w)) (stX (L.map sgn) (L.map Z.endT) (sgn w) (Z.endT w))):=if_pos (by rw[List.length_map];exact Nat.lt_trans hl (by decide))
  rw[e,stK,stX,if_neg hm,if_neg hm,dsW,List.map_append,List.map_append];rfl
 exact B4 h1 (B4 h2 (B4 h3 (B4 ht (B4 (x:=i) rfl (B4 (x:=.str (sgn w)) rfl (B4 ho (B4 hs rfl)))))))
noncomputable abbrev enB:DS:=(A9 (Z3 [4,3] (A2 (d2 fMod (A7 (A0 0) (A0 2)) (dT (.int 4))) (A2 (d2 fMod (d2 fDiv (A7 (A0 0) (A0 2)) (dT (.int 4))) (dT (.int 4))) dNil))) (A9 (H5 (C1 (d2 fLt (A0 2) (dT (.int 3)))) (Z3 [4,3] (A2 (d2 fAdd (A0 2) (dT (.int 1))) (A2 (d2 fMod (A7 (A0 0) (A0 2)) (d2 fAdd (A0 2) (dT (.int 1)))) dNil))) dSkip) (A9 (O9 (E5 (A2 (A0 3) (A2 (A0 4) (A2 (d2 fDiv (A7 (A0 0) (A0 2)) (dT (.int 16))) dNil)))) (A0 1) (A7 (dT (.str (Str.ofString "abcde"))) (A0 2))) (O9 (E5 (A2 (A0 4) (A2 (A0 3) (A2 (d1 fNeg (d2 fDiv (A7 (A0 0) (A0 2)) (dT (.int 16)))) dNil)))) (A0 1) (A7 (dT (.str (Str.ofString "ABCDE"))) (A0 2))))))
noncomputable abbrev o7(c:Nat→Int)(w2 w3 w4:Option V)(L:List Nat):St:=⟨[some (.t (Z7 c)),some (.ref 0),w2,w3,w4],[dsW (p9 c) L]⟩
theorem y5{a b:Int}(h:b≠0)(hs:I9 b=true):fDiv (.int a) (.int b)=some (.int (a.fdiv b)):=by unfold fDiv;exact if_pos ⟨h,hs⟩
theorem A1F{a b:Int}(h:b≠0):fMod (.int a) (.int b)=some (.int (a.fmod b)):=if_pos h
theorem y6(c:Nat→Int)(hk:k<5){w3:Option V}:enB (o7 c (some (.t (.int k))) w3 w4 (List.range (2 * k)))=some (.next,o7 c (some (.t (.int k))) (some (.t (.int (O2 c k)))) (some (.t (.int (j0 c k)))) (List.range (2 * (k+1)))):=by
 have hc:∀ w3 w4 o,A7 (A0 0) (A0 2) ⟨[some (.t (Z7 c)),some (.ref 0),some (.t (.int k)),w3,w4],o⟩=some (.t (.int (c k)),⟨[some (.t (Z7 c)),some (.ref 0),some (.t (.int k)),w3,w4],o⟩):=fun _ _ _=>A0W rfl rfl (Nat.lt_trans hk (by decide))
 have h4:=I1 (c k) (m:=4) (by decide)
 have h44:=I1 ((c k).fdiv 4) (m:=4) (by decide)
 have hk1:=I1 (c k) (m:=k+1) (Nat.succ_pos k)
 have s1:Z3 [4,3] (A2 (d2 fMod (A7 (A0 0) (A0 2)) (dT (.int 4))) (A2 (d2 fMod (d2 fDiv (A7 (A0 0) (A0 2)) (dT (.int 4))) (dT (.int 4))) dNil)) (o7 c (some (.t (.int k))) w3 w4 (List.range (2 * k)))=some (.next,o7 c (some (.t (.int k))) (some (.t (.int ((c k).fmod 4)))) (some (.t (.int (((c k).fdiv 4).fmod 4)))) (List.range (2 * k))):=by
  refine(A3u (is:=[4,3]) (vs:=[.t (.int ((c k).fmod 4)),.t (.int (((c k).fdiv 4).fmod 4))]) (σ1:=o7 c (some (.t (.int k))) w3 w4 (List.range (2 * k))) ?_ (show 2=2∧2<1000 from by decide)).trans rfl
  exact A4 (C5 (hc _ _ _) rfl rfl rfl (A1F (by decide))) (A4 (C5 (C5 (hc _ _ _) rfl rfl rfl (y5 (by decide) rfl)) rfl rfl rfl (A1F (by decide))) B8)
 have s2:H5 (C1 (d2 fLt (A0 2) (dT (.int 3)))) (Z3 [4,3] (A2 (d2 fAdd (A0 2) (dT (.int 1))) (A2 (d2 fMod (A7 (A0 0) (A0 2)) (d2 fAdd (A0 2) (dT (.int 1)))) dNil))) dSkip (o7 c (some (.t (.int k))) (some (.t (.int ((c k).fmod 4)))) (some (.t (.int (((c k).fdiv 4).fmod 4)))) (List.range (2 * k)))=some (.next,o7 c (some (.t (.int k))) (some (.t (.int (O2 c k)))) (some (.t (.int (j0 c k)))) (List.range (2 * k))):=by
  refine H8 (σ1:=o7 c (some (.t (.int k))) (some (.t (.int ((c k).fmod 4)))) (some (.t (.int (((c k).fdiv 4).fmod 4)))) (List.range (2 * k))) (b:=decide ((k:Int)<3)) rfl ?_
  unfold O2 j0
  by_cases q:k<3
  ·rw[show decide ((k:Int)<3)=true from decide_eq_true (Int.ofNat_lt.mpr q),if_pos rfl,if_pos q,if_pos q,hk1.1,Int.natCast_add]
   refine(A3u (is:=[4,3]) (vs:=[.t (.int ((k:Int)+1)),.t (.int ((c k).fmod ((k:Int)+1)))]) (σ1:=o7 c (some (.t (.int k))) (some (.t (.int ((c k).fmod 4)))) (some (.t (.int (((c k).fdiv 4).fmod 4)))) (List.range (2 * k))) ?_ (show 2=2∧2<1000 from by decide)).trans rfl
   exact A4 rfl (A4 (C5 (hc _ _ _) rfl rfl rfl (A1F fun e=>Nat.succ_ne_zero k (Int.ofNat.inj e))) B8)
  ·rw[show decide ((k:Int)<3)=false from decide_eq_false (fun h=>q (Int.ofNat_lt.mp h)),if_neg Bool.noConfusion,if_neg q,if_neg q,h4.1,h44.1];rfl
 have hd:fDiv (.int (c k)) (.int 16)=some (.int ((c k).fdiv 16)):=y5 (by decide) rfl
 have e0:(p9 c).endT (2 * k)=.tup [.int (O2 c k),.int (j0 c k),.int ((c k).fdiv 16)]:=by
  unfold Mz.endT
  rw[A6g,(Y0 c k).1,(Y0 c k).2,(B3G c k).1]
 have e1:(p9 c).endT (2 * k+1)=.tup [.int (j0 c k),.int (O2 c k),.int (-((c k).fdiv 16))]:=by
  unfold Mz.endT
  rw[A6f,(Y0 c k).1,(Y0 c k).2,(B3G c k).2]
 have k1:2 * k+1<10:=Nat.lt_of_le_of_lt (Nat.succ_le_succ (Nat.mul_le_mul_left 2 (Nat.le_of_lt_succ hk))) (by decide)
 have k0:2 * k<10:=Nat.lt_of_succ_lt k1
 have hk1000:k<1000:=Nat.lt_trans hk (by decide)
 refine B0 s1 (B0 s2 (B0 (A6j (Z:=p9 c) (w:=2 * k) (L:=List.range (2 * k)) (I8 (A4 rfl (A4 rfl (A4 (C5 (hc _ _ _) rfl rfl rfl hd) B8))) (show 3<1000 from by decide) rfl) rfl (G7 rfl rfl rfl rfl rfl (A22 (A8C k hk) hk1000)) (by rw[e0];rfl) rfl (fun u hu=>Nat.lt_trans (List.mem_range.mp hu) k0) k0 (fun h=>Nat.lt_irrefl _ (List.mem_range.mp h)) (by rw[List.length_range];exact Nat.lt_trans k0 (by decide))) ?_))
 have ht:E5 (A2 (A0 4) (A2 (A0 3) (A2 (d1 fNeg (d2 fDiv (A7 (A0 0) (A0 2)) (dT (.int 16)))) dNil))) (o7 c (some (.t (.int k))) (some (.t (.int (O2 c k)))) (some (.t (.int (j0 c k)))) (List.range (2 * k)++[2 * k]))=some (.t ((p9 c).endT (2 * k+1)),o7 c (some (.t (.int k))) (some (.t (.int (O2 c k)))) (some (.t (.int (j0 c k)))) (List.range (2 * k)++[2 * k])):=by
  rw[e1]
  exact I8 (A4 rfl (A4 rfl (A4 (U4 (z:=.int (-((c k).fdiv 16))) (C5 (hc _ _ _) rfl rfl rfl hd) rfl rfl) B8))) (show 3<1000 from by decide) rfl
 have p:=A6j (Z:=p9 c) (w:=2 * k+1) (L:=List.range (2 * k)++[2 * k]) (b:=A0 1) (c:=A7 (dT (.str (Str.ofString "ABCDE"))) (A0 2)) (i:=0) ht rfl (G7 rfl rfl rfl rfl rfl (A22 (A8D k hk) hk1000)) rfl rfl (fun u hu=>Nat.lt_trans (List.mem_range.mp (List.range_succ▸hu)) k1) k1 (fun h=>Nat.lt_irrefl _ (List.mem_range.mp (List.range_succ▸h))) (by rw[List.length_append,List.length_range];exact Nat.lt_trans k1 (by decide))
 refine p.trans ?_
 rw[Nat.mul_succ,show 2 * k+2=2 * k+1+1 from rfl,List.range_succ,List.range_succ];rfl
theorem B1Z{Z:Mz}{i:Nat}(h:σ.objs[i]?=some (dsW Z L)):toT σ (.ref i)=some (.ds (L.map sgn) (L.map Z.endT),⟨σ.loc,σ.objs.set i .gone⟩):=B4 h rfl
theorem B4z(c:Nat→Int):sp_law_ends [.t (Z7 c)] [] []=some ((p9 c).endsT,[]):=by
 have h:M9 (tN 2) enB [.int 0,.int 1,.int 2,.int 3,.int 4] (o7 c none none none [])=some (.next,o7 c (some (.t (.int 4))) (some (.t (.int (O2 c 4)))) (some (.t (.int (j0 c 4)))) W10):=
  I6 rfl (y6 c (k:=0) (by decide)) (I6 rfl (y6 c (k:=1) (by decide)) (I6 rfl (y6 c (k:=2) (by decide)) (I6 rfl (y6 c (k:=3) (by decide)) (I6 rfl (y6 c (k:=4) (by decide)) rfl))))
 have hd:o8 ⟨[some (.t (Z7 c)),none,none,none,none],[]⟩=some (.ret (.ref 0),o7 c (some (.t (.int 4))) (some (.t (.int (O2 c 4)))) (some (.t (.int (j0 c 4)))) W10):=by
  unfold o8
  refine B0 (C3 rfl) ?_
  exact B0 (O4 rfl rfl rfl h rfl) (K0 rfl)
 exact S7 (z:=.ds (W10.map sgn) (W10.map (p9 c).endT)) (fl:=.ret (.ref 0)) rfl hd (B1Z (σ:=o7 c (some (.t (.int 4))) (some (.t (.int (O2 c 4)))) (some (.t (.int (j0 c 4)))) W10) (Z:=p9 c) (L:=W10) (i:=0) rfl) rfl
theorem A0R(c:Nat→Int)(h:k<3):j0 c k<k+1:=by unfold j0;rw[if_pos h];exact(I1 (c k) (m:=k+1) (Nat.succ_pos k)).2
theorem j8(c:Nat→Int)(h:k<3):O2 c k=k+1:=by unfold O2;rw[if_pos h]
theorem B15(c:Nat→Int){start:Nat}(hs:start<4):(p9 c).M.Conn start:=by
 intro S h0 hstep w hw
 have A5D:∀ k,k<5→(S (O2 c k)↔S (j0 c k)):=fun k hk=>by
  have k1:2 * k+1<10:=Nat.lt_of_le_of_lt (Nat.succ_le_succ (Nat.mul_le_mul_left 2 (Nat.le_of_lt_succ hk))) (by decide)
  have h1:=hstep (2 * k) (W10_lt.mpr (Nat.lt_of_succ_lt k1))
  have h2:=hstep (2 * k+1) (W10_lt.mpr k1)
  have e:=Y0 c k
  change S ((p9 c).src (2 * k))→S ((p9 c).src (u5 (2 * k))) at h1
  change S ((p9 c).src (2 * k+1))→S ((p9 c).src (u5 (2 * k+1))) at h2
  rw[A6g,e.1,e.2] at h1
  rw[A6f,e.1,e.2] at h2
  exact⟨h1,h2⟩
 have h1:S 1↔S 0:=by
  have b:=A5D 0 (by decide)
  rwa [j8 c (by decide),Nat.lt_one_iff.mp (A0R c (k:=0) (by decide))] at b
 have h2:S 2↔S 0:=by
  have b:=A5D 1 (by decide)
  rw[j8 c (by decide)] at b
  exact b.trans (A1z (P:=fun v=>v<2→(S v↔S 0)) (fun _=>.rfl) (fun _=>h1) (fun h=>absurd h (by decide)) (fun h=>absurd h (by decide)) _ (Nat.lt_trans (A0R c (by decide)) (by decide)) (A0R c (by decide)))
 have h3:S 3↔S 0:=by
  have b:=A5D 2 (by decide)
  rw[j8 c (by decide)] at b
  exact b.trans (A1z (P:=fun v=>v<3→(S v↔S 0)) (fun _=>.rfl) (fun _=>h1) (fun _=>h2) (fun h=>absurd h (by decide)) _ (Nat.lt_trans (A0R c (by decide)) (by decide)) (A0R c (by decide)))
 have hz:S 0:=A1z (P:=fun v=>S v→S 0) id h1.mp h2.mp h3.mp start hs h0
 exact A1z (P:=S) hz (h1.mpr hz) (h2.mpr hz) (h3.mpr hz) _ ((p9 c).lt4 w)
theorem B4K(c:Nat→Int):∀ v,v<4→∃ w,w<10∧(p9 c).src w=v:=
 A1z ⟨1,by decide,(Y0 c 0).2.trans (Nat.lt_one_iff.mp (A0R c (k:=0) (by decide)))⟩ ⟨0,by decide,(Y0 c 0).1.trans (j8 c (by decide))⟩ ⟨2,by decide,(Y0 c 1).1.trans (j8 c (by decide))⟩ ⟨4,by decide,(Y0 c 2).1.trans (j8 c (by decide))⟩
noncomputable def fac(n:Nat):Nat:=Nat.rec 1 (fun n r=>r * (n+1)) n
theorem A4o{n:Nat}:fac (n+1)=fac n * (n+1):=rfl
theorem B1q(home:Bool)(m:Nat):F2 home m=fac (m+(if home then 1 else 0) - 1):=by
 cases home with
 | true=>
  show F2 true m=fac m
  induction m with
  | zero=>rfl
  | succ m ih=>rw[Y5,if_pos rfl,ih,A4o,Nat.mul_comm]
 | false=>
  show F2 false m=fac (m - 1)
  induction m with
  | zero=>rfl
  | succ m ih=>
   rw[Y5,if_neg Bool.noConfusion,ih]
   cases m with
   | zero=>rfl
   | succ m=>rw[if_neg (Nat.succ_ne_zero m)];show (m+1) * fac m=fac m * (m+1);rw[Nat.mul_comm]
theorem A3P(home:Bool)(m:Nat):m≤10→F2 home m≤10 ^ m:=by
 induction m with
 | zero=>exact fun _=>Nat.le_refl _
 | succ m ih=>
  intro h
  have h':=Nat.le_of_succ_le h
  have ih:=ih h'
  rw[Y5,Nat.pow_succ]
  split
  ·rw[Nat.mul_comm];exact Nat.mul_le_mul ih h
  ·split
   ·exact Nat.mul_pos (Nat.pow_pos (by decide)) (by decide)
   ·rw[Nat.mul_comm];exact Nat.mul_le_mul ih h'
theorem B2q{f:Nat→Nat}(h:∀ w∈L,f w<4):(L.filter (f ·==0)).length+(L.filter (f ·==1)).length+(L.filter (f ·==2)).length+(L.filter (f ·==3)).length=L.length:=by
 induction L with
 | nil=>rfl
 | cons w L ih=>
  have ih:=ih fun x hx=>h x (.tail _ hx)
  have key:∀ v,((w::L).filter (f ·==v)).length=(L.filter (f ·==v)).length+if f w=v then 1 else 0:=fun v=>by
   rw[List.filter_cons]
   by_cases q:f w=v
   ·rw[if_pos q,if_pos (beq_iff_eq.mpr q)];rfl
   ·rw[if_neg q,if_neg (fun e=>q (beq_iff_eq.mp e))];rfl
  have h1:(if f w=0 then 1 else 0)+(if f w=1 then 1 else 0)+(if f w=2 then 1 else 0)+(if f w=3 then 1 else 0)=1:=A1z (P:=fun x=>(if x=0 then 1 else 0)+(if x=1 then 1 else 0)+(if x=2 then 1 else 0)+(if x=3 then 1 else 0)=1) rfl rfl rfl rfl _ (h w (.head _))
  rw[key,key,key,key,List.length_cons,Nat.add_add_add_comm (L.filter (f ·==0)).length,Nat.add_add_add_comm (_+_) (_+_) (L.filter (f ·==2)).length,Nat.add_add_add_comm _ _ (L.filter (f ·==3)).length,ih,h1]
theorem B1o{Z:Mz}(hl:line.Perm W10)(start num:Nat):0<(K9 Z line start num).rest start V4∧(K9 Z line start num).rest start V4<2 ^ 40:=by
 have hs:=B2q (f:=Z.src) (L:=line) fun w _=>Z.lt4 w
 rw[hl.length_eq,show W10.length=10 from rfl] at hs
 have e:(K9 Z line start num).rest start V4=F2 (0==start) (line.filter (Z.src ·==0)).length * (F2 (1==start) (line.filter (Z.src ·==1)).length * (F2 (2==start) (line.filter (Z.src ·==2)).length * (F2 (3==start) (line.filter (Z.src ·==3)).length * 1))):=rfl
 rw[e]
 generalize (line.filter (Z.src ·==0)).length=a at hs
 generalize (line.filter (Z.src ·==1)).length=b at hs
 generalize (line.filter (Z.src ·==2)).length=c at hs
 generalize (line.filter (Z.src ·==3)).length=d at hs
 have ha:a≤10:=hs▸Nat.le_trans (Nat.le_add_right _ b) (Nat.le_trans (Nat.le_add_right _ c) (Nat.le_add_right _ d))
 have hb:b≤10:=hs▸Nat.le_trans (Nat.le_add_left _ a) (Nat.le_trans (Nat.le_add_right _ c) (Nat.le_add_right _ d))
 have hc:c≤10:=hs▸Nat.le_trans (Nat.le_add_left _ _) (Nat.le_add_right _ d)
 have hd:d≤10:=hs▸Nat.le_add_left _ _
 refine⟨Nat.mul_pos (j6 _ _) (Nat.mul_pos (j6 _ _) (Nat.mul_pos (j6 _ _) (Nat.mul_pos (j6 _ _) Nat.one_pos))),?_⟩
 refine Nat.lt_of_le_of_lt (Nat.mul_le_mul (A3P _ a ha) (Nat.mul_le_mul (A3P _ b hb) (Nat.mul_le_mul (A3P _ c hc) (Nat.mul_le_mul (A3P _ d hd) (Nat.le_refl 1))))) ?_
 rw[Nat.mul_one,← Nat.pow_add,← Nat.pow_add,← Nat.pow_add,show a+(b+(c+d))=10 from (by rw[← hs,Nat.add_assoc,Nat.add_assoc])]
 decide
section
section
variable{Z:Mz}{start:Nat}{a0 a1 a3 a4 a5 a6 a8:Option V}
noncomputable abbrev A03(Z:Mz)(start:Nat)(a0 a1 a3 a4 a5 a6 a8:Option V)(acc:Nat)(w10 w11:Option V):St:=⟨[a0,a1,some (.t Z.endsT),a3,a4,a5,a6,some (.t (.int start)),a8,some (.t (.int acc)),w10,w11,none,none,none,none,none,none,none,none,none],[]⟩
theorem A9y{n:Nat}(hn:n<100):∃ w11',M9 (tN 11) (y9 9 fMul (A0 11)) (A0G 1 n) (A03 Z start a0 a1 a3 a4 a5 a6 a8 acc w10 w11)=some (.next,A03 Z start a0 a1 a3 a4 a5 a6 a8 (acc * fac n) w10 w11'):=by
 obtain⟨σ',h,w11',e⟩:=A4l (t:=tN 11) (b:=y9 9 fMul (A0 11)) (fun done σ=>∃ w11',σ=A03 Z start a0 a1 a3 a4 a5 a6 a8 (acc * fac done.length) w10 w11') (A0G 1 n) (fun done x rest σ e ⟨w11',h⟩=>by
  have hx:x=.int (1+(done.length:Nat)):=by
   have h1:(A0G 1 n)[done.length]?=some x:=by rw[e,List.getElem?_append_right (Nat.le_refl _),Nat.sub_self];rfl
   unfold A0G at h1
   rw[List.getElem?_map] at h1
   obtain⟨i,hi,hx⟩:=Option.map_eq_some_iff.mp h1
   have:i=done.length:=by
    obtain⟨h2,h3⟩:=List.getElem?_eq_some_iff.mp hi
    rw[← h3,List.getElem_range]
   rw[← hx,this]
  have hl:done.length<n:=by
   have:=congrArg List.length e
   rw[A0G,List.length_map,List.length_range,List.length_append,List.length_cons] at this
   exact this▸Nat.lt_add_of_pos_right (Nat.succ_pos _)
  subst h hx
  have hs:I9 (1+(done.length:Int))=true:=i3 (a:=1+done.length) (Nat.lt_of_le_of_lt (Nat.add_comm 1 _▸hl) (Nat.lt_trans hn (by decide)))
  have hm:fMul (.int ((acc * fac done.length:Nat):Int)) (.int (1+(done.length:Int)))=some (.int ((acc * fac (done++[T.int (1+(done.length:Int))]).length:Nat):Int)):=by
   rw[A5z hs,List.length_append,List.length_singleton,A4o,← Nat.mul_assoc,Int.natCast_mul (acc * fac done.length),Int.natCast_add,Int.add_comm 1];rfl
  exact⟨_,_,rfl,B0n (C5 rfl rfl rfl rfl hm),some (.t (.int (1+(done.length:Int)))),rfl⟩) (A0G 1 n) [] (A03 Z start a0 a1 a3 a4 a5 a6 a8 acc w10 w11) rfl ⟨w11,by show _=A03 Z start a0 a1 a3 a4 a5 a6 a8 (acc * 1) w10 w11;rw[Nat.mul_one]⟩
 subst e
 refine⟨w11',?_⟩
 rwa [A0G,List.length_map,List.length_range] at h
noncomputable abbrev loB:DS:=(U6 itN (d2 fRange2 (dT (.int 1)) (d2 fAdd (d1 fLen (E3 1 itN (A0 2) (C1 (d2 fEq (A7 (A7 (A0 2) (A0 21)) (dT (.int 0))) (A0 10))) (A0 21))) (dIf (C1 (d2 fEq (A0 10) (A0 7))) (dT (.int 1)) (dT (.int 0))))) (tN 11) (y9 9 fMul (A0 11)))
noncomputable def S5(Z:Mz)(p:Nat):Nat:=(W10.filter (Z.src ·==p)).length
theorem B4o(Z:Mz)(p:Nat):S5 Z p≤10:=List.length_filter_le _ _
theorem y1{p:Nat}:∃ w11',loB (A03 Z start a0 a1 a3 a4 a5 a6 a8 acc (some (.t (.int p))) w11)=some (.next,A03 Z start a0 a1 a3 a4 a5 a6 a8 (acc * F2 (p==start) (S5 Z p)) (some (.t (.int p))) w11'):=by
 have hd:=B4o Z p
 have hd1:(if (p==start)=true then 1 else 0)≤1:=by split <;> decide
 have hdd:=Nat.add_le_add hd hd1
 obtain⟨w11',h⟩:=A9y (Z:=Z) (start:=start) (a0:=a0) (a1:=a1) (a3:=a3) (a4:=a4) (a5:=a5) (a6:=a6) (a8:=a8) (n:=S5 Z p+(if (p==start)=true then 1 else 0) - 1) (acc:=acc) (w10:=some (.t (.int p))) (w11:=w11) (Nat.lt_of_le_of_lt (Nat.sub_le _ _) (Nat.lt_of_le_of_lt hdd (by decide)))
 rw[← B1q] at h
 have hc:=O8 (σ:=A03 Z start a0 a1 a3 a4 a5 a6 a8 acc (some (.t (.int p))) w11) (itf:=itN) (p:=C1 (d2 fEq (A7 (A7 (A0 2) (A0 21)) (dT (.int 0))) (A0 10))) (d:=A0 21) (a:=A0 2) (xs:=W10) (h:=fun w=>.str (sgn w)) (f:=fun w=>Z.src w==p) (g:=fun w=>.str (sgn w)) rfl (congrArg some A33) (by decide) fun w hw=>⟨by
  rw[← X2]
  exact I2 (C5 (A24 rfl rfl rfl (W10_lt.mp hw)) rfl rfl rfl rfl) rfl rfl,fun _=>rfl⟩
 have hb:dIf (C1 (d2 fEq (A0 10) (A0 7))) (dT (.int 1)) (dT (.int 0)) (A03 Z start a0 a1 a3 a4 a5 a6 a8 acc (some (.t (.int p))) w11)=some (.t (.int ((if (p==start)=true then 1 else 0:Nat):Int)),A03 Z start a0 a1 a3 a4 a5 a6 a8 acc (some (.t (.int p))) w11):=by
  refine A4t (b:=(p:Int)==(start:Int)) rfl ?_
  rw[X2]
  cases p==start <;> rfl
 have hr:itN (.rng 1 ((S5 Z p:Int)+((if (p==start)=true then 1 else 0:Nat):Int)))=some (A0G 1 (S5 Z p+(if (p==start)=true then 1 else 0) - 1)):=by
  have e:((S5 Z p:Int)+((if (p==start)=true then 1 else 0:Nat):Int) - 1).toNat=S5 Z p+(if (p==start)=true then 1 else 0) - 1:=Int.toNat_sub _ 1
  rw[← e]
  exact if_pos ⟨by decide,Nat.lt_of_le_of_lt hdd (by decide)⟩
 exact⟨w11',O4 (C5 rfl (C5 (U4 hc rfl ((if_pos (by rw[List.length_map];exact Nat.lt_of_le_of_lt hd (by decide))).trans (by rw[List.length_map]))) hb rfl rfl (show _=some (T.int ((S5 Z p:Int)+((if (p==start)=true then 1 else 0:Nat):Int))) from rfl)) rfl rfl rfl) rfl hr h rfl⟩
theorem B2A:∃ w11',M9 (tN 10) loB [.int 0,.int 1,.int 2,.int 3] (A03 Z start a0 a1 a3 a4 a5 a6 a8 1 w10 w11)=some (.next,A03 Z start a0 a1 a3 a4 a5 a6 a8 (1 * F2 (0==start) (S5 Z 0) * F2 (1==start) (S5 Z 1) * F2 (2==start) (S5 Z 2) * F2 (3==start) (S5 Z 3)) (some (.t (.int 3))) w11'):=by
 obtain⟨b0,h0⟩:=y1 (Z:=Z) (start:=start) (a0:=a0) (a1:=a1) (a3:=a3) (a4:=a4) (a5:=a5) (a6:=a6) (a8:=a8) (acc:=1) (p:=0) (w11:=w11)
 obtain⟨b1,h1⟩:=y1 (Z:=Z) (start:=start) (a0:=a0) (a1:=a1) (a3:=a3) (a4:=a4) (a5:=a5) (a6:=a6) (a8:=a8) (acc:=1 * F2 (0==start) (S5 Z 0)) (p:=1) (w11:=b0)
 obtain⟨b2,h2⟩:=y1 (Z:=Z) (start:=start) (a0:=a0) (a1:=a1) (a3:=a3) (a4:=a4) (a5:=a5) (a6:=a6) (a8:=a8) (acc:=1 * F2 (0==start) (S5 Z 0) * F2 (1==start) (S5 Z 1)) (p:=2) (w11:=b1)
 obtain⟨b3,h3⟩:=y1 (Z:=Z) (start:=start) (a0:=a0) (a1:=a1) (a3:=a3) (a4:=a4) (a5:=a5) (a6:=a6) (a8:=a8) (acc:=1 * F2 (0==start) (S5 Z 0) * F2 (1==start) (S5 Z 1) * F2 (2==start) (S5 Z 2)) (p:=3) (w11:=b2)
 exact⟨b3,I6 rfl h0 (I6 rfl h1 (I6 rfl h2 (I6 rfl h3 rfl)))⟩
theorem B3n(hl:line.Perm W10)(num:Nat):1 * F2 (0==start) (S5 Z 0) * F2 (1==start) (S5 Z 1) * F2 (2==start) (S5 Z 2) * F2 (3==start) (S5 Z 3)=(K9 Z line start num).rest start V4:=by
 have e:(K9 Z line start num).rest start V4=F2 (0==start) (line.filter (Z.src ·==0)).length * (F2 (1==start) (line.filter (Z.src ·==1)).length * (F2 (2==start) (line.filter (Z.src ·==2)).length * (F2 (3==start) (line.filter (Z.src ·==3)).length * 1))):=rfl
 have hd:∀ p,(line.filter (Z.src ·==p)).length=S5 Z p:=fun p=>(hl.filter _).length_eq
 rw[e,hd,hd,hd,hd,Nat.one_mul,Nat.mul_one,Nat.mul_assoc,Nat.mul_assoc]
end
end
noncomputable def A1h(l:List Int)(lo hi st:Option Int):List Int:=(sliceRange (sliceBounds lo hi st l.length).1 (sliceBounds lo hi st l.length).2.1 (sliceBounds lo hi st l.length).2.2).filterMap (l[·]?)
theorem A7x(l:List Int)(lo hi st:Option Int):m0 (l.map T.int) lo hi st=(A1h l lo hi st).map T.int:=by
 unfold m0 A1h
 rw[List.length_map,List.map_filterMap]
 refine congrFun (congrArg _ (funext fun i => ?_)) _
 rw[List.getElem?_map]
theorem A5u(l:List Int):N6 (l.map T.int)=some l:=(n9 (fun x=>x) l).trans (congrArg some (List.map_id' l))
noncomputable def B3a(k:Nat):Int:=([21,33,50,76,-27,7,1,17]:List Int).getD k 0
noncomputable def cOf(l:List Int)(k:Nat):Int:=B3a k+(A1h l (some (k:Int)) none (some 8)).sum
theorem A3p{α:Type}{l:List α}{d:α}(h:k<l.length):l[k]?=some (l.getD k d):=by rw[List.getD_eq_getElem?_getD,List.getElem?_eq_getElem h];rfl
theorem B1B(k:Nat)(h:k<8):([.int 21,.int 33,.int 50,.int 76,.int (-27),.int 7,.int 1,.int 17]:List T)[k]?=some (.int (B3a k)):=by
 show (([21,33,50,76,-27,7,1,17]:List Int).map T.int)[k]?=_
 rw[List.getElem?_map,A3p (d:=0) (show k<([21,33,50,76,-27,7,1,17]:List Int).length from h)];rfl
theorem A96{l:List Int}(hl:l.length<1000)(h0:σ.loc.length=21)(h1:σ.loc[0]?=some (some (.t (.lst (l.map T.int))))):E3 1 itS (d1 fRange1 (dT (.int 8))) (G0 true) (d2 fAdd (A7 (L2 (A2 (dT (.int 21)) (A2 (dT (.int 33)) (A2 (dT (.int 50)) (A2 (dT (.int 76)) (A2 (d1 fNeg (dT (.int 27))) (A2 (dT (.int 7)) (A2 (dT (.int 1)) (A2 (dT (.int 17)) dNil))))))))) (A0 21)) (d1 fSum (dSl (A0 0) (A0 21) (dT .none) (dT (.int 8))))) σ=some (.t (Z7 (cOf l)),σ):=by
 have e:=O8 (σ:=σ) (itf:=itS) (a:=d1 fRange1 (dT (.int 8))) (p:=G0 true) (d:=d2 fAdd (A7 (L2 (A2 (dT (.int 21)) (A2 (dT (.int 33)) (A2 (dT (.int 50)) (A2 (dT (.int 76)) (A2 (d1 fNeg (dT (.int 27))) (A2 (dT (.int 7)) (A2 (dT (.int 1)) (A2 (dT (.int 17)) dNil))))))))) (A0 21)) (d1 fSum (dSl (A0 0) (A0 21) (dT .none) (dT (.int 8)))))
  (xs:=List.range 8) (h:=fun k=>.int ((0:Int)+(k:Nat))) (f:=fun _=>true) (g:=fun k=>.int (cOf l k)) (y:=.rng 0 8) rfl rfl (by decide) fun k hk=>⟨rfl,fun _=>by
   have hk:=List.mem_range.mp hk
   rw[Int.zero_add]
   have s21:A0 21 ⟨σ.loc++[some (.t (.int (k:Nat)))],σ.objs⟩=some (.t (.int (k:Nat)),⟨σ.loc++[some (.t (.int (k:Nat)))],σ.objs⟩):=B4 (x:=some (.t (.int (k:Nat)))) (by rw[← h0,List.getElem?_append_right (Nat.le_refl _),Nat.sub_self];rfl) rfl
   have s0:A0 0 ⟨σ.loc++[some (.t (.int (k:Nat)))],σ.objs⟩=some (.t (.lst (l.map T.int)),⟨σ.loc++[some (.t (.int (k:Nat)))],σ.objs⟩):=B4 (by rw[List.getElem?_append_left (h0▸by decide)];exact h1) rfl
   have hs:o6 (.lst (l.map T.int)) (some (k:Int)) none (some 8)=some (.lst ((A1h l (some (k:Int)) none (some 8)).map T.int)):=by
    rw[← A7x]
    exact if_pos ⟨by decide,by rw[List.length_map];exact hl⟩
   refine C5 (G7 (m5 (A4 rfl (A4 rfl (A4 rfl (A4 rfl (A4 rfl (A4 rfl (A4 rfl (A4 rfl B8)))))))) (show 8<1000 from by decide) rfl) s21 rfl rfl rfl (I0 (B1B k hk) (Nat.lt_trans hk (by decide)))) (U4 (B0e s0 s21 rfl rfl rfl rfl rfl rfl rfl rfl rfl rfl hs) rfl (show fSum (.lst _)=some (.int (A1h l (some (k:Int)) none (some 8)).sum) from ?_)) rfl rfl rfl
   show (N6 _).map _=_
   rw[A5u];rfl⟩
 rw[Z0] at e
 exact e
theorem A25{a:D}{x:Int}(hm:0<m)(h1:a σ=some (.t (.int x),σ))(h2:b σ=some (.t (.int (m:Nat)),σ)):d2 fMod a b σ=some (.t (.int ((x.fmod (m:Nat)).toNat:Nat)),σ):=by
 rw[(I1 x hm).1]
 exact C5 h1 h2 rfl rfl (A1F (Int.ne_of_gt (Int.natCast_pos.mpr hm)))
theorem A8p(i:Nat)(h:i<3):([.str (Str.ofString "f"),.str (Str.ofString "<f"),.str (Str.ofString "f>")]:List T)[i]?=some (.str (A5P i)):=A1z (P:=fun i=>i<3→([.str (Str.ofString "f"),.str (Str.ofString "<f"),.str (Str.ofString "f>")]:List T)[i]?=some (.str (A5P i))) (fun _=>rfl) (fun _=>rfl) (fun _=>rfl) (fun h=>absurd h (by decide)) i (Nat.lt_trans h (by decide)) h
theorem B2k:∀ sp:Nat,sp<9→((Str.ofString "f:").length+(Str.ofString (toString (sp:Int))).length<1000∧(Str.ofString "f:" ++ Str.ofString (toString (sp:Int))).length+(Str.ofString "(f)").length<1000)∧
  ((Str.ofString "~:").length+(Str.ofString (toString ((sp:Int)+1))).length<1000∧(Str.ofString "~:" ++ Str.ofString (toString ((sp:Int)+1))).length+(Str.ofString "(<f>)").length<1000):=by decide +kernel
noncomputable def A8I(x:Int):Ky where
 d0:=if ((x.fdiv 4).fmod (2:Nat)).toNat=0 then 1 else -2
 d1:=if ((x.fdiv 8).fmod (2:Nat)).toNat=0 then 1 else -3
 h0:=by split;exact .inl rfl;exact .inr rfl
 h1:=by split;exact .inl rfl;exact .inr rfl
theorem A6U{a b:Int}(i:Nat)(h:i<2):([.int a,.int b]:List T)[i]?=some (.int (if i=0 then a else b)):=A1z (P:=fun i=>i<2→([.int a,.int b]:List T)[i]?=some (.int (if i=0 then a else b))) (fun _=>rfl) (fun _=>rfl) (fun h=>absurd h (by decide)) (fun h=>absurd h (by decide)) i (Nat.lt_trans h (by decide)) h
theorem add_str{a b:Str}(h:a.length+b.length<1000):fAdd (.str a) (.str b)=some (.str (a++b)):=if_pos h
theorem A66{a:Int}(h:I9 a=true):fStr (.int a)=some (.str (Str.ofString (toString a))):=if_pos h
theorem B4M(hs:sp<9)(h3:A0 3 σ=some (.t (.str (A5P wi)),σ))(h4:A0 4 σ=some (.t (.int sp),σ)):
  L2 (A2 (dT (.str (Str.ofString "{<f>}"))) (A2 (A0 3) (A2 (d2 fAdd (d2 fAdd (dT (.str (Str.ofString "f:"))) (d1 fStr (A0 4))) (dT (.str (Str.ofString "(f)")))) (A2 (d2 fAdd (d2 fAdd (dT (.str (Str.ofString "~:"))) (d1 fStr (d2 fAdd (A0 4) (dT (.int 1))))) (dT (.str (Str.ofString "(<f>)")))) dNil)))) σ=some (.t (I5 (nm wi sp)),σ):=by
 obtain⟨⟨l1,l2⟩,l3,l4⟩:=B2k sp hs
 have s1:I9 (sp:Int)=true:=i3 (Nat.lt_trans hs (by decide))
 have s2:I9 ((sp:Int)+1)=true:=i3 (a:=sp+1) (Nat.lt_trans (Nat.succ_lt_succ hs) (by decide))
 exact m5 (A4 rfl (A4 h3 (A4 (C5 (C5 rfl (U4 h4 rfl (A66 s1)) rfl rfl (add_str l1)) rfl rfl rfl (add_str l2)) (A4 (C5 (C5 rfl (U4 (C5 h4 rfl rfl rfl rfl) rfl (A66 s2)) rfl rfl (add_str l3)) rfl rfl rfl (add_str l4)) B8)))) (show 4<1000 from by decide) rfl
theorem A92(hw:wi<3)(hs:sp<9)(ho:σ.objs=[])(h0:σ.loc.length=21)(h3:A0 3 σ=some (.t (.str (A5P wi)),σ))(h4:A0 4 σ=some (.t (.int sp),σ)):
  E3 1 itN (L2 (A2 (E5 (A2 (dT (.str (Str.ofString "~"))) (A2 (dT (.int 0)) (A2 (dT (.str (Str.ofString "<<f>>"))) dNil)))) (A2 (E5 (A2 (dT (.str (Str.ofString "~"))) (A2 (dT (.int 0)) (A2 (A0 3) dNil)))) (A2 (E5 (A2 (dT (.str (Str.ofString "f"))) (A2 (A0 4) (A2 (dT (.str (Str.ofString "f"))) dNil)))) (A2 (E5 (A2 (dT (.str (Str.ofString "~"))) (A2 (d2 fAdd (A0 4) (dT (.int 1))) (A2 (dT (.str (Str.ofString "<f>"))) dNil)))) dNil))))) (G0 true) (F0 sp_func_std_string (A2 (A0 21) dNil)) σ=some (.t (I5 (nm wi sp)),σ):=by
 have l3:(3:Nat)<1000:=by decide
 refine O8 (σ:=σ) (itf:=itN) (xs:=V4) (h:=A6H wi sp) (f:=fun _=>true) (g:=fun v=>.str (nm wi sp v)) (y:=.lst (V4.map (A6H wi sp))) (m5 (A4 (I8 (A4 rfl (A4 rfl (A4 rfl B8))) l3 rfl) (A4 (I8 (A4 rfl (A4 rfl (A4 h3 B8))) l3 rfl) (A4 (I8 (A4 rfl (A4 h4 (A4 rfl B8))) l3 rfl) (A4 (I8 (A4 rfl (A4 (C5 h4 rfl rfl rfl rfl) (A4 rfl B8))) l3 rfl) B8)))) (show 4<1000 from by decide) rfl) rfl (by decide) fun v hv=>⟨rfl,fun _ => ?_⟩
 have s21:A0 21 ⟨σ.loc++[some (.t (A6H wi sp v))],σ.objs⟩=some (.t (A6H wi sp v),⟨σ.loc++[some (.t (A6H wi sp v))],σ.objs⟩):=B4 (x:=some (.t (A6H wi sp v))) (by rw[← h0,List.getElem?_append_right (Nat.le_refl _),Nat.sub_self];rfl) rfl
 refine(J8 (A4 s21 B8) (show sp_func_std_string _ [] σ.objs=some (.str (nm wi sp v),σ.objs) from ?_)).trans rfl
 rw[ho]
 exact fss hw hs v (V4_mem.mp hv)
theorem B2K{a:D}{x:Int}(h:a σ=some (.t (.int x),σ)):L2 (A2 (E5 (A2 (dT (.int 0)) (A2 (A7 (L2 (A2 (dT (.int 1)) (A2 (d1 fNeg (dT (.int 2))) dNil))) (d2 fMod (d2 fDiv a (dT (.int 4))) (dT (.int 2)))) dNil))) (A2 (E5 (A2 (dT (.int 1)) (A2 (A7 (L2 (A2 (dT (.int 1)) (A2 (d1 fNeg (dT (.int 3))) dNil))) (d2 fMod (d2 fDiv a (dT (.int 8))) (dT (.int 2)))) dNil))) dNil)) σ=some (.t (A8I x).T,σ):=by
 have l2:(2:Nat)<1000:=by decide
 have i1:=(I1 (x.fdiv 4) (m:=2) (by decide)).2
 have i2:=(I1 (x.fdiv 8) (m:=2) (by decide)).2
 exact m5 (A4 (I8 (A4 rfl (A4 (G7 (m5 (A4 rfl (A4 rfl B8)) l2 rfl) (A25 (m:=2) (by decide) (C5 h rfl rfl rfl (y5 (b:=4) (by decide) rfl)) rfl) rfl rfl rfl (I0 (A6U (a:=1) (b := -2) _ i1) (Nat.lt_trans i1 (by decide)))) B8)) l2 rfl) (A4 (I8 (A4 rfl (A4 (G7 (m5 (A4 rfl (A4 rfl B8)) l2 rfl) (A25 (m:=2) (by decide) (C5 h rfl rfl rfl (y5 (b:=8) (by decide) rfl)) rfl) rfl rfl rfl (I0 (A6U (a:=1) (b := -3) _ i2) (Nat.lt_trans i2 (by decide)))) B8)) l2 rfl) B8)) l2 rfl
section
noncomputable def A8P(src:Nat→Nat)(walk:List Nat)(v:Nat):List Nat:=(List.range walk.length).filter fun k=>src (walk.getD k 0)==v
theorem A8N(W:List Nat)(w v:Nat):A8P src (W++[w]) v=A8P src W v++if src w=v then [W.length] else []:=by
 unfold A8P
 rw[List.length_append,List.length_singleton,List.range_succ,List.filter_append]
 congr 1
 ·refine List.filter_congr fun k hk => ?_
  rw[List.getD_eq_getElem?_getD,List.getElem?_append_left (List.mem_range.mp hk),← List.getD_eq_getElem?_getD]
 ·rw[List.filter_cons,List.getD_eq_getElem?_getD,List.getElem?_append_right (Nat.le_refl _),Nat.sub_self]
  show (if (src w==v)=true then _ else _)=_
  by_cases q:src w=v
  ·rw[if_pos q,if_pos (beq_iff_eq.mpr q)];rfl
  ·rw[if_neg q,if_neg (fun e=>q (beq_iff_eq.mp e))];rfl
inductive B6j(src:Nat→Nat)(v:Nat)(W:List Nat):Prop
 | no (h:G3 src W v=0)
 | at (l:List Nat) (x:Nat) (h1:A8P src W v=l++[x]) (h2:G3 src W v=x+1) (h3:∀ y∈l,y<x) (h4:x<W.length)
theorem A8O{v:Nat}(n:Nat):∀ (W:List Nat),W.length=n→B6j src v W:=by
 induction n with
 | zero=>exact fun W h=>.no (by rw[List.length_eq_zero_iff.mp h];rfl)
 | succ n ih=>
  intro W h
  rcases List.eq_nil_or_concat W with rfl | ⟨L,w,rfl⟩
  ·cases h
  ·have hL:L.length=n:=Nat.succ.inj ((List.length_concat ..).symm.trans h)
   rw[List.concat_eq_append]
   have e1:=A8N (src:=src) L w v
   have e2:G3 src (L++[w]) v=_:=L9 ..
   by_cases q:src w=v
   ·rw[if_pos q] at e1 e2
    exact .at _ _ e1 e2 (fun y hy=>List.mem_range.mp (List.mem_filter.mp hy).1) (by rw[List.length_append];exact Nat.lt_succ_self _)
   ·rw[if_neg q] at e1 e2
    rw[List.append_nil] at e1
    rcases ih L hL with h | ⟨l,x,h1,h2,h3,h4⟩
    ·exact .no (e2.trans h)
    ·exact .at l x (e1.trans h1) (e2.trans h2) h3 (Nat.lt_of_lt_of_le h4 (by rw[List.length_append];exact Nat.le_add_right _ _))
theorem A8T{l:List Nat}{x:Nat}(h:∀ y∈l,y<x):fMax (.lst ((l++[x]).map fun (k:Nat)=>.int k))=some (.int x):=by
 show (N6 _).bind _=_
 rw[n9 fun (k:Nat)=>(k:Int),Option.bind_some,if_pos (by simp)]
 have hx:∀ i,((l++[x]).map fun (k:Nat)=>(k:Int)).getD i 0=(((l++[x]).getD i 0:Nat):Int):=fun i=>by
  rw[List.getD_eq_getElem?_getD,List.getElem?_map,List.getD_eq_getElem?_getD]
  cases (l++[x])[i]? <;> rfl
 have hlast:(l++[x]).getD l.length 0=x:=by rw[List.getD_eq_getElem?_getD,List.getElem?_append_right (Nat.le_refl _),Nat.sub_self];rfl
 have ha:argBest (fun i j=>decide (((l++[x]).map fun (k:Nat)=>(k:Int)).getD i 0>((l++[x]).map fun (k:Nat)=>(k:Int)).getD j 0)) (((l++[x]).map fun (k:Nat)=>(k:Int)).length - 1)=l.length:=by
  rw[List.length_map,List.length_append,List.length_singleton,Nat.add_sub_cancel]
  have hle:=fun k=>(argBest_gt (fun i=>((l++[x]).map fun (k:Nat)=>(k:Int)).getD i 0) k).1
  cases q:l.length with
  | zero=>rfl
  | succ k=>
   rw[argBest,if_pos]
   refine decide_eq_true ?_
   show _<_
   rw[hx,hx,← q,hlast]
   have hk:=hle k
   generalize argBest _ k=j at hk ⊢
   have hj:j<l.length:=q▸Nat.lt_succ_of_le hk
   rw[List.getD_eq_getElem?_getD,List.getElem?_append_left hj,List.getElem?_eq_getElem hj]
   have:=h _ (List.getElem_mem hj)
   exact Int.ofNat_lt.mpr this
 rw[ha,hx,hlast]
section
variable{Z:Mz}
theorem A93(hl:σ.loc.length=21)(h2:σ.loc[2]?=some (some (.t Z.endsT)))(h13:σ.loc[13]?=some (some (.t (.lst (W.map chT)))))(hW:W.Perm W10)(O:OdOk od)(D:Doors Z.src W od)(hsur:∀ v,v<4→∃ w,w<10∧Z.src w=v):
  A26 21 (d1 fMax (E3 1 itN (d1 fRange1 (dT (.int 10))) (C1 (d2 fEq (A7 (A7 (A0 2) (A7 (A0 13) (A0 22))) (dT (.int 0))) (A0 21))) (A0 22))) (d1 fRange1 (dT (.int 4))) σ=some (.t (.lst (od.map fun (v:Nat)=>.int v)),σ):=by
 have hlen:W.length=10:=hW.length_eq
 have hgone:∀ v,v<4→∃ w∈W,Z.src w=v:=fun v hv=>by
  obtain⟨w,hw,e⟩:=hsur v hv
  exact⟨w,hW.mem_iff.mpr (W10_lt.mpr hw),e⟩
 have hpos:∀ v,v<4→0<G3 Z.src W v:=fun v hv=>A1t (hgone v hv)
 have hk:∀ v∈V4,d1 fMax (E3 1 itN (d1 fRange1 (dT (.int 10))) (C1 (d2 fEq (A7 (A7 (A0 2) (A7 (A0 13) (A0 22))) (dT (.int 0))) (A0 21))) (A0 22)) ⟨σ.loc++[some (.t (.int (v:Nat)))],σ.objs⟩=some (.t (.int ((G3 Z.src W v - 1:Nat):Int)),⟨σ.loc++[some (.t (.int (v:Nat)))],σ.objs⟩):=fun v hv=>by
  have hv:=V4_mem.mp hv
  have e:=O8 (σ:=⟨σ.loc++[some (.t (.int (v:Nat)))],σ.objs⟩) (itf:=itN) (a:=d1 fRange1 (dT (.int 10))) (p:=C1 (d2 fEq (A7 (A7 (A0 2) (A7 (A0 13) (A0 22))) (dT (.int 0))) (A0 21))) (d:=A0 22) (xs:=List.range 10) (h:=fun k=>.int ((0:Int)+(k:Nat))) (f:=fun k=>Z.src (W.getD k 0)==v) (g:=fun (k:Nat)=>.int k) (y:=.rng 0 10) rfl rfl (by decide) fun k hk=>by
   have hk:=List.mem_range.mp hk
   rw[Int.zero_add]
   have hkW:k<W.length:=hlen▸hk
   rw[List.append_assoc]
   have s21:=t7 hl (x:=[some (.t (.int (v:Nat)))]++[some (.t (.int (k:Nat)))]) 0 rfl
   have s22:=t7 hl (x:=[some (.t (.int (v:Nat)))]++[some (.t (.int (k:Nat)))]) 1 rfl
   have hg:(W.map chT)[k]?=some (chT (W.getD k 0)):=by rw[List.getElem?_map,A3p (d:=0) hkW];rfl
   have hw:W.getD k 0<10:=W10_lt.mp (hW.mem_iff.mp (List.mem_of_getElem? (A3p (d:=0) hkW)))
   refine⟨?_,fun _=>s22⟩
   rw[← X2]
   exact I2 (C5 (A24 (U9 hl (by decide) h2 _) (G7 (U9 hl (by decide) h13 _) s22 rfl rfl rfl (I0 hg (Nat.lt_trans hk (by decide)))) rfl hw) s21 rfl rfl rfl) rfl rfl
  have hi:(List.range 10).filter (fun k=>Z.src (W.getD k 0)==v)=A8P Z.src W v:=by unfold A8P;rw[hlen]
  rw[hi] at e
  rcases A8O 10 W hlen (src:=Z.src) (v:=v) with h0 | ⟨l,x,h1,h2,h3,_⟩
  ·exact absurd h0 (Nat.ne_of_gt (hpos v hv))
  ·rw[h1] at e
   rw[h2,Nat.add_sub_cancel]
   exact U4 e rfl (A8T h3)
 obtain⟨l,e,p,q⟩:=B0d (σ:=σ) (a:=d1 fRange1 (dT (.int 4))) (n:=21) (ws:=V4) (h:=fun (v:Nat)=>.int v) (key:=fun v=>.int ((G3 Z.src W v - 1:Nat):Int)) (lt:=fun u v=>decide (G3 Z.src W u<G3 Z.src W v∧u<4∧v<4)) (y:=.rng 0 4) rfl rfl hl.symm hk rfl (by decide) A7Z
  (fun u hu v hv=>by
   show decide ((_:Int)<_)=_
   have h1:=hpos u (V4_mem.mp hu)
   rw[decide_eq_decide]
   exact⟨fun q=>⟨(Nat.sub_lt_sub_iff_right h1).mp (Int.ofNat_lt.mp q),V4_mem.mp hu,V4_mem.mp hv⟩,fun q=>Int.ofNat_lt.mpr ((Nat.sub_lt_sub_iff_right h1).mpr q.1)⟩)
  (fun u v h1 h2=>Nat.lt_asymm (of_decide_eq_true h1).1 (of_decide_eq_true h2).1)
  (fun u v w h1 h2=>decide_eq_true ⟨Nat.lt_trans (of_decide_eq_true h1).1 (of_decide_eq_true h2).1,(of_decide_eq_true h1).2.1,(of_decide_eq_true h2).2.2⟩)
  (fun u hu v hv ne=>by
   have hu:=V4_mem.mp hu
   have hv:=V4_mem.mp hv
   have:G3 Z.src W u≠G3 Z.src W v:=fun e=>by
    have ho:=D.sorted (fun x hx=>hgone x ((O.lt x).mp hx))
    have key:∀ (l:List Nat),l.Pairwise (fun a b=>decide (G3 Z.src W a<G3 Z.src W b)=true)→u∈l→v∈l→False:=fun l=>by
     induction l with
     | nil=>intro _ h;cases h
     | cons x l ih=>
      intro hp hu hv
      have hp:=List.pairwise_cons.mp hp
      rcases List.mem_cons.mp hu with hu | hu <;> rcases List.mem_cons.mp hv with hv | hv
      ·exact ne (hu.trans hv.symm)
      ·have:=of_decide_eq_true (hp.1 v hv);rw[← hu] at this;exact Nat.ne_of_lt this e
      ·have:=of_decide_eq_true (hp.1 u hu);rw[← hv] at this;exact Nat.ne_of_gt this e
      ·exact ih hp.2 hu hv
    exact key od ho ((O.lt u).mpr hu) ((O.lt v).mpr hv)
   exact(Nat.lt_or_gt_of_ne this).imp (fun h=>decide_eq_true ⟨h,hu,hv⟩) fun h=>decide_eq_true ⟨h,hv,hu⟩)
 have hp:od.Perm V4:=(List.perm_ext_iff_of_nodup O.nd A7Z).mpr fun v=>by rw[O.lt,V4_mem]
 have ho:od.Pairwise fun u v=>decide (G3 Z.src W u<G3 Z.src W v∧u<4∧v<4)=true:=
  (D.sorted (fun x hx=>hgone x ((O.lt x).mp hx))).imp_of_mem fun ha hb h=>decide_eq_true ⟨of_decide_eq_true h,(O.lt _).mp ha,(O.lt _).mp hb⟩
 rw[k8 (fun u v h1 h2=>Nat.lt_asymm (of_decide_eq_true h1).1 (of_decide_eq_true h2).1) (p.trans hp.symm) q ho] at e
 exact e
end
end
section
theorem A9j{xs:List T}(h:∀ x∈xs,eqN 6 x x=some true):fNe (.lst xs) (.lst xs)=some (.bool false):=congrArg (Option.map fun b=>T.bool (!b)) (A51 h)
theorem A4p(a b:Str)(n:Nat):eqN (n+2) (.tup [.str a,.str b]) (.tup [.str a,.str b])=some true:=
 A3s (n:=n+1) (List.forall_mem_cons.mpr ⟨congrArg some (beq_self_eq_true a),List.forall_mem_cons.mpr ⟨congrArg some (beq_self_eq_true b),fun _ h=>nomatch h⟩⟩)
theorem j3{f:T→T→Bool}{x:T}{xs:List T}(h:f x y=true)(h2:A5K f xs ys=true):A5K f (x::xs) (y::ys)=true:=by
 obtain⟨l,a⟩:=Bool.and_eq_true_iff.mp h2
 exact Bool.and_eq_true_iff.mpr ⟨beq_iff_eq.mpr (congrArg (·+1) (beq_iff_eq.mp l)),Bool.and_eq_true_iff.mpr ⟨h,a⟩⟩
theorem B1H{f:T→T→Bool}:A5K f [] []=true:=rfl
theorem A13(a:Int)(n:Nat):eqY (n+1) (.int a) (.int a)=true:=beq_self_eq_true a
section
variable{Z:Mz}{nm:Nat→Str}(N:NmOk nm){start:Nat}(hW:W.Perm W10)
theorem A5J{f:T→T→Bool}{ks':List Nat}{g g':Nat→T}(N:NmOk nm)(hk':∀ v∈ks',v<4)(h:∀ v∈ks,v∈ks'∧f (g v) (g' v)=true):A8k f (ks'.map nm) (ks'.map g') (ks.map nm) (ks.map g)=true:=by
 induction ks with
 | nil=>rfl
 | cons v ks ih=>
  obtain⟨h1,h2⟩:=h v (.head _)
  refine Bool.and_eq_true_iff.mpr ⟨?_,ih fun u hu=>h u (.tail _ hu)⟩
  show (lk (ks'.map nm) (ks'.map g') (nm v)).elim false (f (g v))=true
  rw[A4Y N hk' (hk' v h1),if_pos h1]
  exact h2
theorem A4n{l l':List Nat}(h:l.Perm l'):(C4 l).Perm (C4 l'):=(List.perm_ext_iff_of_nodup (M0 l) (M0 l')).mpr fun v=>by rw[mem_firsts,mem_firsts,h.mem_iff]
theorem B20{I I':List Nat}(h:I.Perm I')(u:Nat):cT Z I u=cT Z I' u:=by
 unfold cT
 rw[h.countP_eq,u9 ((h.filter _).map Z.ri),u9 ((h.filter _).map Z.ab)]
theorem B4a(a b c:Int)(n:Nat):eqY (n+2) (t3 a b c) (t3 a b c)=true:=(j3 (A13 a n) (j3 (A13 b n) (j3 (A13 c n) B1H)):A5K (eqY (n+1)) _ _=true)
include N in
theorem B0Y{I I':List Nat}(h:I.Perm I')(n:Nat):eqY (n+3) (d4 Z nm I) (d4 Z nm I')=true:=by
 have hp:=A4n (h.map Z.src)
 have hl:((C4 (I.map Z.src)).map (cT Z I)).length=((C4 (I'.map Z.src)).map (cT Z I')).length:=by rw[List.length_map,List.length_map,hp.length_eq]
 show (((C4 (I.map Z.src)).map (cT Z I)).length==((C4 (I'.map Z.src)).map (cT Z I')).length&&A8k (eqY (n+2)) ((C4 (I'.map Z.src)).map nm) ((C4 (I'.map Z.src)).map (cT Z I')) ((C4 (I.map Z.src)).map nm) ((C4 (I.map Z.src)).map (cT Z I)))=true
 rw[hl,beq_self_eq_true,Bool.true_and]
 exact A5J N (A0E I') fun v hv=>⟨hp.mem_iff.mp hv,by rw[B20 h];exact B4a _ _ _ _⟩
include N in
theorem B0Z{W':List Nat}(h:W.Perm W')(v:Nat):eqY 6 (E2 Z nm start W v) (E2 Z nm start W' v)=true:=by
 have hi:(Z.into W v).Perm (Z.into W' v):=h.filter _
 have hc:=B0Y (Z:=Z) N hi 2
 unfold E2
 rw[hi.length_eq,u9 (hi.map Z.ri),u9 (hi.map Z.ab)]
 exact(j3 (A13 _ 4) (j3 (A13 _ 4) (j3 (A13 _ 4) (j3 (A13 _ 4) (j3 hc B1H)))):A5K (eqY 5) _ _=true)
include N hW in
theorem B08(hsur:∀ v,v<4→∃ w,w<10∧Z.src w=v):fNe (Z2 nm (M2 Z W) (E2 Z nm start W)) (Z2 nm V4 (E2 Z nm start W10))=some (.bool false):=by
 have hm:∀ v,v∈M2 Z W↔v<4:=fun v=>⟨A16 W v,fun hv=>by
  obtain⟨w,hw,e⟩:=hsur v hv
  exact mem_firsts.mpr (List.mem_map.mpr ⟨u5 w,hW.mem_iff.mpr (W10_lt.mpr (A0F hw)),by unfold Mz.dst;rw[A5d];exact e⟩)⟩
 have hp:(M2 Z W).Perm V4:=(List.perm_ext_iff_of_nodup (M0 _) A7Z).mpr fun v=>(hm v).trans V4_mem.symm
 have e:A8U (Z2 nm (M2 Z W) (E2 Z nm start W)) (Z2 nm V4 (E2 Z nm start W10))=some true:=
  if_pos ⟨by rw[List.length_map,List.length_map,hp.length_eq],A5J N (fun v hv=>V4_mem.mp hv) fun v hv=>⟨hp.mem_iff.mp hv,B0Z N hW v⟩⟩
 unfold fNe
 rw[e];rfl
end
theorem A7w(R:List Nat):((List.range R.length).filter fun k => !(R.take k).contains (R.getD k 0)).map (R.getD · 0)=C4 R:=by
 have key:∀ n,n≤R.length→((List.range n).filter fun k => !(R.take k).contains (R.getD k 0)).map (R.getD · 0)=C4 (R.take n):=fun n=>by
  induction n with
  | zero=>intro _;rfl
  | succ n ih=>
   intro h
   have hn:n<R.length:=h
   have hg:R.getD n 0=R[n]:=by rw[List.getD_eq_getElem?_getD,List.getElem?_eq_getElem hn];rfl
   rw[List.range_succ,List.filter_append,List.map_append,ih (Nat.le_of_succ_le h),List.take_succ_eq_append_getElem hn,T9,List.filter_cons,hg]
   unfold G6
   by_cases q:R[n]∈R.take n
   ·rw[if_pos (mem_firsts.mpr q),List.contains_iff_mem.mpr q];exact List.append_nil _
   ·have:(R.take n).contains R[n]=false:=Bool.eq_false_iff.mpr fun h=>q (List.contains_iff_mem.mp h)
    rw[if_neg (fun h=>q (mem_firsts.mp h)),this]
    show _++[R.getD n 0]=_
    rw[hg]
 have:=key R.length (Nat.le_refl _)
 rwa [List.take_length] at this
theorem A81{f:Nat→Str}(l:List Nat):O6 (l.map fun v=>.str (f v))=some (l.map f):=by
 induction l with
 | nil=>rfl
 | cons v l ih=>
  show (some (f v)).bind (fun y=>(O6 (l.map fun v=>.str (f v))).map (y :: ·))=_
  rw[ih];rfl
end
section
theorem A77{β:Type}{b:List (Nat×β)}(nd:(b.map (·.1)).Nodup)(p:Nat×β)(hp:p∈b):b.lookup p.1=some p.2:=by
 induction b with
 | nil=>cases hp
 | cons q b ih=>
  have nd':=List.nodup_cons.mp nd
  rw[List.lookup_cons]
  rcases List.mem_cons.mp hp with rfl | hp
  ·rw[beq_self_eq_true]
  ·rw[beq_eq_false_iff_ne.mpr fun e:p.1=q.1=>nd'.1 (List.mem_map.mpr ⟨p,hp,e⟩)]
   exact ih nd'.2 hp
theorem B24{Z:Mz}{start:Nat}{s:WS}(I:WInv Z.M line start s tree):(s.back.map (·.1)).Nodup:=by
 rw[I.back,List.map_cons,List.map_map]
 refine List.nodup_cons.mpr ⟨fun h => ?_,?_⟩
 ·obtain⟨p,hp,e⟩:=List.mem_map.mp h
  exact(I.tarry.way p (List.mem_reverse.mp hp)).2.2 e
 ·show (tree.reverse.map (·.1)).Nodup
  rw[List.map_reverse]
  exact(List.reverse_perm _).nodup_iff.mpr I.tarry.keys
section
variable{Z:Mz}{nm:Nat→Str}(N:NmOk nm)(hl:σ.loc.length=21)
include hl
theorem B2L{b:List (Nat×Option Nat)}{x:T}(h6:σ.loc[6]?=some (some (.t (I5 nm))))(h18:σ.loc[18]?=some (some (.t (.tup [x,y,z,.di (bkK b) (bkX b)]))))(hb:∀ p∈b,p.1<4)(nd:(b.map (·.1)).Nodup)(hn:b.length<900):
  E3 1 itN (A7 (A0 18) (dT (.int 3))) (G0 true) (E5 (A2 (A7 (A0 6) (A0 21)) (A2 (A7 (A7 (A0 18) (dT (.int 3))) (A0 21)) dNil))) σ=some (.t (.lst ((E6 nm b).map J9)),σ):=by
 have s18:∀ x',A7 (A0 18) (dT (.int 3)) ⟨σ.loc++x',σ.objs⟩=some (.t (.di (bkK b) (bkX b)),⟨σ.loc++x',σ.objs⟩):=fun x'=>G7 (U9 hl (by decide) h18 x') rfl rfl rfl rfl rfl
 have e18:=s18 []
 rw[List.append_nil] at e18
 have e:=O8 (σ:=σ) (itf:=itN) (p:=G0 true) (d:=E5 (A2 (A7 (A0 6) (A0 21)) (A2 (A7 (A7 (A0 18) (dT (.int 3))) (A0 21)) dNil))) (xs:=b) (h:=fun p=>.int (p.1:Nat)) (f:=fun _=>true) (g:=fun p=>.tup [.str (nm p.1),.str (fS p.2)]) e18 (show some ((bkK b).map T.int)=_ by unfold bkK;rw[List.map_map];rfl) (Nat.lt_trans hn (by decide)) fun p hp=>⟨rfl,fun _=>by
  have h21:=t7 hl (x:=[some (.t (.int (p.1:Nat)))]) 0 rfl
  have hlk:lk (bkK b) (bkX b) (p.1:Int)=some (.str (fS p.2)):=by rw[B09,A77 nd p hp];rfl
  exact I8 (A4 (N0 (U9 hl (by decide) h6 _) h21 (hb p hp)) (A4 (G7 (s18 _) h21 rfl rfl rfl hlk) B8)) (show 2<1000 from by decide) rfl⟩
 rw[Z0] at e
 rw[e]
 unfold E6
 rw[List.map_map];rfl
theorem A94(N:NmOk nm)(h6:σ.loc[6]?=some (some (.t (I5 nm))))(h19:σ.loc[19]?=some (some (.t (.lst (od.map fun (v:Nat)=>.int v)))))(ho:∀ v∈od,v<4)(hn:od.length<900):
  E3 1 itN (A0 19) (G0 true) (E5 (A2 (P1 isStrT fUpper (A7 (A0 6) (A0 21))) (A2 (dT (.str (Str.ofString ""))) dNil))) σ=some (.t (.lst (od.map fun v=>.tup [.str (Txt.upper (nm v)),.str (Str.ofString "")])),σ):=by
 have e19:=U9 hl (i:=19) (by decide) h19 []
 rw[List.append_nil] at e19
 have e:=O8 (σ:=σ) (itf:=itN) (p:=G0 true) (d:=E5 (A2 (P1 isStrT fUpper (A7 (A0 6) (A0 21))) (A2 (dT (.str (Str.ofString ""))) dNil))) (xs:=od) (h:=fun v=>.int (v:Nat)) (f:=fun _=>true) (g:=fun v=>.tup [.str (Txt.upper (nm v)),.str (Str.ofString "")]) e19 rfl (Nat.lt_trans hn (by decide)) fun v hv=>⟨rfl,fun _=>
  I8 (A4 (Z1 (N0 (U9 hl (by decide) h6 _) (t7 hl 0 rfl) (ho v hv)) (N.plU _ (ho v hv)).2) (A4 rfl B8)) (show 2<1000 from by decide) rfl⟩
 rw[Z0] at e
 exact e
noncomputable def A2h(Z:Mz)(nm:Nat→Str)(W:List Nat)(v:Nat):List T:=((Z.into W v).map Z.src).map fun u=>.str (nm u)
theorem A95(hW:W.Perm W10)(h2:σ.loc[2]?=some (some (.t Z.endsT)))(h6:σ.loc[6]?=some (some (.t (I5 nm))))(h13:σ.loc[13]?=some (some (.t (.lst (W.map chT))))):
  E3 2 itN (d1 fRange1 (dT (.int 4))) (G0 true) (E3 1 itN (A0 13) (C1 (d2 fEq (A7 (A7 (A0 2) (A0 23)) (dT (.int 1))) (A0 22))) (A7 (A0 6) (A7 (A7 (A0 2) (A0 23)) (dT (.int 0))))) σ=some (.t (.lst (V4.map fun v=>.lst (A2h Z nm W v))),σ):=by
 refine A7C (σ:=σ) (itf:=itN) (xs:=V4) (h:=fun v=>.int (v:Nat)) (f:=fun _=>true) (g:=fun v=>.lst (A2h Z nm W v)) (y:=.rng 0 4) rfl rfl (by decide) fun v hv=>⟨rfl,fun _ => ?_⟩
 rw[List.append_assoc]
 have e:=O8 (σ:=⟨σ.loc++([none]++[some (.t (.int (v:Nat)))]),σ.objs⟩) (itf:=itN) (a:=A0 13) (p:=C1 (d2 fEq (A7 (A7 (A0 2) (A0 23)) (dT (.int 1))) (A0 22))) (d:=A7 (A0 6) (A7 (A7 (A0 2) (A0 23)) (dT (.int 0)))) (xs:=W) (h:=chT) (f:=fun w=>Z.dst w==v) (g:=fun w=>.str (nm (Z.src w))) (U9 hl (by decide) h13 _) rfl (by rw[hW.length_eq];decide) fun w hw=>by
  rw[List.append_assoc]
  have hw:=W10_lt.mp (hW.mem_iff.mp hw)
  have s23:=t7 hl (x:=[none]++[some (.t (.int (v:Nat)))]++[some (.t (chT w))]) 2 rfl
  have s22:=t7 hl (x:=[none]++[some (.t (.int (v:Nat)))]++[some (.t (chT w))]) 1 rfl
  refine⟨?_,fun _=>N0 (U9 hl (by decide) h6 _) (A24 (U9 hl (by decide) h2 _) s23 rfl hw) (Z.lt4 w)⟩
  rw[← X2]
  exact I2 (C5 (A4u (U9 hl (by decide) h2 _) s23 rfl hw) s22 rfl rfl rfl) rfl rfl
 rw[e]
 unfold A2h
 rw[List.map_map];rfl
theorem B2H(hm:∀ v,v∈M2 Z W↔v<4){start:Nat}(N:NmOk nm)(h6:σ.loc[6]?=some (some (.t (I5 nm))))(h17:σ.loc[17]?=some (some (.t (Z2 nm (M2 Z W) (E2 Z nm start W))))):
  E3 1 itN (A0 6) (G0 true) (d1 fListS (A7 (A7 (A0 17) (A0 21)) (dT (.int 4)))) σ=some (.t (.lst (V4.map fun v=>.lst ((C4 ((Z.into W v).map Z.src)).map fun u=>.str (nm u)))),σ):=by
 have e6:=U9 hl (i:=6) (by decide) h6 []
 rw[List.append_nil] at e6
 refine O8 (σ:=σ) (itf:=itN) (xs:=V4) (h:=fun v=>.str (nm v)) (f:=fun _=>true) (g:=fun v=>.lst ((C4 ((Z.into W v).map Z.src)).map fun u=>.str (nm u))) e6 rfl (by decide) fun v hv=>⟨rfl,fun _ => ?_⟩
 have hv:=V4_mem.mp hv
 have hlk:=A4Y N (A16 (Z:=Z) W) hv (f:=E2 Z nm start W)
 rw[if_pos ((hm v).mpr hv)] at hlk
 refine U4 (G7 (z:=d4 Z nm (Z.into W v)) (G7 (U9 hl (by decide) h17 _) (t7 hl 0 rfl) rfl rfl rfl hlk) rfl rfl rfl rfl rfl) rfl ((if_pos (by rw[List.length_map];exact Nat.lt_of_le_of_lt (A0L (M0 _) (A0E (Z:=Z) (Z.into W v))) (by decide))).trans ?_)
 rw[List.map_map];rfl
theorem A8G(hW:W.Perm W10)(N:NmOk nm)(h20:σ.loc[20]?=some (some (.t (.lst (V4.map fun v=>.lst (A2h Z nm W v)))))):
  E3 2 itN (A0 20) (G0 true) (E3 1 itN (d1 fRange1 (d1 fLen (A0 22))) (C1 (d2 fNotIn (A7 (A0 22) (A0 23)) (dSl (A0 22) (dT .none) (A0 23) (dT .none)))) (A7 (A0 22) (A0 23))) σ=some (.t (.lst (V4.map fun v=>.lst ((C4 ((Z.into W v).map Z.src)).map fun u=>.str (nm u)))),σ):=by
 have e20:=U9 hl (i:=20) (by decide) h20 []
 rw[List.append_nil] at e20
 refine A7C (σ:=σ) (itf:=itN) (xs:=V4) (h:=fun v=>.lst (A2h Z nm W v)) (f:=fun _=>true) (g:=fun v=>.lst ((C4 ((Z.into W v).map Z.src)).map fun u=>.str (nm u))) e20 rfl (by decide) fun v hv=>⟨rfl,fun _ => ?_⟩
 rw[List.append_assoc]
 have hR:∀ u∈(Z.into W v).map Z.src,u<4:=fun u hu=>by obtain⟨w,_,rfl⟩:=List.mem_map.mp hu;exact Z.lt4 w
 have hlen:((Z.into W v).map Z.src).length≤10:=by rw[List.length_map];have:=List.length_filter_le (fun w=>Z.dst w==v) W;rw[hW.length_eq] at this;exact this
 unfold A2h
 generalize (Z.into W v).map Z.src=R at hR hlen
 have s22:∀ x,A0 22 ⟨σ.loc++([none]++[some (.t (.lst (R.map fun u=>.str (nm u))))]++x),σ.objs⟩=some (.t (.lst (R.map fun u=>.str (nm u))),⟨σ.loc++([none]++[some (.t (.lst (R.map fun u=>.str (nm u))))]++x),σ.objs⟩):=fun x=>t7 hl 1 rfl
 have e22:=s22 []
 rw[List.append_nil] at e22
 have hR1:R.length<1000:=Nat.lt_of_le_of_lt hlen (by decide)
 have hrg:itN (.rng 0 ((R.map fun u=>T.str (nm u)).length:Nat))=some ((List.range R.length).map fun i=>.int ((0:Int)+(i:Nat))):=by
  rw[List.length_map]
  refine(if_pos ⟨by decide,hR1⟩).trans ?_
  unfold A0G
  rw[Int.sub_zero,Int.toNat_natCast]
 have hfl:fLen (.lst (R.map fun u=>T.str (nm u)))=some (.int ((R.map fun u=>T.str (nm u)).length:Nat)):=if_pos (by rw[List.length_map];exact hR1)
 have e:=O8 (σ:=⟨σ.loc++([none]++[some (.t (.lst (R.map fun u=>.str (nm u))))]),σ.objs⟩) (itf:=itN) (a:=d1 fRange1 (d1 fLen (A0 22))) (p:=C1 (d2 fNotIn (A7 (A0 22) (A0 23)) (dSl (A0 22) (dT .none) (A0 23) (dT .none)))) (d:=A7 (A0 22) (A0 23)) (xs:=List.range R.length) (h:=fun i=>.int ((0:Int)+(i:Nat))) (f:=fun k => !(R.take k).contains (R.getD k 0)) (g:=fun k=>.str (nm (R.getD k 0)))
  (U4 (U4 e22 rfl hfl) rfl rfl) hrg (by rw[List.length_range];exact hR1) fun k hk=>by
   have hk:=List.mem_range.mp hk
   rw[Int.zero_add,List.append_assoc]
   have s23:=t7 hl (x:=[none]++[some (.t (.lst (R.map fun u=>.str (nm u))))]++[some (.t (.int (k:Nat)))]) 2 rfl
   have hg:(R.map fun u=>T.str (nm u))[k]?=some (.str (nm (R.getD k 0))):=by rw[List.getElem?_map,List.getD_eq_getElem?_getD,List.getElem?_eq_getElem hk];rfl
   have hRk:R.getD k 0<4:=hR _ (by rw[List.getD_eq_getElem?_getD,List.getElem?_eq_getElem hk];exact List.getElem_mem hk)
   have hit:=G7 (s22 [some (.t (.int (k:Nat)))]) s23 rfl rfl rfl (I0 hg (Nat.lt_trans hk hR1))
   have hsl:o6 (.lst (R.map fun u=>.str (nm u))) none (some (k:Int)) none=some (.lst ((R.take k).map fun u=>.str (nm u))):=by
    rw[List.map_take,← B1u _ (by rw[List.length_map];exact Nat.le_of_lt hk)]
    exact if_pos ⟨by decide,by rw[List.length_map];exact hR1⟩
   have hni:fNotIn (.str (nm (R.getD k 0))) (.lst ((R.take k).map fun u=>.str (nm u)))=some (.bool (!(R.take k).contains (R.getD k 0))):=by
    show (O6 _).map (fun l=>T.bool (!l.contains (nm (R.getD k 0))))=_
    rw[A81]
    refine congrArg (fun b=>some (T.bool (!b))) ?_
    rw[Bool.eq_iff_iff,List.contains_iff_mem,List.contains_iff_mem]
    exact A1n N (fun u hu=>hR u (List.mem_of_mem_take hu)) hRk
   exact⟨I2 (C5 hit (B0e (s22 _) rfl s23 rfl rfl rfl rfl rfl rfl rfl rfl rfl hsl) rfl rfl hni) rfl rfl,fun _=>hit⟩
 rw[e,← A7w,List.map_map];rfl
end
end
theorem B13(a b c:Int):fNe (.tup [.int a,.int b,.int c]) (.tup [.int a,.int b,.int c])=some (.bool false):=by
 have hi:∀ i:Int,eqN 6 (.int i) (.int i)=some true:=fun i=>congrArg some (beq_self_eq_true i)
 have e:A8U (.tup [.int a,.int b,.int c]) (.tup [.int a,.int b,.int c])=some true:=A3s (n:=6) (xs:=[.int a,.int b,.int c]) (List.forall_mem_cons.mpr ⟨hi a,List.forall_mem_cons.mpr ⟨hi b,List.forall_mem_cons.mpr ⟨hi c,fun _ h=>nomatch h⟩⟩⟩)
 exact congrArg (Option.map fun b=>T.bool (!b)) e
theorem B2b{α:Type}{f:Nat→List α}{g:α→Str}(L:List Nat):fEq (.lst (L.map fun v=>.lst ((f v).map fun u=>.str (g u)))) (.lst (L.map fun v=>.lst ((f v).map fun u=>.str (g u))))=some (.bool true):=by
 unfold fEq
 rw[A51 fun x hx=>by
  obtain⟨v,_,rfl⟩:=List.mem_map.mp hx
  exact(if_pos rfl).trans (A0d fun y hy=>by
   obtain⟨u,_,rfl⟩:=List.mem_map.mp hy
   exact congrArg some (beq_self_eq_true (g u)))]
 rfl
theorem A91(l:List Int)(h:l.length≤63):sp_law [.t (.lst (l.map T.int))] [] []=some (.bool true,[]):=by
 generalize hc:cOf l=c
 have hwi:=(I1 ((c 5).fdiv 9) (m:=3) (by decide)).2
 have hsp:=(I1 (c 5) (m:=9) (by decide)).2
 have hs:=(I1 (c 6) (m:=4) (by decide)).2
 have hcells:=A96 (l:=l) (Nat.lt_of_le_of_lt h (by decide)) (σ:=⟨some (.t (.lst (l.map T.int)))::List.replicate 20 none,[]⟩) rfl rfl
 rw[hc] at hcells
 generalize hwe:(((c 5).fdiv 9).fmod ((3:Nat):Int)).toNat=wi at hwi
 generalize hse:((c 5).fmod ((9:Nat):Int)).toNat=sp at hsp
 generalize hste:((c 6).fmod ((4:Nat):Int)).toNat=start at hs
 have N:=B5e hwi hsp
 have hline:=A1C (p9 c) (A8I (c 6))
 have C:=B15 c hs
 have hsur:=B4K c
 have htp:=B1o (Z:=p9 c) hline.1 start 0
 generalize hte:(K9 (p9 c) (K4 (p9 c) (A8I (c 6))) start 0).rest start V4=total at htp
 have hnum:=(I1 (c 7) (m:=total) htp.1).2
 generalize hne:((c 7).fmod (total:Int)).toNat=num at hnum
 obtain⟨s,od,E,hwalk⟩:=B4w N hs hline.1 C hsur (num:=num) (Nat.lt_trans hnum htp.2)
 obtain⟨hback,hz⟩:=B42 (K:=A8I (c 6)) hs C (num:=num) (total:=total) hte hnum E
 obtain⟨tree,I⟩:=E.inv
 have hW:s.walk.Perm W10:=I.tarry.perm fun w hw=>I.tarry.full E.len w hw
 have hleft:=I.left_end hline.1 E.len
 have hnl:s.back.length<900:=j2 I
 have bl:=A1K I hs
 have hfd:∀ v,v∈M2 (p9 c) s.walk↔v<4:=fun v=>⟨A16 s.walk v,fun hv=>by
  obtain⟨w,hw,e⟩:=hsur v hv
  exact mem_firsts.mpr (List.mem_map.mpr ⟨u5 w,hW.mem_iff.mpr (W10_lt.mpr (A0F hw)),by unfold Mz.dst;rw[A5d];exact e⟩)⟩
 have hod:∀ v∈od,v<4:=fun v hv=>(E.ord.lt v).mp hv
 have hdoor:(E8 (nm wi sp) (fun v=>(s.walk.map (p9 c).src).contains v) s.left od).map J9=od.map fun v=>.tup [.str (Txt.upper (nm wi sp v)),.str (Str.ofString "")]:=by
  unfold E8
  rw[List.map_map]
  refine List.map_congr_left fun v hv => ?_
  obtain⟨w,hw,e⟩:=hsur v (hod v hv)
  have hm:(s.walk.map (p9 c).src).contains v=true:=List.contains_iff_mem.mpr (List.mem_map.mpr ⟨w,hW.mem_iff.mpr (W10_lt.mpr hw),e⟩)
  show J9 (if (s.walk.map (p9 c).src).contains v=true then _ else _,F9 (s.left v))=_
  rw[hm,if_pos rfl,hleft v,← W8];rfl
 have hp1:∀ x∈od.map (fun v=>T.tup [.str (Txt.upper (nm wi sp v)),.str (Str.ofString "")]),eqN 6 x x=some true:=fun x hx=>by
  obtain⟨v,_,rfl⟩:=List.mem_map.mp hx
  exact A4p _ _ 4
 have hp2:∀ x∈(E6 (nm wi sp) s.back).map J9,eqN 6 x x=some true:=fun x hx=>by
  obtain⟨p,_,rfl⟩:=List.mem_map.mp hx
  exact A4p _ _ 4
 have hodl:od.length<900:=Nat.lt_of_le_of_lt (A0L E.ord.nd hod) (by decide)
 unfold A6R at hwalk
 rw[hdoor,hz] at hwalk
 obtain⟨w11,hloop⟩:=B2A (Z:=p9 c) (start:=start) (a0:=some (.t (.lst (l.map T.int)))) (a1:=some (.t (Z7 c))) (a3:=some (.t (.str (A5P wi)))) (a4:=some (.t (.int sp))) (a5:=some (.t (I5 (nm wi sp)))) (a6:=some (.t (I5 (nm wi sp)))) (a8:=some (.t (A8I (c 6)).T)) (w10:=none) (w11:=none)
 rw[B3n hline.1 0,hte] at hloop
 have key:∃ loc,B0q ⟨some (.t (.lst (l.map T.int)))::List.replicate 20 none,[]⟩=some (.ret (.t (.bool true)),⟨loc,[]⟩):=by
  apply Exists.intro
  unfold B0q
  refine B0 (C3 hcells) ?_
  refine B0 (C3 (J8 (A4 rfl B8) (B4z c))) ?_
  refine B0 (C3 (G7 (m5 (A4 rfl (A4 rfl (A4 rfl B8))) (show 3<1000 from by decide) rfl) (A25 (m:=3) (by decide) (C5 (A0W (k:=5) rfl rfl (by decide)) rfl rfl rfl (y5 (b:=9) (by decide) rfl)) rfl) rfl rfl rfl (I0 (A8p _ (by rw[hwe];exact hwi)) (by rw[hwe];exact Nat.lt_trans hwi (by decide))))) ?_
  rw[hwe]
  refine B0 (C3 (A25 (m:=9) (by decide) (A0W (k:=5) rfl rfl (by decide)) rfl)) ?_
  rw[hse]
  refine B0 (C3 (A92 hwi hsp rfl rfl rfl rfl)) ?_
  refine B0 (C3 (B4M (wi:=wi) hsp rfl rfl)) ?_
  refine B0 (C3 (A25 (m:=4) (by decide) (A0W (k:=6) rfl rfl (by decide)) rfl)) ?_
  rw[hste]
  refine B0 (C3 (B2K (A0W (k:=6) rfl rfl (by decide)))) ?_
  refine B0 (C3 rfl) ?_
  refine B0 (O4 rfl rfl rfl hloop rfl) ?_
  refine B0 (C3 (A25 (m:=total) htp.1 (A0W (k:=7) rfl rfl (by decide)) rfl)) ?_
  rw[hne]
  refine B0 (A4q (J8 (A4 rfl (A4 (J8 (A4 rfl (A4 rfl B8)) (B4x (p9 c) (A8I (c 6)))) (A4 rfl (A4 rfl (A4 rfl B8))))) hwalk) rfl) ?_
  refine B0 (C3 (J8 (A4 rfl (A4 rfl (A4 rfl (A4 rfl B8)))) hback)) ?_
  refine B0 (H8 (b:=false) (B0i (I2 (x:=.bool false) (C5 (z:=.bool false) rfl rfl rfl rfl rfl) rfl rfl) (B0i (I2 (x:=.bool false) (C5 (z:=.bool false) (B0e rfl rfl rfl rfl rfl rfl rfl rfl rfl rfl rfl rfl rfl) (I8 (A4 rfl (A4 rfl (A4 rfl B8))) (show 3<1000 from by decide) rfl) rfl rfl (B13 _ _ _)) rfl rfl) (I2 (x:=.bool false) (C5 (z:=.bool false) rfl rfl rfl rfl rfl) rfl rfl))) rfl) ?_
  refine B0 (C3 (A93 rfl rfl rfl hW E.ord E.doors hsur)) ?_
  refine B0 (H8 (b:=false) (B0i (I2 (x:=.bool false) (C5 (z:=.bool false) rfl (A94 rfl N rfl rfl hod hodl) rfl rfl (A9j hp1)) rfl rfl) (I2 (x:=.bool false) (C5 (z:=.bool false) rfl (B2L rfl rfl rfl bl (B24 I) hnl) rfl rfl (A9j hp2)) rfl rfl)) rfl) ?_
  refine B0 (H8 (b:=false) (I2 (x:=.bool false) (C5 (z:=.bool false) rfl (J8 (A4 rfl (A4 rfl (A4 rfl B8))) (B2y N)) rfl rfl (B08 N hW hsur)) rfl rfl) rfl) ?_
  refine B0 (C3 (A95 rfl hW rfl rfl rfl)) ?_
  exact K0 (C5 (B2H rfl hfd N rfl rfl) (A8G rfl hW N rfl) rfl rfl (B2b V4))
 obtain⟨loc,e⟩:=key
 exact S7 (fl:=.ret (.t (.bool true))) rfl e rfl rfl
open PySem.Calls
set_option maxHeartbeats 4000000
theorem A7b{a:Addr}{is:List Int}(W:Well P h (.ref a) (ofPy (PyData.list (is.map PyData.int)))):∃ vs,h.get? a=some (seqObj "list" vs.toArray 0)∧IntsAre vs is:=by
 have key:∀ (is:List Int) (vs:List Value),WellAll P h vs (ofPys (is.map PyData.int))→IntsAre vs is:=fun is=>by
  induction is with
  | nil=>intro vs w;cases w;exact .nil
  | cons i is ih=>intro vs w;cases w with | cons w1 w2=>cases w1;exact .cons _ _ (ih _ w2)
 cases W with
 | list h1 h2=>exact⟨_,h1,key _ _ h2⟩
theorem B6R{w:World}{s₁:Shared}{p:Program}{fa l:Addr}{is:List Int}(T0:Top p loose mean mg mb s₁.heap)(KX:(hd.heap_1 w.params).In s₁.heap)(hT9:TabsAt [(309,307),(202,198),(195,191),(319,317)] s₁.heap)(hac:CodeHd s₁.heap 287 283∧s₁.heap.get? 283=some (tabObj #[]))(hg:s₁.gens = #[])(hmg:mg (Str.ofString "law")=some (.ref fa))(hW:Well w.params s₁.heap (.ref l) (ofPy (PyData.list (is.map PyData.int))))(hn:is.length≤63)(hi:importsNone p=true):
  wpAny (model PySem.Challenge.pw_wy0047_01 w) callerA (call (.ref fa) [.ref l]) (fun v s'=>v=.bool true∧OldK s₁.heap s'.heap∧s'.os=s₁.os∧AllBare s'.gens) (fun _ _=>False) s₁:=by
 have hfa:=(mg_of KX T0.g (show nsIn (hd.heap_1 w.params) mainGlobals (Str.ofString "law")=some (some (.ref 320)) from rfl)).symm.trans hmg
 cases hfa
 have hT:TabsAt tabs5 s₁.heap:=fun q hq=>by
  simp only[tabs5,List.mem_cons,List.not_mem_nil,or_false] at hq
  rcases hq with rfl | rfl | rfl | rfl | rfl
  ·exact hT9 _ (by simp)
  ·exact hT9 _ (by simp)
  ·exact hT9 _ (by simp)
  ·exact hT9 _ (by simp)
  ·exact hac
 have B:=A8w (prog:=PySem.Challenge.pw_wy0047_01) (w:=w) T0 hT hi
 have TK:=A8v (prog:=PySem.Challenge.pw_wy0047_01) (w:=w) T0 hT
 have R:=B1X (prog:=PySem.Challenge.pw_wy0047_01) (w:=w) (mg:=mg) (mb:=mb) hT hg
 have X:(hd.heap_1 w.params).In (ghostOf s₁.heap tabs5):=ghost_K hT KX rfl
 obtain⟨vs,ho,hI⟩:=A7b hW
 have V:RelV (A8x PySem.Challenge.pw_wy0047_01 w s₁ mg mb) topG (.t (.lst (is.map T.int))) (.ref l):=.lst (n:=0) (.inl (ghost_get hT ho (fun q=>by cases q))) (l9 hI)
 refine wpAny_mono (B4E B X TK (k:=20) callerA ⟨rfl,by decide,by decide⟩ [] topG ⟨[],[]⟩ s₁ [.t (.lst (is.map T.int))] [.ref l] [] [] (.bool true) [] R ⟨_,_,rfl,V,rfl⟩ rfl (A91 is hn)) (fun v s' h => ?_) (fun _ _ x=>x)
 obtain⟨g',l',R',V'⟩:=h
 exact⟨V',B1Y hT l' R'⟩
theorem A7u(args ds:List WData):PySem.Challenge.rw_wy0047_01.row.claim.post args (.bool true) ds=true:=by kernel_rfl
theorem B1a{p:Program}{K:Frag}{x:Str}{c P:Addr}(T0:Top p loose mean mg mb h)(X:K.In h)(hr:((recsOf p).find? (fun e=>e.name==x)).isSome=true)(ht:tabIn K x=some (c,P)):
  CodeHd h c P∧h.get? P=some (tabObj #[]):=let ⟨_,hd⟩:=Option.isSome_iff_exists.mp hr;tab_of T0 X hd ht
namespace top
theorem tw16541100652227675460:0=0:=rfl
theorem tw3844969445664438809:0=0:=rfl
theorem tw12772138429114895339:0=0:=rfl
theorem tw12919139452986664082:0=0:=rfl
theorem tw7740461459972228597:0=0:=rfl
theorem tw8645369167282567922:0=0:=rfl
theorem tw16840627104734473223:0=0:=rfl
theorem tw2464713573024523455:0=0:=rfl
theorem tw18086089286151905521:0=0:=rfl
theorem tw5405092056839124451:0=0:=rfl
theorem tw12216630987165489725:0=0:=rfl
theorem tw832561496525075734:0=0:=rfl
theorem tw13664746368384525793:0=0:=rfl
theorem tw7557910624720293991:0=0:=rfl
theorem tw16900427199656544559:0=0:=rfl
theorem tw10187264123177260123:0=0:=rfl
theorem tw14851680436948445374:0=0:=rfl
theorem tw16058212318047004132:0=0:=rfl
theorem tw16782997733028217545:0=0:=rfl
theorem tw11459358961799972967:0=0:=rfl
theorem tw11430207588045935325:0=0:=rfl
theorem tw15646934709686841381:0=0:=rfl
theorem tw9800703332001039478:0=0:=rfl
theorem tw17492772389151264855:0=0:=rfl
theorem tw5766051744304087583:0=0:=rfl
theorem tw4166218997396506358:0=0:=rfl
theorem tw10567129059001840431:0=0:=rfl
theorem tw8507776931139520737:0=0:=rfl
theorem tw10090393231696489298:0=0:=rfl
theorem tw10996937224433265937:0=0:=rfl
theorem tw16439428074185983240:0=0:=rfl
theorem tw1245559373397905713:0=0:=rfl
theorem tw2732273902793177162:0=0:=rfl
theorem tw5476889619067714990:0=0:=rfl
theorem tw13369591340354186047:0=0:=rfl
theorem tw11334415319851112604:0=0:=rfl
theorem tw8813761850579938390:0=0:=rfl
theorem tw814325599930780420:0=0:=rfl
theorem tw14611434983143301774:0=0:=rfl
theorem tw2057334267981633021:0=0:=rfl
theorem tw2287823674025257028:0=0:=rfl
theorem tw10005945817407372193:0=0:=rfl
theorem tw8598144960395782539:0=0:=rfl
theorem tw4655869559712951663:0=0:=rfl
theorem tw7458633546980236471:0=0:=rfl
theorem tw14901070454687303710:0=0:=rfl
theorem tw8735323631387419056:0=0:=rfl
theorem tw17810072253543177317:0=0:=rfl
theorem tw1047907039808853306:0=0:=rfl
theorem tw956942650209027819:0=0:=rfl
theorem tw72247145696351765:0=0:=rfl
theorem tw6491118196486620199:0=0:=rfl
theorem tw11613256710310857696:0=0:=rfl
theorem tw9631074621892390191:0=0:=rfl
theorem tw14823308797102314842:0=0:=rfl
theorem tw2782073688633401757:0=0:=rfl
theorem tw9305691244287143441:0=0:=rfl
theorem tw6756868429301003459:0=0:=rfl
theorem tw908825868028484722:0=0:=rfl
theorem tw9378254376102152143:0=0:=rfl
theorem tw15169761463676818070:0=0:=rfl
theorem tw16204670001084760307:0=0:=rfl
theorem tw8143265674769528471:0=0:=rfl
theorem tw6812286434817487243:0=0:=rfl
theorem tw8640399195822439974:0=0:=rfl
theorem tw5303079699428457377:0=0:=rfl
theorem tw13091174067606910046:0=0:=rfl
theorem tw17886615442053742456:0=0:=rfl
theorem tw5105846836358774362:0=0:=rfl
theorem tw2835187731363253809:0=0:=rfl
theorem tw864819663365544661:0=0:=rfl
theorem tw8689318265317240412:0=0:=rfl
theorem tw14987219478266130788:0=0:=rfl
theorem tw14861896470697024400:0=0:=rfl
theorem tw13120753694373217308:0=0:=rfl
theorem tw13359135706311490777:0=0:=rfl
theorem tw17177869089781658578:0=0:=rfl
theorem tw9063741608606530840:0=0:=rfl
theorem tw14917401599646851644:0=0:=rfl
theorem tw15860264024139754761:0=0:=rfl
theorem tw10773188271377071773:0=0:=rfl
theorem tw5118827330378232414:0=0:=rfl
theorem tw788273225186049534:0=0:=rfl
theorem tw14349089067433371257:0=0:=rfl
theorem tw1732150942055357024:0=0:=rfl
theorem tw2731995056826638727:0=0:=rfl
theorem tw10404823597219466188:0=0:=rfl
theorem tw9229161468869434483:0=0:=rfl
theorem tw8810280945414196856:0=0:=rfl
theorem tw15240379268576122478:0=0:=rfl
theorem tw1886144042066472794:0=0:=rfl
theorem tw12819366960792805191:0=0:=rfl
theorem tw5088376156974544275:0=0:=rfl
theorem tw13160728816969591200:0=0:=rfl
theorem tw13303987763403120937:0=0:=rfl
theorem tw1149218181149386328:0=0:=rfl
theorem tw2985252069258134486:0=0:=rfl
theorem tw1814787853859245837:0=0:=rfl
theorem tw10617020205504526918:0=0:=rfl
theorem tw1492452104121835379:0=0:=rfl
theorem tw4551080515912023512:0=0:=rfl
theorem tw16420938139371093754:0=0:=rfl
theorem tw1869187583165140508:0=0:=rfl
theorem tw14608685727046917156:0=0:=rfl
theorem tw6898770573198911631:0=0:=rfl
theorem tw81815255157605957:0=0:=rfl
theorem tw7847650389618582240:0=0:=rfl
theorem tw11858546649754279707:0=0:=rfl
theorem tw6187478851450931391:0=0:=rfl
theorem tw15177526630643400193:0=0:=rfl
theorem tw7990429038631628895:0=0:=rfl
theorem tw2822501910515967889:0=0:=rfl
theorem tw5868845118606482295:0=0:=rfl
theorem tw16273406610938067001:0=0:=rfl
theorem tw15362295582089109014:0=0:=rfl
theorem tw6286779285267259847:0=0:=rfl
theorem tw4213018616267185653:0=0:=rfl
theorem tw12540527436937284434:0=0:=rfl
theorem tw3969286963782609292:0=0:=rfl
theorem tw7297446738713254254:0=0:=rfl
theorem tw14502225709538309166:0=0:=rfl
theorem tw16759092144687519636:0=0:=rfl
theorem tw4671429814451907529:0=0:=rfl
theorem tw8363718466572441477:0=0:=rfl
theorem tw5523086135645875356:0=0:=rfl
theorem tw17555251805378815213:0=0:=rfl
theorem tw18164388396756303480:0=0:=rfl
theorem tw427269002284569659:0=0:=rfl
theorem tw17486766287000646611:0=0:=rfl
theorem tw15878805988109762761:0=0:=rfl
theorem tw575894324575664597:0=0:=rfl
theorem tw4498253355057717688:0=0:=rfl
theorem tw705360758644809490:0=0:=rfl
theorem tw4186445540838780016:0=0:=rfl
theorem tw2249405535684624136:0=0:=rfl
theorem tw11279390925490393535:0=0:=rfl
theorem tw342308947776675178:0=0:=rfl
theorem tw2514443458684651071:0=0:=rfl
theorem tw12342655685612074800:0=0:=rfl
theorem tw2924597203103170677:0=0:=rfl
theorem tw2867133514656366558:0=0:=rfl
theorem tw6431110157172167083:0=0:=rfl
theorem tw517144808224063464:0=0:=rfl
theorem tw3776753064480771068:0=0:=rfl
theorem tw3730354652608582461:0=0:=rfl
theorem tw9059672392935016618:0=0:=rfl
theorem tw3195968871104189447:0=0:=rfl
theorem tw14459580976405569124:0=0:=rfl
theorem tw7855079511596107753:0=0:=rfl
theorem tw18186074749648716422:0=0:=rfl
theorem tw9759319705405543751:0=0:=rfl
theorem tw8538268897159353584:0=0:=rfl
theorem tw18034075008235765660:0=0:=rfl
theorem tw1195175773429642966:0=0:=rfl
theorem tw1284575025550258836:0=0:=rfl
theorem tw13928562000808390012:0=0:=rfl
theorem tw105208000716104510:0=0:=rfl
theorem tw14826035006057030972:0=0:=rfl
theorem tw16155163154822807229:0=0:=rfl
theorem tw13264354339760550358:0=0:=rfl
theorem tw453181688931711583:0=0:=rfl
theorem tw11133666699803404755:0=0:=rfl
theorem tw2741389259953327712:0=0:=rfl
theorem tw5058314954733539658:0=0:=rfl
theorem tw775762912060472103:0=0:=rfl
theorem tw8345894832289464959:0=0:=rfl
theorem tw8892184565913893157:0=0:=rfl
theorem tw16352630495959832749:0=0:=rfl
theorem tw8443935842833279946:0=0:=rfl
theorem tw6749217079512962374:0=0:=rfl
theorem tw2812155379371279736:0=0:=rfl
theorem tw12643491718579748851:0=0:=rfl
theorem tw17470836177267949868:0=0:=rfl
theorem tw12012865196380796599:0=0:=rfl
theorem tw4656485037274611717:0=0:=rfl
theorem tw13272337422414781067:0=0:=rfl
theorem tw14796646475526232899:0=0:=rfl
theorem tw1275901062530889299:0=0:=rfl
theorem tw795583310449317561:0=0:=rfl
theorem tw12385144161495827662:0=0:=rfl
theorem tw6520327441239513222:0=0:=rfl
theorem tw16885616592811714743:0=0:=rfl
theorem tw6883741973766446791:0=0:=rfl
theorem tw5225153198818245361:0=0:=rfl
theorem tw987869383939708018:0=0:=rfl
theorem tw15299407806266782574:0=0:=rfl
theorem tw12622177474791663080:0=0:=rfl
theorem tw10648311167861321448:0=0:=rfl
theorem tw14372152842798730730:0=0:=rfl
theorem tw14402358008270493973:0=0:=rfl
theorem tw16123964013534891561:0=0:=rfl
theorem tw1516213087968936877:0=0:=rfl
theorem tw7527032243904285869:0=0:=rfl
theorem tw18008055252877512497:0=0:=rfl
theorem tw6370870915552960936:0=0:=rfl
theorem tw2462062305354472974:0=0:=rfl
theorem tw16196420915677631385:0=0:=rfl
theorem tw15569959144833144457:0=0:=rfl
theorem tw5244899138074338376:0=0:=rfl
theorem tw10936122117785486979:0=0:=rfl
theorem tw2617719716777270872:0=0:=rfl
theorem tw6333448901615975916:0=0:=rfl
theorem tw6859976401760118174:0=0:=rfl
theorem tw12318557346453588183:0=0:=rfl
theorem tw11423202765487971197:0=0:=rfl
theorem tw12392516345856041104:0=0:=rfl
theorem tw7414872774492366064:0=0:=rfl
theorem tw8265191368974092141:0=0:=rfl
theorem tw216529984938456764:0=0:=rfl
theorem tw11960245374511038805:0=0:=rfl
theorem tw6664487174759623829:0=0:=rfl
theorem tw4205137553216949640:0=0:=rfl
theorem tw7673058066778466091:0=0:=rfl
theorem tw2555065506035805374:0=0:=rfl
theorem tw12535971307161669396:0=0:=rfl
theorem tw10006222313960134694:0=0:=rfl
theorem tw1483126911874232274:0=0:=rfl
theorem tw370947364307004932:0=0:=rfl
theorem tw14390669486469195807:0=0:=rfl
theorem tw5581607755468803823:0=0:=rfl
theorem tw4321519831107876412:0=0:=rfl
theorem tw17315540178315561739:0=0:=rfl
theorem tw12425085872883035938:0=0:=rfl
theorem tw12094960947251128927:0=0:=rfl
theorem tw15058813355848621054:0=0:=rfl
theorem tw17323899518341599180:0=0:=rfl
theorem tw9059832203979395877:0=0:=rfl
theorem tw708234853630380328:0=0:=rfl
theorem tw4299629679881509495:0=0:=rfl
theorem tw2126296398998916975:0=0:=rfl
theorem tw6127594578889010139:0=0:=rfl
theorem tw10448899703829047738:0=0:=rfl
theorem tw7008692893051332821:0=0:=rfl
theorem tw8184561461823581802:0=0:=rfl
theorem tw8435561252592420358:0=0:=rfl
theorem tw6919701780365589675:0=0:=rfl
theorem tw9108098604805947806:0=0:=rfl
theorem tw3561193834555079511:0=0:=rfl
theorem tw13345470168829271861:0=0:=rfl
theorem tw390997316461189296:0=0:=rfl
theorem tw728428047077509346:0=0:=rfl
theorem tw12483720753089274532:0=0:=rfl
theorem tw4159251561096739476:0=0:=rfl
theorem tw15503665604740900718:0=0:=rfl
theorem tw11334350811105764591:0=0:=rfl
theorem tw12958502747184954254:0=0:=rfl
theorem tw1400011881503588481:0=0:=rfl
theorem tw5969682004907312646:0=0:=rfl
theorem tw1212798325632107971:0=0:=rfl
theorem tw1676862907878916244:0=0:=rfl
theorem tw15985961358823992270:0=0:=rfl
theorem tw16580785732701462914:0=0:=rfl
theorem tw16325430554902658873:0=0:=rfl
theorem tw6240723676877644813:0=0:=rfl
theorem tw14282377253939248939:0=0:=rfl
theorem tw4713442408853163898:0=0:=rfl
theorem tw9614876229902214918:0=0:=rfl
theorem tw11762496359356365647:0=0:=rfl
theorem tw16044733080236030384:0=0:=rfl
theorem tw9503340733035011235:0=0:=rfl
theorem tw12376051458212225564:0=0:=rfl
theorem tw13370750898655102155:0=0:=rfl
theorem tw9259421805112917234:0=0:=rfl
theorem tw9382581127745807760:0=0:=rfl
theorem tw5889316905344633881:0=0:=rfl
theorem tw13501252493785611398:0=0:=rfl
theorem tw11922380849998532372:0=0:=rfl
theorem tw339143206060000330:0=0:=rfl
theorem tw4047667213573674445:0=0:=rfl
theorem tw6885214360128481674:0=0:=rfl
theorem tw12317137736924338119:0=0:=rfl
theorem tw14168018189251442112:0=0:=rfl
theorem tw6694047246710070196:0=0:=rfl
theorem tw13177472732611162249:0=0:=rfl
theorem tw2443449257678562572:0=0:=rfl
theorem tw7429413206186439793:0=0:=rfl
theorem tw9335426496214029073:0=0:=rfl
theorem tw4859757453598101857:0=0:=rfl
theorem tw13889484949932952446:0=0:=rfl
theorem tw14789260269991461300:0=0:=rfl
theorem tw2145171640123136144:0=0:=rfl
theorem tw14371913498598963198:0=0:=rfl
theorem tw15092371282622821202:0=0:=rfl
theorem tw12787338502077490372:0=0:=rfl
theorem tw13889309363888878346:0=0:=rfl
theorem tw10915162052029792233:0=0:=rfl
theorem tw860223938195835975:0=0:=rfl
theorem tw18085771088847121727:0=0:=rfl
theorem tw17428532607074087071:0=0:=rfl
theorem tw13822267516522204269:0=0:=rfl
theorem tw5278709424875269971:0=0:=rfl
theorem tw17565814175750979855:0=0:=rfl
theorem tw1088946173253831356:0=0:=rfl
theorem tw2369445192022557226:0=0:=rfl
theorem tw13896958669275611876:0=0:=rfl
theorem tw6761616313442571491:0=0:=rfl
theorem tw17355269125676882429:0=0:=rfl
theorem tw14263998999751124003:0=0:=rfl
theorem tw3855276242980373810:0=0:=rfl
theorem tw1585457916280141200:0=0:=rfl
theorem tw8139039716903228087:0=0:=rfl
theorem tw15361541807878343388:0=0:=rfl
theorem tw10956490626425055710:0=0:=rfl
theorem tw8523463495250067690:0=0:=rfl
theorem tw877433047237710547:0=0:=rfl
theorem tw8679839319945467846:0=0:=rfl
theorem tw1142415686869020238:0=0:=rfl
theorem tw2988451766255067171:0=0:=rfl
theorem tw17469865338272021226:0=0:=rfl
theorem tw9768079942903668216:0=0:=rfl
theorem tw8107780213005350392:0=0:=rfl
theorem tw14142502885225118848:0=0:=rfl
theorem tw9961057766049560675:0=0:=rfl
theorem tw12718909917080609646:0=0:=rfl
theorem tw2581206410525282061:0=0:=rfl
theorem tw1617357707322924660:0=0:=rfl
theorem tw8204474986945543665:0=0:=rfl
theorem tw5225916559131626549:0=0:=rfl
theorem tw649594095290182367:0=0:=rfl
theorem tw887695700811335699:0=0:=rfl
theorem tw7198060816514059695:0=0:=rfl
theorem tw17046948494117081484:0=0:=rfl
theorem tw3422688185749166683:0=0:=rfl
theorem tw12166907935582030026:0=0:=rfl
theorem tw8410488445778877200:0=0:=rfl
theorem tw3337584539547039419:0=0:=rfl
theorem tw8694864300669457046:0=0:=rfl
theorem tw3474246075231452896:0=0:=rfl
theorem tw7743179893348639699:0=0:=rfl
theorem tw7444641836354208208:0=0:=rfl
theorem tw18063644159110109576:0=0:=rfl
theorem tw2665807947273092163:0=0:=rfl
theorem tw11203750815551599093:0=0:=rfl
theorem tw10008474027749305400:0=0:=rfl
theorem tw13044034144603486326:0=0:=rfl
theorem tw381845443943030031:0=0:=rfl
theorem tw12080426169559351053:0=0:=rfl
theorem tw4784893810139332661:0=0:=rfl
theorem tw2847958352784047137:0=0:=rfl
theorem tw17620759639134147866:0=0:=rfl
theorem tw18237780215024852062:0=0:=rfl
theorem tw5915399644114372684:0=0:=rfl
theorem tw13802547742096326172:0=0:=rfl
theorem tw8973803690348224638:0=0:=rfl
theorem tw7250933059871147345:0=0:=rfl
theorem tw8729362747519067210:0=0:=rfl
theorem tw4076138812419527698:0=0:=rfl
theorem tw501154541418245514:0=0:=rfl
theorem tw8622502720953521162:0=0:=rfl
theorem tw11845233108574324481:0=0:=rfl
theorem tw12105128591322288922:0=0:=rfl
theorem tw18245740138792012028:0=0:=rfl
theorem tw9951221954081769418:0=0:=rfl
theorem tw13090165191389475591:0=0:=rfl
theorem tw8140125068956082859:0=0:=rfl
theorem tw6930518751129746686:0=0:=rfl
theorem tw15877122091014420850:0=0:=rfl
theorem tw11141966352661209427:0=0:=rfl
theorem tw283044589724301:0=0:=rfl
theorem tw4940147422707163885:0=0:=rfl
theorem tw16821654228018055803:0=0:=rfl
theorem tw3584897518013459382:0=0:=rfl
theorem tw7715697345341360870:0=0:=rfl
theorem tw1706793611546318481:0=0:=rfl
theorem tw8237333600419904120:0=0:=rfl
theorem tw9962302188120564619:0=0:=rfl
theorem tw11199532085631943738:0=0:=rfl
theorem tw10548783162686979305:0=0:=rfl
theorem tw14632489290957082403:0=0:=rfl
theorem tw1638113669730673903:0=0:=rfl
theorem tw1040915598704419856:0=0:=rfl
theorem tw146815374380898660:0=0:=rfl
theorem tw16104615914030681952:0=0:=rfl
theorem tw6624316729101989866:0=0:=rfl
theorem tw15918733279669447828:0=0:=rfl
theorem tw6189502492464219833:0=0:=rfl
theorem tw14399976873020721970:0=0:=rfl
theorem tw9743097575036673082:0=0:=rfl
theorem tw9953747333497923681:0=0:=rfl
theorem tw16550210197400561554:0=0:=rfl
theorem tw5860347150701562758:0=0:=rfl
theorem tw6211089042160764376:0=0:=rfl
theorem tw13068111086705522682:0=0:=rfl
theorem tw10987319290404115282:0=0:=rfl
theorem tw8212240652046128837:0=0:=rfl
theorem tw14762295962024373759:0=0:=rfl
theorem tw14697636140705633519:0=0:=rfl
theorem tw12415523145999629524:0=0:=rfl
theorem tw4597200072644226624:0=0:=rfl
theorem tw6042063481754889096:0=0:=rfl
theorem tw6572447435987645144:0=0:=rfl
theorem tw10195997230039290492:0=0:=rfl
theorem tw10864713392326063847:0=0:=rfl
theorem tw15740088241188596515:0=0:=rfl
theorem tw7600245330811189008:0=0:=rfl
theorem tw3254097082911018636:0=0:=rfl
theorem tw13326734554550294991:0=0:=rfl
theorem tw16878204669230926818:0=0:=rfl
theorem tw10797620697341660853:0=0:=rfl
theorem tw53344730913325255:0=0:=rfl
theorem tw8657480035899644758:0=0:=rfl
theorem tw76412952228603488:0=0:=rfl
theorem tw9739860059890490050:0=0:=rfl
theorem tw16415559393655328363:0=0:=rfl
theorem tw7313339093194340965:0=0:=rfl
theorem tw12427389293880184781:0=0:=rfl
theorem tw6430265229019958763:0=0:=rfl
theorem tw13134186033006778460:0=0:=rfl
theorem tw16054190913257422852:0=0:=rfl
theorem tw8148004212497801138:0=0:=rfl
theorem tw10783980745131425670:0=0:=rfl
theorem tw594810645892935528:0=0:=rfl
theorem tw15254643099363442306:0=0:=rfl
theorem tw5938664839603501006:0=0:=rfl
theorem tw6176384092110617959:0=0:=rfl
theorem tw2758071753971750899:0=0:=rfl
theorem tw11240886729373846589:0=0:=rfl
theorem tw18289109515434150305:0=0:=rfl
theorem tw14747140909534839006:0=0:=rfl
theorem tw17219337458794519322:0=0:=rfl
theorem tw3712731000106771831:0=0:=rfl
theorem tw16597617366809209970:0=0:=rfl
theorem tw16453443671601555132:0=0:=rfl
theorem tw7386116660499605909:0=0:=rfl
theorem tw9843447840031818808:0=0:=rfl
theorem tw1108800333578037850:0=0:=rfl
theorem tw1068965626710143233:0=0:=rfl
theorem tw18177719399980262173:0=0:=rfl
theorem tw3315250197877816394:0=0:=rfl
theorem tw6487610083215253720:0=0:=rfl
theorem tw13799840507378627052:0=0:=rfl
theorem tw9195894827357321740:0=0:=rfl
theorem tw8472579005086612782:0=0:=rfl
theorem tw2220570432770164149:0=0:=rfl
theorem tw11334203419191126389:0=0:=rfl
theorem tw9919435345466941130:0=0:=rfl
theorem tw11443710868159068359:0=0:=rfl
theorem tw1601500998369573665:0=0:=rfl
theorem tw15286249088069653756:0=0:=rfl
theorem tw15245507539482535896:0=0:=rfl
theorem tw13983857475226248213:0=0:=rfl
theorem tw9589608677651300831:0=0:=rfl
theorem tw4835499133494076262:0=0:=rfl
theorem tw2506305409684761478:0=0:=rfl
theorem tw1833847959688406909:0=0:=rfl
theorem tw13710211086531791108:0=0:=rfl
theorem tw104434173382791472:0=0:=rfl
theorem tw6196800358849779857:0=0:=rfl
theorem tw7847352863974893604:0=0:=rfl
theorem tw11760055953109336660:0=0:=rfl
theorem tw4699463449715708850:0=0:=rfl
theorem tw14615657086365298920:0=0:=rfl
theorem tw9913501989792142831:0=0:=rfl
theorem tw4916261283513009128:0=0:=rfl
theorem tw10079171474624433434:0=0:=rfl
theorem tw3378803678994701225:0=0:=rfl
theorem tw4383139521930768336:0=0:=rfl
theorem tw3995942328266245912:0=0:=rfl
theorem tw12256363837256957063:0=0:=rfl
theorem tw3767615275625035234:0=0:=rfl
theorem tw5983031951866500094:0=0:=rfl
theorem tw17022078359063049780:0=0:=rfl
theorem tw12545222027267286695:0=0:=rfl
theorem tw14436450140739016385:0=0:=rfl
theorem tw11134705753038901807:0=0:=rfl
theorem tw12420483659475016413:0=0:=rfl
theorem tw17302914690377659996:0=0:=rfl
theorem tw13291821707692614196:0=0:=rfl
theorem tw5604026686304666287:0=0:=rfl
theorem tw11682991924649985610:0=0:=rfl
theorem tw15749434781750407773:0=0:=rfl
theorem tw18155606418883590854:0=0:=rfl
theorem tw15546104310672423266:0=0:=rfl
theorem tw10694089855656863109:0=0:=rfl
theorem tw11467158513710699916:0=0:=rfl
theorem tw16412336177067523977:0=0:=rfl
theorem tw11348917583287024722:0=0:=rfl
theorem tw6864213589057432999:0=0:=rfl
theorem tw17150878257433057509:0=0:=rfl
theorem tw2401553659131043665:0=0:=rfl
theorem tw8856117171736301535:0=0:=rfl
theorem tw14286098252468757816:0=0:=rfl
theorem tw8746712057465848211:0=0:=rfl
theorem tw14689303997561334279:0=0:=rfl
theorem tw16315627841946644802:0=0:=rfl
theorem tw2515962861023736851:0=0:=rfl
theorem tw4598128410516361432:0=0:=rfl
theorem tw677510077624354748:0=0:=rfl
theorem tw4025469624842517739:0=0:=rfl
theorem tw7531421383381892973:0=0:=rfl
theorem tw5572508421433193120:0=0:=rfl
theorem tw1936112683434802938:0=0:=rfl
theorem tw4381239804790494735:0=0:=rfl
theorem tw3739955167624937989:0=0:=rfl
theorem tw17850308014834455258:0=0:=rfl
theorem tw649111842878565636:0=0:=rfl
theorem tw18064794426631996164:0=0:=rfl
theorem tw6373312654440384964:0=0:=rfl
theorem tw2383210873844131868:0=0:=rfl
end top
set_option Elab.async true
set_option maxHeartbeats 8000000 in
theorem top:PySem.Challenge.rw_wy0047_01.Holds:=by
 w_on
 o_law
 k_head
 case hw=>w_witness2
 w_strict (
  k_fill
  intro w s₀ s₁ mg mb G Y fa o pm cd doc dV kV ho hd hcd hD hmg hg args vals as hpre hlay hrd hwl hlo
  have KX:=km_in_of Y
  km_tabs Y
  refine Ground.open G ?_
  intro T B D TE TW
  try (refine guard_noD D (by decide +kernel) ?_;clear D)
  km_lay T hmg ho hd cd
  have hac:=B1a (x:=PySem.Str.ofString "add_callers") (c:=287) (P:=283) T KX (by kernel_rfl) (by kernel_rfl)
  wrow_args hpre hlay hrd hwl hlo
  rename_i W1 _ _ _ hn _
  refine wpAny_mono (B6R T KX hT9 hac hg hmg W1 ?_ (by decide +kernel)) (fun v s' h => ?_) (fun _ _ x=>x.elim)
  ·omega
  ·obtain⟨rfl,h1,h2,h3⟩:=h
   exact⟨.inl ⟨_,.bool true,[],rfl,fun _=>rfl,.bool _,A7u _ _,fun q=>⟨List.nodup_nil,fun _ h=>nomatch h⟩⟩,h1,h2,h3⟩)
end Mine

theorem PySem.Challenge.cw_wy0047_01_holds : PySem.Challenge.rw_wy0047_01.Holds :=
  Mine.top
