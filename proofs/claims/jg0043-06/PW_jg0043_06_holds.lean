import PyProof.Rows.All
import Wide.All
import OpenK.AllK
import Wide.FinOn
import PySem.Eval
import KE.KNestM
import KE.KLam
import KE.KTryDeep
import PyProof.ExcArgs
import KE.KBoundM
import OpenK.KNot
import KE.KTryMore
import OpenK.KOwn
import PyProof.InstEq
import KE.KEqDict
import KE.KDictAny
import PyProof.Rows.RuleB_floordiv
import PyProof.Rows.RuleB_mod
import PyProof.Rows.RuleB_sub
import PyProof.Rows.RuleB_pow
import PyProof.Rows.ListMul
import PyProof.Rows.RuleN_abs
import PyProof.CollectIter
import PyProof.TupleIter
import PyProof.RangeIter
import PyProof.Seq
import PyProof.Rows.Exc
import PyProof.Rows.FactsExc_KeyError
import PyProof.Rows.FactsExc_ValueError
import PyProof.Rows.FactsExc_TypeError
import PyProof.RangeFor
import PyProof.CallStr
import PyProof.Conv_bool
import PyProof.IsiPairs
import KE.KDictOf
import KE.KListMore
import KE.KDictAnyGet
import PyProof.Rows.SortShell
import PyProof.Rows.CallKwBuiltin
import KE.KSortKey
import PyProof.Rows.SortKeyStr
import PyProof.Rows.SortRunsK
import PyProof.EqAt
import KE.KItem
import PyProof.ForAny
import PyProof.AutoIntOps
import PyProof.RulesAssignMore
import PyProof.RulesAs
import PyProof.RulesFinally
import PyProof.NsDelKeeps
import PyProof.SliceMore
import KE.KDictNew
import PyProof.CompFree
import PyProof.WalksMore
import PyProof.Rows.ConstEval
import PySem.Challenge.RW_jg0043_06
set_option genSizeOf false
set_option genInjectivity false
set_option Elab.async false
set_option maxRecDepth 100000
set_option linter.unusedVariables false
set_option linter.unusedSimpArgs false
section
namespace Mn
open PySem (Str)
theorem Yb {a b:Bool}:(a&&b)=true→a=true∧b=true:=Bool.and_eq_true_iff.mp
theorem Yn {n m:Nat}:Nat.beq n m=true→n=m:=Nat.eq_of_beq_eq_true
noncomputable def encL (l:List Nat):Nat:=l.foldl (fun a c=>a * 256 + c) 0
noncomputable def enc (s:Str):Nat:=encL s.cps.toList
noncomputable def gdL (l:List Nat):Bool:=l.all fun c=>Nat.blt 0 c&&Nat.blt c 128
noncomputable def gd (x:Str):Bool:=gdL x.cps.toList
inductive V where
 | none | bool (b:Bool) | int (i:Int) | sint (k:Nat) | str (s:Nat) | sv (k:Nat) | unk (k:Nat)
 | tup (vs:List V) | ref (a:Nat) | top (a:Nat) | bi (n:Nat) | rng (n:Nat) | other
 | fr (k:Nat) (ks:List Nat) (vs:List V)   -- an object that stays as it is: 0 a list,1 a dict,2 a dict that begins with what is told,k + 3 an instance of the class k
structure FP where
 line:Nat
 col:Nat
 ps:List Nat
 d:List V
 cs:List Nat
 fr:List Nat
inductive E where
 | k (t n:Nat) | c (v:V) | u (t n:Nat) (a:E) | b (t n:Nat) (x y:E) | t (t n:Nat) (x y z:E) | q (t n:Nat) (w x y z:E) | f (p:FP) (b:E)
noncomputable abbrev Lo:=List (Nat × V)
noncomputable abbrev Cs:=List (Nat × Nat)
inductive O where
 | inst (cls:Nat) (f:Lo)
 | exc (cls:Nat) (tb:Bool) (f:Lo)      -- an error; tb: it has been on its way before
 | list (xs:List V)
 | elist (pk:Nat) (xs:List V)            -- a list that begins with more
 | dict (es:Lo)                            -- the keys are texts
 | cell (v:Option V)
 | clos (fn:E) (cells:Cs)
 | abs (k:Nat)
 | pmap (k:Nat) (es:Lo)                   -- a dict of small numbers that is not known; what is known of it
 | gdict (es:Lo)                            -- a dict of numbers that begins with what is told
inductive BT (α : Type) where
 | nil | node (v:Option α) (l r:BT α)
namespace BT
variable {α : Type}
noncomputable def get (t:BT α):Nat→Option α:=
 @BT.rec α (fun _=>Nat→Option α) (fun _=>none)
  (fun v _ _ ihl ihr i=>@Bool.rec (fun _=>Option α) (@Bool.rec (fun _=>Option α) (ihr (Nat.sub (Nat.div i 2) 1)) (ihl (Nat.div i 2)) (Nat.beq (Nat.mod i 2) 1)) v (Nat.beq i 0)) t
noncomputable def put (n:Nat):BT α→Nat→α→BT α:=
 @Nat.rec (fun _=>BT α→Nat→α→BT α) (fun t _ _=>t)
  (fun _ ih t i o=>@BT.rec α (fun _=>BT α)
   (@Bool.rec (fun _=>BT α) (@Bool.rec (fun _=>BT α) (.node none .nil (ih .nil (Nat.sub (Nat.div i 2) 1) o)) (.node none (ih .nil (Nat.div i 2) o) .nil) (Nat.beq (Nat.mod i 2) 1)) (.node (some o) .nil .nil) (Nat.beq i 0))
   (fun v l r _ _=>@Bool.rec (fun _=>BT α) (@Bool.rec (fun _=>BT α) (.node v l (ih r (Nat.sub (Nat.div i 2) 1) o)) (.node v (ih l (Nat.div i 2) o) r) (Nat.beq (Nat.mod i 2) 1)) (.node (some o) l r) (Nat.beq i 0)) t) n
noncomputable def del (n:Nat):BT α→Nat→BT α:=
 @Nat.rec (fun _=>BT α→Nat→BT α) (fun t _=>t)
  (fun _ ih t i=>@BT.rec α (fun _=>BT α) .nil
   (fun v l r _ _=>@Bool.rec (fun _=>BT α) (@Bool.rec (fun _=>BT α) (.node v l (ih r (Nat.sub (Nat.div i 2) 1))) (.node v (ih l (Nat.div i 2)) r) (Nat.beq (Nat.mod i 2) 1)) (.node none l r) (Nat.beq i 0)) t) n
end BT
noncomputable abbrev H:=BT O
noncomputable def look {α : Type} (l:List (Nat × α)) (n:Nat):Option α:=
 @List.rec (Nat × α) (fun _=>Option α) none (fun p _ ih=>@Bool.rec (fun _=>Option α) ih (some p.2) (Nat.beq p.1 n)) l
noncomputable def upd {α : Type} (l:List (Nat × α)) (n:Nat) (v : α):List (Nat × α):=
 @List.rec (Nat × α) (fun _=>List (Nat × α)) [(n,v)] (fun p t ih=>@Bool.rec (fun _=>List (Nat × α)) (p :: ih) ((p.1,v) :: t) (Nat.beq p.1 n)) l
noncomputable def mem (l:List Nat) (n:Nat):Bool:=
 @List.rec Nat (fun _=>Bool) false (fun k _ ih=>@Bool.rec (fun _=>Bool) ih true (Nat.beq k n)) l
noncomputable def del {α : Type} (l:List (Nat × α)) (n:Nat):List (Nat × α):=
 @List.rec (Nat × α) (fun _=>List (Nat × α)) [] (fun p _ ih=>@Bool.rec (fun _=>List (Nat × α)) (p :: ih) ih (Nat.beq p.1 n)) l
inductive CA where | no | oi | fn (a:Nat) | val (v:V) | pr (a:Nat) | st (a:Nat)
structure ClsI where
 ok:Bool              -- instances are plain: made,read and stored to in the usual way
 xk:Nat               -- an error's class: 1 an own one without __init__,2 an own one with an __init__ of its own; 0 no
 exc:Bool             -- an error's class that may be matched
 mro:List Nat         -- the numbers of the classes above it,itself among them
 cmp:Bool             -- its instances are compared by identity
 attrs:List (Nat × CA)
structure Prg where
 fns:BT E
 clss:BT ClsI
 globs:List (Nat × V)
 mks:List Nat           -- the functions whose texts make functions
 defs:List (Nat × Nat × Nat)   -- the defs within functions: line,column,name
noncomputable abbrev nX:Nat:=1048576
noncomputable section
noncomputable def cN (c:Nat):Nat:=Nat.mod c nX
noncomputable def og {α : Type} (x:Option α) (k : α→Bool):Bool:=@Option.rec α (fun _=>Bool) false k x
noncomputable def at1 {α : Type} (i:Nat) (a z : α) (t:Nat) : α:=@Bool.rec (fun _=>α) z a (Nat.beq t i)
noncomputable def at2 {α : Type} (i:Nat) (a b z : α) (t:Nat) : α:=@Bool.rec (fun _=>α) (@Bool.rec (fun _=>α) z b (Nat.beq t (i + 1))) a (Nat.beq t i)
noncomputable def at3 {α : Type} (i:Nat) (a b c z : α) (t:Nat) : α:=@Bool.rec (fun _=>α) (@Bool.rec (fun _=>α) (@Bool.rec (fun _=>α) z c (Nat.beq t (i + 2))) b (Nat.beq t (i + 1))) a (Nat.beq t i)
noncomputable def sel4 {α : Type} (a b c d z : α) (t:Nat) : α:=@Bool.rec (fun _=>α) (@Bool.rec (fun _=>α) (@Bool.rec (fun _=>α) z d (Nat.beq t 3)) c (Nat.beq t 2)) (@Bool.rec (fun _=>α) b a (Nat.beq t 0)) (Nat.ble t 1)
noncomputable def sel7 {α : Type} (a b c d e f g z : α) (t:Nat) : α:=@Bool.rec (fun _=>α) (@Bool.rec (fun _=>α) (@Bool.rec (fun _=>α) (@Bool.rec (fun _=>α) z g (Nat.beq t 6)) f (Nat.beq t 5)) e (Nat.beq t 4))
 (@Bool.rec (fun _=>α) (@Bool.rec (fun _=>α) d c (Nat.beq t 2)) (@Bool.rec (fun _=>α) b a (Nat.beq t 0)) (Nat.ble t 1)) (Nat.ble t 3)
noncomputable def ZcI {α : Type} (d : α) (l:List α):Nat→α:=@List.rec α (fun _=>Nat→α) (fun _=>d) (fun x _ ih i=>@Nat.rec (fun _=>α) x (fun j _=>ih j) i) l
structure Hd where
 cs:Cs
 hd:Option Nat         -- the error being handled
 ora:List (Nat × Nat × Int × V)
 mkr:Bool              -- the frame's text makes functions
noncomputable abbrev KS:=H→Nat→Lo→Bool
noncomputable abbrev KA:=V→H→Nat→Bool
noncomputable abbrev KX:=Nat→H→Nat→Bool
structure Rec where
 fu:Nat               -- how deep it may still go
 ev:E→Hd→H→Nat→Lo→(V→KS)→(Nat→KS)→Bool
 tst:E→Hd→H→Nat→Lo→(Bool→KS)→(Nat→KS)→Bool
 ex:E→Hd→H→Nat→Lo→KS→KS→KS→(V→KS)→(Nat→KS)→Bool
 app:V→List V→List (Nat × V)→Hd→H→Nat→KA→KX→Bool
 asg:E→V→Hd→H→Nat→Lo→KS→(Nat→KS)→Bool
 loop:E→V→Nat→E→Hd→H→Nat→Lo→KS→(V→KS)→(Nat→KS)→Bool
 cloop:E→V→Nat→E→E→Nat→Hd→H→Nat→Lo→KS→(Nat→KS)→Bool
 hand:Nat→E→Hd→H→Nat→Lo→KS→KS→KS→(V→KS)→(Nat→KS)→Bool
noncomputable def selE {R:Type} (e:E) (d:R) (kk:Nat→R) (kb:Nat→Nat→E→E→R):R:=
 @E.rec (fun _=>R) (fun t _=>kk t) (fun _=>d) (fun _ _ _ _=>d) (fun t n x y _ _=>kb t n x y) (fun _ _ _ _ _ _ _ _=>d) (fun _ _ _ _ _ _ _ _ _ _=>d) (fun _ _ _=>d) e
noncomputable def ZaR (e:E):Bool:=selE e false (fun t=>Nat.beq t 6) (fun _ _ _ _=>false)
noncomputable def selT {R:Type} (e:E) (d:R) (kk:Nat→R) (kt:Nat→Nat→E→E→E→R):R:=
 @E.rec (fun _=>R) (fun t _=>kk t) (fun _=>d) (fun _ _ _ _=>d) (fun _ _ _ _ _ _=>d) (fun t n x y z _ _ _=>kt t n x y z) (fun _ _ _ _ _ _ _ _ _ _=>d) (fun _ _ _=>d) e
noncomputable def selF {R:Type} (e:E) (d:R) (kf:FP→E→R):R:=
 @E.rec (fun _=>R) (fun _ _=>d) (fun _=>d) (fun _ _ _ _=>d) (fun _ _ _ _ _ _=>d) (fun _ _ _ _ _ _ _ _=>d) (fun _ _ _ _ _ _ _ _ _ _=>d) (fun p b _=>kf p b) e
noncomputable def vRef (v:V):Option Nat:=
 @V.rec (fun _=>Option Nat) (fun _=>Unit) none (fun _=>none) (fun _=>none) (fun _=>none) (fun _=>none) (fun _=>none) (fun _=>none) (fun _ _=>none) some (fun _=>none) (fun _=>none) (fun _=>none) none (fun _ _ _ _=>none) () (fun _ _ _ _=>()) v
noncomputable def vStr (v:V):Option Nat:=
 @V.rec (fun _=>Option Nat) (fun _=>Unit) none (fun _=>none) (fun _=>none) (fun _=>none) some (fun _=>none) (fun _=>none) (fun _ _=>none) (fun _=>none) (fun _=>none) (fun _=>none) (fun _=>none) none (fun _ _ _ _=>none) () (fun _ _ _ _=>()) v
noncomputable def vInt (v:V):Option Int:=
 @V.rec (fun _=>Option Int) (fun _=>Unit) none (fun _=>none) some (fun _=>none) (fun _=>none) (fun _=>none) (fun _=>none) (fun _ _=>none) (fun _=>none) (fun _=>none) (fun _=>none) (fun _=>none) none (fun _ _ _ _=>none) () (fun _ _ _ _=>()) v
noncomputable def Z8 (v:V):Option Nat:=
 @V.rec (fun _=>Option Nat) (fun _=>Unit) none (fun _=>none) (fun _=>none) some (fun _=>none) (fun _=>none) (fun _=>none) (fun _ _=>none) (fun _=>none) (fun _=>none) (fun _=>none) (fun _=>none) none (fun _ _ _ _=>none) () (fun _ _ _ _=>()) v
noncomputable def vTup (v:V):Option (List V):=
 @V.rec (fun _=>Option (List V)) (fun _=>Unit) none (fun _=>none) (fun _=>none) (fun _=>none) (fun _=>none) (fun _=>none) (fun _=>none) (fun vs _=>some vs) (fun _=>none) (fun _=>none) (fun _=>none) (fun _=>none) none (fun _ _ _ _=>none) () (fun _ _ _ _=>()) v
noncomputable def vTop (v:V):Option Nat:=
 @V.rec (fun _=>Option Nat) (fun _=>Unit) none (fun _=>none) (fun _=>none) (fun _=>none) (fun _=>none) (fun _=>none) (fun _=>none) (fun _ _=>none) (fun _=>none) some (fun _=>none) (fun _=>none) none (fun _ _ _ _=>none) () (fun _ _ _ _=>()) v
noncomputable def vBi (v:V):Option Nat:=
 @V.rec (fun _=>Option Nat) (fun _=>Unit) none (fun _=>none) (fun _=>none) (fun _=>none) (fun _=>none) (fun _=>none) (fun _=>none) (fun _ _=>none) (fun _=>none) (fun _=>none) some (fun _=>none) none (fun _ _ _ _=>none) () (fun _ _ _ _=>()) v
noncomputable def vUnk (v:V):Option Nat:=
 @V.rec (fun _=>Option Nat) (fun _=>Unit) none (fun _=>none) (fun _=>none) (fun _=>none) (fun _=>none) (fun _=>none) some (fun _ _=>none) (fun _=>none) (fun _=>none) (fun _=>none) (fun _=>none) none (fun _ _ _ _=>none) () (fun _ _ _ _=>()) v
noncomputable def ZS (v:V):Bool:=
 @V.rec (fun _=>Bool) (fun _=>Unit) true (fun _=>false) (fun _=>false) (fun _=>false) (fun _=>false) (fun _=>false) (fun _=>false) (fun _ _=>false) (fun _=>false) (fun _=>false) (fun _=>false) (fun _=>false) false (fun _ _ _ _=>false) () (fun _ _ _ _=>()) v
noncomputable def vFr (v:V):Option (Nat × List Nat × List V):=
 @V.rec (fun _=>Option (Nat × List Nat × List V)) (fun _=>Unit) none (fun _=>none) (fun _=>none) (fun _=>none) (fun _=>none) (fun _=>none) (fun _=>none) (fun _ _=>none) (fun _=>none) (fun _=>none) (fun _=>none) (fun _=>none) none (fun k ks vs _=>some (k,ks,vs)) () (fun _ _ _ _=>()) v
noncomputable def selV {R:Type} (v:V) (d:R) (kz:R) (kb:Bool→R) (ki:Int→R) (kr:Nat→R):R:=
 @V.rec (fun _=>R) (fun _=>Unit) kz kb ki (fun _=>d) (fun _=>d) (fun _=>d) (fun _=>d) (fun _ _=>d) kr (fun _=>d) (fun _=>d) (fun _=>d) d (fun _ _ _ _=>d) () (fun _ _ _ _=>()) v
noncomputable def Zgj (o:O):Option (Nat × Lo):=@O.rec (fun _=>Option (Nat × Lo)) (fun c f=>some (c,f)) (fun _ _ _=>none) (fun _=>none) (fun _ _=>none) (fun _=>none) (fun _=>none) (fun _ _=>none) (fun _=>none) (fun _ _=>none) (fun _=>none) o
noncomputable def oExc (o:O):Option (Nat × Bool × Lo):=@O.rec (fun _=>Option (Nat × Bool × Lo)) (fun _ _=>none) (fun c t f=>some (c,t,f)) (fun _=>none) (fun _ _=>none) (fun _=>none) (fun _=>none) (fun _ _=>none) (fun _=>none) (fun _ _=>none) (fun _=>none) o
noncomputable def ZcJ (o:O):Option (List V):=@O.rec (fun _=>Option (List V)) (fun _ _=>none) (fun _ _ _=>none) some (fun _ _=>none) (fun _=>none) (fun _=>none) (fun _ _=>none) (fun _=>none) (fun _ _=>none) (fun _=>none) o
noncomputable def ZeK (o:O):Option Lo:=@O.rec (fun _=>Option Lo) (fun _ _=>none) (fun _ _ _=>none) (fun _=>none) (fun _ _=>none) some (fun _=>none) (fun _ _=>none) (fun _=>none) (fun _ _=>none) (fun _=>none) o
noncomputable def Zgk (o:O):Option (Option V):=@O.rec (fun _=>Option (Option V)) (fun _ _=>none) (fun _ _ _=>none) (fun _=>none) (fun _ _=>none) (fun _=>none) some (fun _ _=>none) (fun _=>none) (fun _ _=>none) (fun _=>none) o
noncomputable def Zgl (o:O):Option (E × Cs):=@O.rec (fun _=>Option (E × Cs)) (fun _ _=>none) (fun _ _ _=>none) (fun _=>none) (fun _ _=>none) (fun _=>none) (fun _=>none) (fun f cl=>some (f,cl)) (fun _=>none) (fun _ _=>none) (fun _=>none) o
noncomputable def ZY (o:O):Option (Nat × List V):=@O.rec (fun _=>Option (Nat × List V)) (fun _ _=>none) (fun _ _ _=>none) (fun _=>none) (fun k l=>some (k,l)) (fun _=>none) (fun _=>none) (fun _ _=>none) (fun _=>none) (fun _ _=>none) (fun _=>none) o
noncomputable def oAbs (o:O):Option Nat:=@O.rec (fun _=>Option Nat) (fun _ _=>none) (fun _ _ _=>none) (fun _=>none) (fun _ _=>none) (fun _=>none) (fun _=>none) (fun _ _=>none) some (fun _ _=>none) (fun _=>none) o
noncomputable def ZcK (o:O):Option (Nat × Lo):=@O.rec (fun _=>Option (Nat × Lo)) (fun _ _=>none) (fun _ _ _=>none) (fun _=>none) (fun _ _=>none) (fun _=>none) (fun _=>none) (fun _ _=>none) (fun _=>none) (fun k l=>some (k,l)) (fun _=>none) o
noncomputable def Zg7 (o:O):Option Lo:=@O.rec (fun _=>Option Lo) (fun _ _=>none) (fun _ _ _=>none) (fun _=>none) (fun _ _=>none) (fun _=>none) (fun _=>none) (fun _ _=>none) (fun _=>none) (fun _ _=>none) some o
noncomputable def selO {R:Type} (o:O) (d:R) (ki:Nat→Lo→R) (kx:Nat→Lo→R) (kl:List V→R) (ke:Nat→List V→R) (kd:Lo→R):R:=
 @O.rec (fun _=>R) ki (fun c _ f=>kx c f) kl ke kd (fun _=>d) (fun _ _=>d) (fun _=>d) (fun _ _=>d) (fun _=>d) o
noncomputable def onO {α : Type} (f:O→Option α) (h:H) (a:Nat):Option α:=@Option.rec O (fun _=>Option α) none f (h.get a)
noncomputable abbrev ZbE (h:H) (a:Nat):Option (Nat × Lo):=onO Zgj h a
noncomputable abbrev ZaJ (h:H) (a:Nat):Option (Nat × Bool × Lo):=onO oExc h a
noncomputable abbrev Zg (h:H) (a:Nat):Option (List V):=onO ZcJ h a
noncomputable abbrev Zag (h:H) (a:Nat):Option Lo:=onO ZeK h a
noncomputable abbrev Zbf (h:H) (a:Nat):Option (Option V):=onO Zgk h a
noncomputable abbrev ZbF (h:H) (a:Nat):Option (E × Cs):=onO Zgl h a
noncomputable abbrev ZcL (h:H) (a:Nat):Option (Nat × List V):=onO ZY h a
noncomputable abbrev ZlK (h:H) (a:Nat):Option Nat:=onO oAbs h a
noncomputable abbrev ZaO (h:H) (a:Nat):Option Lo:=onO Zg7 h a
noncomputable abbrev Zdt (h:H) (a:Nat):Option (Nat × Lo):=onO ZcK h a
noncomputable def ZaS {R:Type} (c:CA) (no oi:R) (fn:Nat→R) (val:V→R) (pr st:Nat→R):R:=@CA.rec (fun _=>R) no oi fn val pr st c
noncomputable def ZJ (P:Prg) (c n:Nat):Option CA:=@Option.rec ClsI (fun _=>Option CA) none (fun ci=>look ci.attrs n) (P.clss.get c)
noncomputable def caNo (c:CA):Bool:=ZaS c true false (fun _=>false) (fun _=>false) (fun _=>false) (fun _=>false)
noncomputable def caFn (c:CA):Option Nat:=ZaS c none none some (fun _=>none) (fun _=>none) (fun _=>none)
noncomputable def onC (P:Prg) (c:Nat) (f:ClsI→Bool):Bool:=og (P.clss.get c) f
noncomputable abbrev Zav (P:Prg) (c:Nat):Bool:=onC P c (·.ok)
noncomputable def hp (h:H) (a:Nat) (o:O):H:=h.put (Nat.succ a) a o
noncomputable def hdel (h:H) (a:Nat):H:=h.del (Nat.succ a) a
end
noncomputable section
noncomputable abbrev Zdu:Nat:=6872327479327219551
noncomputable abbrev nLen:Nat:=26845041950351199
noncomputable abbrev ZiW:Nat:=6872319787140931423
noncomputable abbrev Zal:Nat:=107135549927012
noncomputable abbrev Zdv:Nat:=427020345714
noncomputable abbrev ZeL:Nat:=1936683636
noncomputable abbrev nGet:Nat:=6776180
noncomputable abbrev nKey:Nat:=7038329
noncomputable def lenC (P:Prg) (r:Rec) (v:V) (c:Nat) (hd:Hd) (h:H) (nx:Nat) (k:Int→H→Nat→Bool):Bool:=og (ZJ P c nLen) fun ca=>og (caFn ca) fun g=>
 r.app (.top g) [v] [] hd h nx (fun x h nx=>og (vInt x) fun i=>bif decide (0≤i)&&decide (i < 1000000) then k i h nx else false) (fun _ _ _=>false)
noncomputable def Zg8 (P:Prg) (r:Rec) (v:V) (c:Nat) (hd:Hd) (h:H) (nx:Nat) (k:Bool→H→Nat→Bool):Bool:=bif Zav P c then og (ZJ P c ZiW) fun ca=>bif caNo ca then og (ZJ P c nLen) fun cl=>
  bif caNo cl then k true h nx else lenC P r v c hd h nx fun i h nx=>k (!decide (i=0)) h nx
 else false else false
noncomputable def Zcn (P:Prg) (r:Rec) (v:V) (hd:Hd) (h:H) (nx:Nat) (k:Bool→H→Nat→Bool):Bool:=
 selV v false (k false h nx) (fun b=>k b h nx) (fun i=>k (!decide (i=0)) h nx)
  (fun a=>og (h.get a) fun o=>selO o false (fun c _=>Zg8 P r v c hd h nx k) (fun _ _=>false) (fun l=>k (!l.isEmpty) h nx) (fun _ _=>false) (fun _=>false))
noncomputable def Zgm (o:O):Bool:=selO o false (fun _ _=>true) (fun _ _=>true) (fun _=>true) (fun _ _=>true) (fun _=>true)
noncomputable def Zgn (v:V):Bool:=
 @V.rec (fun _=>Bool) (fun _=>Unit) false (fun _=>true) (fun _=>true) (fun _=>true) (fun _=>true) (fun _=>true) (fun _=>false) (fun _ _=>true) (fun _=>true) (fun _=>true) (fun _=>false) (fun _=>true) true (fun _ _ _ _=>true) () (fun _ _ _ _=>()) v
noncomputable def othV (v:V):Bool:=
 @V.rec (fun _=>Bool) (fun _=>Unit) false (fun _=>false) (fun _=>false) (fun _=>false) (fun _=>false) (fun _=>false) (fun _=>false) (fun _ _=>false) (fun _=>false) (fun _=>false) (fun _=>false) (fun _=>false) true (fun _ _ _ _=>false) () (fun _ _ _ _=>()) v
noncomputable def farV (v:V):Bool:=othV v||og (vFr v) fun p=>Nat.ble 3 p.1
noncomputable def visN (x:V) (k:Bool→Bool):Bool:=bif ZS x then k true else bif Zgn x then k false else false
noncomputable def vis (h:H) (a b:V) (k:Bool→Bool):Bool:=
 bif ZS a then visN b k else bif ZS b then visN a k
 else bif farV a then og (vRef b) fun j=>og (h.get j) fun _=>k false
 else bif farV b then og (vRef a) fun i=>og (h.get i) fun _=>k false
 else og (vRef a) fun i=>og (vRef b) fun j=>bif Nat.beq i j then k true else og (h.get i) fun o=>og (h.get j) fun _=>bif Zgm o then k false else false
noncomputable def oraK (op k:Nat) (c:Int) (l:List (Nat × Nat × Int × V)):Option V:=
 @List.rec (Nat × Nat × Int × V) (fun _=>Option V) none (fun e _ ih=>bif Nat.beq e.1 op&&Nat.beq e.2.1 k&&decide (e.2.2.1=c) then some e.2.2.2 else ih) l
noncomputable def Zbo (v:V):Option Bool:=
 @V.rec (fun _=>Option Bool) (fun _=>Unit) none some (fun _=>none) (fun _=>none) (fun _=>none) (fun _=>none) (fun _=>none) (fun _ _=>none) (fun _=>none) (fun _=>none) (fun _=>none) (fun _=>none) none (fun _ _ _ _=>none) () (fun _ _ _ _=>()) v
noncomputable def Zam (h:H) (v:V):Option (List V):=@Option.rec Nat (fun _=>Option (List V)) (@Option.rec (Nat × List Nat × List V) (fun _=>Option (List V)) none (fun p=>bif Nat.beq p.1 0 then some p.2.2 else none) (vFr v)) (fun a=>Zg h a) (vRef v)
noncomputable def ZaK (h:H) (a:Nat):Option (Nat × Lo):=@Option.rec Lo (fun _=>Option (Nat × Lo)) (@Option.rec Lo (fun _=>Option (Nat × Lo)) none (fun l=>some (2,l)) (ZaO h a)) (fun l=>some (1,l)) (Zag h a)
noncomputable def Zdw (h:H) (v:V):Option (Nat × Lo):=@Option.rec Nat (fun _=>Option (Nat × Lo)) (@Option.rec (Nat × List Nat × List V) (fun _=>Option (Nat × Lo)) none (fun p=>bif Nat.beq p.1 1||Nat.beq p.1 2 then some (p.1,p.2.1.zip p.2.2) else none) (vFr v)) (fun a=>ZaK h a) (vRef v)
noncomputable def Zbp (v w:V):Bool:=@Option.rec Nat (fun _=>Bool) (@Option.rec Nat (fun _=>Bool) false (fun _=>true) (vRef w)) (fun i=>@Option.rec Nat (fun _=>Bool) true (fun j=>!Nat.beq i j) (vRef w)) (vRef v)
noncomputable def eqN (v w:V):Bool:=@Option.rec Int (fun _=>Bool) (og (Z8 v) fun i=>og (Z8 w) fun j=>Nat.beq i j) (fun i=>og (vInt w) fun j=>decide (i=j)) (vInt v)
noncomputable def ZbG (a:Lo):Lo→Bool:=@List.rec (Nat × V) (fun _=>Lo→Bool) (fun b=>b.isEmpty) (fun p _ ih b=>@List.rec (Nat × V) (fun _=>Bool) false (fun q b _=>Nat.beq p.1 q.1&&(eqN p.2 q.2&&ih b)) b) a
noncomputable def dEq (h:H) (v w:V):Bool:=Zbp v w&&og (Zdw h v) fun p=>og (Zdw h w) fun q=>Nat.beq p.1 q.1&&ZbG p.2 q.2
noncomputable def eqG (h:H) (v w:V):Bool:=og (vRef v) fun i=>og (vRef w) fun j=>og (ZcL h i) fun p=>og (ZcL h j) fun q=>Nat.beq p.1 2&&(Nat.beq q.1 2&&(!Nat.beq i j&&(p.2.isEmpty&&q.2.isEmpty)))
noncomputable def kq (h:H) (v:V):Nat:=
 @V.rec (fun _=>Nat) (fun _=>Unit) 0 (fun _=>1) (fun _=>2) (fun _=>2) (fun _=>3) (fun _=>3) (fun _=>9) (fun _ _=>4) (fun a=>@Option.rec (List V) (fun _=>Nat) 9 (fun _=>5) (Zg h a)) (fun _=>9) (fun _=>9) (fun _=>9) 9 (fun k _ _ _=>bif Nat.beq k 0 then 5 else 9) () (fun _ _ _ _=>()) v
noncomputable def Zj {α β : Type} (x:Option α) (f : α→Option β):Option β:=@Option.rec α (fun _=>Option β) none f x
noncomputable def ZaX (f:V→V→Option Bool) (xs:List V):List V→Option Bool:=
 @List.rec V (fun _=>List V→Option Bool) (fun ys=>@List.rec V (fun _=>Option Bool) (some true) (fun _ _ _=>none) ys)
  (fun x _ ih ys=>@List.rec V (fun _=>Option Bool) none (fun y ys _=>Zj (f x y) fun a=>Zj (ih ys) fun b=>some (a&&b)) ys) xs
noncomputable def Zdx (ora:List (Nat × Nat × Int × V)) (v w:V):Option Bool:=@Option.rec Int (fun _=>Option Bool)
  (Zj (Z8 v) fun k=>@Option.rec Int (fun _=>Option Bool) (Zj (Z8 w) fun j=>bif Nat.beq k j then some true else none) (fun j=>Zj (oraK 20 k j ora) Zbo) (vInt w))
  (fun i=>Zj (vInt w) fun j=>some (decide (i=j))) (vInt v)
noncomputable def vSv (v:V):Option Nat:=
 @V.rec (fun _=>Option Nat) (fun _=>Unit) none (fun _=>none) (fun _=>none) (fun _=>none) (fun _=>none) some (fun _=>none) (fun _ _=>none) (fun _=>none) (fun _=>none) (fun _=>none) (fun _=>none) none (fun _ _ _ _=>none) () (fun _ _ _ _=>()) v
noncomputable def Zdy (v w:V):Option Bool:=@Option.rec Nat (fun _=>Option Bool)
  (Zj (vSv v) fun k=>Zj (vSv w) fun j=>bif Nat.beq k j then some true else none)
  (fun i=>Zj (vStr w) fun j=>some (Nat.beq i j)) (vStr v)
noncomputable def veq (ora:List (Nat × Nat × Int × V)) (h:H) (n:Nat):V→V→Option Bool:=@Nat.rec (fun _=>V→V→Option Bool) (fun _ _=>none)
 (fun _ ih v w=>bif Nat.beq (kq h v) (kq h w) then
   ZcI none [some true,Zj (Zbo v) fun a=>Zj (Zbo w) fun b=>some (a==b),Zdx ora v w,Zdy v w,
    Zj (vTup v) fun a=>Zj (vTup w) fun b=>bif Nat.beq a.length b.length then ZaX ih a b else none,
    bif Zbp v w then Zj (Zam h v) fun a=>Zj (Zam h w) fun b=>bif Nat.beq a.length b.length then ZaX ih a b else some false else none] (kq h v)
  else bif Nat.ble (kq h v) 5&&Nat.ble (kq h w) 5&&!(Nat.beq ((kq h v) + (kq h w)) 3&&Nat.ble 1 (kq h v)&&Nat.ble 1 (kq h w)) then some false else none) n
noncomputable def Zda (P:Prg) (h:H) (v w:V):Bool:=og (vRef v) fun a=>og (vRef w) fun b=>bif Nat.beq a b then og (ZbE h a) fun p=>onC P p.1 (·.cmp) else false
noncomputable def veqT (P:Prg) (ora:List (Nat × Nat × Int × V)) (h:H) (v w:V):Option Bool:=bif Zda P h v w then some true else veq ora h 9 v w
noncomputable def eqC (P:Prg) (ora:List (Nat × Nat × Int × V)) (h:H) (v w:V) (k:Bool→Bool):Bool:=@Option.rec Bool (fun _=>Bool) (bif dEq h v w||eqG h v w then k true else false) k (veqT P ora h v w)
noncomputable def neC (P:Prg) (ora:List (Nat × Nat × Int × V)) (h:H) (v w:V) (k:Bool→Bool):Bool:=@Option.rec Bool (fun _=>Bool) (bif dEq h v w then k false else false) (fun b=>k (!b)) (veqT P ora h v w)
noncomputable def scal (v:V):Bool:=Nat.beq (kq .nil v) 2||Nat.beq (kq .nil v) 3
noncomputable def ZeM (h:H) (v:V) (l:List V):Option Bool:=@List.rec V (fun _=>Option Bool) (some false) (fun x _ ih=>bif scal x then Zj (veq [] h 1 x v) fun a=>Zj ih fun b=>some (a||b) else none) l
noncomputable def Zco (h:H) (v:V):Option (List V):=@Option.rec Nat (fun _=>Option (List V)) (vTup v) (fun a=>Zg h a) (vRef v)
noncomputable def hasK (l:Lo) (n:Nat):Bool:=@Option.rec V (fun _=>Bool) false (fun _=>true) (look l n)
noncomputable def vin (h:H) (x c:V):Option Bool:=@Option.rec (List V) (fun _=>Option Bool) (Zj (vRef c) fun a=>Zj (Zag h a) fun es=>Zj (vStr x) fun s=>some (hasK es s)) (fun l=>ZeM h x l) (Zco h c)
noncomputable def cmpV (P:Prg) (o:Nat) (a b:V) (hd:Hd) (h:H) (k:Bool→Bool):Bool:=
 sel7 (eqC P hd.ora h a b k) (neC P hd.ora h a b k) (vis h a b k) (vis h a b (fun b=>k (!b))) (og (vin h a b) k) (og (vin h a b) (fun b=>k (!b))) false false o
noncomputable def addL (x y:V) (h:H) (nx:Nat) (ko:KA):Bool:=og (vRef x) fun i=>og (vRef y) fun j=>og (Zg h i) fun l=>og (Zg h j) fun m=>
 bif Nat.blt (l.length + m.length) 1000000 then ko (.ref nx) (hp h nx (.list (l++m))) (Nat.succ nx) else false
noncomputable def addV (a b:V) (hd:Hd) (h:H) (nx:Nat) (ko:KA):Bool:=addL a b h nx ko
noncomputable def subN (a b:V) (ko:V→Bool):Bool:=og (vInt a) fun i=>og (vInt b) fun j=>ko (.int (i - j))
noncomputable def Zdz (v:V) (k:V→Bool):Bool:=@Option.rec (List V) (fun _=>Bool) (k v) (fun vs=>@List.rec V (fun _=>Bool) true (fun x _ ih=>bif k x then ih else false) vs) (vTup v)
noncomputable def modV (op:Nat) (a b:V) (hd:Hd) (ko:V→Bool):Bool:=og (vInt b) fun j=>bif decide (0 < j)&&decide (j < 1000000) then
  @Option.rec Int (fun _=>Bool) (og (Z8 a) fun k=>og (oraK op k j hd.ora) fun x=>Zdz x ko) (fun i=>ko (.int (bif Nat.beq op 3 then i.fmod j else i.fdiv j))) (vInt a)
 else false
noncomputable def rep (l:List V) (n:Nat):List V:=@Nat.rec (fun _=>List V) [] (fun _ ih=>l++ih) n
noncomputable def mulL (a b:V) (h:H) (nx:Nat) (ko:KA):Bool:=og (vRef a) fun i=>og (Zg h i) fun l=>og (vInt b) fun j=>bif decide (0≤j)&&decide (j < 1000)&&Nat.blt l.length 1000 then
  ko (.ref nx) (hp h nx (.list (rep l j.toNat))) (Nat.succ nx) else false
noncomputable def powN (a b:V) (ko:V→Bool):Bool:=og (vInt a) fun i=>og (vInt b) fun j=>bif decide (0≤i)&&decide (i < 10)&&decide (0≤j)&&decide (j < 10) then ko (.int (i ^ j.toNat)) else false
noncomputable def ZiX (op:Nat) (a b:V) (hd:Hd) (h:H) (nx:Nat) (ko:KA):Bool:=
 sel7 (addV a b hd h nx ko) (subN a b (fun v=>ko v h nx)) false (modV 3 a b hd (fun v=>ko v h nx)) (modV 4 a b hd (fun v=>ko v h nx)) false false false op
noncomputable def subI (o:V) (j:Int) (h:H) (k:V→Bool):Bool:=bif decide (0≤j)&&decide (j < 1000000) then og (@Option.rec (List V) (fun _=>Option (List V)) (Zam h o) some (vTup o)) fun l=>og l[j.toNat]? k else false
noncomputable def subV (o i:V) (hd:Hd) (h:H) (k:V→Bool):Bool:=og (vInt i) fun j=>subI o j h k
noncomputable def ZiY (a s:Nat) (v:V) (hd:Hd) (h:H) (k:H→Bool):Bool:=og (Zdt h a) fun p=>og (vInt v) fun _=>og (oraK 9 p.1 (Int.ofNat s) hd.ora) fun _=>k (hp h a (.pmap p.1 (upd p.2 s v)))
noncomputable def Zy (v:V):Bool:=@Option.rec Int (fun _=>Bool) (og (Z8 v) fun _=>true) (fun _=>true) (vInt v)
noncomputable def setD (a s:Nat) (v:V) (hd:Hd) (h:H) (k:H→Bool):Bool:=@Option.rec Lo (fun _=>Bool) (@Option.rec Lo (fun _=>Bool) (ZiY a s v hd h k) (fun es=>bif Zy v&&Nat.blt es.length 100 then k (hp h a (.gdict (es ++ [(s,v)]))) else false) (ZaO h a)) (fun es=>bif Nat.blt es.length 100 then k (hp h a (.dict (upd es s v))) else false) (Zag h a)
noncomputable def ZeY (o i v:V) (hd:Hd) (h:H) (k:H→Bool):Bool:=og (vRef o) fun a=>og (vStr i) fun s=>setD a s v hd h k
noncomputable def Zky (v lo hi:V) (hd:Hd) (h:H) (nx:Nat) (ko:KA):Bool:=og (vUnk v) fun k=>bif ZS lo then og (vInt hi) fun c=>og (oraK 7 k c hd.ora) fun x=>og (vTup x) fun vs=>bif decide (0≤c)&&Nat.blt vs.length 1000 then ko (.ref nx) (hp h nx (.list vs)) (Nat.succ nx) else false else false
noncomputable def ZbH (bs:Lo) (l:List Nat):H→Nat→Cs→(H→Nat→Cs→Bool)→Bool:=
 @List.rec Nat (fun _=>H→Nat→Cs→(H→Nat→Cs→Bool)→Bool) (fun h nx cs k=>k h nx cs) (fun n _ ih h nx cs k=>ih (hp h nx (.cell (look bs n))) (Nat.succ nx) ((n,nx) :: cs) k) l
noncomputable def Zah (cells:List Nat) (bs:Lo):Lo:=@List.rec (Nat × V) (fun _=>Lo) [] (fun p _ ih=>bif mem cells p.1 then ih else p :: ih) bs
noncomputable def kwOK (ps:List Nat) (kw:Lo):Lo→Option Lo:=@List.rec (Nat × V) (fun _=>Lo→Option Lo) (fun sl=>some sl)
 (fun p _ ih sl=>bif mem ps p.1&&!hasK sl p.1 then ih (sl ++ [p]) else none) kw
noncomputable def addD (d:Lo):Lo→Lo:=@List.rec (Nat × V) (fun _=>Lo→Lo) (fun sl=>sl) (fun p _ ih sl=>bif hasK sl p.1 then ih sl else ih (sl ++ [p])) d
noncomputable def pick (sl:Lo) (ps:List Nat):Option Lo:=@List.rec Nat (fun _=>Option Lo) (some []) (fun p _ ih=>Zj (look sl p) fun v=>Zj ih fun l=>some ((p,v) :: l)) ps
noncomputable def Zb0 (ps:List Nat) (as:List V) (kw:Lo) (d:List V):Option Lo:=
 bif Nat.ble as.length ps.length&&Nat.ble d.length ps.length then Zj (kwOK ps kw (ps.zip as)) fun sl=>Zj (pick sl (ps.take (ps.length - d.length))) fun _=>
  pick (addD ((ps.drop (ps.length - d.length)).zip d) sl) ps
 else none
noncomputable def Zz (h:H) (i:Nat) (k:H→Bool):Bool:=og (ZaJ h i) fun p=>bif p.2.1 then k h else k (hp h i (.exc p.1 true p.2.2))
noncomputable def Zgo (r:Rec) (f:E) (cl:Cs) (mk:Bool) (as:List V) (kw:Lo) (hd:Hd) (h:H) (nx:Nat) (ko:KA) (ke:KX):Bool:=
 selF f false fun p body=>og (Zb0 p.ps as kw p.d) fun bs=>ZbH bs p.cs h nx cl fun h nx cs=>
  r.ex body ⟨cs,hd.hd,hd.ora,mk⟩ h nx (Zah p.cs bs) (fun h nx _=>ko .none h nx) (fun _ _ _=>false) (fun _ _ _=>false) (fun v h nx _=>ko v h nx) (fun i h nx _=>Zz h i fun h=>ke i h nx)
noncomputable def ZlL (r:Rec) (f:E) (cl:Cs) (as:List V) (kw:Lo) (hd:Hd) (h:H) (nx:Nat) (ko:KA) (ke:KX):Bool:=
 selF f false fun p body=>og (Zb0 p.ps as kw p.d) fun bs=>r.ev body ⟨cl,hd.hd,hd.ora,false⟩ h nx bs (fun v h nx _=>ko v h nx) (fun i h nx _=>Zz h i fun h=>ke i h nx)
noncomputable def ZeN (r:Rec) (f:E) (cl:Cs) (as:List V) (kw:Lo) (hd:Hd) (h:H) (nx:Nat) (ko:KA) (ke:KX):Bool:=
 @E.rec (fun _=>Bool) (fun _ _=>false) (fun _=>false) (fun t _ a _=>bif Nat.beq t 5 then ZlL r a cl as kw hd h nx ko ke else false) (fun _ _ _ _ _ _=>false) (fun _ _ _ _ _ _ _ _=>false) (fun _ _ _ _ _ _ _ _ _ _=>false)
  (fun p b _=>Zgo r (.f p b) cl false as kw hd h nx ko ke) f
noncomputable def newI (P:Prg) (r:Rec) (ca:CA) (o:O) (as:List V) (kw:Lo) (hd:Hd) (h:H) (nx:Nat) (ko:KA) (ke:KX) (dflt:Bool):Bool:=
 ZaS ca false dflt (fun g=>og (P.fns.get g) fun _=>r.app (.top g) (.ref nx :: as) kw hd (hp h nx o) (Nat.succ nx) (fun v h n=>bif ZS v then ko (.ref nx) h n else false) ke) (fun _=>false) (fun _=>false) (fun _=>false)
noncomputable def newC (P:Prg) (r:Rec) (c:Nat) (as:List V) (kw:Lo) (hd:Hd) (h:H) (nx:Nat) (ko:KA) (ke:KX):Bool:=og (P.clss.get c) fun ci=>
 bif ci.ok then og (look ci.attrs Zdu) fun ca=>newI P r ca (.inst c []) as kw hd h nx ko ke (bif as.isEmpty&&kw.isEmpty then ko (.ref nx) (hp h nx (.inst c [])) (Nat.succ nx) else false)
 else bif Nat.beq ci.xk 1 then(bif kw.isEmpty&&(Nat.blt as.length 1000&&Nat.blt c nX) then ko (.ref nx) (hp h nx (.exc c false [])) (Nat.succ nx) else false)
 else bif Nat.beq ci.xk 2 then og (look ci.attrs Zdu) fun ca=>bif kw.isEmpty&&(Nat.blt as.length 1000&&Nat.blt c nX) then newI P r ca (.exc c false []) as kw hd h nx ko ke false else false
 else false
noncomputable def ZeO (P:Prg) (r:Rec) (v:V) (hd:Hd) (h:H) (nx:Nat) (ko:KA):Bool:=og (vRef v) fun a=>og (h.get a) fun o=>selO o false (fun c _=>bif Zav P c then lenC P r v c hd h nx fun i h nx=>ko (.int i) h nx else false) (fun _ _=>false) (fun l=>ko (.int (.ofNat l.length)) h nx) (fun _ _=>false) (fun _=>false)
noncomputable def ZdA (v:V) (h:H) (nx:Nat) (ko:KA):Bool:=og (vRef v) fun a=>og (Zg h a) fun l=>bif Nat.blt l.length 1000000 then ko (.ref nx) (hp h nx (.list l)) (Nat.succ nx) else false
noncomputable def ZdB (v:V) (m:Nat) (k:Nat→Bool):Bool:=og (vInt v) fun i=>bif decide (0≤i)&&decide (i < Int.ofNat m) then k i.toNat else false
noncomputable def ZdC (v:V) (h:H) (nx:Nat) (ko:KA):Bool:=og (Zdw h v) fun p=>bif Nat.blt p.2.length 100 then ko (.ref nx) (hp h nx (bif Nat.beq p.1 1 then .dict p.2 else .gdict p.2)) (Nat.succ nx) else false
noncomputable def Zgp (P:Prg) (v w:V) (h:H) (ko:V→Bool):Bool:=og (vStr w) fun s=>og (vRef v) fun a=>og (ZbE h a) fun p=>bif hasK p.2 s||!Zav P p.1 then false else og (ZJ P p.1 s) fun ca=>og (caFn ca) fun _=>ko (.bool true)
noncomputable def ZeP (P:Prg) (r:Rec) (n:Nat) (as:List V) (hd:Hd) (h:H) (nx:Nat) (ko:KA):Bool:=
 bif Nat.ble 11 n&&Nat.ble n 13 then(bif Nat.blt as.length 1000 then ko (.ref nx) (hp h nx (.exc n false [])) (Nat.succ nx) else false)
 else @List.rec V (fun _=>Bool) false (fun v as _=>@List.rec V (fun _=>Bool)
  (bif Nat.beq n 14 then ZdC v h nx ko else ZcI false [false,ZeO P r v hd h nx ko,ZdA v h nx ko,ZdB v 1000 fun k=>ko (.rng k) h nx,false,false] n)
  (fun w as _=>bif as.isEmpty then bif Nat.beq n 7 then Zgp P v w h fun x=>ko x h nx else false else false) as) as
noncomputable def okHd (hd:Hd) (h:H):Bool:=@Option.rec Nat (fun _=>Bool) true (fun j=>og (ZaJ h j) fun q=>Nat.blt q.1 nX) hd.hd
noncomputable def appF (P:Prg) (r:Rec) (a:Nat) (m:E) (as:List V) (kw:Lo) (hd:Hd) (h:H) (nx:Nat) (ko:KA) (ke:KX):Bool:=
 @E.rec (fun _=>Bool) (fun _ _=>false) (fun _=>false) (fun _ _ _ _=>false) (fun _ _ _ _ _ _=>false) (fun _ _ _ _ _ _ _ _=>false) (fun _ _ _ _ _ _ _ _ _ _=>false)
  (fun p b _=>Zgo r (.f p b) [] (mem P.mks a) as kw hd h nx ko ke) m
noncomputable def app1 (P:Prg) (r:Rec) (f:V) (as:List V) (kw:Lo) (hd:Hd) (h:H) (nx:Nat) (ko:KA) (ke:KX):Bool:=
 @Option.rec Nat (fun _=>Bool) (@Option.rec Nat (fun _=>Bool)
   (og (vBi f) fun n=>bif kw.isEmpty then ZeP P r n as hd h nx ko else false)
   (fun a=>og (ZbF h a) fun p=>ZeN r p.1 p.2 as kw hd h nx ko ke) (vRef f))
  (fun a=>@Option.rec E (fun _=>Bool) (newC P r a as kw hd h nx ko ke) (fun m=>appF P r a m as kw hd h nx ko ke) (P.fns.get a)) (vTop f)
noncomputable def getI (P:Prg) (r:Rec) (v:V) (c:Nat) (f:Lo) (n:Nat) (hd:Hd) (h:H) (nx:Nat) (ko:KA):Bool:=bif Zav P c then og (ZJ P c n) fun ca=>
  ZaS ca (og (look f n) fun x=>ko x h nx) false (fun _=>false) (fun y=>@Option.rec V (fun _=>Bool) (ko y h nx) (fun x=>ko x h nx) (look f n)) (fun g=>og (P.fns.get g) fun _=>r.app (.top g) [v] [] hd h nx ko (fun _ _ _=>false)) (fun _=>false)
 else false
noncomputable def getX (P:Prg) (c:Nat) (f:Lo) (n:Nat) (h:H) (nx:Nat) (ko:KA):Bool:=onC P c fun ci=>bif Nat.beq ci.xk 2 then og (look ci.attrs n) fun ca=>bif caNo ca then og (look f n) fun x=>ko x h nx else false else false
noncomputable def getF (P:Prg) (p:Nat × List Nat × List V) (n:Nat) (h:H) (nx:Nat) (ko:KA):Bool:=bif Nat.ble 3 p.1&&Zav P (p.1 - 3) then og (ZJ P (p.1 - 3) n) fun ca=>
  ZaS ca (og (look (p.2.1.zip p.2.2) n) fun x=>ko x h nx) false (fun _=>false) (fun y=>@Option.rec V (fun _=>Bool) (ko y h nx) (fun x=>ko x h nx) (look (p.2.1.zip p.2.2) n)) (fun _=>false) (fun _=>false)
 else false
noncomputable def getA (P:Prg) (r:Rec) (v:V) (n:Nat) (hd:Hd) (h:H) (nx:Nat) (ko:KA):Bool:=
 @Option.rec Nat (fun _=>Bool) (@Option.rec (Nat × List Nat × List V) (fun _=>Bool) (og (vTop v) fun c=>bif Nat.ble 20 c then og (ZJ P c n) fun ca=>ZaS ca false false (fun _=>false) (fun x=>ko x h nx) (fun _=>false) (fun _=>false) else false) (fun p=>getF P p n h nx ko) (vFr v))
  (fun a=>og (h.get a) fun o=>selO o false (fun c f=>getI P r v c f n hd h nx ko) (fun c f=>getX P (cN c) f n h nx ko) (fun _=>false) (fun _ _=>false) (fun _=>false)) (vRef v)
noncomputable def ZeZ (ca:CA):Bool:=ZaS ca true false (fun _=>false) (fun _=>true) (fun _=>false) (fun _=>false)
noncomputable def setA (P:Prg) (v:V) (n:Nat) (x:V) (h:H) (k:H→Bool):Bool:=og (vRef v) fun a=>og (h.get a) fun o=>@O.rec (fun _=>Bool)
  (fun c f=>bif Zav P c&&Nat.blt f.length 900 then og (ZJ P c n) fun ca=>bif ZeZ ca then k (hp h a (.inst c (upd f n x))) else false else false)
  (fun c t f=>onC P (cN c) fun ci=>bif Nat.beq ci.xk 2&&Nat.blt f.length 900 then og (look ci.attrs n) fun ca=>bif caNo ca then k (hp h a (.exc c t (upd f n x))) else false else false)
  (fun _=>false) (fun _ _=>false) (fun _=>false) (fun _=>false) (fun _ _=>false) (fun _=>false) (fun _ _=>false) (fun _=>false) o
noncomputable def mRes (P:Prg) (v:V) (c:Nat) (f:Lo) (n:Nat) (k:V→List V→Bool):Bool:=bif Zav P c then og (ZJ P c n) fun ca=>
  ZaS ca (og (look f n) fun g=>k g []) false (fun g=>bif hasK f n then false else k (.top g) [v]) (fun _=>false) (fun _=>false) (fun g=>bif hasK f n then false else k (.top g) [])
 else false
noncomputable def fnC (f:E):Bool:=@E.rec (fun _=>Bool) (fun _ _=>false) (fun _=>false) (fun t _ _ _=>Nat.beq t 30) (fun _ _ _ _ _ _=>false) (fun _ _ _ _ _ _ _ _=>false) (fun _ _ _ _ _ _ _ _ _ _=>false) (fun _ _ _=>true) f
noncomputable def Ze0 (P:Prg) (h:H) (v:V):Bool:=@Option.rec Nat (fun _=>Bool) (@Option.rec Nat (fun _=>Bool) (og (vBi v) fun _=>true) (fun a=>og (ZbF h a) fun _=>true) (vRef v))
 (fun a=>@Option.rec E (fun _=>Bool) (onC P a fun ci=>ci.ok||Nat.ble 1 ci.xk) (fun f=>fnC f) (P.fns.get a)) (vTop v)
noncomputable def Zgq (r:Rec) (f x:V) (hd:Hd) (h:H) (nx:Nat) (k:Nat→H→Nat→Bool):Bool:=r.app f [x] [] hd h nx (fun v h nx=>og (vStr v) fun s=>bif Nat.blt s 256 then k s h nx else false) (fun _ _ _=>false)
noncomputable def Zgr (a:Nat) (l:List V) (h:H) (nx:Nat) (ko:KA):Bool:=@Option.rec O (fun _=>Bool) (ko .none (hp h a (.list l)) nx) (fun _=>false) (h.get a)
noncomputable def Zgs (r:Rec) (a:Nat) (l:List V) (f:V) (hd:Hd) (h:H) (nx:Nat) (ko:KA):Bool:=
 @List.rec V (fun _=>Bool) (ko .none (hp h a (.list [])) nx) (fun x l _=>@List.rec V (fun _=>Bool) (Zgq r f x hd (hdel h a) nx fun _ h nx=>Zgr a [x] h nx ko)
  (fun _ _ _=>false) l) l
noncomputable def ZiZ (r:Rec) (a:Nat) (l:List V) (n:Nat) (as:List V) (kw:Lo) (hd:Hd) (h:H) (nx:Nat) (ko:KA):Bool:=
 bif Nat.beq n Zal then @List.rec V (fun _=>Bool) false (fun x t _=>bif t.isEmpty&&kw.isEmpty&&Nat.blt l.length 900000 then ko .none (hp h a (.list (l ++ [x]))) nx else false) as
 else bif Nat.beq n Zdv then(bif kw.isEmpty&&as.isEmpty then ko .none (hp h a (.list [])) nx else false)
 else bif Nat.beq n ZeL then @List.rec (Nat × V) (fun _=>Bool) false (fun p t _=>bif t.isEmpty&&as.isEmpty&&Nat.beq p.1 nKey then og (vTop p.2) fun _=>Zgs r a l p.2 hd h nx ko else false) kw
 else false
noncomputable def mEl (a pk:Nat) (l:List V) (n:Nat) (as:List V) (kw:Lo) (h:H) (nx:Nat) (ko:KA):Bool:=
 bif Nat.beq n Zal then @List.rec V (fun _=>Bool) false (fun x t _=>bif t.isEmpty&&kw.isEmpty&&Nat.blt l.length 900 then ko .none (hp h a (.elist pk (l ++ [x]))) nx else false) as else false
noncomputable def Zgt (es:Lo) (n:Nat) (as:List V) (kw:Lo) (h:H) (nx:Nat) (ko:KA):Bool:=bif Nat.beq n nGet&&kw.isEmpty then
  @List.rec V (fun _=>Bool) false (fun x t _=>@List.rec V (fun _=>Bool) false (fun d t _=>bif t.isEmpty then og (vStr x) fun s=>@Option.rec V (fun _=>Bool) (ko d h nx) (fun y=>ko y h nx) (look es s) else false) t) as
 else false
noncomputable def Zgu (a k:Nat) (es:Lo) (s:Nat) (hd:Hd) (h:H) (nx:Nat) (ko:KA):Bool:=
 @Option.rec V (fun _=>Bool) (og (oraK 9 k (Int.ofNat s) hd.ora) fun u=>Zdz u fun y=>og (vInt y) fun _=>ko y (hp h a (.pmap k (upd es s y))) nx) (fun y=>ko y h nx) (look es s)
noncomputable def mPm (a k:Nat) (es:Lo) (n:Nat) (as:List V) (kw:Lo) (hd:Hd) (h:H) (nx:Nat) (ko:KA):Bool:=bif Nat.beq n nGet&&kw.isEmpty then
  @List.rec V (fun _=>Bool) false (fun x t _=>@List.rec V (fun _=>Bool) false (fun d t _=>bif t.isEmpty then og (vStr x) fun s=>og (vInt d) fun z=>bif decide (z=0) then Zgu a k es s hd h nx ko else false else false) t) as
 else false
noncomputable def ZeQ (r:Rec) (v:V) (n:Nat) (as:List V) (kw:Lo) (hd:Hd) (h:H) (nx:Nat) (ko:KA):Bool:=og (vRef v) fun a=>og (h.get a) fun o=>
 selO o (og (ZcK o) fun p=>mPm a p.1 p.2 n as kw hd h nx ko) (fun _ _=>false) (fun _ _=>false) (fun l=>ZiZ r a l n as kw hd h nx ko) (fun pk l=>mEl a pk l n as kw h nx ko) (fun es=>Zgt es n as kw h nx ko)
noncomputable def Zdb (P:Prg) (e:Nat) (c:V) (k:Bool→Bool):Bool:=og (@Option.rec Nat (fun _=>Option Nat) (Zj (vBi c) fun b=>bif Nat.blt b 20 then some b else none) (fun b=>bif Nat.ble 20 b then some b else none) (vTop c)) fun b=>
 og (P.clss.get e) fun ci=>og (P.clss.get b) fun cj=>bif ci.exc&&cj.exc then k (mem ci.mro b) else false
noncomputable abbrev EvT:=Prg→Rec→Hd→H→Nat→Lo→(V→KS)→(Nat→KS)→Bool
noncomputable def Za7:EvT:=fun _ _ _ _ _ _ _ _=>false
noncomputable def ZlM (n:Nat):EvT:=fun _ _ _ h nx lo ko _=>og (look lo n) fun v=>ko v h nx lo
noncomputable def Zkz (n:Nat):EvT:=fun _ _ hd h nx lo ko _=>og (look hd.cs n) fun a=>og (Zbf h a) fun w=>og w fun v=>ko v h nx lo
noncomputable def ZkA (n:Nat):EvT:=fun P _ _ h nx lo ko _=>og (look P.globs n) fun v=>ko v h nx lo
noncomputable def ZlN (a b:E):EvT:=fun P r hd h nx lo ko ke=>r.ev a hd h nx lo (fun v h nx lo=>Zcn P r v hd h nx fun t h nx=>bif t then r.ev b hd h nx lo ko ke else ko v h nx lo) ke
noncomputable def evOr (a b:E):EvT:=fun P r hd h nx lo ko ke=>r.ev a hd h nx lo (fun v h nx lo=>Zcn P r v hd h nx fun t h nx=>bif t then ko v h nx lo else r.ev b hd h nx lo ko ke) ke
noncomputable def Zi0 (a:E):EvT:=fun P r hd h nx lo ko ke=>r.ev a hd h nx lo (fun v h nx lo=>Zcn P r v hd h nx fun b h nx=>ko (.bool (!b)) h nx lo) ke
noncomputable def Zi1 (c a b:E):EvT:=fun P r hd h nx lo ko ke=>r.tst c hd h nx lo (fun t h nx lo=>bif t then r.ev a hd h nx lo ko ke else r.ev b hd h nx lo ko ke) ke
noncomputable def Zi2 (op:Nat) (a b:E):EvT:=fun _ r hd h nx lo ko ke=>r.ev a hd h nx lo (fun x h nx lo=>r.ev b hd h nx lo (fun y h nx lo=>ZiX op x y hd h nx fun v h nx=>ko v h nx lo) ke) ke
noncomputable def Zi3 (op:Nat) (a b:E):EvT:=fun P r hd h nx lo ko ke=>r.ev a hd h nx lo (fun x h nx lo=>r.ev b hd h nx lo (fun y h nx lo=>cmpV P op x y hd h fun t=>ko (.bool t) h nx lo) ke) ke
noncomputable def Zi4 (o i:E):EvT:=fun _ r hd h nx lo ko ke=>r.ev o hd h nx lo (fun x h nx lo=>r.ev i hd h nx lo (fun y h nx lo=>subV x y hd h fun v=>ko v h nx lo) ke) ke
noncomputable def optE (b:Bool) (e:E) (r:Rec) (hd:Hd) (h:H) (nx:Nat) (lo:Lo) (ko:V→KS) (ke:Nat→KS):Bool:=bif b then r.ev e hd h nx lo ko ke else ko .none h nx lo
noncomputable def Zd3 (n:Nat) (o a b:E):EvT:=fun _ r hd h nx lo ko ke=>r.ev o hd h nx lo (fun v h nx lo=>optE (sel4 false true false true false n) a r hd h nx lo (fun x h nx lo=>optE (sel4 false false true true false n) b r hd h nx lo (fun y h nx lo=>Zky v x y hd h nx fun z h nx=>ko z h nx lo) ke) ke) ke
noncomputable def Zg9 (n:Nat) (o:E):EvT:=fun P r hd h nx lo ko ke=>r.ev o hd h nx lo (fun v h nx lo=>getA P r v n hd h nx (fun x h nx=>ko x h nx lo)) ke
noncomputable def evsF (es:E):Rec→Hd→H→Nat→Lo→(List V→KS)→(Nat→KS)→Bool:=
 @E.rec (fun _=>Rec→Hd→H→Nat→Lo→(List V→KS)→(Nat→KS)→Bool) (fun t _ _ _ h nx lo k _=>bif Nat.beq t 6 then k [] h nx lo else false) (fun _ _ _ _ _ _ _ _=>false) (fun _ _ _ _ _ _ _ _ _ _ _=>false)
  (fun t _ x _ _ ih r hd h nx lo k ke=>bif Nat.beq t 5 then r.ev x hd h nx lo (fun v h nx lo=>ih r hd h nx lo (fun vs h nx lo=>k (v :: vs) h nx lo) ke) ke else false)
  (fun _ _ _ _ _ _ _ _ _ _ _ _ _ _ _=>false) (fun _ _ _ _ _ _ _ _ _ _ _ _ _ _ _ _ _=>false) (fun _ _ _ _ _ _ _ _ _ _=>false) es
noncomputable def kwF (es:E):Rec→Hd→H→Nat→Lo→(Lo→KS)→(Nat→KS)→Bool:=
 @E.rec (fun _=>Rec→Hd→H→Nat→Lo→(Lo→KS)→(Nat→KS)→Bool) (fun t _ _ _ h nx lo k _=>bif Nat.beq t 6 then k [] h nx lo else false) (fun _ _ _ _ _ _ _ _=>false) (fun _ _ _ _ _ _ _ _ _ _ _=>false)
  (fun t m x _ _ ih r hd h nx lo k ke=>bif Nat.beq t 6 then r.ev x hd h nx lo (fun v h nx lo=>ih r hd h nx lo (fun ks h nx lo=>k ((m,v) :: ks) h nx lo) ke) ke else false)
  (fun _ _ _ _ _ _ _ _ _ _ _ _ _ _ _=>false) (fun _ _ _ _ _ _ _ _ _ _ _ _ _ _ _ _ _=>false) (fun _ _ _ _ _ _ _ _ _ _=>false) es
noncomputable def ZeR (r:Rec) (as kw:E) (hd:Hd) (ke:Nat→KS) (k:List V→Lo→KS) (h:H) (nx:Nat) (lo:Lo):Bool:=
 evsF as r hd h nx lo (fun vs h nx lo=>kwF kw r hd h nx lo (fun ks h nx lo=>k vs ks h nx lo) ke) ke
noncomputable def Zcp (P:Prg) (r:Rec) (g:V) (first:List V) (as kw:E) (hd:Hd) (h:H) (nx:Nat) (lo:Lo) (ko:V→KS) (ke:Nat→KS):Bool:=
 ZeR r as kw hd ke (fun vs ks h nx lo=>bif Ze0 P h g then r.app g (first++vs) ks hd h nx (fun x h nx=>ko x h nx lo) (fun i h nx=>ke i h nx lo) else false) h nx lo
noncomputable def Zha (f as kw:E):EvT:=fun P r hd h nx lo ko ke=>r.ev f hd h nx lo (fun g h nx lo=>Zcp P r g [] as kw hd h nx lo ko ke) ke
noncomputable def ZlO (n:Nat):Bool:=Nat.beq n Zal||(Nat.beq n Zdv||Nat.beq n ZeL)
noncomputable def metK (r:Rec) (v:V) (n:Nat) (as kw:E) (hd:Hd) (h:H) (nx:Nat) (lo:Lo) (ko:V→KS) (ke:Nat→KS):Bool:=ZeR r as kw hd ke (fun vs ks h nx lo=>ZeQ r v n vs ks hd h nx (fun x h nx=>ko x h nx lo)) h nx lo
noncomputable def ZfQ (n:Nat) (o as kw:E):EvT:=fun P r hd h nx lo ko ke=>r.ev o hd h nx lo (fun v h nx lo=>@Option.rec Nat (fun _=>Bool) (og (vFr v) fun p=>bif Nat.ble 3 p.1 then mRes P v (p.1 - 3) (p.2.1.zip p.2.2) n fun g first=>Zcp P r g first as kw hd h nx lo ko ke else false) (fun a=>og (h.get a) fun ob=>selO ob (bif Nat.beq n nGet then og (ZcK ob) fun _=>metK r v n as kw hd h nx lo ko ke else false)
  (fun c f=>mRes P v c f n fun g first=>Zcp P r g first as kw hd h nx lo ko ke) (fun _ _=>false)
  (fun _=>bif ZlO n then metK r v n as kw hd h nx lo ko ke else false) (fun _ _=>bif Nat.beq n Zal then metK r v n as kw hd h nx lo ko ke else false)
  (fun _=>bif Nat.beq n nGet then metK r v n as kw hd h nx lo ko ke else false)) (vRef v)) ke
noncomputable def Zhb (es:E):EvT:=fun _ r hd h nx lo ko ke=>evsF es r hd h nx lo (fun vs h nx lo=>bif Nat.blt vs.length 1000 then ko (.ref nx) (hp h nx (.list vs)) (Nat.succ nx) lo else false) ke
noncomputable def Zi5 (es:E):EvT:=fun _ r hd h nx lo ko ke=>evsF es r hd h nx lo (fun vs h nx lo=>bif Nat.blt vs.length 1000 then ko (.tup vs) h nx lo else false) ke
noncomputable def ZkB:EvT:=fun _ _ _ h nx lo ko _=>ko (.ref nx) (hp h nx (.dict [])) (Nat.succ nx) lo
noncomputable def Zbq (cs:Cs) (l:List Nat):Bool:=@List.rec Nat (fun _=>Bool) true (fun n _ ih=>og (look cs n) fun _=>ih) l
noncomputable def Zan (free:List Nat) (cs:Cs):Cs:=@List.rec (Nat × Nat) (fun _=>Cs) [] (fun p _ ih=>bif mem free p.1 then p :: ih else ih) cs
noncomputable def Zbr (P:Prg) (l c:Nat):Option Nat:=@List.rec (Nat × Nat × Nat) (fun _=>Option Nat) none (fun p _ ih=>bif Nat.beq p.1 l&&Nat.beq p.2.1 c then some p.2.2 else ih) P.defs
noncomputable def Zgv (P:Prg) (l c:Nat):Bool:=@Option.rec Nat (fun _=>Bool) true (fun _=>false) (Zbr P l c)
noncomputable def ZlP (f:E):EvT:=fun P r hd h nx lo ko _=>selF f false fun p _=>bif hd.mkr&&Zbq hd.cs p.fr&&Zgv P p.line p.col then ko (.ref nx) (hp h nx (.clos (.u 5 0 f) (Zan p.fr hd.cs))) (Nat.succ nx) lo else false
noncomputable def Zjv (fe t it ifs:E):EvT:=fun _ r hd h nx lo ko ke=>selF fe false fun p elt=>bif Zbq hd.cs p.fr then r.ev it hd h nx lo (fun v h nx lo=>
  r.cloop t v 0 ifs elt nx ⟨Zan p.fr hd.cs,hd.hd,hd.ora,hd.mkr⟩ (hp h nx (.list [])) (Nat.succ nx) [] (fun h nx' _=>ko (.ref nx) h nx' lo) (fun _ _ _ _=>false)) ke else false
noncomputable def evG (P:Prg) (r:Rec) (e:E):Hd→H→Nat→Lo→(V→KS)→(Nat→KS)→Bool:=@E.rec (fun _=>EvT)
 (fun t n=>at3 1 (ZlM n) (Zkz n) (ZkA n) Za7 t) (fun v _ _ _ h nx lo ko _=>ko v h nx lo)
 (fun t n a _=>sel7 (Zi0 a) (Zg9 n a) (Zhb a) (Zi5 a) ZkB (ZlP a) Za7 Za7 t)
 (fun t n x y _ _=>sel7 (ZlN x y) (evOr x y) (Zi2 n x y) (Zi3 n x y) (Zi4 x y) Za7 Za7 Za7 t)
 (fun t n x y z _ _ _=>sel4 (Zi1 x y z) (Zha x y z) (ZfQ n x y z) (Zd3 n x y z) Za7 t)
 (fun t _ w x y z _ _ _ _=>at1 0 (Zjv w x y z) Za7 t) (fun _ _ _=>Za7) e P r
noncomputable abbrev TsT:=Prg→Rec→Hd→H→Nat→Lo→(Bool→KS)→(Nat→KS)→Bool
noncomputable def ZaT (e:E):TsT:=fun P r hd h nx lo k ke=>r.ev e hd h nx lo (fun v h nx lo=>Zcn P r v hd h nx fun t h nx=>k t h nx lo) ke
noncomputable def Zi6 (a:E):TsT:=fun P r hd h nx lo k ke=>r.tst a hd h nx lo (fun t=>k (!t)) ke
noncomputable def ZlQ (a b:E):TsT:=fun P r hd h nx lo k ke=>r.tst a hd h nx lo (fun t h nx lo=>bif t then r.tst b hd h nx lo k ke else k false h nx lo) ke
noncomputable def tsOr (a b:E):TsT:=fun P r hd h nx lo k ke=>r.tst a hd h nx lo (fun t h nx lo=>bif t then k true h nx lo else r.tst b hd h nx lo k ke) ke
noncomputable def Zi7 (c a b:E):TsT:=fun P r hd h nx lo k ke=>r.tst c hd h nx lo (fun t h nx lo=>bif t then r.tst a hd h nx lo k ke else r.tst b hd h nx lo k ke) ke
noncomputable def tstG (P:Prg) (r:Rec) (e:E):Hd→H→Nat→Lo→(Bool→KS)→(Nat→KS)→Bool:=@E.rec (fun _=>TsT)
 (fun t n=>at1 0 (fun _ _ _ _ _ _ _ _=>false) (ZaT (.k t n)) t) (fun v=>ZaT (.c v)) (fun t n a _=>at1 0 (Zi6 a) (ZaT (.u t n a)) t)
 (fun t n x y _ _=>at2 0 (ZlQ x y) (tsOr x y) (ZaT (.b t n x y)) t) (fun t n x y z _ _ _=>at1 0 (Zi7 x y z) (ZaT (.t t n x y z)) t)
 (fun t n w x y z _ _ _ _=>ZaT (.q t n w x y z)) (fun p b _=>ZaT (.f p b)) e P r
noncomputable abbrev AsT:=Prg→Rec→V→Hd→H→Nat→Lo→KS→(Nat→KS)→Bool
noncomputable def Zb1:AsT:=fun _ _ _ _ _ _ _ _ _=>false
noncomputable def ZlR (n:Nat):AsT:=fun _ _ v _ h nx lo k _=>k h nx (upd lo n v)
noncomputable def ZkC (n:Nat):AsT:=fun _ _ v hd h nx lo k _=>og (look hd.cs n) fun a=>og (Zbf h a) fun _=>k (hp h a (.cell (some v))) nx lo
noncomputable def ZkD (n:Nat) (o:E):AsT:=fun P r v hd h nx lo k ke=>r.ev o hd h nx lo (fun x h nx lo=>setA P x n v h fun h=>k h nx lo) ke
noncomputable def zipF (ts:E):Rec→List V→Hd→(Nat→KS)→KS→KS:=
 @E.rec (fun _=>Rec→List V→Hd→(Nat→KS)→KS→KS) (fun t _ _ vs _ _ k h nx lo=>bif Nat.beq t 6&&vs.isEmpty then k h nx lo else false) (fun _ _ _ _ _ _ _ _ _=>false) (fun _ _ _ _ _ _ _ _ _ _ _ _=>false)
  (fun t _ x _ _ ih r vs hd ke k h nx lo=>bif Nat.beq t 5 then @List.rec V (fun _=>Bool) false (fun v vs _=>r.asg x v hd h nx lo (fun h nx lo=>ih r vs hd ke k h nx lo) ke) vs else false)
  (fun _ _ _ _ _ _ _ _ _ _ _ _ _ _ _ _=>false) (fun _ _ _ _ _ _ _ _ _ _ _ _ _ _ _ _ _ _=>false) (fun _ _ _ _ _ _ _ _ _ _ _=>false) ts
noncomputable def noHd (hd:Hd):Bool:=@Option.rec Nat (fun _=>Bool) true (fun _=>false) hd.hd
noncomputable def ZlS (n:Nat) (ts:E):AsT:=fun _ r v hd h nx lo k ke=>og (vTup v) fun vs=>bif okHd hd h&&Nat.beq vs.length n then zipF ts r vs hd ke k h nx lo else false
noncomputable def allF (ts:E):Rec→V→Hd→(Nat→KS)→KS→KS:=
 @E.rec (fun _=>Rec→V→Hd→(Nat→KS)→KS→KS) (fun t _ _ _ _ _ k h nx lo=>bif Nat.beq t 6 then k h nx lo else false) (fun _ _ _ _ _ _ _ _ _=>false) (fun _ _ _ _ _ _ _ _ _ _ _ _=>false)
  (fun t _ x _ _ ih r v hd ke k h nx lo=>bif Nat.beq t 5 then r.asg x v hd h nx lo (fun h nx lo=>ih r v hd ke k h nx lo) ke else false)
  (fun _ _ _ _ _ _ _ _ _ _ _ _ _ _ _ _=>false) (fun _ _ _ _ _ _ _ _ _ _ _ _ _ _ _ _ _ _=>false) (fun _ _ _ _ _ _ _ _ _ _ _=>false) ts
noncomputable def ZlT (o i:E):AsT:=fun _ r v hd h nx lo k ke=>r.ev o hd h nx lo (fun x h nx lo=>r.ev i hd h nx lo (fun y h nx lo=>ZeY x y v hd h fun h=>k h nx lo) ke) ke
noncomputable def asgG (P:Prg) (r:Rec) (e:E):V→Hd→H→Nat→Lo→KS→(Nat→KS)→Bool:=@E.rec (fun _=>AsT)
 (fun t n=>at2 4 (ZlR n) (ZkC n) Zb1 t) (fun _=>Zb1) (fun t n a _=>at2 9 (ZkD n a) (ZlS n a) Zb1 t)
 (fun t _ x y _ _=>at1 7 (ZlT x y) Zb1 t) (fun _ _ _ _ _ _ _ _=>Zb1) (fun _ _ _ _ _ _ _ _ _ _=>Zb1) (fun _ _ _=>Zb1) e P r
noncomputable abbrev ExT:=Prg→Rec→Hd→H→Nat→Lo→KS→KS→KS→(V→KS)→(Nat→KS)→Bool
noncomputable def noK:KS:=fun _ _ _=>false
noncomputable def Za8:ExT:=fun _ _ _ _ _ _ _ _ _ _ _=>false
noncomputable def Zi8:ExT:=fun _ _ _ h nx lo kn _ _ _ _=>kn h nx lo
noncomputable def ZlU:ExT:=fun _ _ _ h nx lo _ kb _ _ _=>kb h nx lo
noncomputable def ZkE:ExT:=fun _ _ _ h nx lo _ _ kc _ _=>kc h nx lo
noncomputable def ZkF:ExT:=fun _ _ _ h nx lo _ _ _ kr _=>kr .none h nx lo
noncomputable def Zhc (e:E):ExT:=fun _ r hd h nx lo kn _ _ _ ke=>r.ev e hd h nx lo (fun _ h nx lo=>kn h nx lo) ke
noncomputable def ZlV (e:E):ExT:=fun _ r hd h nx lo _ _ _ kr ke=>r.ev e hd h nx lo kr ke
noncomputable def Zi9 (hd:Hd) (i c:Nat) (t:Bool) (f:Lo) (h:H) (k:H→Bool):Bool:=@Option.rec Nat (fun _=>Bool) (k h) (fun j=>bif Nat.beq i j then k h else og (ZaJ h j) fun q=>bif Nat.blt q.1 nX&&Nat.blt c nX then k (hp h i (.exc (c + nX) t f)) else false) hd.hd
noncomputable def ZfR (e:E):ExT:=fun P r hd h nx lo _ _ _ _ ke=>r.ev e hd h nx lo (fun v h nx lo=>og (vRef v) fun i=>og (ZaJ h i) fun p=>bif onC P (cN p.1) (·.exc) then Zi9 hd i p.1 p.2.1 p.2.2 h fun h=>ke i h nx lo else false) ke
noncomputable def ZlW (a b:E):ExT:=fun _ r hd h nx lo kn kb kc kr ke=>r.ex a hd h nx lo (fun h nx lo=>r.ex b hd h nx lo kn kb kc kr ke) kb kc kr ke
noncomputable def Zja (ts e:E):ExT:=fun _ r hd h nx lo kn _ _ _ ke=>r.ev e hd h nx lo (fun v h nx lo=>allF ts r v hd ke kn h nx lo) ke
noncomputable def Zjb (m:Nat) (t f:E):ExT:=fun P r hd h nx lo kn _ _ _ ke=>selF f false fun p _=>og (Zbr P p.line p.col) fun m'=>bif hd.mkr&&Zbq hd.cs p.fr&&Nat.beq m' m then r.asg t (.ref nx) hd (hp h nx (.clos f (Zan p.fr hd.cs))) (Nat.succ nx) lo kn ke else false
noncomputable def exIf (c a b:E):ExT:=fun _ r hd h nx lo kn kb kc kr ke=>r.tst c hd h nx lo (fun t h nx lo=>bif t then r.ex a hd h nx lo kn kb kc kr ke else r.ex b hd h nx lo kn kb kc kr ke) ke
noncomputable def Zjc (t it b:E):ExT:=fun _ r hd h nx lo kn _ _ kr ke=>r.ev it hd h nx lo (fun v h nx lo=>r.loop t v 0 b hd h nx lo kn kr ke) ke
noncomputable def hdOf (hd:Hd) (i:Nat):Hd:=⟨hd.cs,some i,hd.ora,hd.mkr⟩
noncomputable def Zjd (b hs el fin:E):ExT:=fun _ r hd h nx lo kn kb kc kr ke=>
 bif ZaR fin then r.ex b hd h nx lo (fun h nx lo=>r.ex el hd h nx lo kn kb kc kr ke) kb kc kr (fun i h nx lo=>Zz h i fun h=>r.hand i hs hd h nx lo kn kb kc kr ke)
 else bif ZaR hs&&ZaR el then r.ex b hd h nx lo (fun h nx lo=>r.ex fin hd h nx lo kn noK noK (fun _=>noK) (fun i h nx lo=>Zz h i fun h=>ke i h nx lo)) noK noK (fun _=>noK)
   (fun i h nx lo=>Zz h i fun h=>r.ex fin (hdOf hd i) h nx lo (fun h nx lo=>og (ZaJ h i) fun p=>bif p.2.1 then ke i h nx lo else false) noK noK (fun _=>noK) (fun _=>noK))
 else false
noncomputable def exG (P:Prg) (r:Rec) (e:E):Hd→H→Nat→Lo→KS→KS→KS→(V→KS)→(Nat→KS)→Bool:=@E.rec (fun _=>ExT)
 (fun t _=>at3 6 Zi8 Zi8 ZlU (at2 9 ZkE ZkF Za8 t) t) (fun _=>Za8) (fun t _ a _=>at3 6 (Zhc a) (ZlV a) (ZfR a) Za8 t)
 (fun t n x y _ _=>at3 8 (ZlW x y) (Zja x y) (Zjb n x y) Za8 t) (fun t n x y z _ _ _=>at3 6 (exIf x y z) (Zjc x y z) Za8 Za8 t)
 (fun t n w x y z _ _ _ _=>at2 1 (Zjd w x y z) Za8 Za8 t) (fun _ _ _=>Za8) e P r
noncomputable def Zje (P:Prg) (r:Rec) (i:Nat) (hs:E) (hd:Hd) (h:H) (nx:Nat) (lo:Lo) (kn kb kc:KS) (kr:V→KS) (ke:Nat→KS):Bool:=selT hs false (fun t=>bif Nat.beq t 6 then ke i h nx lo else false)
 fun t m ty b rest=>bif Nat.beq t 5 then og (ZaJ h i) fun p=>r.ev ty (hdOf hd i) h nx lo (fun c h nx lo=>Zdb P (cN p.1) c fun t=>
   bif t then bif Nat.beq m 0 then r.ex b (hdOf hd i) h nx lo kn kb kc kr (fun j h nx lo=>Zz h j fun h=>ke j h nx lo)
    else r.ex b (hdOf hd i) h nx (upd lo m (.ref i)) (fun h nx lo=>kn h nx (del lo m)) (fun h nx lo=>kb h nx (del lo m)) (fun h nx lo=>kc h nx (del lo m)) (fun v h nx lo=>kr v h nx (del lo m)) (fun j h nx lo=>Zz h j fun h=>ke j h nx (del lo m))
   else r.hand i rest hd h nx lo kn kb kc kr ke) (fun _ _ _ _=>false) else false
noncomputable def Zas (h:H) (v:V) (i:Nat):Option (Option V):=@Option.rec (List V) (fun _=>Option (Option V))
 (@V.rec (fun _=>Option (Option V)) (fun _=>Unit) none (fun _=>none) (fun _=>none) (fun _=>none) (fun _=>none) (fun _=>none) (fun _=>none) (fun _ _=>none) (fun _=>none) (fun _=>none) (fun _=>none)
  (fun n=>some (bif Nat.blt i n then some (.int (.ofNat i)) else none)) none (fun _ _ _ _=>none) () (fun _ _ _ _=>()) v) (fun l=>some l[i]?) (Zco h v)
noncomputable def ZlX (r:Rec) (t:E) (v:V) (i:Nat) (b:E) (hd:Hd) (h:H) (nx:Nat) (lo:Lo) (kn:KS) (kr:V→KS) (ke:Nat→KS):Bool:=og (Zas h v i) fun x=>@Option.rec V (fun _=>Bool) (bif okHd hd h then kn h nx lo else false)
 (fun x=>r.asg t x hd h nx lo (fun h nx lo=>r.ex b hd h nx lo (fun h nx lo=>r.loop t v (Nat.succ i) b hd h nx lo kn kr ke) kn (fun h nx lo=>r.loop t v (Nat.succ i) b hd h nx lo kn kr ke) kr (fun j h nx lo=>Zz h j fun h=>ke j h nx lo)) (fun j h nx lo=>Zz h j fun h=>ke j h nx lo)) x
noncomputable def ifsF (es:E):Rec→Hd→(Nat→KS)→(Bool→KS)→KS:=
 @E.rec (fun _=>Rec→Hd→(Nat→KS)→(Bool→KS)→KS) (fun t _ _ _ _ k h nx lo=>bif Nat.beq t 6 then k true h nx lo else false) (fun _ _ _ _ _ _ _ _=>false) (fun _ _ _ _ _ _ _ _ _ _ _=>false)
  (fun t _ x _ _ ih r hd ke k h nx lo=>bif Nat.beq t 5 then r.tst x hd h nx lo (fun t h nx lo=>bif t then ih r hd ke k h nx lo else k false h nx lo) ke else false)
  (fun _ _ _ _ _ _ _ _ _ _ _ _ _ _ _=>false) (fun _ _ _ _ _ _ _ _ _ _ _ _ _ _ _ _ _=>false) (fun _ _ _ _ _ _ _ _ _ _=>false) es
noncomputable def ZkG (r:Rec) (t:E) (v:V) (i:Nat) (ifs elt:E) (acc:Nat) (hd:Hd) (h:H) (nx:Nat) (lo:Lo) (kn:KS) (ke:Nat→KS):Bool:=og (Zas h v i) fun x=>@Option.rec V (fun _=>Bool) (bif noHd hd then kn h nx lo else false)
 (fun x=>r.asg t x hd h nx lo (fun h nx lo=>ifsF ifs r hd ke (fun ok h nx lo=>
   bif ok then r.ev elt hd h nx lo (fun y h nx lo=>og (Zg h acc) fun l=>bif Nat.blt l.length 900000 then r.cloop t v (Nat.succ i) ifs elt acc hd (hp h acc (.list (l ++ [y]))) nx lo kn ke else false) ke
   else r.cloop t v (Nat.succ i) ifs elt acc hd h nx lo kn ke) h nx lo) ke) x
noncomputable def rec0:Rec where
 fu:=0
 ev:=fun _ _ _ _ _ _ _=>false
 tst:=fun _ _ _ _ _ _ _=>false
 ex:=fun _ _ _ _ _ _ _ _ _ _=>false
 app:=fun _ _ _ _ _ _ _ _=>false
 asg:=fun _ _ _ _ _ _ _ _=>false
 loop:=fun _ _ _ _ _ _ _ _ _ _ _=>false
 cloop:=fun _ _ _ _ _ _ _ _ _ _ _ _=>false
 hand:=fun _ _ _ _ _ _ _ _ _ _ _=>false
noncomputable def ZdD (P:Prg) (r:Rec):Rec where
 fu:=Nat.succ r.fu
 ev:=evG P r
 tst:=tstG P r
 ex:=exG P r
 app:=app1 P r
 asg:=asgG P r
 loop:=ZlX r
 cloop:=ZkG r
 hand:=Zje P r
noncomputable def rec (P:Prg) (n:Nat):Rec:=@Nat.rec (fun _=>Rec) rec0 (fun _ ih=>ZdD P ih) n
end
end Mn
end
section
namespace Mn
open PySem
noncomputable def bad:E:=.k 0 0
noncomputable def nil:E:=.k 6 0
noncomputable def cOp:Operator→Nat
 | .Add=>0 | .Sub=>1 | .Mult=>2 | .Mod=>3 | .FloorDiv=>4 | .Pow=>5 | _=>99
noncomputable def cCmp:CmpOp→Nat
 | .Eq=>0 | .NotEq=>1 | .Is=>2 | .IsNot=>3 | .In=>4 | .NotIn=>5 | .Lt=>6 | .Gt=>7 | _=>99
noncomputable def Zhd:Const→E
 | .none=>.c .none | .bool b=>.c (.bool b) | .int i=>.c (.int i) | .str s=>cond (gd s) (.c (.str (enc s))) bad | _=>bad
noncomputable abbrev Sc:=List (Str × NameKind)
noncomputable def ZG (sc:Sc):List Nat:=sc.filterMap fun x=>if x.2 == .cell then some (enc x.1) else none
noncomputable def ZC (sc:Sc):List Nat:=sc.filterMap fun x=>if x.2 == .free then some (enc x.1) else none
noncomputable def ZF (outer inner:Sc):Sc:=inner.map fun x=>if x.2 == .free&&outer.lookup x.1==some .cell then(x.1,.cell) else x
noncomputable def gdn (x:Str):Bool:=gd x&&!(x==("__debug__" : Str))&&!(x==("__classdict__" : Str))
noncomputable def ZeS (n:Nat):Option NameKind→E
 | some .local=>.k 1 n
 | some .cell=>.k 2 n
 | some .free=>.k 2 n
 | some .globalImplicit=>.k 3 n
 | _=>bad
noncomputable def ZcM (n:Nat):Option NameKind→E
 | some .local=>.k 4 n
 | some .cell=>.k 5 n
 | _=>bad
noncomputable def selX {R:Type} (e:Expr) (d:R) (nm:Str→R) (tp:List Expr→R) (ls sl:R) (cl:Expr→R) (cs:Const→R) (at_:Expr→Str→Pos→R) (st:R):R:=match e with
 | .Name x _=>nm x
 | .Tuple es _ _=>tp es
 | .List _ _=>ls
 | .Slice _ _ _ _=>sl
 | .Call f _ _ _=>cl f
 | .Constant c _ _=>cs c
 | .Attribute o x p=>at_ o x p
 | .Starred _ _=>st
 | _=>d
noncomputable def isNm (e:Expr):Bool:=selX e false (fun _=>true) (fun _=>false) false false (fun _=>false) (fun _=>false) (fun _ _ _=>false) false
noncomputable def ZD (e:Expr):Bool:=selX e true (fun _=>true) (fun _=>true) true true (fun f=>!isNm f) (fun _=>true) (fun _ _ _=>true) true
noncomputable def Zcq:List Str→Bool
 | []=>true
 | x :: l=>!l.contains x&&Zcq l
noncomputable def Zcr (scope:Scope):Bool:=scope.kind == .function&&(scope.names.all fun x=>x.2 != .cell&&gd x.1)&&Zcq (scope.names.map (·.1))
noncomputable def ZfS (sc:Sc) (e:Expr):Bool:=selX e false (fun id=>sc.lookup id==some .local) (fun _=>false) false false (fun _=>false) (fun _=>false) (fun _ _ _=>false) false
noncomputable def tupOf? (e:Expr):Option (List Expr):=selX e none (fun _=>none) some none none (fun _=>none) (fun _=>none) (fun _ _ _=>none) none
noncomputable def Zjw (e:Expr):Bool:=selX e false (fun _=>false) (fun _=>false) true false (fun _=>false) (fun _=>false) (fun _ _ _=>false) false
noncomputable def Zbg (sc:Sc) (targets:List Expr) (value:Expr):Bool:=match targets with
 | [t]=>(match tupOf? t with
  | some ts=>(match tupOf? value with
   | some vs=>!(ts.all (ZfS sc))||vs.all (foldedForSure 8)
   | none=>true)
  | none=>!Zjw t)
 | _=>true
noncomputable def Zbh (a:Arguments):Bool:=a.posonlyargs.isEmpty&&a.vararg.isNone&&a.kwonlyargs.isEmpty&&a.kw_defaults.isEmpty&&a.kwarg.isNone
noncomputable def Za9 (a:Arguments) (scope:Scope):Bool:=Zbh a&&a.defaults.isEmpty&&scope.kind == .function&&!scope.isCoroutine&&!scope.isGenerator&&(scope.names.all fun x=>x.2 != .cell&&gd x.1) &&
 (a.args.all fun x=>gd x.arg&&scope.names.lookup x.arg==some .local)&&Zcq (a.args.map (·.arg))
noncomputable def slice? (e:Expr):Bool:=selX e false (fun _=>false) (fun _=>false) false true (fun _=>false) (fun _=>false) (fun _ _ _=>false) false
noncomputable def call? (e:Expr):Bool:=selX e false (fun _=>false) (fun _=>false) false false (fun _=>true) (fun _=>false) (fun _ _ _=>false) false
noncomputable def attr? (e:Expr):Option (Expr × Str × Pos):=selX e none (fun _=>none) (fun _=>none) none none (fun _=>none) (fun _=>none) (fun o x p=>some (o,x,p)) none
noncomputable def star? (e:Expr):Bool:=selX e false (fun _=>false) (fun _=>false) false false (fun _=>false) (fun _=>false) (fun _ _ _=>false) true
noncomputable def Zaw (k:Keyword):Bool:=match k.arg with
 | some a=>gd a
 | none=>false
noncomputable def Ze1 (as:List Expr) (ks:List Keyword):Bool:=!as.any star? && ks.all Zaw
noncomputable def const? (e:Expr):Option Const:=selX e none (fun _=>none) (fun _=>none) none none (fun _=>none) some (fun _ _ _=>none) none
noncomputable def ZaD:List Comprehension→Option (Expr × Expr × List Expr)
 | [⟨t,it,ifs,a⟩]=>if a==0 then some (t,it,ifs) else none
 | _=>none
noncomputable def strK (e:Option Expr):Option Str:=match e with
 | some e=>(match const? e with
  | some (.str s)=>some s
  | _=>none)
 | none=>none
noncomputable def sub? (e:Expr):Option (Expr × Expr):=match e with
 | .Subscript o i _=>cond (slice? i) none (some (o,i))
 | _=>none
noncomputable def sl? (e:Expr):Option (Option Expr × Option Expr):=match e with
 | .Slice lo hi none _=>some (lo,hi)
 | _=>none
mutual
noncomputable def cE (n:Nat) (sc:Sc) (e:Expr):E:=match n with
 | 0=>bad
 | n + 1=>match e with
  | .Constant c _ _=>Zhd c
  | .Name x _=>cond (gdn x) (ZeS (enc x) (sc.lookup x)) bad
  | .BoolOp op vs _=>cond (Nat.ble 2 vs.length) (Zbs n sc op vs) bad
  | .BinOp l op r _=>.b 2 (cOp op) (cE n sc l) (cE n sc r)
  | .UnaryOp op x _=>(match op with
   | .Not=>.u 0 0 (cE n sc x)
   | .USub=>(match const? x with
    | some (.int i)=>.c (.int (-i))
    | _=>bad)
   | _=>bad)
  | .IfExp c t f _=>.t 0 0 (cE n sc c) (cE n sc t) (cE n sc f)
  | .Compare l ops rs _=>(match ops,rs with
   | [op],[r]=>cond (behindInMarks op r) bad (.b 3 (cCmp op) (cE n sc l) (cE n sc r))
   | _,_=>bad)
  | .Attribute o x _=>cond (gd x&&ZD o) (.u 1 (enc x) (cE n sc o)) bad
  | .Call f as ks p=>cond (Ze1 as ks) (match attr? f with
   | some (o,x,ap)=>cond (gd x&&ZD o&&ap.endLine==p.line&&Nat.blt (as.length + ks.length) 28) (.t 2 (enc x) (cE n sc o) (cEs n sc as) (cKw n sc ks)) bad
   | none=>.t 1 0 (cE n sc f) (cEs n sc as) (cKw n sc ks)) bad
  | .Subscript o i _=>cond (slice? i) (match sl? i with
   | some (lo,hi)=>cond (isNm o) (.t 3 (cond lo.isSome (cond hi.isSome 3 1) (cond hi.isSome 2 0)) (cE n sc o) (lo.elim nil (cE n sc)) (hi.elim nil (cE n sc))) bad
   | none=>bad) (.b 4 0 (cE n sc o) (cE n sc i))
  | .List es _=>.u 2 0 (cEs n sc es)
  | .Tuple es _ _=>.u 3 0 (cEs n sc es)
  | .Dict ks vs _=>cond (ks.isEmpty&&vs.isEmpty) (.u 4 0 nil) bad
  | .ListComp elt gens scope _=>(match ZaD gens with
   | some (t,it,ifs)=>cond (Zcr scope) (.q 0 0 (.f ⟨0,0,[],[],[],ZC scope.names⟩ (cE n (ZF sc scope.names) elt)) (cT n (ZF sc scope.names) t) (cE n sc it) (cEs n (ZF sc scope.names) ifs)) bad
   | none=>bad)
  | .Lambda a body scope pos=>cond (Za9 a scope) (.u 5 0 (.f ⟨pos.line,pos.col,a.args.map fun x=>enc x.arg,[],[],ZC scope.names⟩ (cE n scope.names body))) bad
  | _=>bad
noncomputable def Zbs (n:Nat) (sc:Sc) (op:BoolOp) (vs:List Expr):E:=match n with
 | 0=>bad
 | n + 1=>match vs with
  | []=>bad
  | x :: rest=>(match rest with
   | []=>cE n sc x
   | _=>.b (match op with | .And=>0 | .Or=>1) 0 (cE n sc x) (Zbs n sc op rest))
noncomputable def cEs (n:Nat) (sc:Sc) (es:List Expr):E:=match n with
 | 0=>bad
 | n + 1=>cond (es.any star?) bad (match es with
  | []=>nil
  | e :: rest=>.b 5 0 (cE n sc e) (cEs n sc rest))
noncomputable def cKw (n:Nat) (sc:Sc) (ks:List Keyword):E:=match n with
 | 0=>bad
 | n + 1=>cond (ks.all Zaw) (match ks with
  | []=>nil
  | ⟨a,v,_⟩ :: rest=>.b 6 (enc (a.getD default)) (cE n sc v) (cKw n sc rest)) bad
noncomputable def cT (n:Nat) (sc:Sc) (e:Expr):E:=match n with
 | 0=>bad
 | n + 1=>selX e (match sub? e with | some (o,i)=>.b 7 0 (cE n sc o) (cE n sc i) | none=>bad) (fun x=>cond (gdn x) (ZcM (enc x) (sc.lookup x)) bad) (fun es=>cond (es.any star?) bad (.u 10 es.length (cTs n sc es))) bad bad (fun _=>bad) (fun _=>bad) (fun o x _=>cond (gd x&&ZD o) (.u 9 (enc x) (cE n sc o)) bad) bad
noncomputable def cTs (n:Nat) (sc:Sc) (es:List Expr):E:=match n with
 | 0=>bad
 | n + 1=>match es with
  | []=>nil
  | e :: rest=>.b 5 0 (cT n sc e) (cTs n sc rest)
end
noncomputable def cDfl (e:Expr):V:=match const? e with
 | some c=>(match c with | .none=>.none | .bool b=>.bool b | .int i=>.int i | .str s=>cond (gd s) (.str (enc s)) (.unk 0) | _=>.unk 0)
 | none=>.unk 0
noncomputable def ZkH (a:Arguments) (scope:Scope) (pos:Pos):FP:=⟨pos.line,pos.col,a.args.map fun x=>enc x.arg,a.defaults.map cDfl,ZG scope.names,ZC scope.names⟩
noncomputable def cH1 (m:Option Nat) (ok:Bool) (t b r:E):E:=m.elim bad fun m=>cond ok (.t 5 m t b r) bad
noncomputable def ZdE (sc:Sc):Option Str→Option Nat
 | none=>some 0
 | some x=>if gd x&&sc.lookup x==some .local&&Nat.blt 0 (enc x) then some (enc x) else none
mutual
noncomputable def cS (n:Nat) (sc:Sc) (s:Stmt):E:=match n with
 | 0=>bad
 | n + 1=>match s with
  | .Expr e _=>cond (call? e) (.u 6 0 (cE n sc e)) bad
  | .Pass _=>.k 7 0
  | .Break _=>.k 8 0
  | .Continue _=>.k 9 0
  | .Return e _=>(match e with
   | none=>.k 10 0
   | some e=>.u 7 0 (cE n sc e))
  | .Assign ts e _=>cond (Zbg sc ts e&&!ts.any star?) (.b 9 0 (cTs n sc ts) (cE n sc e)) bad
  | .If c a b _=>.t 6 0 (cE n sc c) (cSs n sc a) (cSs n sc b)
  | .For t it a e _=>cond e.isEmpty (.t 7 0 (cT n sc t) (cE n sc it) (cSs n sc a)) bad
  | .Raise e c _=>(match e,c with
   | some e,none=>.u 8 0 (cE n sc e)
   | _,_=>bad)
  | .Try b hs e f _=>cond (hs.isEmpty&&f.isEmpty) bad (.q 1 0 (cSs n sc b) (cHs n sc hs) (cSs n sc e) (cSs n sc f))
  | .Assert t e _=>(match e with
   | none=>.t 6 0 (cE n sc t) nil bad
   | _=>bad)
  | .AugAssign t op e _=>(match attr? t with
   | some (o,x,_)=>cond (gd x&&ZD o) (.t 8 (cOp op) (cE n sc o) (.k 1 (enc x)) (cE n sc e)) bad
   | none=>bad)
  | .FunctionDef x a body ds rt tp scope ts bind pos=>cond (gdn x&&bind==x&&(sc.lookup x==some .local||sc.lookup x==some .cell)&&Za9 a scope&&ds.isEmpty&&rt.isNone&&tp.isEmpty&&ts.isNone&&(a.args.all fun y=>y.annotation.isNone))
    (.b 10 (enc x) (ZcM (enc x) (sc.lookup x)) (.f ⟨pos.line,pos.col,a.args.map fun x=>enc x.arg,[],[],ZC scope.names⟩ (cSs n scope.names body))) bad
  | _=>bad
noncomputable def cSs (n:Nat) (sc:Sc) (ss:List Stmt):E:=match n with
 | 0=>bad
 | n + 1=>match ss with
  | []=>nil
  | s :: rest=>.b 8 0 (cS n sc s) (cSs n sc rest)
noncomputable def cHs (n:Nat) (sc:Sc) (hs:List ExceptHandler):E:=match n with
 | 0=>bad
 | n + 1=>match hs with
  | []=>nil
  | .ExceptHandler t x b _ :: rest=>(match t with
   | some t=>cH1 (ZdE sc x) (isNm t&&!b.isEmpty) (cE n sc t) (cSs n sc b) (cHs n sc rest)
   | none=>bad)
end
noncomputable def F:=80
noncomputable def cFn (a:Arguments) (body:List Stmt) (scope:Scope) (pos:Pos):E:=cond (Zbh a) (.f (ZkH a scope pos) (cSs F scope.names body)) bad
end Mn
end
section
set_option tactic.hygienic false
namespace Mn
open PySem
theorem Ze {α : Type} {P:Prop} {x : α} (h:(none:Option α)=some x):P:=nomatch h
theorem Za {P:Prop} (h:false=true):P:=nomatch h
theorem Zjf {α : Type} {d a b c e f g x : α}:∀ {m:Nat},ZcI d [a,b,c,e,f,g] m=x→(m=0∧a=x)∨(m=1∧b=x)∨(m=2∧c=x)∨(m=3∧e=x)∨(m=4∧f=x)∨(m=5∧g=x)∨d=x
 | 0,h=>.inl ⟨rfl,h⟩
 | 1,h=>.inr (.inl ⟨rfl,h⟩)
 | 2,h=>.inr (.inr (.inl ⟨rfl,h⟩))
 | 3,h=>.inr (.inr (.inr (.inl ⟨rfl,h⟩)))
 | 4,h=>.inr (.inr (.inr (.inr (.inl ⟨rfl,h⟩))))
 | 5,h=>.inr (.inr (.inr (.inr (.inr (.inl ⟨rfl,h⟩)))))
 | _ + 6,h=>.inr (.inr (.inr (.inr (.inr (.inr h)))))
theorem Zai (l:List Nat) (c:Nat):encL (l ++ [c])=encL l * 256 + c:=by simp [encL,List.foldl_append]
theorem Zbi {l:List Nat} {c:Nat} (h:gdL (l ++ [c])=true):gdL l=true∧0 < c∧c < 128:=by
 simp only [gdL,List.all_append,Bool.and_eq_true,List.all_cons,List.all_nil,Bool.and_true] at h
 exact⟨h.1,Nat.blt_eq.mp h.2.1,Nat.blt_eq.mp h.2.2⟩
theorem Zih:∀ (n:Nat) {l k:List Nat},l.length=n→gdL l=true→gdL k=true→encL l=encL k→l=k:=by
 intro n
 induction n with
 | zero=>
  intro l k hn hl hk e
  obtain rfl:=List.eq_nil_of_length_eq_zero hn
  rcases List.eq_nil_or_concat k with rfl | ⟨k',c,rfl⟩
  ·rfl
  ·rw[List.concat_eq_append] at hk e
   obtain⟨_,c0,c1⟩:=Zbi hk
   rw[Zai] at e
   have:encL ([]:List Nat)=0:=rfl
   omega
 | succ n ih=>
  intro l k hn hl hk e
  rcases List.eq_nil_or_concat l with rfl | ⟨l',d,rfl⟩
  ·simp at hn
  ·rcases List.eq_nil_or_concat k with rfl | ⟨k',c,rfl⟩
   ·rw[List.concat_eq_append] at hl e
    obtain⟨_,c0,c1⟩:=Zbi hl
    rw[Zai] at e
    have:encL ([]:List Nat)=0:=rfl
    omega
   ·simp only [List.concat_eq_append] at hl hk e hn ⊢
    obtain⟨hl',d0,d1⟩:=Zbi hl
    obtain⟨hk',c0,c1⟩:=Zbi hk
    rw[Zai,Zai] at e
    have hn':l'.length=n:=by simpa using hn
    have e1:d=c:=by omega
    have e2:encL l'=encL k':=by omega
    rw[e1,ih hn' hl' hk' e2]
theorem Zw {x y:Str} (hx:gd x=true) (hy:gd y=true) (e:enc x=enc y):x=y:=by
 have h:=Zih _ rfl hx hy e
 obtain⟨⟨a⟩⟩:=x; obtain⟨⟨b⟩⟩:=y
 simp only at h
 rw[h]
theorem brec {β : Type} (b:Bool) (t f : β) : @Bool.rec (fun _=>β) f t b=cond b t f:=by cases b <;> rfl
theorem ZE {β : Type} (i j:Nat) (t f : β):cond (Nat.beq i j) t f=if i=j then t else f:=by
 by_cases h:i=j
 ·rw[if_pos h,show Nat.beq i j=true from Nat.beq_eq.mpr h]; rfl
 ·rw[if_neg h,show Nat.beq i j=false from by rw[← Bool.not_eq_true,Nat.beq_eq]; exact h]; rfl
namespace BT
variable {α : Type}
theorem ZcN (i:Nat):(BT.nil:BT α).get i=none:=rfl
theorem get_node (v:Option α) (l r:BT α) (i:Nat):(BT.node v l r).get i=if i=0 then v else if i % 2=1 then l.get (i / 2) else r.get (i / 2 - 1):=
 (brec (Nat.beq i 0) v _).trans ((ZE _ _ _ _).trans (by
  split
  ·rfl
  ·exact(brec (Nat.beq (Nat.mod i 2) 1) _ _).trans (ZE _ _ _ _)))
theorem Zjx (n:Nat) (i:Nat) (o : α):put (n + 1) .nil i o=if i=0 then .node (some o) .nil .nil else if i % 2=1 then .node none (put n .nil (i / 2) o) .nil else .node none .nil (put n .nil (i / 2 - 1) o):=
 (brec (Nat.beq i 0) _ _).trans ((ZE _ _ _ _).trans (by
  split
  ·rfl
  ·exact(brec (Nat.beq (Nat.mod i 2) 1) _ _).trans (ZE _ _ _ _)))
theorem Zii (n:Nat) (v:Option α) (l r:BT α) (i:Nat) (o : α):put (n + 1) (.node v l r) i o=if i=0 then .node (some o) l r else if i % 2=1 then .node v (put n l (i / 2) o) r else .node v l (put n r (i / 2 - 1) o):=
 (brec (Nat.beq i 0) _ _).trans ((ZE _ _ _ _).trans (by
  split
  ·rfl
  ·exact(brec (Nat.beq (Nat.mod i 2) 1) _ _).trans (ZE _ _ _ _)))
theorem Zjy {i j:Nat} (h1:i % 2=1) (k1:j % 2=1):(j / 2=i / 2)=(j=i):=propext (by omega)
theorem Zgw {i:Nat} (h : ¬ i % 2=1) : 2 * (i / 2)=i:=Nat.mul_div_cancel' (Nat.dvd_of_mod_eq_zero ((Nat.mod_two_eq_zero_or_one i).resolve_right h))
theorem Ze2 {i:Nat} (h0 : ¬ i=0) (h : ¬ i % 2=1) : 0 < i / 2:=Nat.pos_of_ne_zero fun e=>h0 (by rw[← Zgw h,e])
theorem Zij {i j:Nat} (h0 : ¬ i=0) (k0 : ¬ j=0) (h1 : ¬ i % 2=1) (k1 : ¬ j % 2=1):(j / 2 - 1=i / 2 - 1)=(j=i):=
 propext ⟨fun e=>by rw[← Zgw k1,← Zgw h1,Nat.sub_one_cancel (Ze2 k0 k1) (Ze2 h0 h1) e],fun e=>by rw[e]⟩
theorem ZcO {i n:Nat} (h:i < n + 1) (h0 : ¬ i=0):i / 2 < n∧i / 2 - 1 < n:=
 have x:i / 2 < n:=Nat.lt_of_lt_of_le (Nat.div_lt_self (Nat.pos_of_ne_zero h0) (by decide)) (Nat.le_of_lt_succ h)
 ⟨x,Nat.lt_of_le_of_lt (Nat.sub_le _ _) x⟩
theorem Ze3 (v:Option α) (l r l' r':BT α) (i j:Nat) (x:Option α) (h0 : ¬ i=0) (hl:∀ j,l'.get j=if j=i / 2 then x else l.get j) (hr:∀ j,r'.get j=if j=i / 2 - 1 then x else r.get j) :
  (if i % 2=1 then BT.node v l' r else BT.node v l r').get j=if j=i then x else(BT.node v l r).get j:=by
 rw[get_node v l r j]
 by_cases h1:i % 2=1
 ·rw[if_pos h1,get_node]
  by_cases k0:j=0
  ·rw[if_pos k0,if_pos k0,if_neg (fun e=>h0 (e.symm.trans k0))]
  ·rw[if_neg k0,if_neg k0]
   by_cases k1:j % 2=1
   ·rw[if_pos k1,if_pos k1,hl]; simp only [Zjy h1 k1]
   ·rw[if_neg k1,if_neg k1,if_neg (fun e:j=i=>k1 (e ▸ h1))]
 ·rw[if_neg h1,get_node]
  by_cases k0:j=0
  ·rw[if_pos k0,if_pos k0,if_neg (fun e=>h0 (e.symm.trans k0))]
  ·rw[if_neg k0,if_neg k0]
   by_cases k1:j % 2=1
   ·rw[if_pos k1,if_pos k1,if_neg (fun e:j=i=>h1 (e ▸ k1))]
   ·rw[if_neg k1,if_neg k1,hr]; simp only [Zij h0 k0 h1 k1]
theorem Ze4 (v x:Option α) (l r:BT α) (j:Nat):(BT.node x l r).get j=if j=0 then x else(BT.node v l r).get j:=by
 rw[get_node,get_node]; split <;> rfl
theorem Zik (j:Nat):(BT.nil:BT α).get j=(BT.node none .nil .nil).get j:=by rw[get_node,ZcN,ZcN,ZcN,ite_self,ite_self]
theorem get_put:∀ (n:Nat) (t:BT α) (i j:Nat) (o : α),i < n→(put n t i o).get j=if j=i then some o else t.get j:=by
 intro n
 induction n with
 | zero=>intro t i j o h; exact absurd h (Nat.not_lt_zero _)
 | succ n ih=>
  have main:∀ (v:Option α) (l r:BT α) (i j:Nat) (o : α),i < n + 1→(if i=0 then BT.node (some o) l r else if i % 2=1 then .node v (put n l (i / 2) o) r else .node v l (put n r (i / 2 - 1) o)).get j=if j=i then some o else(BT.node v l r).get j:=by
   intro v l r i j o h
   by_cases h0:i=0
   ·rw[if_pos h0,h0]; exact Ze4 v _ l r j
   ·rw[if_neg h0]
    exact Ze3 v l r _ _ i j (some o) h0 (fun j=>ih l _ j o (ZcO h h0).1) (fun j=>ih r _ j o (ZcO h h0).2)
  intro t i j o h
  cases t with
  | nil=>rw[Zjx,Zik]; exact main none .nil .nil i j o h
  | node v l r=>rw[Zii]; exact main v l r i j o h
theorem Zjz (n:Nat) (i:Nat):del (α:=α) (n + 1) .nil i=.nil:=rfl
theorem Zil (n:Nat) (v:Option α) (l r:BT α) (i:Nat):del (n + 1) (.node v l r) i=if i=0 then .node none l r else if i % 2=1 then .node v (del n l (i / 2)) r else .node v l (del n r (i / 2 - 1)):=
 (brec (Nat.beq i 0) _ _).trans ((ZE _ _ _ _).trans (by
  split
  ·rfl
  ·exact(brec (Nat.beq (Nat.mod i 2) 1) _ _).trans (ZE _ _ _ _)))
theorem get_del:∀ (n:Nat) (t:BT α) (i j:Nat),i < n→(del n t i).get j=if j=i then none else t.get j:=by
 intro n
 induction n with
 | zero=>intro t i j h; exact absurd h (Nat.not_lt_zero _)
 | succ n ih=>
  intro t i j h
  cases t with
  | nil=>rw[Zjz,ZcN]; split <;> rfl
  | node v l r=>
   rw[Zil]
   by_cases h0:i=0
   ·rw[if_pos h0,h0]; exact Ze4 v _ l r j
   ·rw[if_neg h0]
    exact Ze3 v l r _ _ i j none h0 (fun j=>ih l _ j (ZcO h h0).1) (fun j=>ih r _ j (ZcO h h0).2)
end BT
theorem Ze5 (h:H) (a j:Nat):(hdel h a).get j=if j=a then none else h.get j:=BT.get_del _ _ _ _ (Nat.lt_succ_self _)
theorem Zm (h:H) (a j:Nat) (o:O):(hp h a o).get j=if j=a then some o else h.get j:=BT.get_put _ _ _ _ _ (Nat.lt_succ_self _)
theorem Zp {α : Type} (p:Nat × α) (l:List (Nat × α)) (n:Nat):look (p :: l) n=if p.1=n then some p.2 else look l n:=by
 exact(brec (Nat.beq p.1 n) _ _).trans (ZE _ _ _ _)
theorem Zay {α : Type} (p:Nat × α) (l:List (Nat × α)) (n:Nat) (v : α):upd (p :: l) n v=if p.1=n then(p.1,v) :: l else p :: upd l n v:=by
 exact(brec (Nat.beq p.1 n) _ _).trans (ZE _ _ _ _)
theorem Zb2 {α : Type} (l:List (Nat × α)) (n j:Nat) (v : α):look (upd l n v) j=if j=n then some v else look l j:=by
 induction l with
 | nil=>
  show look [(n,v)] j = _
  rw[Zp]
  by_cases h:j=n
  ·rw[if_pos h,if_pos h.symm]
  ·rw[if_neg h,if_neg (fun e=>h e.symm)]
 | cons p l ih=>
  rw[Zay]
  split
  ·next h=>
   rw[Zp,Zp]
   by_cases hj:j=n
   ·rw[if_pos hj,if_pos (h.trans hj.symm)]
   ·rw[if_neg hj]
    have : ¬ p.1=j:=fun e=>hj (e.symm.trans h)
    rw[if_neg this,if_neg this]
  ·next h=>
   rw[Zp,Zp,ih]
   by_cases hj:j=n
   ·subst hj; simp [h]
   ·simp [hj]
theorem mem_cons (k:Nat) (l:List Nat) (n:Nat):mem (k :: l) n=if k=n then true else mem l n:=by
 exact(brec (Nat.beq k n) _ _).trans (ZE _ _ _ _)
theorem ZZ {α : Type} {x:Option α} {k : α→Bool} (h:og x k=true):∃ a,x=some a∧k a=true:=by
 cases x with
 | none=>exact Za h
 | some a=>exact⟨a,rfl,h⟩
theorem Zc {α : Type} {x:Option α} {k : α→Bool} {G:Prop} (h:og x k=true) (f:∀ a,x=some a→k a=true→G):G:=by
 cases x with
 | none=>exact Za h
 | some a=>exact f a rfl h
theorem Zf {b x:Bool} {G:Prop} (h:(bif b then x else false)=true) (f:b=true→x=true→G):G:=by
 cases b with
 | true=>exact f rfl h
 | false=>exact Za h
theorem Ze6 {b x:Bool} (h:(bif b then x else false)=true):b=true∧x=true:=Zf h fun a b=>⟨a,b⟩
theorem Zi {α β : Type} {x:Option α} {f : α→Option β} {y : β} {G:Prop} (h:Zj x f=some y) (k:∀ a,x=some a→f a=some y→G):G:=by
 cases x with
 | none=>exact Ze h
 | some a=>exact k a rfl h
theorem byG {P:Prop} (h:∀ G:Prop,(P→G)→G):P:=h P id
theorem Zim {α : Type} (l:List (Nat × α)) (n j:Nat):look (del l n) j=if j=n then none else look l j:=by
 induction l with
 | nil=>show none = _; split <;> rfl
 | cons p l ih=>
  have e:del (p :: l) n=if p.1=n then del l n else p :: del l n:=(brec (Nat.beq p.1 n) _ _).trans (ZE _ _ _ _)
  rw[e,Zp]
  by_cases h:p.1=n
  ·rw[if_pos h,ih]
   by_cases q:j=n
   ·rw[if_pos q,if_pos q]
   ·rw[if_neg q,if_neg q,if_neg (fun r=>q (r.symm.trans h))]
  ·rw[if_neg h,Zp,ih]
   by_cases q:p.1=j
   ·rw[if_pos q,if_pos q,if_neg (fun r=>h (q.trans r))]
   ·rw[if_neg q,if_neg q]
theorem ZjA {l:Lo} {j:Nat} {v:V}:(upd l j v).length=if (look l j).isSome=true then l.length else l.length + 1:=by
 induction l with
 | nil=>rfl
 | cons p l ih=>
  rw[Zay,Zp]
  split
  ·simp
  ·rw[List.length_cons,ih]; split <;> simp_all
theorem ZbI (l:Lo) (n:Nat):hasK l n=(look l n).isSome:=by
 unfold hasK
 cases look l n <;> rfl
noncomputable def ZkI (e:E):Bool:=selF e true fun _ _=>false
theorem Zk {v:V} {i:Nat} (h:vRef v=some i):v=.ref i:=by
 cases v <;> first | exact Ze h | exact congrArg V.ref (Option.some.inj h)
theorem Z4 {v:V} {i:Nat} (h:vStr v=some i):v=.str i:=by
 cases v <;> first | exact Ze h | exact congrArg V.str (Option.some.inj h)
theorem Zt {v:V} {i:Int} (h:vInt v=some i):v=.int i:=by
 cases v <;> first | exact Ze h | exact congrArg V.int (Option.some.inj h)
theorem ZT {v:V} {i:Nat} (h:Z8 v=some i):v=.sint i:=by
 cases v <;> first | exact Ze h | exact congrArg V.sint (Option.some.inj h)
theorem Zdc {v:V} {i:Nat} (h:vSv v=some i):v=.sv i:=by
 cases v <;> first | exact Ze h | exact congrArg V.sv (Option.some.inj h)
theorem Zb3 {v:V} {i:Bool} (h:Zbo v=some i):v=.bool i:=by
 cases v <;> first | exact Ze h | exact congrArg V.bool (Option.some.inj h)
theorem ZP {v:V} {i:List V} (h:vTup v=some i):v=.tup i:=by
 cases v <;> first | exact Ze h | exact congrArg V.tup (Option.some.inj h)
theorem Zbt {v:V} {i:Nat} (h:vTop v=some i):v=.top i:=by
 cases v <;> first | exact Ze h | exact congrArg V.top (Option.some.inj h)
theorem Zdd {v:V} {i:Nat} (h:vBi v=some i):v=.bi i:=by
 cases v <;> first | exact Ze h | exact congrArg V.bi (Option.some.inj h)
theorem Zao {v:V} (h:ZS v=true):v=.none:=by
 cases v <;> first | rfl | exact Za h
theorem Zb4 {o:O} {p:Nat × Lo} (h:Zgj o=some p):o=.inst p.1 p.2:=by
 cases o <;> first | exact Ze h | (cases h; rfl)
theorem Zcs {o:O} {p:Nat × Bool × Lo} (h:oExc o=some p):o=.exc p.1 p.2.1 p.2.2:=by
 cases o <;> first | exact Ze h | (cases h; rfl)
theorem Zb5 {o:O} {p:List V} (h:ZcJ o=some p):o=.list p:=by
 cases o <;> first | exact Ze h | (cases h; rfl)
theorem ZdF {o:O} {p:Lo} (h:ZeK o=some p):o=.dict p:=by
 cases o <;> first | exact Ze h | (cases h; rfl)
theorem ZdG {o:O} {p:Option V} (h:Zgk o=some p):o=.cell p:=by
 cases o <;> first | exact Ze h | (cases h; rfl)
theorem ZdH {o:O} {p:E × Cs} (h:Zgl o=some p):o=.clos p.1 p.2:=by
 cases o <;> first | exact Ze h | (cases h; rfl)
theorem ZW {α : Type} {f:O→Option α} {h:H} {a:Nat} {x : α} (e:onO f h a=some x):∃ o,h.get a=some o∧f o=some x:=by
 unfold onO at e
 cases q:h.get a with
 | none=>rw[q] at e; exact Ze e
 | some o=>rw[q] at e; exact⟨o,rfl,e⟩
theorem ZaU {h:H} {a:Nat} {p:Nat × Lo} (e:ZbE h a=some p):h.get a=some (.inst p.1 p.2):=let ⟨_,q,r⟩:=ZW e; q.trans (congrArg some (Zb4 r))
theorem Z9 {h:H} {a:Nat} {p:Nat × Bool × Lo} (e:ZaJ h a=some p):h.get a=some (.exc p.1 p.2.1 p.2.2):=let ⟨_,q,r⟩:=ZW e; q.trans (congrArg some (Zcs r))
theorem ZH {h:H} {a:Nat} {p:List V} (e:Zg h a=some p):h.get a=some (.list p):=let ⟨_,q,r⟩:=ZW e; q.trans (congrArg some (Zb5 r))
theorem Zat {h:H} {a:Nat} {p:Lo} (e:Zag h a=some p):h.get a=some (.dict p):=let ⟨_,q,r⟩:=ZW e; q.trans (congrArg some (ZdF r))
theorem ZbA {h:H} {a:Nat} {p:Option V} (e:Zbf h a=some p):h.get a=some (.cell p):=let ⟨_,q,r⟩:=ZW e; q.trans (congrArg some (ZdG r))
theorem Zc5 {h:H} {a:Nat} {p:E × Cs} (e:ZbF h a=some p):h.get a=some (.clos p.1 p.2):=let ⟨_,q,r⟩:=ZW e; q.trans (congrArg some (ZdH r))
end Mn
end
section
set_option tactic.hygienic false
namespace Mn
open PySem PySem.W PyProof.Rows PySem.Calls
noncomputable def nthV:List Value→Nat→Value
 | [],_=>.ellipsis
 | v :: l,n=>Nat.rec v (fun m _=>nthV l m) n
noncomputable def biV (n:Nat):Value:=nthV [.ellipsis,.builtin "len",.type "list",.type "range",.type "str",.builtin "abs",.builtin "isinstance",.builtin "hasattr",.type "bool",.ellipsis,.type "Exception",.type "KeyError",.type "ValueError",.type "TypeError",.type "dict"] n
theorem Zde {p:Value→Bool} (h0:p .ellipsis=true):∀ (l:List Value) (n:Nat),l.all p=true→p (nthV l n)=true
 | [],_,_=>h0
 | _ :: _,0,h=>(Yb h).1
 | _ :: l,n + 1,h=>Zde h0 l n (Yb h).2
noncomputable def bltV:Value→Bool
 | .ellipsis=>true
 | .builtin i=>(withoutEnding? i "#data").isNone
 | .type _=>true
 | _=>false
theorem ZfT (n:Nat):bltV (biV n)=true:=Zde rfl _ n (by decide)
structure Gl where
 prog:Program
 w:World
 K:Frag
 P:Prg
 p:Program
 loose:List Str
 mean:ExcName→Option Value
 mg:Str→Option Value
 mb:Str→Option Value
 base:Heap
 tabs:List (Addr × Addr × Str)      -- code,its table,the prefix of the qualified names of what its text makes
 unk:Nat→Value→Prop              -- values that are not known
 sv:Nat→Str                        -- texts that are not known
 sint:Nat→Int                      -- numbers that are not known
 gh:Nat→List V                     -- what a list begins with
 abs:Nat→Obj→Prop
 pm:Nat→Nat→Int                  -- what a dict of small numbers answers
 pk:Nat→List Nat                   -- its keys are among these
 cap:Nat                             -- what a list begins with is no longer than this
 dn:Nat→Nat→Str                  -- the names of the defs within functions,by their place
 fz:List (Addr × Obj)                -- objects that stay as they are
 gd:List (Nat × Int)                 -- what a dict of numbers begins with
 gens:Array GenState
 os:OsState
noncomputable def Gl.TA (g:Gl):List Addr:=g.tabs.map (·.2.1)++g.fz.map (·.1)
noncomputable def excV (k:Nat):Value:=if k < 20 then biV k else .ref k
structure Cx where
 env:Env
 fenv:Env
 A:Around
 L:Addr
 outer:List Env
 hd:Hd
 he:Addr
structure St where
 h:H
 nx:Nat
 lo:Lo
 ρ : Nat→Addr
 m:Str→Option Value
 news:List (Addr × Obj)
 s:Shared
 g0:Heap
noncomputable abbrev Zba (its:Array Value) (n:Nat):Obj:={ cls:=.type "tuple",data:=.seq its n }
noncomputable def two:O→Bool
 | .inst _ _=>true
 | .exc _ _ f=>!f.isEmpty
 | _=>false
noncomputable def Use (h:H) (k:Nat):Prop:=match h.get (k / 2) with
 | some o=>k % 2=0∨two o=true
 | none=>False
noncomputable def Unt (σ : St) (a:Addr):Prop:=∀ k,Use σ.h k→σ.ρ k≠a
noncomputable def Pin0 (g:Gl) (σ : St) (a:Addr) (o:Obj):Prop:=(a,o) ∈ σ.news∧Unt σ a∧a ∉ g.TA
noncomputable def Tb (o:Obj):Prop:=∃ ts,o.data=.fields ts∧3 < ts.size∧∀ q t,ts[1]?≠some (.str q t)
noncomputable def ZbJ:List Nat→List (Str × Value)→Prop
 | [],[]=>True
 | n :: l,q :: r=>gd q.1=true∧enc q.1=n∧ZbJ l r
 | _,_=>False
noncomputable def GdR:List (Nat × Int)→List (Str × Value)→Prop
 | [],[]=>True
 | p :: l,q :: r=>gd q.1=true∧enc q.1=p.1∧(∃ t,q.2=.int p.2 t)∧GdR l r
 | _,_=>False
noncomputable def ZA (es:List DictEntry) (x:Str):Option Value:=(es.find? (·.key.isStr x)).map (·.val)
noncomputable def Zae (es:List DictEntry):Prop:=∀ e ∈ es,∃ x t,e.key=.str x t∧gd x=true
noncomputable def FrO (g:Gl) (a:Addr) (ks:List Nat) (its:List Value) (o:Obj):Nat→Prop
 | 0=>ks = []∧∃ n,o=listOf its.toArray n
 | 1=>a≠sysModules∧∃ kvs,o.IsDictOf (strKind g.prog g.w) kvs∧its=kvs.map (·.2)∧ZbJ ks kvs
 | 2=>a≠sysModules∧g.gd.length≤1000∧ks = []∧its = []∧∃ kvs,o.IsDictOf (strKind g.prog g.w) kvs∧GdR g.gd kvs
 | k + 3=>∃ d es n,o=instObj k d∧(d,dictOf es n) ∈ g.fz∧Zae es∧es.length≤ks.length∧∀ x,gd x=true→ZA es x=look (ks.zip its) (enc x)
mutual
noncomputable def VR (g:Gl) (σ : St):V→Value→Prop
 | .none,w=>w=.none
 | .bool b,w=>w=.bool b
 | .int i,w=>∃ t,w=.int i t
 | .sint k,w=>∃ t,w=.int (g.sint k) t
 | .str n,w=>∃ x t,w=.str x t∧gd x=true∧enc x=n
 | .sv k,w=>∃ t,w=.str (g.sv k) t
 | .unk k,w=>g.unk k w∧handedIn w=true
 | .tup vs,w=>∃ a its n,w=.ref a∧Pin0 g σ a (Zba (List.toArray its) n)∧VRs g σ vs its
 | .ref i,w=>w=.ref (σ.ρ (2 * i))∧i < σ.nx
 | .top a,w=>w=.ref a∧∃ o,g.K.lookup a=some o
 | .bi n,w=>w=biV n
 | .rng n,w=>∃ a o,w=.ref a∧n < 1000∧Pin0 g σ a o∧∃ t u v,o = { cls:=.type "range",data:=.fields #[.int 0 t,.int n u,.int 1 v] }
 | .other,w=>∃ a o,w=.ref a∧Pin0 g σ a o∧(∃ C,o.cls=.ref C)∧(∀ es n,o.data≠.dict es n)∧¬ Tb o
 | .fr k ks vs,w=>∃ a o its,w=.ref a∧(a,o) ∈ g.fz∧FrO g a ks its o k∧VRs g σ vs its
noncomputable def VRs (g:Gl) (σ : St):List V→List Value→Prop
 | [],[]=>True
 | v :: vs,w :: ws=>VR g σ v w∧VRs g σ vs ws
 | _,_=>False
end
noncomputable def SR (g:Gl) (σ : St):Lo→List (Str × Value)→Prop
 | [],[]=>True
 | p :: l,q :: r=>gd q.1=true∧enc q.1=p.1∧VR g σ p.2 q.2∧SR g σ l r
 | _,_=>False
noncomputable def OV (g:Gl) (σ : St):Option V→Option Value→Prop
 | .none,w=>w=.none
 | some v,w=>∃ x,w=some x∧VR g σ v x
noncomputable def OVw (g:Gl) (σ : St):Option V→Option Value→Prop
 | .none,_=>True
 | some v,w=>∃ x,w=some x∧VR g σ v x
noncomputable def LR (g:Gl) (σ : St) (lo:Lo) (m:Str→Option Value):Prop:=∀ x,gd x=true→OV g σ (look lo (enc x)) (m x)
noncomputable def LW (g:Gl) (σ : St) (lo:Lo) (m:Str→Option Value):Prop:=∀ x v,gd x=true→look lo (enc x)=some v→∃ w,m x=some w∧VR g σ v w
noncomputable def CsR (cs:Cs) (ρ : Nat→Addr) (nx:Nat) (cells:List (Str × Addr)):Prop:=∀ x i,gd x=true→look cs (enc x)=some i→i < nx∧cells.lookup x=some (ρ (2 * i))
noncomputable def CodeN (g:Gl) (σ : St) (cd:Value) (q:Str):Prop:=∃ c o vs t,cd=.ref c∧Pin0 g σ c o∧o.data=.fields vs∧vs[1]? = some (.str q t)
noncomputable def Zb6 (o:Obj) (m:Str→Option Value):Prop:=∃ es ep,o.data=.dict es ep∧StrKeys es∧∀ x,nsFind es x=m x
noncomputable def TbAt (g:Gl) (σ : St) (T:Addr):Prop:=∃ o,Pin0 g σ T o∧Tb o
inductive OwnR (g:Gl) (σ : St) (d:Addr) (f:Lo):Prop
 | mk (es:List DictEntry) (n:Nat) (b:(d,dictOf es n) ∈ σ.news) (k:Zae es) (l:es.length≤f.length) (r:LR g σ f (ZA es))
inductive ListR (g:Gl) (σ : St) (a:Addr) (xs:List V):Prop
 | mk (its:List Value) (n:Nat) (m:(a,listOf its.toArray n) ∈ σ.news) (z:xs.length≤1000000) (r:VRs g σ xs its)
noncomputable def Zb7 (v:V):Bool:=@V.rec (fun _=>Bool) (fun _=>Unit) true (fun _=>true) (fun _=>true) (fun _=>false) (fun _=>true) (fun _=>false) (fun _=>false) (fun _ _=>false) (fun _=>false) (fun _=>false) (fun _=>false) (fun _=>false) false (fun _ _ _ _=>false) () (fun _ _ _ _=>()) v
noncomputable def plN (n:Nat):V→Bool:=@Nat.rec (fun _=>V→Bool) Zb7 (fun _ ih v=>Zb7 v||(og (vTup v) fun vs=>vs.all ih)||og (vFr v) fun p=>(Nat.beq p.1 0&&p.2.2.all ih)||(Nat.beq p.1 1&&p.2.2.all fun v=>og (vInt v) fun _=>true)) n
noncomputable def ZN (v:V):Bool:=@V.rec (fun _=>Bool) (fun _=>Bool) true (fun _=>true) (fun _=>true) (fun _=>false) (fun _=>true) (fun _=>false) (fun k=>Nat.beq k 0) (fun _ ih=>ih) (fun _=>false) (fun _=>false) (fun _=>false) (fun _=>false) false
 (fun k _ _ ih=>!Nat.beq k 2&&ih) true (fun _ _ a b=>a&&b) v
noncomputable def PreR (g:Gl) (σ : St) (pk:Nat) (pre:List Value):Prop:=@Nat.rec (fun _=>Prop) True (fun k _=>@Nat.rec (fun _=>Prop) ((∀ v ∈ pre,VR g σ .other v)∧(pre.length:Int)=g.sint 50∧pre.length≤60) (fun k _=>VRs g σ (g.gh k) pre∧∀ v ∈ g.gh k,ZN v=true∧(k=0→plN 5 v=true)) k) pk
inductive EListR (g:Gl) (σ : St) (a:Addr) (pk:Nat) (xs:List V):Prop
 | mk (pre its:List Value) (n:Nat) (m:(a,listOf (pre++its).toArray n) ∈ σ.news) (b:PreR g σ pk pre) (l:pre.length≤g.cap∧g.cap≤900000∧xs.length≤1000) (r:VRs g σ xs its)
noncomputable def Zaf (kvs:List (Str × Value)) (x:Str):Int:=match kvs.lookup x with
 | some (.int i _)=>i
 | _=>0
inductive PmapR (g:Gl) (σ : St) (a:Addr) (pk:Nat) (es:Lo):Prop
 | mk (o:Obj) (kvs:List (Str × Value)) (m:(a,o) ∈ σ.news) (d:o.IsDictOf (strKind g.prog g.w) kvs) (z:a≠sysModules) (i:∀ x w,kvs.lookup x=some w→gd x=true∧mem (g.pk pk) (enc x)=true∧∃ i t,w=.int i t)
   (r:∀ x,gd x=true→(∀ v,look es (enc x)=some v→v=.int (Zaf kvs x))∧(look es (enc x)=none→Zaf kvs x=g.pm pk (enc x)))
noncomputable def evI (g:Gl) (v:V):Int:=(vInt v).getD (g.sint ((Z8 v).getD 0))
noncomputable def gdUp (g:Gl) (es:Lo):List (Nat × Int):=es.foldl (fun l p=>upd l p.1 (evI g p.2)) g.gd
inductive GdictR (g:Gl) (σ : St) (a:Addr) (es:Lo):Prop
 | mk (o:Obj) (kvs:List (Str × Value)) (m:(a,o) ∈ σ.news) (d:o.IsDictOf (strKind g.prog g.w) kvs) (z:a≠sysModules) (n:(∀ p ∈ es,Zy p.2=true)∧g.gd.length≤1000) (r:GdR (gdUp g es) kvs)
inductive DictR (g:Gl) (σ : St) (a:Addr) (es:Lo):Prop
 | mk (o:Obj) (kvs:List (Str × Value)) (m:(a,o) ∈ σ.news) (d:o.IsDictOf (strKind g.prog g.w) kvs) (z:a≠sysModules) (r:SR g σ es kvs)
inductive CellR (g:Gl) (σ : St) (a:Addr) (v:Option V):Prop
 | mk (o:Obj) (w:Option Value) (m:(a,o) ∈ σ.news) (d:o.data=.cell w) (r:OVw g σ v w)
inductive ExcR (g:Gl) (σ : St) (a d:Addr) (c:Nat) (t:Bool) (f:Lo):Prop
 | mk (o:Obj) (vs:Array Value) (m:(a,o) ∈ σ.news) (k:o.cls=excV (cN c)) (e:o.data=.fields vs) (z : 5 < vs.size)
   (tb:if t then ∃ T,vs[1]? = some (.ref T)∧TbAt g σ T else vs[1]? = some .none) (own:if f.isEmpty then o.dict=none else o.dict=some d∧OwnR g σ d f) (cx:c < nX→vs[2]? = some .none)
noncomputable abbrev mkFn (name qual:Str) (A:Arguments) (fb:FuncBody) (scope:Scope) (clos:List (Str × Addr)) (doc pm:Value) (c':Addr) (ctv:Value):FuncData:=
 { name,qualname:=qual,params:=A,body:=fb,scope,globals:=mainGlobals,closure:=clos,defaults:=.none,kwdefaults:=.none,doc,pyModule:=pm,annotations:=none,code:=.ref c',closureTuple:=ctv,builtins:=builtinsNs }
noncomputable abbrev Zbu (name qual:Str) (A:Arguments) (fb:FuncBody) (scope:Scope) (clos:List (Str × Addr)) (doc pm:Value) (c':Addr) (ctv:Value):Obj:={ cls:=.type "function",data:=.func (mkFn name qual A fb scope clos doc pm c' ctv) }
noncomputable def Zhe (f:E) (p:FP) (k:Nat) (scope:Scope):FuncBody→Prop
 | .expr b=>f=.u 5 0 (.f p (cE k scope.names b))
 | .stmts b=>f=.f p (cSs k scope.names b)
inductive ClosR (g:Gl) (σ : St) (a:Addr) (f:E) (cl:Cs):Prop
 | mk (name qual:Str) (A:Arguments) (fb:FuncBody) (scope:Scope) (clos:List (Str × Addr)) (doc pm:Value) (c':Addr) (ctv:Value) (p:FP) (k:Nat)
   (e:Zhe f p k scope fb) (hp:p.ps=A.args.map fun x=>enc x.arg) (hd:p.d = []∧p.cs = []) (ok:Za9 A scope=true)
   (m:(a,Zbu name qual A fb scope clos doc pm c' ctv) ∈ σ.news) (cd:CodeN g σ (.ref c') qual) (r:CsR cl σ.ρ σ.nx clos)
noncomputable def ORa (g:Gl) (σ : St) (a d:Addr):O→Prop
 | .inst c f=>(a,instObj c d) ∈ σ.news∧OwnR g σ d f
 | .exc c t f=>ExcR g σ a d c t f
 | .list xs=>ListR g σ a xs
 | .elist pk xs=>EListR g σ a pk xs
 | .dict es=>DictR g σ a es
 | .cell v=>CellR g σ a v
 | .clos f cl=>ClosR g σ a f cl
 | .abs k=>∃ o,(a,o) ∈ σ.news∧g.abs k o
 | .pmap k es=>PmapR g σ a k es
 | .gdict es=>GdictR g σ a es
noncomputable abbrev OR (g:Gl) (σ : St) (i:Nat) (o:O):Prop:=ORa g σ (σ.ρ (2 * i)) (σ.ρ (2 * i + 1)) o
noncomputable def Cx.frs (c:Cx):List Addr:=c.outer.filterMap (·.frame)
structure RelT (g:Gl) (c:Cx) (σ : St):Prop where
 nd:(σ.news.map (·.1)).Nodup
 fr:∀ i,σ.nx≤i→σ.h.get i=none
 inj:∀ i j,Use σ.h i→Use σ.h j→σ.ρ i = σ.ρ j→i=j
 trk:∀ i o,σ.h.get i=some o→OR g σ i o
 cs:CsR c.hd.cs σ.ρ σ.nx c.env.cells
 loc:(c.env.locals=c.L∧LW g σ σ.lo σ.m)∨(c.env.locals≠c.L∧∃ o m',(c.env.locals,o) ∈ σ.news∧Unt σ c.env.locals∧c.env.locals ∉ g.TA∧Zb6 o m'∧LW g σ σ.lo m')
 tab:(∀ q ∈ g.tabs,Unt σ q.2.1∧∃ ps,(q.2.1,tabObj ps) ∈ σ.news∧TriplesOk ps.toList∧∀ pos cv,codeAmong pos ps.toList=some cv→CodeN g σ cv (q.2.2++g.dn pos.line pos.col))∧∀ p ∈ g.fz,p ∈ σ.news∧Unt σ p.1∧∀ q ∈ g.tabs,q.2.1≠p.1
 B:∃ A₀,Below A₀ g.base c.outer σ.g0
 hh:∀ j,c.hd.hd=some j→j < σ.nx∧σ.ρ (2 * j)=c.he
structure Rel (g:Gl) (c:Cx) (σ : St):Prop extends RelT g c σ where
 F:Fr σ.g0 c.L σ.s.heap σ.m
 N:News σ.g0 c.L σ.s.heap σ.news
 gens : σ.s.gens=g.gens
 os : σ.s.os=g.os
structure Ext (g:Gl) (c:Cx) (σ σ':St):Prop where
 nx : σ.nx≤σ'.nx
 ρ : ∀ i,i < σ.nx→σ'.ρ (2 * i) = σ.ρ (2 * i)
 pin:∀ a o,Pin0 g σ a o→a≠c.env.locals→¬ Tb o→Pin0 g σ' a o
 tb:∀ T,TbAt g σ T→TbAt g σ' T
 m:c.env.locals≠c.L→σ'.m = σ.m
 turn:KtsTurn c.frs σ.g0 σ'.g0
theorem Ext.refl (g:Gl) (c:Cx) (σ : St):Ext g c σ σ:=⟨Nat.le_refl _,fun _ _=>rfl,fun _ _ h _ _=>h,fun _ h=>h,fun _=>rfl,.refl⟩
theorem Ext.trans {g:Gl} {c:Cx} {σ σ' σ'':St} (a:Ext g c σ σ') (b:Ext g c σ' σ''):Ext g c σ σ'':=
 ⟨Nat.le_trans a.nx b.nx,fun i h=>(b.ρ i (Nat.lt_of_lt_of_le h a.nx)).trans (a.ρ i h),fun x o h n t=>b.pin x o (a.pin x o h n t) n t,fun T h=>b.tb T (a.tb T h),fun n=>(b.m n).trans (a.m n),a.turn.trans b.turn⟩
noncomputable def Told (o:Obj):Prop:=(∀ es n,o.data≠.dict es n)∧¬ Tb o∧((∃ C,o.cls=.ref C)∨o.cls=.type "tuple"∨o.cls=.type "range"∨∃ vs q t,o.data=.fields vs∧vs[1]? = some (.str q t))
structure Ext0 (g:Gl) (σ σ':St):Prop where
 nx : σ.nx≤σ'.nx
 ρ : ∀ i,i < σ.nx→σ'.ρ (2 * i) = σ.ρ (2 * i)
 pin:∀ a o,Pin0 g σ a o→Told o→Pin0 g σ' a o
 tb:∀ T,TbAt g σ T→TbAt g σ' T
section
variable {g:Gl} {c:Cx} {σ σ':St}
theorem Zn {h₀ h:Heap} {L a:Addr} {o o':Obj} {news:List (Addr × Obj)} (N:News h₀ L h news) (h1:(a,o) ∈ news) (h2:(a,o') ∈ news):o=o':=
 Option.some.inj ((N _ h1).1.symm.trans (N _ h2).1)
theorem Zhf {o:Obj} (h:∀ ts,o.data=.fields ts→3 < ts.size→False) : ¬ Tb o:=fun ⟨ts,e,z,_⟩=>h ts e z
theorem ZkJ {o:Obj} {vs:Array Value} {q:Str} {t:Tok} (d:o.data=.fields vs) (r:vs[1]? = some (.str q t)) : ¬ Tb o:=fun ⟨ts,e,_,n⟩=>n q t (by rw[d] at e; cases e; exact r)
theorem Zdf (its:Array Value) (n:Nat):Told (Zba its n):=⟨fun _ _=>nofun,Zhf fun _=>nofun,.inr (.inl rfl)⟩
theorem ZkK {i n:Nat} (h:i < n) : 2 * i < 2 * n:=Nat.mul_lt_mul_of_pos_left h (by decide)
theorem Zr (i:Nat) : 2 * i / 2=i:=Nat.mul_div_cancel_left i (by decide)
theorem Zaj (i:Nat):(2 * i + 1) / 2=i:=Nat.mul_add_div (by decide) i 1
theorem ZjB {i n:Nat} (h:i < n) : 2 * i + 1 < 2 * n:=Nat.lt_of_lt_of_le (Nat.lt_succ_self (2 * i + 1)) (Nat.mul_le_mul_left 2 h)
theorem ZfU {k:Nat} (h:k % 2=0):k=2 * (k / 2):=by have:=Nat.div_add_mod k 2; rw[h] at this; exact this.symm
theorem ZkL {k:Nat} (h:k % 2=1):k=2 * (k / 2) + 1:=by have:=Nat.div_add_mod k 2; rw[h] at this; exact this.symm
theorem VR.mono_ (X:Ext0 g σ σ') (v:V):∀ w,VR g σ v w→VR g σ' v w:=
 @V.rec (fun v=>∀ w,VR g σ v w→VR g σ' v w) (fun vs=>∀ w,VRs g σ vs w→VRs g σ' vs w)
  (fun _ h=>h) (fun _ _ h=>h) (fun _ _ h=>h) (fun _ _ h=>h) (fun _ _ h=>h) (fun _ _ h=>h) (fun _ _ h=>h)
  (fun _ ih _ h=>by obtain⟨a,its,n,e,p,q⟩:=h; exact⟨a,its,n,e,X.pin _ _ p (Zdf _ _),ih its q⟩)
  (fun i _ h=>⟨h.1.trans (congrArg Value.ref (X.ρ _ h.2).symm),Nat.lt_of_lt_of_le h.2 X.nx⟩)
  (fun _ _ h=>h) (fun _ _ h=>h)
  (fun _ _ h=>by obtain⟨a,o,e,hn,p,t,u,v,h⟩:=h; exact⟨a,o,e,hn,X.pin _ _ p ⟨by rw[h]; nofun,Zhf (by rw[h]; intro ts e z; cases e; exact Nat.lt_irrefl 3 z),.inr (.inr (.inl (by rw[h])))⟩,t,u,v,h⟩)
  (fun _ h=>by obtain⟨a,o,e,p,C,d⟩:=h; exact⟨a,o,e,X.pin _ _ p ⟨d.1,d.2,.inl C⟩,C,d⟩)
  (fun k ks vs ih _ h=>by obtain⟨a,o,its,e,m,f,q⟩:=h; exact⟨a,o,its,e,m,f,ih its q⟩)
  (fun w h=>by cases w with | nil=>trivial | cons _ _=>exact h) (fun _ _ ih ihs w h=>by cases w with | nil=>exact h | cons w ws=>exact⟨ih w h.1,ihs ws h.2⟩) v
theorem VR.mono0 (X:Ext0 g σ σ') {v:V} {w:Value} (h:VR g σ v w):VR g σ' v w:=VR.mono_ X v w h
theorem VRs.mono0 (X:Ext0 g σ σ'):∀ {vs:List V} {ws:List Value},VRs g σ vs ws→VRs g σ' vs ws:=fun {vs}=>by
 induction vs with
 | nil=>intro ws h; cases ws with | nil=>trivial | cons _ _=>exact h
 | cons v vs ih=>intro ws h; cases ws with | nil=>exact h | cons w ws=>exact⟨h.1.mono0 X,ih h.2⟩
theorem SR.mono0 (X:Ext0 g σ σ'):∀ {l:Lo} {r:List (Str × Value)},SR g σ l r→SR g σ' l r:=fun {l}=>by
 induction l with
 | nil=>intro r h; cases r with | nil=>trivial | cons _ _=>exact h
 | cons p l ih=>intro r h; cases r with | nil=>exact h | cons q r=>exact⟨h.1,h.2.1,h.2.2.1.mono0 X,ih h.2.2.2⟩
theorem OV.mono0 (X:Ext0 g σ σ') {v:Option V} {w:Option Value} (h:OV g σ v w):OV g σ' v w:=by
 cases v with
 | none=>exact h
 | some v=>obtain⟨x,e,h⟩:=h; exact⟨x,e,h.mono0 X⟩
theorem OVw.mono0 (X:Ext0 g σ σ') {v:Option V} {w:Option Value} (h:OVw g σ v w):OVw g σ' v w:=by
 cases v with
 | none=>trivial
 | some v=>obtain⟨x,e,h⟩:=h; exact⟨x,e,h.mono0 X⟩
theorem OV.weak {v:Option V} {w:Option Value} (h:OV g σ v w):OVw g σ v w:=by
 cases v with
 | none=>trivial
 | some v=>exact h
theorem LR.mono0 (X:Ext0 g σ σ') {lo:Lo} {m:Str→Option Value} (h:LR g σ lo m):LR g σ' lo m:=fun x hx=>(h x hx).mono0 X
theorem LW.mono0 (X:Ext0 g σ σ') {lo:Lo} {m:Str→Option Value} (h:LW g σ lo m):LW g σ' lo m:=fun x v hx e=>let ⟨w,a,b⟩:=h x v hx e; ⟨w,a,b.mono0 X⟩
theorem LR.lw {lo:Lo} {m:Str→Option Value} (h:LR g σ lo m):LW g σ lo m:=fun x v hx e=>by have:=h x hx; rw[e] at this; exact this
theorem CsR.mono0 (X:Ext0 g σ σ') {cs:Cs} {cl:List (Str × Addr)} (h:CsR cs σ.ρ σ.nx cl):CsR cs σ'.ρ σ'.nx cl:=fun x i hx e=>
 have q:=h x i hx e
 ⟨Nat.lt_of_lt_of_le q.1 X.nx,q.2.trans (congrArg some (X.ρ _ q.1).symm)⟩
theorem CodeN.mono0 (X:Ext0 g σ σ') {cd:Value} {q:Str} (h:CodeN g σ cd q):CodeN g σ' cd q:=by
 obtain⟨a,o,vs,t,e,p,d,r⟩:=h
 exact⟨a,o,vs,t,e,X.pin _ _ p ⟨by rw[d]; nofun,ZkJ d r,.inr (.inr (.inr ⟨vs,q,t,d,r⟩))⟩,d,r⟩
theorem OwnR.mono0 (X:Ext0 g σ σ') {d:Addr} {f:Lo} (k:∀ x,(d,x) ∈ σ.news→(d,x) ∈ σ'.news) (h:OwnR g σ d f):OwnR g σ' d f:=by
 obtain⟨es,n,b,k',l,r⟩:=h; exact⟨es,n,k _ b,k',l,r.mono0 X⟩
theorem PreR.mono0 (X:Ext0 g σ σ') {pk:Nat} {pre:List Value} (h:PreR g σ pk pre):PreR g σ' pk pre:=by
 match pk,h with
 | 0,_=>trivial
 | 1,h=>exact⟨fun v hv=>(h.1 v hv).mono0 X,h.2⟩
 | k + 2,h=>exact⟨VRs.mono0 X h.1,h.2⟩
theorem ORa.mono0 (X:Ext0 g σ σ') {a d:Addr} {o:O} (ka:∀ x,(a,x) ∈ σ.news→(a,x) ∈ σ'.news) (kd:two o=true→∀ x,(d,x) ∈ σ.news→(d,x) ∈ σ'.news) (h:ORa g σ a d o):ORa g σ' a d o:=by
 cases o with
 | inst c f=>exact⟨ka _ h.1,h.2.mono0 X (kd rfl)⟩
 | exc c t f=>
  obtain⟨o,vs,m,k,e,z,tb,own,cx⟩:=h
  refine⟨o,vs,ka _ m,k,e,z,?_,?_,cx⟩
  ·cases t with
   | true=>obtain⟨T,q,r⟩:=tb; exact⟨T,q,X.tb T r⟩
   | false=>exact tb
  ·cases f with
   | nil=>exact own
   | cons p f=>exact⟨own.1,own.2.mono0 X (kd rfl)⟩
 | list xs=>obtain⟨its,n,m,z,r⟩:=h; exact⟨its,n,ka _ m,z,r.mono0 X⟩
 | elist pk xs=>obtain⟨pre,its,n,m,b,l,r⟩:=h; exact⟨pre,its,n,ka _ m,b.mono0 X,l,r.mono0 X⟩
 | dict es=>obtain⟨o,kvs,m,d,z,r⟩:=h; exact⟨o,kvs,ka _ m,d,z,r.mono0 X⟩
 | cell v=>obtain⟨o,w,m,d,r⟩:=h; exact⟨o,w,ka _ m,d,r.mono0 X⟩
 | clos f cl=>
  obtain⟨name,qual,A,fb,scope,clos,doc,pm,c',ctv,p,k,e,hp,hd,ok,m,cd,r⟩:=h
  exact .mk name qual A fb scope clos doc pm c' ctv p k e hp hd ok (ka _ m) (cd.mono0 X) (r.mono0 X)
 | abs k=>obtain⟨o,m,q⟩:=h; exact⟨o,ka _ m,q⟩
 | pmap k es=>obtain⟨o,kvs,m,d,z,i,r⟩:=h; exact⟨o,kvs,ka _ m,d,z,i,r⟩
 | gdict es=>obtain⟨o,kvs,m,d,z,i,r⟩:=h; exact⟨o,kvs,ka _ m,d,z,i,r⟩
theorem ORa.side_eq {a d d':Addr} {o:O} (q:two o=true→d'=d) (h:ORa g σ a d o):ORa g σ a d' o:=by
 cases o with
 | inst c f=>rw[q rfl]; exact h
 | exc c t f=>
  cases f with
  | nil=>obtain⟨o,vs,m,k,e,z,tb,own,cx⟩:=h; exact⟨o,vs,m,k,e,z,tb,own,cx⟩
  | cons p f=>rw[q rfl]; exact h
 | _=>exact h
theorem ORa.main {a d:Addr} {o:O} (h:ORa g σ a d o):∃ x,(a,x) ∈ σ.news:=by
 cases o with
 | inst c f=>exact⟨_,h.1⟩
 | exc c t f=>obtain⟨o,vs,m,_⟩:=h; exact⟨_,m⟩
 | list xs=>obtain⟨its,n,m,_⟩:=h; exact⟨_,m⟩
 | elist pk xs=>obtain⟨pre,its,n,m,_⟩:=h; exact⟨_,m⟩
 | dict es=>obtain⟨o,kvs,m,_⟩:=h; exact⟨_,m⟩
 | cell v=>obtain⟨o,w,m,_⟩:=h; exact⟨_,m⟩
 | clos f cl=>obtain⟨name,qual,A,fb,scope,clos,doc,pm,c',ctv,p,k,e,hp,hd,ok,m,_⟩:=h; exact⟨_,m⟩
 | abs k=>obtain⟨o,m,q⟩:=h; exact⟨_,m⟩
 | pmap k es=>obtain⟨o,kvs,m,_⟩:=h; exact⟨_,m⟩
 | gdict es=>obtain⟨o,kvs,m,_⟩:=h; exact⟨_,m⟩
theorem ORa.side {a d:Addr} {o:O} (h:ORa g σ a d o) (t:two o=true):∃ x,(d,x) ∈ σ.news:=by
 cases o with
 | inst c f=>obtain⟨_,_,_,b,_⟩:=h; exact⟨_,b⟩
 | exc c tt f=>
  cases f with
  | nil=>exact Za t
  | cons p f=>obtain⟨o,vs,m,_,_,_,_,⟨_,_,_,b,_⟩,_⟩:=h; exact⟨_,b⟩
 | _=>exact Za t
theorem Zhg {h:H} {k i:Nat} {o:O} (e:h.get i=some o) (hk:k / 2=i) (hu:k % 2=0∨two o=true):Use h k:=by
 unfold Use; rw[hk,e]; exact hu
theorem Zh {h:H} {i:Nat} {o:O} (e:h.get i=some o):Use h (2 * i):=Zhg e (Zr i) (.inl (Nat.mul_mod_right 2 i))
theorem ZR {h:H} {i:Nat} {o:O} (e:h.get i=some o) (t:two o=true):Use h (2 * i + 1):=Zhg e (Zaj i) (.inr t)
theorem ZaP {h:H} {k:Nat} (u:Use h k):∃ o,h.get (k / 2)=some o∧(k=2 * (k / 2)∨k=2 * (k / 2) + 1∧two o=true):=by
 unfold Use at u
 cases e:h.get (k / 2) with
 | none=>rw[e] at u; exact u.elim
 | some o=>
  rw[e] at u
  refine⟨o,rfl,?_⟩
  rcases u with u | u
  ·exact .inl (ZfU u)
  ·rcases Nat.mod_two_eq_zero_or_one k with q | q
   ·exact .inl (ZfU q)
   ·exact .inr ⟨ZkL q,u⟩
theorem RelT.lt (R:RelT g c σ) {i:Nat} {o:O} (e : σ.h.get i=some o):i < σ.nx:=Nat.lt_of_not_le fun hn=>by
 rw[R.fr i hn] at e; cases e
theorem RelT.used (R:RelT g c σ) {k:Nat} (h:Use σ.h k):k < 2 * σ.nx∧∃ o,(σ.ρ k,o) ∈ σ.news:=by
 obtain⟨o,e,hk⟩:=ZaP h
 have l:=R.lt e
 have t:=R.trk _ _ e
 rcases hk with hk | ⟨hk,ht⟩
 ·rw[hk]; exact⟨ZkK l,t.main⟩
 ·rw[hk]; exact⟨ZjB l,t.side ht⟩
theorem Rel.pin_ne (R:Rel g c σ) {a:Addr} {o:Obj} (p:Pin0 g σ a o) (hd:∀ es n,o.data≠.dict es n):a≠c.env.locals:=by
 rintro rfl
 rcases R.loc with⟨e,_⟩ | ⟨_,es,n,h,_,_,ns,_⟩
 ·exact(R.N _ p.1).2.1 e
 ·have:=Zn R.N p.1 h
  obtain⟨es,ep,e,_⟩:=ns
  exact hd es ep (by rw[this,e])
theorem Ext.z (X:Ext g c σ σ') (R:Rel g c σ):Ext0 g σ σ':=⟨X.nx,X.ρ,fun a o p d=>X.pin a o p (R.pin_ne p d.1) d.2.1,X.tb⟩
theorem VR.mono (X:Ext g c σ σ') (R:Rel g c σ) {v:V} {w:Value} (h:VR g σ v w):VR g σ' v w:=h.mono0 (X.z R)
theorem VRs.mono (X:Ext g c σ σ') (R:Rel g c σ) {v:List V} {w:List Value} (h:VRs g σ v w):VRs g σ' v w:=h.mono0 (X.z R)
theorem SR.mono (X:Ext g c σ σ') (R:Rel g c σ) {v:Lo} {w:List (Str × Value)} (h:SR g σ v w):SR g σ' v w:=h.mono0 (X.z R)
theorem Rel.stays (R:Rel g c σ):g.base.StaysIn σ.g0:=R.B.elim fun _ B=>B.stays
noncomputable def setN (news:List (Addr × Obj)) (d:Addr) (o:Obj):List (Addr × Obj):=news.map fun p=>if p.1=d then(d,o) else p
theorem Z5 (news:List (Addr × Obj)) (d:Addr) (o:Obj):(setN news d o).map (·.1)=news.map (·.1):=by
 unfold setN
 rw[List.map_map]
 refine List.map_congr_left fun p _=>?_
 show (if p.1=d then(d,o) else p).1=p.1
 split
 ·next h=>exact h.symm
 ·rfl
theorem Zs {news:List (Addr × Obj)} {d a:Addr} {o x:Obj} (h:(a,x) ∈ news) (n:a≠d):(a,x) ∈ setN news d o:=
 List.mem_map.mpr ⟨(a,x),h,by rw[if_neg n]⟩
theorem Zu {news:List (Addr × Obj)} {d:Addr} {o x:Obj} (h:(d,x) ∈ news):(d,o) ∈ setN news d o:=
 List.mem_map.mpr ⟨(d,x),h,by rw[if_pos rfl]⟩
theorem ZfV {news:List (Addr × Obj)} {d:Addr} {o:Obj} (h:∀ p ∈ news,p.1≠d):setN news d o=news:=by
 unfold setN
 refine(List.map_congr_left fun p hp=>?_).trans (List.map_id _)
 rw[if_neg (h p hp)]; rfl
theorem Zbj {d:Addr} {o o':Obj} (news:List (Addr × Obj)) (nd:(news.map (·.1)).Nodup) (hm:(d,o) ∈ news):Upd d o o' news (setN news d o'):=by
 induction news with
 | nil=>cases hm
 | cons p r ih=>
  obtain⟨h1,h2⟩:=List.nodup_cons.mp nd
  unfold setN
  rw[List.map_cons]
  rcases List.mem_cons.mp hm with e | hm
  ·subst e
   have h:∀ p ∈ r,p.1≠d:=fun p hp e=>h1 (e ▸ List.mem_map_of_mem (f:=(·.1)) hp)
   rw[if_pos rfl]
   have:=ZfV (o:=o') h
   unfold setN at this
   rw[this]
   exact .head h
  ·have hne:p.1≠d:=fun e=>h1 (by show p.1 ∈ _; rw[e]; exact List.mem_map_of_mem (f:=(·.1)) hm)
   rw[if_neg hne]
   exact .tail hne (ih h2 hm)
theorem ZbK {news:List (Addr × Obj)} {a:Addr} {o:Obj} (nd:(news.map (·.1)).Nodup) (h:∀ p ∈ news,p.1 < a):(((a,o) :: news).map (·.1)).Nodup:=
 List.nodup_cons.mpr ⟨fun hm=>by obtain⟨p,hp,e⟩:=List.mem_map.mp hm; exact absurd (h p hp) (by rw[e]; exact Nat.lt_irrefl _),nd⟩
theorem Ze7 {q:Addr × Addr × Str} (h:q ∈ g.tabs):q.2.1 ∈ g.TA:=List.mem_append_left _ (List.mem_map_of_mem (f:=(·.2.1)) h)
theorem ZdI {p:Addr × Obj} (h:p ∈ g.fz):p.1 ∈ g.TA:=List.mem_append_right _ (List.mem_map_of_mem (f:=(·.1)) h)
theorem RelT.ta (R:RelT g c σ) {a:Addr} (h:a ∈ g.TA):Unt σ a∧∃ o,(a,o) ∈ σ.news:=by
 rcases List.mem_append.mp h with h | h
 ·obtain⟨q,hq,rfl⟩:=List.mem_map.mp h
  obtain⟨u,ps,m,_⟩:=R.tab.1 q hq
  exact⟨u,_,m⟩
 ·obtain⟨q,hq,rfl⟩:=List.mem_map.mp h
  exact⟨(R.tab.2 q hq).2.1,_,(R.tab.2 q hq).1⟩
structure Chg (g:Gl) (c:Cx) (σ σ':St) (D:Addr→Prop):Prop where
 F:Fr σ'.g0 c.L σ'.s.heap σ'.m
 N:News σ'.g0 c.L σ'.s.heap σ'.news
 nd:(σ'.news.map (·.1)).Nodup
 gens : σ'.s.gens = σ.s.gens
 os : σ'.s.os = σ.s.os
 nx : σ.nx≤σ'.nx
 ρ : ∀ i,i < σ.nx→σ'.ρ (2 * i) = σ.ρ (2 * i)
 ρu:∀ k,Use σ.h k→σ'.ρ k = σ.ρ k
 keep:∀ p ∈ σ.news,¬ D p.1→p ∈ σ'.news
 dpin:∀ a o,Pin0 g σ a o→Told o→¬ D a
 dtb:∀ T,TbAt g σ T→D T→TbAt g σ' T
 dtab:∀ a ∈ g.TA,¬ D a
 use:∀ k,Use σ'.h k→Use σ.h k∨∀ p ∈ σ.news,p.1≠σ'.ρ k
 inj:∀ i j,Use σ'.h i→Use σ'.h j→¬ Use σ.h i→¬ Use σ.h j→σ'.ρ i = σ'.ρ j→i=j
 fr:∀ i,σ'.nx≤i→σ'.h.get i=none
 trk:∀ i o,σ'.h.get i=some o→(σ.h.get i=some o∧∀ k,Use σ.h k→k / 2=i→¬ D (σ.ρ k))∨(Ext0 g σ σ'→OR g σ' i o)
 loc:Ext0 g σ σ'→(c.env.locals=c.L∧LW g σ' σ'.lo σ'.m)∨(c.env.locals≠c.L∧∃ o m',(c.env.locals,o) ∈ σ'.news∧Zb6 o m'∧LW g σ' σ'.lo m')
 m:c.env.locals≠c.L→σ'.m = σ.m
 turn:KtsTurn c.frs σ.g0 σ'.g0
 B:∃ A₀,Below A₀ g.base c.outer σ'.g0
theorem Chg.unt {D:Addr→Prop} (R:Rel g c σ) (H:Chg g c σ σ' D) {a:Addr} {o:Obj} (m:(a,o) ∈ σ.news) (u:Unt σ a):Unt σ' a:=fun k hk e=>by
 rcases H.use k hk with h | h
 ·exact u k h ((H.ρu k h).symm.trans e)
 ·exact absurd e.symm (h _ m)
theorem Chg.tb {D:Addr→Prop} (R:Rel g c σ) (H:Chg g c σ σ' D) (T:Addr) (h:TbAt g σ T):TbAt g σ' T:=by
 rcases Classical.em (D T) with d | d
 ·exact H.dtb T h d
 ·obtain⟨o,p,t⟩:=h
  exact⟨o,⟨H.keep _ p.1 d,H.unt R p.1 p.2.1,p.2.2⟩,t⟩
theorem Chg.z {D:Addr→Prop} (R:Rel g c σ) (H:Chg g c σ σ' D):Ext0 g σ σ':=⟨H.nx,H.ρ,fun a o p t=>⟨H.keep _ p.1 (H.dpin a o p t),H.unt R p.1 p.2.1,p.2.2⟩,H.tb R⟩
theorem Rel.to0 (R:Rel g c σ) {D:Addr→Prop} (H:Chg g c σ σ' D):Rel g c σ':=by
 have Z:=H.z R
 refine⟨⟨H.nd,H.fr,fun i j hi hj e=>?_,fun i o e=>?_,R.cs.mono0 Z,?_,⟨fun q hq=>?_,fun p hp=>⟨H.keep p (R.tab.2 p hp).1 (H.dtab _ (ZdI hp)),H.unt R (R.tab.2 p hp).1 (R.tab.2 p hp).2.1,(R.tab.2 p hp).2.2⟩⟩,H.B,fun j hj=>?_⟩,H.F,H.N,H.gens.trans R.gens,H.os.trans R.os⟩
 ·have old:∀ i j,Use σ.h i→(∀ p ∈ σ.news,p.1≠σ'.ρ j)→σ'.ρ i≠σ'.ρ j:=fun i j hi hj e=>by
   obtain⟨hl,o,m⟩:=R.used hi
   rw[H.ρu i hi] at e
   exact hj _ m e
  rcases Classical.em (Use σ.h i) with ui | ui <;> rcases Classical.em (Use σ.h j) with uj | uj
  ·exact R.inj i j ui uj ((H.ρu i ui).symm.trans (e.trans (H.ρu j uj)))
  ·exact absurd e (old i j ui ((H.use j hj).resolve_left uj))
  ·exact absurd e.symm (old j i uj ((H.use i hi).resolve_left ui))
  ·exact H.inj i j hi hj ui uj e
 ·rcases H.trk i o e with⟨e0,k⟩ | k
  ·have hl:=R.lt e0
   have:=R.trk i o e0
   have q:two o=true→σ'.ρ (2 * i + 1) = σ.ρ (2 * i + 1):=fun t=>H.ρu _ (ZR e0 t)
   show ORa g σ' _ _ o
   rw[H.ρ i hl]
   refine ORa.side_eq q ?_
   exact this.mono0 Z (fun x m=>H.keep _ m (k _ (Zh e0) (Zr i))) (fun t x m=>H.keep _ m (k _ (ZR e0 t) (Zaj i)))
  ·exact k Z
 ·rcases H.loc Z with h | ⟨n,o,m',a,b⟩
  ·exact .inl h
  ·rcases R.loc with⟨e,_⟩ | ⟨_,o0,_,a0,u,t,_⟩
   ·exact absurd e n
   ·exact .inr ⟨n,o,m',a,H.unt R a0 u,t,b⟩
 ·obtain⟨u,ps,a,ht,hc⟩:=R.tab.1 q hq
  exact⟨H.unt R a u,ps,H.keep _ a (H.dtab _ (Ze7 hq)),ht,fun pos cv e=>(hc pos cv e).mono0 Z⟩
 ·obtain⟨a,b⟩:=R.hh j hj
  exact⟨Nat.lt_of_lt_of_le a H.nx,(H.ρ _ a).trans b⟩
theorem Rel.to (R:Rel g c σ) {D:Addr→Prop} (H:Chg g c σ σ' D) (hp:∀ a o,Pin0 g σ a o→a≠c.env.locals→¬ Tb o→¬ D a):Rel g c σ'∧Ext g c σ σ':=
 ⟨R.to0 H,H.nx,H.ρ,fun a o p n t=>⟨H.keep _ p.1 (hp a o p n t),H.unt R p.1 p.2.1,p.2.2⟩,H.tb R,H.m,H.turn⟩
theorem Rel.locK (R:Rel g c σ) (Z:Ext0 g σ σ') (hlo : σ'.lo = σ.lo) (hm : σ'.m = σ.m) (k:c.env.locals≠c.L→∀ x,(c.env.locals,x) ∈ σ.news→(c.env.locals,x) ∈ σ'.news) :
  (c.env.locals=c.L∧LW g σ' σ'.lo σ'.m)∨(c.env.locals≠c.L∧∃ o m',(c.env.locals,o) ∈ σ'.news∧Zb6 o m'∧LW g σ' σ'.lo m'):=by
 rw[hlo,hm]
 rcases R.loc with⟨e,l⟩ | ⟨n,o,m',a,_,_,b,l⟩
 ·exact .inl ⟨e,l.mono0 Z⟩
 ·exact .inr ⟨n,o,m',k n _ a,b,l.mono0 Z⟩
theorem Rel.locU (R:Rel g c σ) (n:c.env.locals≠c.L):Unt σ c.env.locals∧c.env.locals ∉ g.TA:=by
 rcases R.loc with⟨e,_⟩ | ⟨_,_,_,_,u,t,_⟩
 ·exact absurd e n
 ·exact⟨u,t⟩
theorem Rel.tabU (R:Rel g c σ) {a:Addr} (h:a ∈ g.TA):Unt σ a:=(R.ta h).1
end
section
variable {g:Gl} {c:Cx} {σ : St} {h':Heap} {tk:Nat}
noncomputable def St.put (σ : St) (h':Heap) (tk:Nat):St:={ σ with s:={ σ.s with heap:=h',toks:=tk } }
noncomputable def St.led (σ : St) (L:List (Addr × Obj)) (h':Heap) (tk:Nat):St:={ σ with news:=L,s:={ σ.s with heap:=h',toks:=tk } }
noncomputable def St.upd (σ : St) (i:Nat) (o:O) (L:List (Addr × Obj)) (h':Heap) (tk:Nat):St:={ σ with h:=hp σ.h i o,news:=L,s:={ σ.s with heap:=h',toks:=tk } }
noncomputable def St.new (σ : St) (o:O) (x d:Addr) (L:List (Addr × Obj)) (h':Heap) (tk:Nat):St:=
 { σ with h:=hp σ.h σ.nx o,nx:=Nat.succ σ.nx,ρ:=fun k=>if k=2 * σ.nx then x else if k=2 * σ.nx + 1 then d else σ.ρ k,news:=L,s:={ σ.s with heap:=h',toks:=tk } }
theorem Rel.still (R:Rel g c σ) (F':Fr σ.g0 c.L h' σ.m) (N':News σ.g0 c.L h' σ.news):Rel g c (σ.put h' tk)∧Ext g c σ (σ.put h' tk):=
 R.to (D:=fun _=>False) ⟨F',N',R.nd,rfl,rfl,Nat.le_refl _,fun _ _=>rfl,fun _ _=>rfl,fun _ m _=>m,fun _ _ _ _=>id,fun _ _ d=>d.elim,fun _ _=>id,fun _ u=>.inl u,fun _ _ u _ n _ _=>absurd u n,R.fr,fun _ _ e=>.inl ⟨e,fun _ _ _=>id⟩,
  fun Z=>R.locK Z rfl rfl fun _ _ m=>m,fun _=>rfl,.refl,R.B⟩ fun _ _ _ _ _=>id
theorem Rel.tok (R:Rel g c σ) (tk:Nat):Rel g c (σ.put σ.s.heap tk)∧Ext g c σ (σ.put σ.s.heap tk):=R.still R.F R.N
theorem Rel.fresh (R:Rel g c σ) {a:Addr} (h:∀ p ∈ σ.news,p.1 < a):Unt σ a∧a ∉ g.TA:=by
 refine⟨fun k hk e=>?_,fun hm=>?_⟩
 ·obtain⟨_,o,hm⟩:=R.used hk
  exact absurd (h _ hm) (by rw[e]; exact Nat.lt_irrefl _)
 ·obtain⟨_,o,hp⟩:=R.ta hm
  exact absurd (h _ hp) (Nat.lt_irrefl _)
theorem Rel.alloc (R:Rel g c σ) {a:Addr} {ob:Obj} (F':Fr σ.g0 c.L h' σ.m) (N':News σ.g0 c.L h' ((a,ob) :: σ.news)) (hf:∀ p ∈ σ.news,p.1 < a) :
  Rel g c (σ.led ((a,ob) :: σ.news) h' tk)∧Ext g c σ (σ.led ((a,ob) :: σ.news) h' tk)∧Pin0 g (σ.led ((a,ob) :: σ.news) h' tk) a ob:=by
 have H:Chg g c σ (σ.led ((a,ob) :: σ.news) h' tk) (fun _=>False):=⟨F',N',ZbK R.nd hf,rfl,rfl,Nat.le_refl _,fun _ _=>rfl,fun _ _=>rfl,fun _ m _=>.tail _ m,fun _ _ _ _=>id,fun _ _ d=>d.elim,fun _ _=>id,fun _ u=>.inl u,fun _ _ u _ n _ _=>absurd u n,R.fr,fun _ _ e=>.inl ⟨e,fun _ _ _=>id⟩,
  fun Z=>R.locK Z rfl rfl fun _ _ m=>.tail _ m,fun _=>rfl,.refl,R.B⟩
 obtain⟨R',X⟩:=R.to H fun _ _ _ _ _=>id
 have q:=R.fresh hf
 exact⟨R',X,.head _,q.1,q.2⟩
theorem Rel.turn (R:Rel g c σ) {a:Addr} {o o':Obj} (p:Pin0 g σ a o) (hd:∀ es n,o.data≠.dict es n) (ht : ¬ Told o) (hb:Tb o→Tb o') (F':Fr σ.g0 c.L h' σ.m) (N':News σ.g0 c.L h' (setN σ.news a o')) :
  Rel g c (σ.led (setN σ.news a o') h' tk)∧Pin0 g (σ.led (setN σ.news a o') h' tk) a o'∧(∀ σ₀,Ext g c σ₀ σ→(∀ x,Pin0 g σ₀ a x→Tb x)→Ext g c σ₀ (σ.led (setN σ.news a o') h' tk)) ∧
   ∀ b x,b≠a→Pin0 g σ b x→Pin0 g (σ.led (setN σ.news a o') h' tk) b x:=by
 have hl:=R.pin_ne p hd
 have pin:∀ b x,b≠a→Pin0 g σ b x→Pin0 g (σ.led (setN σ.news a o') h' tk) b x:=fun b x n q=>⟨Zs q.1 n,q.2.1,q.2.2⟩
 have pa:Pin0 g (σ.led (setN σ.news a o') h' tk) a o':=⟨Zu p.1,p.2.1,p.2.2⟩
 have H:Chg g c σ (σ.led (setN σ.news a o') h' tk) (fun b=>b=a):=⟨F',N',by show ((setN σ.news a o').map _).Nodup; rw[Z5]; exact R.nd,rfl,rfl,Nat.le_refl _,fun _ _=>rfl,fun _ _=>rfl,fun _ m n=>Zs m n,
  fun b x q t e=>by subst e; exact ht (Zn R.N p.1 q.1 ▸ t),fun T t e=>by subst e; obtain⟨x,q,b⟩:=t; exact⟨o',pa,hb (Zn R.N p.1 q.1 ▸ b)⟩,fun q hq e=>p.2.2 (e ▸ hq),fun _ u=>.inl u,fun _ _ u _ n _ _=>absurd u n,R.fr,
  fun _ _ e=>.inl ⟨e,fun k u _ q=>p.2.1 k u q⟩,fun Z=>R.locK Z rfl rfl fun _ _ m=>Zs m hl.symm,fun _=>rfl,.refl,R.B⟩
 refine⟨R.to0 H,pa,fun σ₀ Y hn=>⟨Y.nx,Y.ρ,fun b x q n t=>?_,fun T t=>H.tb R T (Y.tb T t),Y.m,Y.turn⟩,pin⟩
 exact pin b x (fun e=>t (hn x (e ▸ q))) (Y.pin b x q n t)
theorem Rel.store (R:Rel g c σ) {m':Str→Option Value} {lo':Lo} (e:c.env.locals=c.L) (F':Fr σ.g0 c.L h' m') (N':News σ.g0 c.L h' σ.news) (hl:∀ σ',Ext0 g σ σ'→LW g σ' lo' m') :
  Rel g c { σ with m:=m',lo:=lo',s:={ σ.s with heap:=h',toks:=tk } }∧Ext g c σ { σ with m:=m',lo:=lo',s:={ σ.s with heap:=h',toks:=tk } }:=
 R.to (D:=fun _=>False) (σ':={ σ with m:=m',lo:=lo',s:={ σ.s with heap:=h',toks:=tk } }) ⟨F',N',R.nd,rfl,rfl,Nat.le_refl _,fun _ _=>rfl,fun _ _=>rfl,fun _ m _=>m,fun _ _ _ _=>id,fun _ _ d=>d.elim,fun _ _=>id,fun _ u=>.inl u,fun _ _ u _ n _ _=>absurd u n,R.fr,fun _ _ e=>.inl ⟨e,fun _ _ _=>id⟩,
  fun Z=>.inl ⟨e,hl _ Z⟩,fun n=>absurd e n,.refl,R.B⟩ fun _ _ _ _ _=>id
theorem Rel.storeN (R:Rel g c σ) {o':Obj} {m':Str→Option Value} {lo':Lo} (n:c.env.locals≠c.L) (F':Fr σ.g0 c.L h' σ.m) (N':News σ.g0 c.L h' (setN σ.news c.env.locals o')) (ns:Zb6 o' m') (hl:∀ σ',Ext0 g σ σ'→LW g σ' lo' m') (ht:∀ o,(c.env.locals,o) ∈ σ.news→¬ Told o∧¬ Tb o) :
  Rel g c { σ with lo:=lo',news:=setN σ.news c.env.locals o',s:={ σ.s with heap:=h',toks:=tk } }∧Ext g c σ { σ with lo:=lo',news:=setN σ.news c.env.locals o',s:={ σ.s with heap:=h',toks:=tk } }:=by
 have u:=R.locU n
 have hm:∃ o,(c.env.locals,o) ∈ σ.news:=by
  rcases R.loc with⟨e,_⟩ | ⟨_,o,_,a,_⟩
  ·exact absurd e n
  ·exact⟨o,a⟩
 refine R.to (D:=fun b=>b=c.env.locals) (σ':={ σ with lo:=lo',news:=setN σ.news c.env.locals o',s:={ σ.s with heap:=h',toks:=tk } }) ⟨F',N',by show ((setN σ.news c.env.locals o').map _).Nodup; rw[Z5]; exact R.nd,rfl,rfl,Nat.le_refl _,fun _ _=>rfl,fun _ _=>rfl,fun _ m n=>Zs m n,
  fun b x q t e=>?_,fun T t e=>?_,fun q hq e=>u.2 (e ▸ hq),fun _ u=>.inl u,fun _ _ u _ n _ _=>absurd u n,R.fr,fun _ _ e=>.inl ⟨e,fun k uk _ q=>u.1 k uk q⟩,
  fun Z=>?_,fun _=>rfl,.refl,R.B⟩ fun a o p hne t e=>hne e
 ·subst e; exact(ht x q.1).1 t
 ·subst e; obtain⟨x,q,b⟩:=t; exact((ht x q.1).2 b).elim
 ·obtain⟨o,m⟩:=hm
  exact .inr ⟨n,o',m',Zu m,ns,hl _ Z⟩
theorem ZkM {h:H} {i k:Nat} {o o2:O} (e:h.get i=some o) (t:two o2=true→two o=true) (u:Use (hp h i o2) k):Use h k:=by
 unfold Use at u ⊢
 rw[Zm] at u
 by_cases q:k / 2=i
 ·rw[if_pos q] at u; rw[q,e]; exact u.imp_right t
 ·rw[if_neg q] at u; exact u
theorem Rel.upd (R:Rel g c σ) {i k:Nat} {o o2:O} {ob ob':Obj} (e : σ.h.get i=some o) (hk:Use σ.h k) (hki:k / 2=i) (ht:two o2=two o) (hm:(σ.ρ k,ob) ∈ σ.news)
  (F':Fr σ.g0 c.L h' σ.m) (N':News σ.g0 c.L h' (setN σ.news (σ.ρ k) ob')) (ho:∀ σ':St,σ'.ρ = σ.ρ→σ'.news=setN σ.news (σ.ρ k) ob'→Ext0 g σ σ'→OR g σ' i o2) :
  Rel g c (σ.upd i o2 (setN σ.news (σ.ρ k) ob') h' tk)∧Ext g c σ (σ.upd i o2 (setN σ.news (σ.ρ k) ob') h' tk):=by
 have hi:=R.lt e
 have us:∀ j,Use (hp σ.h i o2) j→Use σ.h j:=fun j=>ZkM e (fun t=>ht ▸ t)
 refine R.to (D:=fun a=>a = σ.ρ k) (σ':=σ.upd i o2 (setN σ.news (σ.ρ k) ob') h' tk) ⟨F',N',by show ((setN σ.news (σ.ρ k) ob').map _).Nodup; rw[Z5]; exact R.nd,rfl,rfl,Nat.le_refl _,fun _ _=>rfl,fun _ _=>rfl,fun _ m n=>Zs m n,
  fun b x q _ e=>q.2.1 k hk e.symm,fun T t e=>?_,fun q hq e=>R.tabU hq k hk e.symm,fun j u=>.inl (us j u),fun j _ u _ n _ _=>absurd (us j u) n,fun j hj=>?_,fun j x hx=>?_,fun Z=>R.locK Z rfl rfl fun n x m=>Zs m fun q=>(R.locU n).1 k hk q.symm,
  fun _=>rfl,.refl,R.B⟩ fun a x p _ _ e=>p.2.1 k hk e.symm
 ·obtain⟨x,q,_⟩:=t; exact(q.2.1 k hk e.symm).elim
 ·show (hp σ.h i o2).get j=none
  rw[Zm,if_neg (fun q:j=i=>absurd hi (Nat.not_lt.mpr (q ▸ hj)))]; exact R.fr j hj
 ·have hx:(hp σ.h i o2).get j=some x:=hx
  rw[Zm] at hx
  by_cases q:j=i
  ·rw[if_pos q] at hx; cases hx; subst q; exact .inr fun Z=>ho _ rfl rfl Z
  ·rw[if_neg q] at hx
   exact .inl ⟨hx,fun l ul hl q2=>q (hl.symm.trans ((congrArg (· / 2) (R.inj l k ul hk q2)).trans hki))⟩
theorem ZlY {L news:List (Addr × Obj)} (nd:(news.map (·.1)).Nodup) (nl:(L.map (·.1)).Nodup) (h:∀ q ∈ L,∀ p ∈ news,p.1≠q.1):((L++news).map (·.1)).Nodup:=by
 rw[List.map_append]
 refine List.nodup_append.mpr ⟨nl,nd,fun a ha b hb e=>?_⟩
 obtain⟨q,hq,rfl⟩:=List.mem_map.mp ha
 obtain⟨p,hp,rfl⟩:=List.mem_map.mp hb
 exact h q hq p hp e.symm
theorem Rel.newG (R:Rel g c σ) {o:O} {x d:Addr} {L:List (Addr × Obj)} (F':Fr σ.g0 c.L h' σ.m) (N':News σ.g0 c.L h' (L ++ σ.news)) (nl:(L.map (·.1)).Nodup) (hf:∀ q ∈ L,∀ p ∈ σ.news,p.1≠q.1)
  (hx:∀ p ∈ σ.news,p.1≠x) (hd:two o=true→(∀ p ∈ σ.news,p.1≠d)∧x≠d) (ho:∀ σ':St,σ'.ρ (2 * σ.nx)=x→σ'.ρ (2 * σ.nx + 1)=d→σ'.news=L ++ σ.news→Ext0 g σ σ'→OR g σ' σ.nx o) :
  Rel g c (σ.new o x d (L ++ σ.news) h' tk)∧Ext g c σ (σ.new o x d (L ++ σ.news) h' tk)∧VR g (σ.new o x d (L ++ σ.news) h' tk) (.ref σ.nx) (.ref x):=by
 have r0:(σ.new o x d (L ++ σ.news) h' tk).ρ (2 * σ.nx)=x:=if_pos rfl
 have r1:(σ.new o x d (L ++ σ.news) h' tk).ρ (2 * σ.nx + 1)=d:=(if_neg (Nat.succ_ne_self _)).trans (if_pos rfl)
 have rn:∀ k,k / 2 < σ.nx→(σ.new o x d (L ++ σ.news) h' tk).ρ k = σ.ρ k:=fun k hk=>(if_neg (by rintro rfl; rw[Zr] at hk; exact Nat.lt_irrefl _ hk)).trans (if_neg (by rintro rfl; rw[Zaj] at hk; exact Nat.lt_irrefl _ hk))
 have us:∀ k,Use (hp σ.h σ.nx o) k→Use σ.h k∨k=2 * σ.nx∨k=2 * σ.nx + 1∧two o=true:=fun k u=>by
  by_cases q:k / 2 = σ.nx
  ·obtain⟨o',e,h⟩:=ZaP u
   rw[Zm,if_pos q] at e
   cases e
   rw[q] at h
   exact .inr h
  ·unfold Use at u ⊢
   rw[Zm,if_neg q] at u
   exact .inl u
 have ul:∀ k,Use σ.h k→k / 2 < σ.nx:=fun k u=>by obtain⟨o,e,_⟩:=ZaP u; exact R.lt e
 have H:Chg g c σ (σ.new o x d (L ++ σ.news) h' tk) (fun _=>False):=by
  refine⟨F',N',ZlY R.nd nl hf,rfl,rfl,Nat.le_succ _,fun i hi=>rn _ (by rw[Zr]; exact hi),fun k u=>rn k (ul k u),fun _ m _=>List.mem_append_right _ m,fun _ _ _ _=>id,fun _ _ d=>d.elim,fun _ _=>id,fun k u=>?_,fun i j ui uj ni nj e=>?_,fun j hj=>?_,fun j y hy=>?_,
   fun Z=>R.locK Z rfl rfl fun _ _ m=>List.mem_append_right _ m,fun _=>rfl,.refl,R.B⟩
  ·rcases us k u with h | rfl | ⟨rfl,t⟩
   ·exact .inl h
   ·right; rw[r0]; exact hx
   ·right; rw[r1]; exact(hd t).1
  ·rcases(us i ui).resolve_left ni with rfl | ⟨rfl,t⟩ <;> rcases(us j uj).resolve_left nj with rfl | ⟨rfl,t'⟩
   ·rfl
   ·rw[r0,r1] at e; exact absurd e (hd t').2
   ·rw[r0,r1] at e; exact absurd e.symm (hd t).2
   ·rfl
  ·show (hp σ.h σ.nx o).get j=none
   rw[Zm,if_neg (Nat.ne_of_gt hj)]; exact R.fr j (Nat.le_of_lt hj)
  ·have hy:(hp σ.h σ.nx o).get j=some y:=hy
   rw[Zm] at hy
   by_cases q:j = σ.nx
   ·rw[if_pos q] at hy; cases hy; subst q; exact .inr fun Z=>ho _ r0 r1 rfl Z
   ·rw[if_neg q] at hy; exact .inl ⟨hy,fun _ _ _=>id⟩
 obtain⟨R',X⟩:=R.to H fun _ _ _ _ _=>id
 exact⟨R',X,congrArg Value.ref r0.symm,Nat.lt_succ_self _⟩
theorem Rel.new (R:Rel g c σ) {o:O} {x d:Addr} {L:List (Addr × Obj)} (F':Fr σ.g0 c.L h' σ.m) (N':News σ.g0 c.L h' (L ++ σ.news)) (nl:(L.map (·.1)).Nodup) (hf:∀ q ∈ L,∀ p ∈ σ.news,p.1 < q.1)
  (hx:∀ p ∈ σ.news,p.1 < x) (hd:two o=true→(∀ p ∈ σ.news,p.1 < d)∧x≠d) (ho:∀ σ':St,σ'.ρ (2 * σ.nx)=x→σ'.ρ (2 * σ.nx + 1)=d→σ'.news=L ++ σ.news→Ext0 g σ σ'→OR g σ' σ.nx o) :
  Rel g c (σ.new o x d (L ++ σ.news) h' tk)∧Ext g c σ (σ.new o x d (L ++ σ.news) h' tk)∧VR g (σ.new o x d (L ++ σ.news) h' tk) (.ref σ.nx) (.ref x):=
 R.newG F' N' nl (fun q hq p hp=>Nat.ne_of_lt (hf q hq p hp)) (fun p hp=>Nat.ne_of_lt (hx p hp)) (fun t=>⟨fun p hp=>Nat.ne_of_lt ((hd t).1 p hp),(hd t).2⟩) ho
theorem Rel.new1 (R:Rel g c σ) {o:O} {x:Addr} {ob:Obj} (F':Fr σ.g0 c.L h' σ.m) (N':News σ.g0 c.L h' ((x,ob) :: σ.news)) (hx:∀ p ∈ σ.news,p.1 < x) (t:two o=false) (ho:∀ σ':St,(x,ob) ∈ σ'.news→Ext0 g σ σ'→ORa g σ' x 0 o) :
  ∃ σ',Rel g c σ'∧Ext g c σ σ'∧VR g σ' (.ref σ.nx) (.ref x)∧σ'.h=hp σ.h σ.nx o∧σ'.nx=Nat.succ σ.nx∧σ'.lo = σ.lo∧σ'.s = { σ.s with heap:=h',toks:=tk }:=
 let ⟨R',X,v⟩:=R.new (tk:=tk) (d:=0) (L:=[(x,ob)]) F' N' (List.nodup_cons.mpr ⟨nofun,List.nodup_nil⟩) (fun q hq p hp=>by rw[List.mem_singleton.mp hq]; exact hx p hp) hx (fun t'=>by rw[t] at t'; exact Za t') fun σ' e0 e1 en Z=>by
  show ORa g σ' _ _ o
  rw[e0,e1]; exact ho σ' (by rw[en]; exact .head _) Z
 ⟨_,R',X,v,rfl,rfl,rfl,rfl⟩
end
end Mn
end
section
set_option tactic.hygienic false
namespace Mn
open PySem PySem.W PyProof.Rows PySem.Calls PySem.Spec
section
variable {prog:Program} {w:World} {A:Around} {E:Value→Shared→Prop} {s:Shared} {K:Frag} {x C:Addr} {ox:Obj} {od:Option Obj} {name:Str} {expr:Bool} {Q:Value→Shared→Prop}
noncomputable def Ze8 (K:Frag) (C:Addr):Bool:=findIn K (.ref C) "__getattribute__" == some (some (.builtin "BaseException.__getattribute__"))&&(findIn K (.ref C) "__getattr__" == some none&&subIn K (.ref C) (.type "BaseException")==some true)
theorem ZjC {v:Value} (X:K.In s.heap) (I:InstAt s.heap x ox C od) (hg:Ze8 K C=true) (hf:findObj K C od name=some (.value v)) (hh:handedIn v=true) (h:Q v { s with toks:=s.toks + 1 }) :
  wpAny (model prog w) A (getAttr (.ref x) name expr) Q E s:=by
 obtain⟨g1,g2⟩:=Yb hg
 obtain⟨g2,g3⟩:=Yb g2
 obtain⟨hp,gg,d,t,os⟩:=s
 have L0:=I.type (M:=model prog w)
 have L1:=looks_findIn (M:=model prog w) X (eq_of_beq g1)
 have L2:=looks_findIn (M:=model prog w) X (eq_of_beq g2)
 have L3:=looks_subIn (M:=model prog w) X (eq_of_beq g3)
 have L4:=looks_find (M:=model prog w) X I hf
 have hne:(Value.builtin "BaseException.__getattribute__" == Value.builtin "object.__getattribute__")=false:=by decide +kernel
 have hk:builtinKind "BaseException.__getattribute__" = some .slot:=by decide +kernel
 have hsplit:splitId "BaseException.__getattribute__" = some ("BaseException","__getattribute__"):=by decide +kernel
 unfold getAttr getAttrBy
 refine wpAny_bind (wpAny_mkText (wpAny_holding (wpAny_bind (L0.at (wpAny_bind (L1.at ?_))))))
 show wpAny _ _ (if (onTheHeap (Value.ref C)&&Value.builtin "BaseException.__getattribute__" == Value.builtin "object.__getattribute__")=true then _ else _) _ _ _
 rw[hne,Bool.and_false,if_neg (by decide)]
 unfold getAttrByItsOwn
 refine wpAny_bind (L2.at (wpAny_bind (wpAny_attempt (wpAny_holding ?_))))
 show wpAny _ _ (callGetattribute _ _ _ expr) _ _ _
 unfold callGetattribute
 have hx0:(expr&&onTheHeap (Value.builtin "BaseException.__getattribute__"))=false:=by cases expr <;> rfl
 rw[hx0,if_neg (by decide)]
 unfold boundAndCalled
 rw[F.excAttr_ValueError.ga.bind (.ref x)]
 refine wpAny_bind (wpAny_pure (wpAny_call (codeAny_call_builtin F.excAttr_ValueError.ga.plain F.entry_bexc_ga ?_)))
 simp only [checkBuiltinCall,hk,hsplit]
 refine wpAny_bind (wpAny_bind (L0.at (L3.at ?_)))
 rw[Bool.not_true,if_neg (by decide)]
 have ha:=F.args_bexc_ga (.ref x) (.str name t)
 refine wpAny_of_eq ha ?_
 refine wpAny_bind (wpAny_pure (wpAny_bind (wpAny_pure (wpAny_bind (L0.at (wpAny_bind (L4.at (wpAny_pure ?_))))))))
 show wpAny _ _ (handedOut v) _ _ _
 rw[handedOut_of hh]; exact wpAny_pure h
end
end Mn
end
section
namespace Mn
open PySem PySem.W PyProof.Rows PySem.Calls PySem.Spec Builtin Builtin.ObjectAttr
theorem Ze9:builtinKind "hasattr" = none:=by decide +kernel
theorem ZeA:plainId "hasattr" = true:=by decide +kernel
theorem ZeB:entryFor table "hasattr" = some Builtin.«hasattr»:=entryFor_of_tree (by kernel_rfl)
theorem Zd4 (a b:Value):argsOk "hasattr" ⟨[a,b],[]⟩:=by unfold argsOk; kernel_rfl
section
variable {prog:Program} {w:World} {A:Around} {E:Value→Shared→Prop} {s:Shared} {K:Frag} {x C f L:Addr} {ox:Obj} {od:Obj} {name:Str} {expr:Bool} {h₀:Heap} {m:Str→Option Value} {news:List (Addr × Obj)} {es:List DictEntry} {n:Nat} {Q:Value→Shared→Prop} {t:Tok}
theorem Zin (X:K.In s.heap) (I:InstAt s.heap x ox C (some od)) (hga:findIn K (.ref C) "__getattribute__" = some (some (.builtin "object.__getattribute__")))
  (h:wpAny (model prog w) A.in1 (Builtin.«proto.getattr_hooked» ⟨[.ref x,.str name t],[]⟩)
   (fun fin s'=>match fin with | .done (.ret v)=>wpAny (model prog w) A (handedOut v) Q E s' | _=>False) E s) :
  wpAny (model prog w) A (getAttrBy (.ref x) (.str name t) false) Q E s:=by
 obtain⟨hh,g,d,tk,os⟩:=s
 have L0:=I.type (M:=model prog w)
 have L1:=looks_findIn (M:=model prog w) X hga
 unfold getAttrBy
 refine wpAny_holding (wpAny_bind (L0.at (wpAny_bind (L1.at ?_))))
 show wpAny _ _ (getAttrEveryday _ _ _) _ _ _
 refine wpAny_bind (wpAny_onRaise (wpAny_runValue (codeAny_builtin F.plainObj_entry_getattr_hooked (wpAny_mono h (fun fin s' z=>?_) fun _ _ z=>?_))))
 ·rcases fin with(_ | _ | _ | _) | _ <;> first | exact z | exact z.elim
 ·exact wpAny_pure z
theorem Zfa {g a:Value} (X:K.In s.heap) (I:InstAt s.heap x ox C (some od)) (hga:findIn K (.ref C) "__getattribute__" = some (some (.builtin "object.__getattribute__")))
  (hf:findObj K C (some od) name=some (.bind g a)) (hk:findIn K (.ref C) "__getattr__" = some none)
  (h:wpAny (model prog w) A.in1 (call g [a,.ref x,.ref C]) (fun v s'=>wpAny (model prog w) A (handedOut v) Q E s') E s) :
  wpAny (model prog w) A (getAttrBy (.ref x) (.str name t) false) Q E s:=by
 refine Zin X I hga ?_
 obtain⟨hh',gg,d,tk,os⟩:=s
 have L0:=I.type (M:=model prog w)
 have L1:=looks_find (M:=model prog w) X I hf
 have L2:=looks_findIn (M:=model prog w) X hk
 refine wpAny_bind (wpAny_pure (wpAny_bind (L0.at (wpAny_bind (L1.at (wpAny_bind (L2.at ?_)))))))
 show wpAny _ _ (holding [a] (call g [a,.ref x,.ref C]) >>= ret) _ _ _
 exact wpAny_bind (wpAny_holding (wpAny_mono h (fun v s' z=>wpAny_pure z) fun _ _ z=>z))
theorem ZeC (F:Fr h₀ L s.heap m) (X₀:K.In h₀) (N:News h₀ L s.heap news) (I:InstAt s.heap x ox C (some (dictOf es n))) (hmod:subIn K (.ref C) (.type "module")=some false) (hg:plainGet K C name=true) (hh:hasDictIn K C=true) (ha:findIn K (.ref C) name=some (some (.ref f))) (hf:isFn K (.ref f)=true)
  (hgf:specialIn K (.ref f) "__get__" = some (some (.builtin "function.__get__"))) (ht:takesIn K (.ref f)=some false) (hc:copiedNames.contains name=false) (hl:getL name es=some none)
  (h:∀ q h',Fr h₀ L h' m→News h₀ L h' ((q,methodObj (.ref f) (.ref x)) :: news)→(∀ p ∈ news,p.1 < q)→Q (.bool true) { s with heap:=h' }):wpAny (model prog w) A (call (.builtin "hasattr") [.ref x,.str name t]) Q E s:=by
 refine Calls.call_function_entry Ze9 ZeA ZeB (Zd4 _ _) ?_
 have X:=X₀.keeps F.keep
 unfold Builtin.«hasattr»
 refine wpAny_bind (wpAny_of_eq (a:=[.ref x,.str name t]) (by first | rfl | kernel_rfl) ?_)
 dsimp only
 refine wpAny_bind (wpAny_of_eq (a:=()) (by first | rfl | kernel_rfl) ?_)
 rw[if_neg (show ¬ (Value.ref x==Value.builtin "__main__.__loader__#opaque")=true from Bool.false_ne_true)]
 refine wpAny_bind (I.type.here ?_)
 dsimp only
 refine wpAny_bind (wpAny_mono (Q:=fun r s'=>r=0∧s'=s) (E:=fun _ _=>False) ?_ ?_ (fun _ _ z=>z.elim))
 ·show wpAny _ _ (do
   let m ← isInstance (.ref x) (.type "module")
   if (!m)=true then pure 0 else _) _ _ _
  have hm:Looks (model prog w) s.heap (isInstance (.ref x) (.type "module")) false:=I.type.andThen (looks_subIn X hmod)
  exact wpAny_bind (hm.here (wpAny_pure ⟨rfl,rfl⟩))
 ·rintro _ _ ⟨rfl,rfl⟩
  rw[if_neg (by decide)]
  refine wpAny_bind ?_
  unfold getAttrBy?
  refine wpAny_bind (wpAny_attempt (Zfa X I (plainGet_of hg).1 (findObj_fn hh ha hgf ht hc (by show lookIn name (dictOf es n) = _; rw[lookIn_dict,hl])) (plainGet_of hg).2
   (wpAny_call (fn_get X (beq_iff_eq.mp hf) (handed_on rfl ?_)))))
  refine wpAny_pure ?_
  exact wpAny_pure ⟨_,rfl,h _ _ (F.push _) (N.push F _) (fun p hp=>Heap.lt_size (N p hp).1)⟩
end
noncomputable def Zb8 (K:Frag) (C:Addr) (T:String):Bool:=plainGet K C "__class__" && findIn K (.ref C) "__class__" == some (some (.builtin "object.__class__"))&&specialIn K (.builtin "object.__class__") "__get__" == some (some (.builtin "getset_descriptor.__get__")) &&
 takesIn K (.builtin "object.__class__")==some true&&mroIn K C (.type "object")==some true&&typeIn K (.ref C)==some (.type "type")&&instIn K (.ref C) (.type "type")==some true&&subIn K (.ref C) (.type T)==some false&&(clsIn K C).isSome&&hasDictIn K C
section
variable {prog:Program} {w:World} {A:Around} {E:Value→Shared→Prop} {s:Shared} {K:Frag} {x C:Addr} {ox od:Obj}
theorem ZeD {Q:Option Value→Shared→Prop} (X:K.In s.heap) (I:InstAt s.heap x ox C (some od)) {T:String} (e:Zb8 K C T=true) (h:Q (some (.ref C)) { s with toks:=s.toks + 1 }):wpAny (model prog w) A (getAttr? (.ref x) "__class__") Q E s:=by
 unfold Zb8 at e
 simp only [Bool.and_eq_true,beq_iff_eq] at e
 obtain⟨⟨⟨⟨⟨⟨⟨⟨⟨a1,a2⟩,a3⟩,a4⟩,a5⟩,a6⟩,a7⟩,a8⟩,a9⟩,a10⟩:=e
 unfold getAttr?
 refine wpAny_bind (wpAny_mkText ?_)
 unfold getAttrBy?
 refine wpAny_bind (wpAny_attempt (Zfa (s:={ s with toks:=s.toks + 1 }) X I (plainGet_of a1).1 (findObj_data (by obtain⟨cd,hc,_⟩:=any_some a10; rw[hc]; rfl) a2 a3 a4) (plainGet_of a1).2
  (wpAny_call (class_get (s:={ s with toks:=s.toks + 1 }) (ox:=ox) (od:=some od) X I a5 (handed_on rfl ?_)))))
 exact wpAny_pure h
theorem Zd5 {T:String} {dep:Int} {tk:Tok} {Q:Fin→Shared→Prop} (X:K.In s.heap) (I:InstAt s.heap x ox C (some od)) (e:Zb8 K C T=true) (hty:typeOf (.type T)=pure (.type "type"))
  (h:Q (.done (.ret (.bool false))) { s with toks:=s.toks + 1 }) :
  wpAny (model prog w) A (Builtin.«isinstance.nested» ⟨[.ref x,.type T,.int dep tk],[]⟩) Q E s:=by
 have e':=e
 unfold Zb8 at e'
 simp only [Bool.and_eq_true,beq_iff_eq] at e'
 obtain⟨⟨⟨⟨⟨⟨⟨⟨⟨a1,a2⟩,a3⟩,a4⟩,a5⟩,a6⟩,a7⟩,a8⟩,a9⟩,a10⟩:=e'
 obtain⟨hh,g,d,tt,os⟩:=s
 have ht:=I.type (M:=model prog w)
 unfold Builtin.«isinstance.nested»
 refine wpAny_bind (ht.at ?_)
 rw[if_neg (fun q=>by cases beq_iff_eq.mp q)]
 have L4:Looks (model prog w) hh (isSubtype (.ref C) (.type T)) false:=looks_subIn X a8
 have L3:Looks (model prog w) hh (isInstance (.ref x) (.type T)) false:=ht.andThen L4
 have L1:=looks_typeIn (M:=model prog w) X a6
 have L2:=looks_instIn (M:=model prog w) X a7
 refine wpAny_bind (wpAny_of_eq hty ?_)
 rw[if_pos (by decide)]
 k_delta "plainIsInstance"
 refine wpAny_bind (wpAny_bind ?_)
 refine wpAny_pure ?_
 simp only [Bool.not_true,Bool.false_eq_true,if_false]
 refine wpAny_bind (L3.at ?_)
 simp only [Bool.false_eq_true,if_false]
 refine wpAny_bind (ZeD X I e ?_)
 dsimp only
 refine wpAny_bind ?_
 unfold clsIn at a9
 split at a9
 ·rename_i ho
  refine nd_load (X _ _ ho) (nd_pure ?_)
  simp only [Bool.not_true,Bool.false_eq_true,if_false]
  refine wpAny_bind (wpAny_rule ?_)
  refine L4.at ?_
  exact wpAny_pure h
 ·cases a9
theorem ZmL {L:Addr} {h₀:Heap} {T:String} {Q:Value→Shared→Prop} (X:K.In s.heap) (I:InstAt s.heap x ox C (some od)) (e:Zb8 K C T=true) (hty:typeOf (.type T)=pure (.type "type"))
  (h:Q (.bool false) { s with toks:=s.toks + 1 }):wpAny (model prog w) A (call (.builtin "isinstance") [.ref x,.type T]) Q E s:=
 call_isinstance (S:=fun _ R s=>(K.In s.heap∧InstAt s.heap x ox C (some od))∧R (.ok (.ret (.bool false))) { s with toks:=s.toks + 1 })
  (fun _ _ _ _ _ hs=>isinstance_outer (Zd5 hs.1.1 hs.1.2 e hty hs.2) (by intro q; cases q)) ⟨⟨X,I⟩,h⟩
end
end Mn
end
section
namespace Mn
open PySem PySem.W PyProof.Rows PySem.Calls PySem.Spec PySem.SeqAt
noncomputable def Zhh (x:Option Value):Bool:=match x with
 | some v=>(match v with | .builtin _=>true | _=>false)
 | none=>false
noncomputable def Zgx (l:List (Option Value)):Bool:=Nat.beq l.length 6&&Zhh (l.getD 4 none)
theorem Zfb {l:List (Option Value)} (h:Zgx l=true):∃ a b c d n f,l = [a,b,c,d,some (.builtin n),f]:=by
 obtain⟨h1,h2⟩:=Yb h
 have h1:=Yn h1
 clear h
 rcases l with _ | ⟨a,l⟩
 ·exact absurd h1 (by decide)
 rcases l with _ | ⟨b,l⟩
 ·exact absurd h1 (by simp)
 rcases l with _ | ⟨c,l⟩
 ·exact absurd h1 (by simp)
 rcases l with _ | ⟨d,l⟩
 ·exact absurd h1 (by simp)
 rcases l with _ | ⟨e,l⟩
 ·exact absurd h1 (by simp)
 rcases l with _ | ⟨f,l⟩
 ·exact absurd h1 (by simp)
 obtain rfl:=List.eq_nil_of_length_eq_zero (show l.length=0 by simpa using h1)
 have h2:Zhh e=true:=h2
 cases e with
 | none=>cases h2
 | some v=>
  cases v with
  | builtin n=>exact⟨_,_,_,_,n,_,rfl⟩
  | _=>first | exact Za h2 | exact Ze h2 | cases h2
noncomputable def ZlZ (K:Frag) (C:Addr) (sl:List (Option Value)) (cd:ClassData):Bool:=
 [cd.mro == [.ref C,.type "object"],Zgx sl,!cd.hasDel,nsOkIn K cd.ns,nsIn K cd.ns "__eq__" == some none,nsIn K cd.ns "__ne__" == some none].all id
noncomputable def Zl0 (K:Frag) (C:Addr) (o:Obj):Bool:=o.cls == .type "type" && match o.data with
 | .cls cd=>ZlZ K C o.slots.toList cd
 | _=>false
noncomputable def ZdJ (K:Frag) (C:Addr):Bool:=match K.lookup C with
 | some o=>Zl0 K C o
 | none=>false
theorem Zgy {K:Frag} {h:Heap} {C x:Addr} {o:Obj} (X:K.In h) (q:ZdJ K C=true) (hx:h.get? x=some o) (hc:o.cls=.ref C):h.CmpInst x C [.type "object"]:=by
 unfold ZdJ at q
 cases ho:K.lookup C with
 | none=>rw[ho] at q; cases q
 | some oC=>
 rw[ho] at q
 obtain⟨cls,dd,dt,⟨sl⟩⟩:=oC
 obtain⟨q0,q⟩:=Yb q
 obtain rfl:cls=.type "type":=eq_of_beq q0
 cases dt with
 | cls cd=>
  have q:=List.all_eq_true.mp q
  have hm:=q _ (.head _)
  have hs:=q _ (.tail _ (.head _))
  have hdel:=q _ (.tail _ (.tail _ (.head _)))
  have hok:=q _ (.tail _ (.tail _ (.tail _ (.head _))))
  have h1:=q _ (.tail _ (.tail _ (.tail _ (.tail _ (.head _)))))
  have h2:=q _ (.tail _ (.tail _ (.tail _ (.tail _ (.tail _ (.head _))))))
  clear q
  obtain⟨k0,k1,k2,k3,n,k5,hsl⟩:=Zfb hs
  obtain⟨nm,bs,mro,ns,qn,hd,sn,sub,ab,col,del⟩:=cd
  dsimp only [id] at hm hdel hok h1 h2 hsl
  obtain rfl:=eq_of_beq hm
  obtain rfl:del=false:=by cases del; rfl; cases hdel
  obtain rfl:=hsl
  exact⟨o,nm,qn,ns,bs,hd,sn,sub,ab,col,dd,k0,k1,k2,k3,k5,_,_,hx,hc,X _ _ ho,.of_isNs (isNs_of_in X hok),nsMap_none_of_in X hok (eq_of_beq h1),nsMap_none_of_in X hok (eq_of_beq h2)⟩
 | _=>cases q
theorem ZjD {K:Frag} {s:Shared} {C x:Addr} {o:Obj} (X:K.In s.heap) (q:ZdJ K C=true) (hx:s.heap.get? x=some o) (hc:o.cls=.ref C) {A:Around} (hu:A.units + 2 < cLine) :
  RcAt A s (.ref x) (.ref x) true∧RcNeAt A s (.ref x) (.ref x) false:=by
 have I:=Zgy X q hx hc
 obtain⟨h,g,d,t,os⟩:=s
 exact⟨fun prog w E Q hq=>richCompare_eq_same F.cmp_object I (by omega) hq,fun prog w E Q hq=>richCompare_ne_same F.cmp_object I (by omega) hq⟩
end Mn
end
section
set_option tactic.hygienic false
namespace Mn
open PySem PySem.W PyProof.Rows PySem.Calls PySem.Spec
noncomputable abbrev Gl.M (g:Gl):Model:=model g.prog g.w
noncomputable def NumIs (g:Gl) (v:V) (i:Int):Prop:=(∃ j,v=.int j∧j=i)∨∃ k,v=.sint k∧g.sint k=i
noncomputable def NumC (g:Gl) (x:V) (i:Int):Prop:=∃ v,NumIs g v i∧∀ k:V→Bool,Zdz x k=true→k v=true
theorem NumIs.c {g:Gl} {x:V} {i:Int} (h:NumIs g x i):NumC g x i:=⟨x,h,fun k hk=>by
 rcases h with⟨j,rfl,_⟩ | ⟨j,rfl,_⟩ <;> exact hk⟩
structure OraOK (g:Gl) (e:Nat × Nat × Int × V):Prop where
 mod:e.1=3→0 < e.2.2.1→NumC g e.2.2.2 ((g.sint e.2.1).fmod e.2.2.1)
 div:e.1=4→0 < e.2.2.1→NumC g e.2.2.2 ((g.sint e.2.1).fdiv e.2.2.1)
 abs:e.1=5→NumIs g e.2.2.2 (if g.sint e.2.1 < 0 then -g.sint e.2.1 else g.sint e.2.1)
 eq:e.1=20→e.2.2.2=.bool (decide (g.sint e.2.1=e.2.2.1))
 add:e.1=0→NumIs g e.2.2.2 (g.sint e.2.1 + e.2.2.1)
 idx:e.1=8→∀ o,g.abs e.2.2.1.toNat o→∃ items n w,o=listOf items n∧0≤g.sint e.2.1∧items.size≤1000000∧items[(g.sint e.2.1).toNat]? = some w∧∀ σ,VR g σ e.2.2.2 w
 pm:e.1=9→mem (g.pk e.2.1) e.2.2.1.toNat=true∧(g.pk e.2.1).length≤1000∧NumC g e.2.2.2 (g.pm e.2.1 e.2.2.1.toNat)
 rg:e.1=21→0≤g.sint e.2.1∧g.sint e.2.1 < e.2.2.1∧e.2.2.1 < 1000000∧∀ w,handedIn w=true→∀ σ,VR g σ e.2.2.2 w
 lt:e.1=22→e.2.2.2=.bool (decide (g.sint e.2.1 < e.2.2.1))
 gt:e.1=23→e.2.2.2=.bool (decide (e.2.2.1 < g.sint e.2.1))
 sl:e.1=7→∀ v,g.unk e.2.1 v→∃ a items,v=.ref a∧g.base.IsList a items∧items.size≤1000000∧∀ vs,vTup e.2.2.2=some vs→∀ σ,VRs g σ vs (items.toList.take e.2.2.1.toNat)
structure CxOK (g:Gl) (c:Cx) (n:Nat):Prop where
 fr:c.A.frames=some (c.fenv :: c.outer)
 ff:c.fenv.frame=some c.L
 fk:c.fenv.scope.kind=.function
 ek:c.env.scope.kind=.function
 eg:c.env.globals=mainGlobals
 eb:c.env.builtins=builtinsNs
 ef:c.env.frame=some c.L
 Kb:g.K.In g.base
 Tb:Top g.p g.loose g.mean g.mg g.mb g.base
 dep:c.A.depth + n≤950
 uni:c.A.units + 12 * n≤9000
 hn:c.A.handled=c.hd.hd.map fun _=>.ref c.he
 mkk:c.hd.mkr=true→∃ cc P,c.env.code=.ref cc∧(cc,P,c.env.qual) ∈ g.tabs∧CodeHd g.base cc P
 ora:∀ e ∈ c.hd.ora,OraOK g e
theorem CxOK.K {g:Gl} {c c2:Cx} {n:Nat} {σ : St} (h:CxOK g c n) (R:Rel g c2 σ):g.K.In σ.g0:=h.Kb.keeps R.stays
theorem CxOK.X {g:Gl} {c c2:Cx} {n:Nat} {σ : St} (h:CxOK g c n) (R:Rel g c2 σ):g.K.In σ.s.heap:=(h.K R).keeps R.F.keep
theorem CxOK.T {g:Gl} {c c2:Cx} {n:Nat} {σ : St} (h:CxOK g c n) (R:Rel g c2 σ):Top g.p g.loose g.mean g.mg g.mb σ.g0:=h.Tb.keeps R.stays
theorem ZjE {a n b m:Nat} (h:a + m * (n + 1)≤b):a + m * n≤b:=Nat.le_trans (Nat.add_le_add_left (Nat.mul_le_mul_left m (Nat.le_succ n)) a) h
theorem CxOK.down {g:Gl} {c:Cx} {n:Nat} (h:CxOK g c (n + 1)):CxOK g c n:={ h with dep:=Nat.le_trans (Nat.le_succ _) h.dep,uni:=ZjE h.uni }
noncomputable def PV (g:Gl) (c:Cx) (σ : St) (ko:V→KS) (Q:Value→Shared→Prop):Prop:=∀ σ' v rv,Rel g c σ'→Ext g c σ σ'→VR g σ' v rv→ko v σ'.h σ'.nx σ'.lo=true→Q rv σ'.s
noncomputable def PVs (g:Gl) (c:Cx) (σ : St) (ko:List V→KS) (Q:List Value→Shared→Prop):Prop:=∀ σ' v rv,Rel g c σ'→Ext g c σ σ'→VRs g σ' v rv→ko v σ'.h σ'.nx σ'.lo=true→Q rv σ'.s
noncomputable def PB (g:Gl) (c:Cx) (σ : St) (ko:Bool→KS) (Q:Bool→Shared→Prop):Prop:=∀ σ' b,Rel g c σ'→Ext g c σ σ'→ko b σ'.h σ'.nx σ'.lo=true→Q b σ'.s
noncomputable def PU (g:Gl) (c:Cx) (σ : St) (k:KS) (Q:Shared→Prop):Prop:=∀ σ',Rel g c σ'→Ext g c σ σ'→k σ'.h σ'.nx σ'.lo=true→Q σ'.s
noncomputable def IsX (σ : St) (i:Nat):Prop:=∃ c t f,σ.h.get i=some (.exc c t f)
noncomputable def PX (g:Gl) (c:Cx) (σ : St) (ke:Nat→KS) (E:Value→Shared→Prop):Prop:=∀ σ' i,Rel g c σ'→Ext g c σ σ'→IsX σ' i→ke i σ'.h σ'.nx σ'.lo=true→E (.ref (σ'.ρ (2 * i))) σ'.s
noncomputable def PA (g:Gl) (c:Cx) (σ : St) (ko:KA) (Q:Value→Shared→Prop):Prop:=∀ σ' v rv,Rel g c σ'→Ext g c σ σ'→σ'.lo = σ.lo→VR g σ' v rv→ko v σ'.h σ'.nx=true→Q rv σ'.s
noncomputable def PAB (g:Gl) (c:Cx) (σ : St) (k:Bool→H→Nat→Bool) (Q:Bool→Shared→Prop):Prop:=∀ σ' b,Rel g c σ'→Ext g c σ σ'→σ'.lo = σ.lo→k b σ'.h σ'.nx=true→Q b σ'.s
noncomputable def PAX (g:Gl) (c:Cx) (σ : St) (ke:KX) (E:Value→Shared→Prop):Prop:=∀ σ' i,Rel g c σ'→Ext g c σ σ'→σ'.lo = σ.lo→IsX σ' i→ke i σ'.h σ'.nx=true→E (.ref (σ'.ρ (2 * i))) σ'.s
section
variable {g:Gl} {c:Cx} {σ σ₁:St}
theorem PV.of {ko:V→KS} {Q:Value→Shared→Prop} (X:Ext g c σ σ₁) (h:PV g c σ ko Q):PV g c σ₁ ko Q:=fun σ' v rv a b=>h σ' v rv a (X.trans b)
theorem PB.of {ko:Bool→KS} {Q:Bool→Shared→Prop} (X:Ext g c σ σ₁) (h:PB g c σ ko Q):PB g c σ₁ ko Q:=fun σ' b a x=>h σ' b a (X.trans x)
theorem PU.of {k:KS} {Q:Shared→Prop} (X:Ext g c σ σ₁) (h:PU g c σ k Q):PU g c σ₁ k Q:=fun σ' a b=>h σ' a (X.trans b)
theorem PX.of {ke:Nat→KS} {E:Value→Shared→Prop} (X:Ext g c σ σ₁) (h:PX g c σ ke E):PX g c σ₁ ke E:=fun σ' k a b=>h σ' k a (X.trans b)
theorem PX.no {E:Value→Shared→Prop}:PX g c σ (fun _ _ _ _=>false) E:=fun _ _ _ _ _ h=>Za h
theorem PU.no {Q:Shared→Prop}:PU g c σ noK Q:=fun _ _ _ h=>Za h
theorem PAX.no {E:Value→Shared→Prop}:PAX g c σ (fun _ _ _=>false) E:=fun _ _ _ _ _ _ h=>Za h
theorem PV.a {ko:V→KS} {Q:Value→Shared→Prop} (h:PV g c σ ko Q) (X:Ext g c σ σ₁):PA g c σ₁ (fun v h nx=>ko v h nx σ₁.lo) Q:=fun σ' v rv R X' hl vr hk=>h σ' v rv R (X.trans X') vr (hl ▸ hk)
theorem PX.a {ke:Nat→KS} {E:Value→Shared→Prop} (h:PX g c σ ke E) (X:Ext g c σ σ₁):PAX g c σ₁ (fun v h nx=>ke v h nx σ₁.lo) E:=fun σ' i R X' hl x hk=>h σ' i R (X.trans X') x (hl ▸ hk)
end
noncomputable def EvS (g:Gl) (r:Rec) (n:Nat):Prop:=∀ c,CxOK g c n→∀ k e σ,Rel g c σ→∀ ko ke,r.ev (cE k c.env.scope.names e) c.hd σ.h σ.nx σ.lo ko ke=true→∀ Q E,PV g c σ ko Q→PX g c σ ke E→wpAny g.M c.A (eval e c.env) Q E σ.s
noncomputable def TsS (g:Gl) (r:Rec) (n:Nat):Prop:=∀ c,CxOK g c n→∀ k e σ,Rel g c σ→∀ ko ke,r.tst (cE k c.env.scope.names e) c.hd σ.h σ.nx σ.lo ko ke=true→∀ Q E,PB g c σ ko Q→PX g c σ ke E→wpAny g.M c.A (isTrue e c.env (eval e c.env)) Q E σ.s
noncomputable def ExS (g:Gl) (r:Rec) (n:Nat):Prop:=∀ c,CxOK g c n→c.env=c.fenv→∀ k ss σ,Rel g c σ→∀ kn kb kc kr ke,r.ex (cSs k c.env.scope.names ss) c.hd σ.h σ.nx σ.lo kn kb kc kr ke=true→∀ Q E,
 PU g c σ kn (Q .next)→PU g c σ kb (Q .brk)→PU g c σ kc (Q .cont)→PV g c σ kr (fun v=>Q (.ret v))→PX g c σ ke E→wpAny g.M c.A (execs ss c.env) Q E σ.s
noncomputable def ExS1 (g:Gl) (r:Rec) (n:Nat):Prop:=∀ c,CxOK g c n→c.env=c.fenv→∀ k st σ,Rel g c σ→∀ kn kb kc kr ke,r.ex (cS k c.env.scope.names st) c.hd σ.h σ.nx σ.lo kn kb kc kr ke=true→∀ Q E,
 PU g c σ kn (Q .next)→PU g c σ kb (Q .brk)→PU g c σ kc (Q .cont)→PV g c σ kr (fun v=>Q (.ret v))→PX g c σ ke E→wpAny g.M c.A (exec st c.env) Q E σ.s
noncomputable def AppS (g:Gl) (r:Rec) (n:Nat):Prop:=∀ c,CxOK g c n→∀ σ,Rel g c σ→∀ f rf as ras kw rkw ko ke,VR g σ f rf→VRs g σ as ras→SR g σ kw rkw→r.app f as kw c.hd σ.h σ.nx ko ke=true→∀ Q E,PA g c σ ko Q→PAX g c σ ke E→
 wpAny g.M c.A (call rf ras rkw) Q E σ.s
noncomputable def Zaa (Q E:Value→Shared→Prop) (r:Result) (s':Shared):Prop:=match r with
 | .ok (.ret v)=>Q v s'
 | .ok _=>False
 | .error e=>E e s'
noncomputable def AppD (g:Gl) (r:Rec) (n:Nat):Prop:=∀ c,CxOK g c n→∀ σ,Rel g c σ→∀ a m as ras kw rkw ko ke,g.P.fns.get a=some m→VRs g σ as ras→SR g σ kw rkw→r.app (.top a) as kw c.hd σ.h σ.nx ko ke=true→∀ Q E,PA g c σ ko Q→PAX g c σ ke E→
 codeAny g.M c.A (.call (.ref a) ⟨ras,rkw⟩) (Zaa Q E) σ.s
noncomputable def AsS (g:Gl) (r:Rec) (n:Nat):Prop:=∀ c,CxOK g c n→∀ k t σ,Rel g c σ→∀ v rv,VR g σ v rv→∀ kc ke,r.asg (cT k c.env.scope.names t) v c.hd σ.h σ.nx σ.lo kc ke=true→∀ (Q:Unit→Shared→Prop) E,PU g c σ kc (Q ())→PX g c σ ke E→
 wpAny g.M c.A (assign t c.env rv) Q E σ.s
structure AllS (g:Gl) (r:Rec) (n:Nat):Prop where
 ev:EvS g r n
 ts:TsS g r n
 ex:ExS g r n
 ex1:ExS1 g r n
 app:AppS g r n
 appd:AppD g r n
 asg:AsS g r n
noncomputable def Cx.wi (c:Cx) (A:Around):Cx:={ c with A:=A }
section
variable {g:Gl} {c:Cx} {σ σ':St}
theorem RelT.wi (R:RelT g c σ) (A:Around):RelT g (c.wi A) σ:=⟨R.nd,R.fr,R.inj,R.trk,R.cs,R.loc,R.tab,R.B,R.hh⟩
theorem RelT.un {A:Around} (R:RelT g (c.wi A) σ):RelT g c σ:=⟨R.nd,R.fr,R.inj,R.trk,R.cs,R.loc,R.tab,R.B,R.hh⟩
theorem Rel.wi (R:Rel g c σ) (A:Around):Rel g (c.wi A) σ:=⟨R.toRelT.wi A,R.F,R.N,R.gens,R.os⟩
theorem Rel.un {A:Around} (R:Rel g (c.wi A) σ):Rel g c σ:=⟨R.toRelT.un,R.F,R.N,R.gens,R.os⟩
theorem Ext.un {A:Around} (X:Ext g (c.wi A) σ σ'):Ext g c σ σ':=⟨X.nx,X.ρ,X.pin,X.tb,X.m,X.turn⟩
theorem CxOK.wi {n:Nat} (h:CxOK g c (n + 1)) {A:Around} (e1:A.frames=c.A.frames) (e2:A.handled=c.A.handled) (e3:A.depth≤c.A.depth + 1) (e4:A.units≤c.A.units + 12):CxOK g (c.wi A) n:=
 ⟨e1.trans h.fr,h.ff,h.fk,h.ek,h.eg,h.eb,h.ef,h.Kb,h.Tb,Nat.le_trans (Nat.add_le_add_right e3 n) (by have:=h.dep; rwa [Nat.add_assoc,Nat.add_comm 1 n]),Nat.le_trans (Nat.add_le_add_right e4 (12 * n)) (by have:=h.uni; rwa [Nat.add_assoc,Nat.add_comm 12,← Nat.mul_succ]),e2.trans h.hn,h.mkk,h.ora⟩
theorem CxOK.in1 {n:Nat} (h:CxOK g c (n + 1)):CxOK g (c.wi c.A.in1) n:=h.wi rfl rfl (Nat.le_succ _) (Nat.add_le_add_left (by decide) _)
theorem Rel.ns (R:Rel g c σ):∃ mm,σ.s.heap.Ns c.env.locals mm∧LW g σ σ.lo mm:=by
 rcases R.loc with⟨e,l⟩ | ⟨e,o,m',a,_,_,⟨es,ep,d,k,f⟩,l⟩
 ·exact⟨σ.m,by rw[e]; exact R.F.ns,l⟩
 ·exact⟨m',⟨o,es,ep,(R.N _ a).1,d,k,f⟩,l⟩
end
theorem Zdg {x:Str} (h:gdn x=true):gd x=true∧(x==("__debug__" : Str))=false∧(x==("__classdict__" : Str))=false:=by
 unfold gdn at h
 rw[Bool.and_eq_true,Bool.and_eq_true,Bool.not_eq_true',Bool.not_eq_true'] at h
 exact⟨h.1.1,h.1.2,h.2⟩
noncomputable abbrev ZdK:Nat:=1936024942
noncomputable abbrev nOne:Nat:=7302757
noncomputable abbrev nK:Nat:=107
noncomputable abbrev ZdL:Nat:=491260897125
noncomputable abbrev ZdM:Nat:=7103854
structure FnAt (K:Frag) (f:Nat):Prop where
 fn:isFn K (.ref f)=true
 ob:∃ o,K.lookup f=some o
 get:specialIn K (.ref f) "__get__" = some (some (.builtin "function.__get__"))
 take:takesIn K (.ref f)=some false
noncomputable def Zct (K:Frag) (C:Value) (x:Str):CA→Prop
 | .no=>findIn K C x=some none
 | .oi=>findIn K C x=some (some (.builtin "object.__init__"))
 | .fn f=>findIn K C x=some (some (.ref f))∧FnAt K f∧copiedNames.contains x=false
 | .val v=>∃ rv,findIn K C x=some (some rv)∧specialIn K rv "__get__" = some none∧takesIn K rv=some false∧handedIn rv=true∧copiedNames.contains x=false∧(∀ g σ,VR g σ v rv) ∧
   ∀ c,C=.ref c→readsIn K c (.type "type")=true∧findCls K C (.type "type") x=some (.val rv)
 | .pr f=>∃ p rest,findIn K C x=some (some (.ref p))∧recIn K p "property" = some (.ref f :: rest)∧specialIn K (.ref p) "__get__" = some (some (.builtin "property.__get__"))∧takesIn K (.ref p)=some true∧copiedNames.contains x=false
 | .st f=>∃ p rest,findIn K C x=some (some (.ref p))∧recIn K p "staticmethod" = some (.ref f :: rest)∧specialIn K (.ref p) "__get__" = some (some (.builtin "staticmethod.__get__"))∧takesIn K (.ref p)=some false∧copiedNames.contains x=false∧∃ o,K.lookup f=some o
noncomputable abbrev Zcu:List Value:=[.type "Exception",.type "BaseException",.type "object"]
noncomputable def excS (l:List (Option Value)):Bool:=Zgx l&&l.getD 4 none==some (.builtin "Exception.__new__")
noncomputable def excM (K:Frag) (C:Nat) (cd:ClassData):List Value→Bool
 | c :: bm=>c == .ref C&&((!cd.hasDel&&cd.hasDict)&&(tailIn K Zcu bm&&nsOkIn K cd.ns))
 | []=>false
noncomputable def excO (K:Frag) (C:Nat) (o:Obj):Data→Bool
 | .cls cd=>excS o.slots.toList&&excM K C cd cd.mro
 | _=>false
noncomputable def excD (K:Frag) (C:Nat):Bool:=match K.lookup C with
 | some o=>o.cls == .type "type" && excO K C o o.data
 | none=>false
structure ClsOK (K:Frag) (C:Nat) (ci:ClsI):Prop where
 makes:ci.ok=true→makesIn K C=true
 get:ci.ok=true→plainGet K C "" = true
 getx:ci.xk=2→Ze8 K C=true
 dict:ci.ok=true∨ci.xk=2→hasDictIn K C=true
 set:ci.ok=true∨ci.xk=2→findIn K (.ref C) "__setattr__" = some (some (.builtin "object.__setattr__"))
 over:ci.ok=true→plainOver K C=true
 keep:(ci.ok||Nat.ble 1 ci.xk)=true→keepIn K (.ref C)=true
 mod:ci.ok=true→subIn K (.ref C) (.type "module")=some false
 noStr:ci.ok=true→Zb8 K C "str" = true
 cmp:ci.cmp=true→ZdJ K C=true
 own:ci.ok=true∨ci.xk=1∨ci.xk=2→20≤C
 x1:ci.xk=1→findIn K (.ref C) "__init__" = some (some (.builtin "Exception.__init__"))
 x2:ci.xk=1∨ci.xk=2→excD K C=true
 rz:ci.exc=true→subIn K (excV C) (.type "BaseException")=some true∧(typeIn K (excV C)=some (.type "type")∨typeOf (excV C)=pure (.type "type"))
 attr:∀ x ca,gd x=true→look ci.attrs (enc x)=some ca→Zct K (excV C) x ca
inductive FnOK (P:Prg) (K:Frag) (tabs:List (Addr × Addr × Str)) (a:Nat) (f:E):Prop
 | mk (oc:Value) (od:Option Addr) (osl:Array (Option Value)) (name qual:Str) (A:Arguments) (body:List Stmt) (scope:Scope) (dV doc pm:Value) (an:Option Addr) (cdv ct:Value) (p:FP) (k:Nat)
 (hK:K.lookup a=some ⟨oc,od,.func (fnOf name qual A body scope dV .none doc pm an cdv ct),osl⟩) (hcd:codeIn K cdv qual=true)
 (hf:f=.f p (cSs k scope.names body)) (hps:p.ps=A.args.map fun x=>enc x.arg) (hpc:p.cs=ZG scope.names) (hA:Zbh A=true) (hga:∀ x ∈ A.args,gd x.arg=true)
 (hsk:scope.kind=.function) (hco:scope.isCoroutine=false) (hgen:scope.isGenerator=false)
 (hdf:(dV=.none∧p.d = [])∨∃ T tc td its tn ts,dV=.ref T∧K.lookup T=some ⟨tc,td,.seq its tn,ts⟩∧∀ g σ,(∀ v,g.unk 0 v)→VRs g σ p.d its.toList)
 (hnd:((cellsFrom 0 scope.names []).map (·.1)).Nodup) (hgn:∀ x ∈ scope.names,gd x.1=true) (hnda:(A.args.map (·.arg)).Nodup) (hndn:(scope.names.map (·.1)).Nodup) (hmk:mem P.mks a=true→∃ cc Q,cdv=.ref cc∧(cc,Q,qual ++ ".<locals>.") ∈ tabs∧codeHdIn K cc Q=true)
 (hkind:∀ n,∀ x ∈ A.args,scope.names.lookup x.arg=some .local∨(scope.names.lookup x.arg=some .cell∧((cellsFrom n scope.names []).lookup x.arg).isSome=true))
noncomputable def Zfc:E:=.f ⟨0,0,[ZdK,nOne],[],[],[]⟩ (.b 8 0 (.t 7 0 (.k 4 nK) (.t 1 0 (.k 3 ZdL) (.b 5 0 (.t 1 0 (.k 3 ZdM) (.b 5 0 (.k 1 ZdK) (.k 6 0)) (.k 6 0)) (.k 6 0)) (.k 6 0)) (.b 8 0 (.t 6 0 (.b 3 2 (.b 4 0 (.k 1 ZdK) (.k 1 nK)) (.k 1 nOne)) (.b 8 0 (.u 7 0 (.k 1 nK)) (.k 6 0)) (.k 6 0)) (.k 6 0)))
 (.b 8 0 (.u 6 0 (.t 2 Zal (.k 1 ZdK) (.b 5 0 (.k 1 nOne) (.k 6 0)) (.k 6 0))) (.b 8 0 (.u 7 0 (.b 2 1 (.t 1 0 (.k 3 ZdM) (.b 5 0 (.k 1 ZdK) (.k 6 0)) (.k 6 0)) (.c (.int 1)))) (.k 6 0))))
structure LeafT (P:Prg) (n:Nat) (f:E):Prop where
 one:n=1→f=Zfc∧look P.globs ZdL=some (.bi 3)∧look P.globs ZdM=some (.bi 1)
structure POK (P:Prg) (K:Frag) (tabs:List (Addr × Addr × Str)) (dn:Nat→Nat→Str):Prop where
 glob:∀ x v,gd x=true→look P.globs (enc x)=some v→(∃ a o,v=.top a∧nsIn K mainGlobals x=some (some (.ref a))∧K.lookup a=some o)∨(∃ n,v=.bi n∧nsIn K mainGlobals x=some none∧bootBuiltins x=some (biV n)∧x≠"__name__")
 cls:∀ C ci,P.clss.get C=some ci→ClsOK K C ci
 fn:∀ a f,P.fns.get a=some f→ZkI f=true∨FnOK P K tabs a f
 lf:∀ a t n f,P.fns.get a=some (.u t n f)→t=30→FnOK P K tabs a f∧LeafT P n f
 exm:∀ a b ci cj,P.clss.get a=some ci→P.clss.get b=some cj→ci.exc=true→cj.exc=true→exmOne K (excV a) (excV b)=some (mem ci.mro b)
 dfs:∀ l c,(Zbr P l c=none→dn l c = "<lambda>")∧∀ n,Zbr P l c=some n→gd (dn l c)=true∧enc (dn l c)=n
 tabs:∀ q ∈ tabs,∀ q' ∈ tabs,q.2.1=q'.2.1→q=q'
section
variable {P:Prg} {K:Frag} {tabs:List (Addr × Addr × Str)} {dn:Nat→Nat→Str}
theorem POK.attr (OK:POK P K tabs dn) {C:Nat} {x:Str} {ca:CA} (hx:gd x=true) (h:ZJ P C (enc x)=some ca):∃ ci,P.clss.get C=some ci∧look ci.attrs (enc x)=some ca∧Zct K (excV C) x ca:=by
 unfold ZJ at h
 cases e:P.clss.get C with
 | none=>rw[e] at h; exact Ze h
 | some ci=>rw[e] at h; exact⟨ci,rfl,h,(OK.cls C ci e).attr x ca hx h⟩
theorem POK.ok (OK:POK P K tabs dn) {C:Nat} (h:Zav P C=true):∃ ci,P.clss.get C=some ci∧ci.ok=true∧ClsOK K C ci∧excV C=.ref C:=by
 obtain⟨ci,e,k⟩:=ZZ h
 have q:=OK.cls C ci e
 exact⟨ci,e,k,q,if_neg (Nat.not_lt.mpr (q.own (.inl k)))⟩
end
section
variable {g:Gl} {r:Rec} {n:Nat} {c:Cx} {σ : St}
theorem Rel.cell (R:Rel g c σ) {a:Nat} {w:Option V} (e:Zbf σ.h a=some w):CellR g σ (σ.ρ (2 * a)) w:=R.trk a _ (ZbA e)
theorem Rel.list (R:Rel g c σ) {a:Nat} {w:List V} (e:Zg σ.h a=some w):ListR g σ (σ.ρ (2 * a)) w:=R.trk a _ (ZH e)
theorem Rel.isList (R:Rel g c σ) {i:Nat} {xs:List V} (e:Zg σ.h i=some xs):∃ its,σ.s.heap.IsList (σ.ρ (2 * i)) its.toArray∧xs.length≤1000000∧VRs g σ xs its:=by
 obtain⟨its,n,m,z,r⟩:=R.list e
 exact⟨its,⟨_,(R.N _ m).1,rfl,n,rfl⟩,z,r⟩
theorem Rel.inst (R:Rel g c σ) {i:Nat} {C:Nat} {f:Lo} (e : σ.h.get i=some (.inst C f)) :
  ∃ es n,InstAt σ.s.heap (σ.ρ (2 * i)) (instObj C (σ.ρ (2 * i + 1))) C (some (dictOf es n))∧(σ.ρ (2 * i + 1),dictOf es n) ∈ σ.news∧Zae es∧es.length≤f.length∧LR g σ f (ZA es):=by
 obtain⟨a,⟨es,n,b,k,l,r⟩⟩:=R.trk i _ e
 exact⟨es,n,InstAt.of_news R.N a b,b,k,l,r⟩
structure InstV (g:Gl) (σ : St) (v:V) (a:Addr) (C:Nat) (f:Lo):Prop where
 vr:VR g σ v (.ref a)
 r:∃ d es n,InstAt σ.s.heap a (instObj C d) C (some (dictOf es n))∧Zae es∧LR g σ f (ZA es)
theorem Rel.instV (R:Rel g c σ) {i C:Nat} {f:Lo} (e : σ.h.get i=some (.inst C f)):InstV g σ (.ref i) (σ.ρ (2 * i)) C f:=
 let ⟨es,n,I,_,k,_,r⟩:=R.inst e; ⟨⟨rfl,R.lt e⟩,_,es,n,I,k,r⟩
theorem Zeq {n:Nat}:∀ {ks:List Nat} {vs:List V} {its:List Value},VRs g σ vs its→OV g σ (look (ks.zip vs) n) (look (ks.zip its) n)
 | [],_,_,_=>rfl
 | _ :: _,[],[],_=>rfl
 | _ :: _,[],_ :: _,h=>h.elim
 | _ :: _,_ :: _,[],h=>h.elim
 | k :: ks,v :: vs,w :: its,h=>by
  rw[List.zip_cons_cons,List.zip_cons_cons,Zp,Zp]
  by_cases e:k=n
  ·rw[if_pos e,if_pos e]; exact⟨w,rfl,h.1⟩
  ·rw[if_neg e,if_neg e]; exact Zeq h.2
theorem Rel.instF (R:Rel g c σ) {C:Nat} {ks:List Nat} {vs:List V} {w:Value} (hv:VR g σ (.fr (C + 3) ks vs) w):∃ a,w=.ref a∧InstV g σ (.fr (C + 3) ks vs) a C (ks.zip vs):=by
 have h0:=hv
 obtain⟨a,o,its,e,m,⟨d,es,n,rfl,md,kk,_,lk⟩,vr⟩:=hv
 subst e
 exact⟨a,rfl,h0,d,es,n,InstAt.of_news R.N (R.tab.2 _ m).1 (R.tab.2 _ md).1,kk,fun x hx=>by rw[lk x hx]; exact Zeq vr⟩
theorem ZaE {es:List DictEntry} (k:Zae es) (x:Str):getL x es=some (ZA es x):=by
 unfold getL ZA
 cases h:es.find? (·.key.isStr x) with
 | some e=>rfl
 | none=>
  have:es.any (·.refKey)=false:=by
   rw[← Bool.not_eq_true,List.any_eq_true]
   rintro⟨e,he,hr⟩
   obtain⟨y,t,hk,_⟩:=k e he
   unfold DictEntry.refKey at hr
   rw[hk] at hr; cases hr
  rw[this]; rfl
theorem VRs.length:∀ {vs:List V} {ws:List Value},VRs g σ vs ws→vs.length=ws.length:=fun {vs}=>by
 induction vs with
 | nil=>intro ws h; cases ws with | nil=>rfl | cons _ _=>exact h.elim
 | cons v vs ih=>intro ws h; cases ws with | nil=>exact h.elim | cons w ws=>exact congrArg Nat.succ (ih h.2)
section
variable {ko:V→KS} {ke:Nat→KS} {Q Er:Value→Shared→Prop}
theorem ZjF {cc:Const} {i:Nat} {pos:Pos} (R:Rel g c σ) (h:evG g.P r (Zhd cc) c.hd σ.h σ.nx σ.lo ko ke=true) (hQ:PV g c σ ko Q):wpAny g.M c.A (eval (.Constant cc i pos) c.env) Q Er σ.s:=by
 have t:=R.tok (σ.s.toks + 1)
 cases cc with
 | none=>exact wpAny_Constant_none (hQ σ .none _ R (.refl ..) rfl h)
 | bool b=>exact wpAny_Constant_bool (hQ σ (.bool b) _ R (.refl ..) rfl h)
 | int j=>exact wpAny_Constant_int (hQ _ (.int j) _ t.1 t.2 ⟨_,rfl⟩ h)
 | str x=>
  have h:evG g.P r (cond (gd x) (.c (.str (enc x))) bad) c.hd σ.h σ.nx σ.lo ko ke=true:=h
  cases hx:gd x with
  | true=>rw[hx] at h; exact Constant_str (hQ _ (.str (enc x)) _ t.1 t.2 ⟨x,_,rfl,hx,rfl⟩ h)
  | false=>rw[hx] at h; exact Za h
 | _=>exact Za h
theorem Z0 {b:Bool} {e:E} (h:evG g.P r (cond b e bad) c.hd σ.h σ.nx σ.lo ko ke=true):b=true∧evG g.P r e c.hd σ.h σ.nx σ.lo ko ke=true:=by
 cases b with
 | true=>exact⟨rfl,h⟩
 | false=>exact Za h
theorem Zer {P:V→Bool} {G:Prop} (R:Rel g c σ) {x:Str} (hx:gd x=true) (h:og (look c.hd.cs (enc x)) (fun a=>og (Zbf σ.h a) fun w=>og w P)=true)
  (f:∀ v rv a,P v=true→VR g σ v rv→c.env.cells.lookup x=some a→(∃ ob,σ.s.heap.get? a=some ob∧ob.data=.cell (some rv))→G):G:=
 Zc h fun a ha h=>Zc h fun w hw h=>Zc h fun v hv hk=>by
  obtain⟨ob,w',m,d,rr⟩:=R.cell hw
  subst hv
  obtain⟨rv,rfl,vr⟩:=rr
  exact f v rv _ hk vr (R.cs x a hx ha).2 ⟨ob,(R.N _ m).1,d⟩
theorem ZfW (OK:POK g.P g.K g.tabs g.dn) (hc:CxOK g c n) (R:Rel g c σ) {x:Str} {pos:Pos} (gn:gdn x=true) {w:Option NameKind} (hw:c.env.scope.names.lookup x=w) (h:evG g.P r (ZeS (enc x) w) c.hd σ.h σ.nx σ.lo ko ke=true) :
  ∃ v rv,VR g σ v rv∧ko v σ.h σ.nx σ.lo=true∧∀ (A:Around) (Q Er:Value→Shared→Prop),Q rv σ.s→wpAny g.M A (eval (.Name x pos) c.env) Q Er σ.s:=by
 refine byG fun G f=>?_
 have gg:=Zdg gn
 have glob:w=some .globalImplicit→evG g.P r (.k 3 (enc x)) c.hd σ.h σ.nx σ.lo ko ke=true→G:=fun q h=>Zc (show og (look g.P.globs (enc x)) _=true from h) fun v hv hk=>by
  have hl:=hw.trans q
  rcases OK.glob x v gg.1 hv with⟨a,o,rfl,hK,ho⟩ | ⟨b,rfl,hK,hb,hne⟩
  ·exact f ⟨.top a,_,⟨rfl,o,ho⟩,hk,fun A Q Er q=>Name_function_global hc.ek hl (loadGlobal_global (by rw[hc.eg]; exact(hc.T R).g.keeps R.F.keep) (mg_of (hc.K R) (hc.T R).g hK) q) gg.2.1⟩
  ·exact f ⟨.bi b,_,rfl,hk,fun A Q Er q=>Name_function_global hc.ek hl (loadGlobal_builtin (by rw[hc.eg]; exact(hc.T R).g.keeps R.F.keep) (mg_none_of (hc.K R) (hc.T R).g hK) (by rw[hc.eb]; exact(hc.T R).b.keeps R.F.keep) (((hc.T R).builtins x hne).trans hb) q) gg.2.1⟩
 cases w with
 | none=>exact Za h
 | some w=>
  cases w with
  | «local»=>
   obtain⟨mm,hn,l⟩:=R.ns
   refine Zc (show og (look σ.lo (enc x)) _=true from h) fun v hv hk=>?_
   obtain⟨rv,hm,vr⟩:=l x v gg.1 hv
   exact f ⟨v,rv,vr,hk,fun A Q Er q=>wpAny_Name (wpAny_loadName_local hc.ek hw hn hm q) gg.2.1⟩
  | cell=>exact Zer R gg.1 h fun v rv a hk vr hl ob=>f ⟨v,rv,vr,hk,fun A Q Er q=>wpAny_Name (wpAny_loadName_cell hc.ek hw hl ob q) gg.2.1⟩
  | free=>exact Zer R gg.1 h fun v rv a hk vr hl ob=>f ⟨v,rv,vr,hk,fun A Q Er q=>wpAny_Name (wpAny_loadName_free hc.ek hw hl ob q gg.2.2) gg.2.1⟩
  | globalImplicit=>exact glob rfl h
  | _=>exact Za h
theorem ZkN (OK:POK g.P g.K g.tabs g.dn) (hc:CxOK g c n) (R:Rel g c σ) {x:Str} {pos:Pos} (h:evG g.P r (cond (gdn x) (ZeS (enc x) (c.env.scope.names.lookup x)) bad) c.hd σ.h σ.nx σ.lo ko ke=true) (hQ:PV g c σ ko Q) :
  wpAny g.M c.A (eval (.Name x pos) c.env) Q Er σ.s:=
 (ZfW OK hc R (Z0 h).1 rfl (Z0 h).2).elim fun _ q=>q.elim fun _ q=>q.2.2 c.A Q Er (hQ σ _ _ R (.refl ..) q.1 q.2.1)
end
end
section
variable {g:Gl} {r:Rec} {n:Nat} {c:Cx} {σ : St} {Er:Value→Shared→Prop}
theorem Zcv {ca:CA} {f:Nat} (h:caFn ca=some f):ca=.fn f:=by
 cases ca with
 | fn a=>exact congrArg CA.fn (Option.some.inj h)
 | _=>exact Ze h
theorem Zbv {ca:CA} (h:caNo ca=true):ca=.no:=by
 cases ca with
 | no=>rfl
 | _=>exact Za h
theorem nm_init:enc (Str.ofString "__init__")=Zdu∧gd (Str.ofString "__init__")=true:=by decide +kernel
theorem Zfd:enc (Str.ofString "__len__")=nLen∧gd (Str.ofString "__len__")=true:=by decide +kernel
theorem ZjG:enc (Str.ofString "__bool__")=ZiW∧gd (Str.ofString "__bool__")=true:=by decide +kernel
theorem POK.at (OK:POK g.P g.K g.tabs g.dn) {C k:Nat} {x:Str} {ca:CA} (hC:excV C=.ref C) (hx:enc x=k∧gd x=true) (h:ZJ g.P C k=some ca):Zct g.K (.ref C) x ca:=by
 rw[← hx.1] at h
 obtain⟨ci,_,_,q⟩:=OK.attr hx.2 h
 rwa [hC] at q
theorem FnAt.isFn' {K:Frag} {f:Nat} (h:FnAt K f):typeIn K (.ref f)=some (.type "function"):=beq_iff_eq.mp h.fn
theorem Zhi (OK:POK g.P g.K g.tabs g.dn) (HA:AllS g r n) (hc:CxOK g (c.wi c.A.in1) n) (R:Rel g c σ) {i C:Nat} {f:Lo} (e : σ.h.get i=some (.inst C f)) (hC:excV C=.ref C) {k:Int→H→Nat→Bool}
  (h:lenC g.P r (.ref i) C c.hd σ.h σ.nx k=true) {Q:Fin→Shared→Prop}
  (hQ:∀ σ' j,Rel g c σ'→Ext g c σ σ'→σ'.lo = σ.lo→k j σ'.h σ'.nx=true→∀ t,Q (.done (.ret (.int j t))) { σ'.s with toks:=σ'.s.toks + 1 }) :
  wpAny g.M c.A.in1 (Builtin.«len» ⟨[.ref (σ.ρ (2 * i))],[]⟩) Q Er σ.s:=
 Zc h fun ca ha h1=>Zc h1 fun g' hg h2=>by
  clear h h1
  obtain rfl:=Zcv hg
  obtain⟨hf,q,_⟩:=OK.at hC Zfd ha
  obtain⟨es,nn,I,_⟩:=R.inst e
  unfold Builtin.«len»
  refine wpAny_bind (m:=oneArg "len" _) (wpAny_pure ?_)
  refine wpAny_bind (m:=callSpecial? (.ref (σ.ρ (2 * i))) (Str.ofString "__len__")) (special_fn (hc.X R) I hf q.isFn' ?_)
  refine HA.app _ hc σ (R.wi _) (.top g') (.ref g') [.ref i] [.ref (σ.ρ (2 * i))] [] [] _ _ ⟨rfl,q.ob⟩ ⟨⟨rfl,R.lt e⟩,trivial⟩ trivial h2 _ _ (fun σ' v rv R' X' hl vr hk=>Zc hk fun j hj k1=>Zf k1 fun hb k2=>?_) PAX.no
  clear hk k1
  obtain rfl:=Zt hj
  obtain⟨t,rfl⟩:=vr
  have hb:=Yb hb
  have h0 : ¬ (j < 0):=Int.not_lt.mpr (of_decide_eq_true hb.1)
  have h1 : ¬ (j ≥ 2 ^ 63):=Int.not_le.mpr (Int.lt_trans (of_decide_eq_true hb.2) (by decide))
  refine wpAny_bind (wpAny_holding (wpAny_pure ?_))
  refine wpAny_bind (wpAny_letGo ?_)
  show wpAny _ _ (if j < 0 then _ else _) _ _ _
  rw[if_neg h0]
  show wpAny _ _ (if j ≥ 2 ^ 63 then _ else _) _ _ _
  rw[if_neg h1]
  exact wpAny_bind (wpAny_mkInt (wpAny_pure (hQ σ' _ R'.un X'.un hl k2 _)))
theorem Zcw {o:O} {ki:Nat→Lo→Bool} {kx:Nat→Lo→Bool} {kl:List V→Bool} {ke:Nat→List V→Bool} {kd:Lo→Bool} {G:Prop} (h:selO o false ki kx kl ke kd=true) (h1:∀ c f,o=.inst c f→ki c f=true→G)
  (h2:∀ c t f,o=.exc c t f→kx c f=true→G) (h3:∀ l,o=.list l→kl l=true→G) (h4:∀ pk l,o=.elist pk l→ke pk l=true→G) (h5:∀ es,o=.dict es→kd es=true→G):G:=by
 cases o with
 | inst c f=>exact h1 c f rfl h
 | exc c t f=>exact h2 c t f rfl h
 | list l=>exact h3 l rfl h
 | elist pk l=>exact h4 pk l rfl h
 | dict es=>exact h5 es rfl h
 | _=>exact Za h
theorem Zhj {v:V} {d kz:Bool} {kb:Bool→Bool} {ki:Int→Bool} {kr:Nat→Bool} {G:Prop} (h:selV v d kz kb ki kr=true) (h1:v=.none→kz=true→G) (h2:∀ b,v=.bool b→kb b=true→G) (h3:∀ i,v=.int i→ki i=true→G)
  (h4:∀ i,v=.ref i→kr i=true→G) (h5:d=true→G):G:=by
 cases v with
 | none=>exact h1 rfl h
 | bool b=>exact h2 b rfl h
 | int i=>exact h3 i rfl h
 | ref i=>exact h4 i rfl h
 | _=>exact h5 h
theorem Zhk (i:Int):(i != 0) = !decide (i=0):=rfl
theorem Zio (OK:POK g.P g.K g.tabs g.dn) (HA:AllS g r n) (hc:CxOK g c (n + 1)) (R:Rel g c σ) {i C:Nat} {f:Lo} (e : σ.h.get i=some (.inst C f)) {k:Bool→H→Nat→Bool}
  (h:Zg8 g.P r (.ref i) C c.hd σ.h σ.nx k=true) {Q:Bool→Shared→Prop} (hQ:PAB g c σ k Q):wpAny g.M c.A (truthy (.ref (σ.ρ (2 * i)))) Q Er σ.s:=
 Zf h fun ok h1=>Zc h1 fun ca ha h2=>Zf h2 fun hca h3=>Zc h3 fun cl hl h4=>by
  clear h h1 h2 h3
  obtain⟨_,_,_,_,hC⟩:=OK.ok ok
  obtain rfl:=Zbv hca
  have hb:findIn g.K (.ref C) "__bool__" = some none:=OK.at hC ZjG ha
  obtain⟨es,nn,I,_⟩:=R.inst e
  cases hcl:caNo cl with
  | true=>
   rw[hcl] at h4
   obtain rfl:=Zbv hcl
   exact truthy_K0 R.F (hc.K R) I hb (OK.at hC Zfd hl) (hQ σ _ R (.refl ..) rfl h4)
  | false=>
   rw[hcl] at h4
   have X:=hc.X R
   have hl':∃ x,findIn g.K (.ref C) "__len__" = some (some x):=Zc (show lenC g.P r (.ref i) C c.hd σ.h σ.nx _=true from h4) fun ca' ha' h=>Zc h fun g' hg _=>by
    obtain rfl:=Zcv hg
    exact⟨_,(OK.at hC Zfd ha').1⟩
   obtain⟨x,hl'⟩:=hl'
   unfold truthy
   refine wpAny_bind (m:=callSpecial? (.ref (σ.ρ (2 * i))) (Str.ofString "__bool__")) (wpAny_bind (wpAny_bind (I.type.here ((looks_findIn X hb).here (wpAny_pure ?_)))))
   refine wpAny_bind (wpAny_bind (I.type.here ((looks_findIn X hl').here ?_)))
   show wpAny _ _ (if (some x).isNone=true then _ else _) _ _ _
   rw[if_neg (show ¬ (some x).isNone=true from Bool.false_ne_true)]
   refine wpAny_bind (wpAny_runValue (codeAny_builtin entry_len ?_))
   rw[Around.under_plainId plain_len _]
   refine Zhi OK HA hc.in1 R e hC h4 (fun σ' j R' X' hlo hk t=>?_)
   have T:=R'.tok (σ'.s.toks + 1)
   exact wpAny_pure ((Zhk j).symm ▸ hQ _ _ T.1 (X'.trans T.2) hlo hk)
theorem ZbL (OK:POK g.P g.K g.tabs g.dn) (HA:AllS g r n) (hc:CxOK g c (n + 1)) (R:Rel g c σ) {v:V} {rv:Value} (hv:VR g σ v rv) {k:Bool→H→Nat→Bool}
  (h:Zcn g.P r v c.hd σ.h σ.nx k=true) {Q:Bool→Shared→Prop} (hQ:PAB g c σ k Q):wpAny g.M c.A (truthy rv) Q Er σ.s:=by
 refine byG fun G fin=>?_
 have hq:=fun b=>hQ σ b R (.refl ..) rfl
 refine Zhj h ?_ ?_ ?_ ?_ Za
 ·rintro rfl h; obtain rfl:rv=.none:=hv; exact fin (truthy_none (hq _ h))
 ·rintro b rfl h; obtain rfl:rv=.bool b:=hv; exact fin (wpAny_truthy_bool (hq _ h))
 ·rintro i rfl h; obtain⟨t,rfl⟩:=hv; exact fin (truthy_int ((Zhk i).symm ▸ hq _ h))
 ·rintro i rfl h
  obtain⟨rfl,_⟩:=hv
  refine Zc h fun o ho h=>Zcw h ?_ ?_ ?_ ?_ ?_
  ·rintro C f rfl h; exact fin (Zio OK HA hc R ho h hQ)
  ·intro _ _ _ _ h; exact Za h
  ·rintro l rfl h
   obtain⟨its,hl,hz,vr⟩:=R.isList (show Zg σ.h i=some l by unfold Zg onO; rw[ho]; rfl)
   have T:=R.tok (σ.s.toks + 1 + 1)
   have e:its.toArray.isEmpty=l.isEmpty:=by
    have:=vr.length
    cases l <;> cases its <;> first | rfl | (cases this)
   refine fin (wpAny_truthy_list hl (by have:=vr.length; simp; omega) ?_)
   rw[e]
   exact hQ _ _ T.1 T.2 rfl h
  ·intro _ _ _ h; exact Za h
  ·intro _ _ h; exact Za h
end
section
variable {g:Gl} {r:Rec} {n k:Nat} {c:Cx} {σ : St}
section
variable {ko:V→KS} {ke:Nat→KS} {Q Er:Value→Shared→Prop}
theorem ZfH (pos:Pos) (op:BoolOp) (x y:Sem Value) (rest:List (Sem Value)):boolOp pos op (x :: y :: rest)=(do
  let v ← x
  standAt pos
  let t ← holding [v] (truthy v)
  match op,t with
  | .And,false | .Or,true=>pure v
  | _,_=>boolOp pos op (y :: rest)):=rfl
theorem ZkO (OK:POK g.P g.K g.tabs g.dn) (HA:AllS g r n) (hc:CxOK g c (n + 1)) (R:Rel g c σ) {op:BoolOp} {vs:List PySem.Expr} {pos:Pos}
  (h:evG g.P r (Zbs k c.env.scope.names op vs) c.hd σ.h σ.nx σ.lo ko ke=true) (hQ:PV g c σ ko Q) (hE:PX g c σ ke Er) (h2 : 2≤vs.length):wpAny g.M c.A (eval (.BoolOp op vs pos) c.env) Q Er σ.s:=by
 match vs,h2 with
 | x :: y :: rest,_=>
 cases k with
 | zero=>exact Za h
 | succ k=>
  rw[arm_eval_BoolOp]
  show wpAny _ _ (boolOp pos op (eval x c.env :: eval y c.env :: evalEach rest c.env)) _ _ _
  rw[ZfH]
  have tail:∀ σ',Rel g c σ'→Ext g c σ σ'→r.ev (Zbs k c.env.scope.names op (y :: rest)) c.hd σ'.h σ'.nx σ'.lo ko ke=true→wpAny g.M c.A (boolOp pos op (eval y c.env :: evalEach rest c.env)) Q Er σ'.s:=fun σ' R' X' hk=>by
   cases k with
   | zero=>exact HA.ev c hc.down 0 (.BoolOp op (y :: rest) pos) σ' R' ko ke hk Q Er (hQ.of X') (hE.of X')
   | succ k=>
    cases rest with
    | nil=>exact HA.ev c hc.down k y σ' R' ko ke hk Q Er (hQ.of X') (hE.of X')
    | cons z rest=>exact HA.ev c hc.down (k + 1 + 1) (.BoolOp op (y :: z :: rest) pos) σ' R' ko ke hk Q Er (hQ.of X') (hE.of X')
  cases op with
  | And=>
   refine wpAny_bind (HA.ev c hc.down k x σ R _ _ h _ _ (fun σ' v rv R' X' vr hk=>?_) hE)
   refine wpAny_bind (wpAny_standAt (wpAny_bind (wpAny_holding (ZbL OK HA hc R' vr hk (fun σ'' t R'' X'' hl hk=>?_)))))
   cases t with
   | false=>exact wpAny_pure (hQ σ'' v rv R'' (X'.trans X'') (vr.mono X'' R') (hl ▸ hk))
   | true=>exact tail σ'' R'' (X'.trans X'') (hl ▸ hk)
  | Or=>
   refine wpAny_bind (HA.ev c hc.down k x σ R _ _ h _ _ (fun σ' v rv R' X' vr hk=>?_) hE)
   refine wpAny_bind (wpAny_standAt (wpAny_bind (wpAny_holding (ZbL OK HA hc R' vr hk (fun σ'' t R'' X'' hl hk=>?_)))))
   cases t with
   | true=>exact wpAny_pure (hQ σ'' v rv R'' (X'.trans X'') (vr.mono X'' R') (hl ▸ hk))
   | false=>exact tail σ'' R'' (X'.trans X'') (hl ▸ hk)
theorem Zl1 (OK:POK g.P g.K g.tabs g.dn) (HA:AllS g r n) (hc:CxOK g c (n + 1)) (R:Rel g c σ) {x:PySem.Expr} {pos:Pos}
  (h:Zi0 (cE k c.env.scope.names x) g.P r c.hd σ.h σ.nx σ.lo ko ke=true) (hQ:PV g c σ ko Q) (hE:PX g c σ ke Er):wpAny g.M c.A (eval (.UnaryOp .Not x pos) c.env) Q Er σ.s:=
 wpAny_UnaryOp (HA.ev c hc.down k x σ R _ _ h _ _ (fun σ' v rv R' X' vr hk=>not_value (ZbL OK HA hc R' vr hk (fun σ'' t R'' X'' hl hk=>hQ σ'' (.bool !t) _ R'' (X'.trans X'') rfl (hl ▸ hk)))) hE)
theorem Zl2 (HA:AllS g r n) (hc:CxOK g c (n + 1)) (R:Rel g c σ) {t a b:PySem.Expr} {pos:Pos}
  (h:Zi1 (cE k c.env.scope.names t) (cE k c.env.scope.names a) (cE k c.env.scope.names b) g.P r c.hd σ.h σ.nx σ.lo ko ke=true) (hQ:PV g c σ ko Q) (hE:PX g c σ ke Er):wpAny g.M c.A (eval (.IfExp t a b pos) c.env) Q Er σ.s:=
 wpAny_IfExp (HA.ts c hc.down k t σ R _ _ h _ _ (fun σ' v R' X' hk=>by
  cases v with
  | true=>exact HA.ev c hc.down k a σ' R' ko ke hk Q Er (hQ.of X') (hE.of X')
  | false=>exact HA.ev c hc.down k b σ' R' ko ke hk Q Er (hQ.of X') (hE.of X')) hE)
end
section
variable {ko:Bool→KS} {ke:Nat→KS} {Q:Bool→Shared→Prop} {Er:Value→Shared→Prop}
theorem Zgz (x:PySem.Expr) (pos:Pos) (env:Env) (whole:Sem Value):isTrue (.UnaryOp .Not x pos) env whole=(do return !(← isTrue x env (eval x env))):=rfl
theorem ZfI (op:BoolOp) (vs:List PySem.Expr) (pos:Pos) (env:Env) (whole:Sem Value):isTrue (.BoolOp op vs pos) env whole=allTrue op vs env:=rfl
theorem Zhl (t a b:PySem.Expr) (pos:Pos) (env:Env) (whole:Sem Value):isTrue (.IfExp t a b pos) env whole=(do if ← isTrue t env (eval t env) then isTrue a env (eval a env) else isTrue b env (eval b env)):=rfl
theorem ZL (OK:POK g.P g.K g.tabs g.dn) (HA:AllS g r n) (hc:CxOK g c (n + 1)) (R:Rel g c σ) {e':PySem.Expr}
  (hi:isTrue e' c.env (eval e' c.env)=(do let v ← eval e' c.env; standAt e'.pos; holding [v] (truthy v)))
  (h:ZaT (cE k c.env.scope.names e') g.P r c.hd σ.h σ.nx σ.lo ko ke=true) (hQ:PB g c σ ko Q) (hE:PX g c σ ke Er):wpAny g.M c.A (isTrue e' c.env (eval e' c.env)) Q Er σ.s:=by
 rw[hi]
 exact wpAny_bind (HA.ev c hc.down k e' σ R _ _ h _ _ (fun σ' v rv R' X' vr hk=>wpAny_bind (wpAny_standAt (wpAny_holding (ZbL OK HA hc R' vr hk (fun σ'' t R'' X'' hl hk=>hQ σ'' _ R'' (X'.trans X'') (hl ▸ hk)))))) hE)
theorem Zip (OK:POK g.P g.K g.tabs g.dn) (HA:AllS g r n) (hc:CxOK g c (n + 1)) (R:Rel g c σ) {l rr:PySem.Expr} {op:CmpOp} {pos:Pos}
  (h:ZaT (cE k c.env.scope.names (.Compare l [op] [rr] pos)) g.P r c.hd σ.h σ.nx σ.lo ko ke=true) (hQ:PB g c σ ko Q) (hE:PX g c σ ke Er):wpAny g.M c.A (isTrue (.Compare l [op] [rr] pos) c.env (eval (.Compare l [op] [rr] pos) c.env)) Q Er σ.s:=by
 have ee:isTrue (.Compare l [op] [rr] pos) c.env (eval (.Compare l [op] [rr] pos) c.env)=(do let v ← eval (.Compare l [op] [rr] pos) c.env; holding [v] (truthy v)):=by
  rw[isTrue_Compare1,eval_Compare1]
  simp only [bind_assoc]
 rw[ee]
 exact wpAny_bind (HA.ev c hc.down k _ σ R _ _ h _ _ (fun σ' v rv R' X' vr hk=>wpAny_holding (ZbL OK HA hc R' vr hk (fun σ'' t R'' X'' hl hk=>hQ σ'' _ R'' (X'.trans X'') (hl ▸ hk)))) hE)
theorem Zcx (op:BoolOp) (x:PySem.Expr) (rest:List PySem.Expr) (env:Env):allTrue op (x :: rest) env=(do match op,← isTrue x env (eval x env) with
   | .And,false=>pure false
   | .Or,true=>pure true
   | _,_=>allTrue op rest env):=rfl
theorem Zhm (HA:AllS g r n) (hc:CxOK g c (n + 1)) (R:Rel g c σ) {op:BoolOp} {vs:List PySem.Expr} {pos:Pos}
  (h:tstG g.P r (Zbs k c.env.scope.names op vs) c.hd σ.h σ.nx σ.lo ko ke=true) (hQ:PB g c σ ko Q) (hE:PX g c σ ke Er) (h2 : 2≤vs.length):wpAny g.M c.A (isTrue (.BoolOp op vs pos) c.env (eval (.BoolOp op vs pos) c.env)) Q Er σ.s:=by
 match vs,h2 with
 | x :: y :: rest,_=>
 cases k with
 | zero=>exact Za h
 | succ k=>
  rw[ZfI]
  have tail:∀ σ',Rel g c σ'→Ext g c σ σ'→r.tst (Zbs k c.env.scope.names op (y :: rest)) c.hd σ'.h σ'.nx σ'.lo ko ke=true→wpAny g.M c.A (allTrue op (y :: rest) c.env) Q Er σ'.s:=fun σ' R' X' hk=>by
   cases k with
   | zero=>exact HA.ts c hc.down 0 (.BoolOp op (y :: rest) pos) σ' R' ko ke hk Q Er (hQ.of X') (hE.of X')
   | succ k=>
    cases rest with
    | nil=>
     rw[Zcx]
     refine wpAny_bind (HA.ts c hc.down k y σ' R' ko ke hk _ Er (fun σ'' t R'' X'' hk=>?_) (hE.of X'))
     have q:=hQ σ'' t R'' (X'.trans X'') hk
     cases op <;> cases t <;> exact wpAny_pure q
    | cons z rest=>exact HA.ts c hc.down (k + 1 + 1) (.BoolOp op (y :: z :: rest) pos) σ' R' ko ke hk Q Er (hQ.of X') (hE.of X')
  rw[Zcx]
  cases op with
  | And=>
   refine wpAny_bind (HA.ts c hc.down k x σ R _ _ h _ _ (fun σ' t R' X' hk=>?_) hE)
   cases t with
   | false=>exact wpAny_pure (hQ σ' _ R' X' hk)
   | true=>exact tail σ' R' X' hk
  | Or=>
   refine wpAny_bind (HA.ts c hc.down k x σ R _ _ h _ _ (fun σ' t R' X' hk=>?_) hE)
   cases t with
   | true=>exact wpAny_pure (hQ σ' _ R' X' hk)
   | false=>exact tail σ' R' X' hk
theorem Ziq (HA:AllS g r n) (hc:CxOK g c (n + 1)) (R:Rel g c σ) {x:PySem.Expr} {pos:Pos}
  (h:Zi6 (cE k c.env.scope.names x) g.P r c.hd σ.h σ.nx σ.lo ko ke=true) (hQ:PB g c σ ko Q) (hE:PX g c σ ke Er):wpAny g.M c.A (isTrue (.UnaryOp .Not x pos) c.env (eval (.UnaryOp .Not x pos) c.env)) Q Er σ.s:=by
 rw[Zgz]
 exact wpAny_bind (HA.ts c hc.down k x σ R _ _ h _ _ (fun σ' t R' X' hk=>wpAny_pure (hQ σ' _ R' X' hk)) hE)
theorem ZjH (HA:AllS g r n) (hc:CxOK g c (n + 1)) (R:Rel g c σ) {t a b:PySem.Expr} {pos:Pos}
  (h:Zi7 (cE k c.env.scope.names t) (cE k c.env.scope.names a) (cE k c.env.scope.names b) g.P r c.hd σ.h σ.nx σ.lo ko ke=true) (hQ:PB g c σ ko Q) (hE:PX g c σ ke Er):wpAny g.M c.A (isTrue (.IfExp t a b pos) c.env (eval (.IfExp t a b pos) c.env)) Q Er σ.s:=by
 rw[Zhl]
 refine wpAny_bind (HA.ts c hc.down k t σ R _ _ h _ _ (fun σ' v R' X' hk=>?_) hE)
 cases v with
 | true=>exact HA.ts c hc.down k a σ' R' ko ke hk Q Er (hQ.of X') (hE.of X')
 | false=>exact HA.ts c hc.down k b σ' R' ko ke hk Q Er (hQ.of X') (hE.of X')
end
end
end Mn
end
section
set_option tactic.hygienic false
namespace Mn
open PySem PySem.W PyProof.Rows PySem.Calls PySem.Spec PySem.SeqAt
section
variable {g:Gl} {r:Rec} {n:Nat} {c:Cx} {σ : St}
theorem Za4 {x:PySem.Expr} (h:star? x=false) (rest:List PySem.Expr) (env:Env):starEach (x :: rest) env=(false,eval x env) :: starEach rest env:=by
 cases x <;> first | rfl | exact Za h.symm
theorem Zes (pos:Pos) (env:Env):∀ {es:List PySem.Expr},es.any star? = false→(backTo pos (starEach es env)).any (·.1)=false:=fun {es}=>by
 induction es with
 | nil=>intro _; rfl
 | cons x es ih=>
  intro h
  rw[List.any_cons,Bool.or_eq_false_iff] at h
  rw[Za4 h.1]
  exact ih h.2
theorem Zhn (pos:Pos) (env:Env):∀ {ks:List Keyword},ks.all Zaw=true→(backToKw pos (keywordEach ks env)).all (·.1.isSome)=true∧(backToKw pos (keywordEach ks env)).any (·.1.isNone)=false:=fun {ks}=>by
 induction ks with
 | nil=>intro _; exact⟨rfl,rfl⟩
 | cons q ks ih=>
  obtain⟨nm,v,p⟩:=q
  intro h
  obtain⟨h1,h2⟩:=Yb h
  cases nm with
  | none=>exact Za h1
  | some a=>exact ih h2
section
variable {ko:List V→KS} {ke:Nat→KS} {sc:Sc} {hd:Hd} {hh:H} {nx:Nat} {lo:Lo}
theorem Zdh {k:Nat}:∀ {es:List PySem.Expr},evsF (cEs k sc es) r hd hh nx lo ko ke=true→∃ j,k=j + 1∧es.any star? = false:=fun {es} h=>by
 cases k with
 | zero=>exact Za h
 | succ j=>
  refine⟨j,rfl,?_⟩
  cases q:es.any star? with
  | false=>rfl
  | true=>
   have e:cEs (j + 1) sc es=cond (es.any star?) bad (cond (es.any star?) bad (cEs (j + 1) sc es)):=by
    cases es with
    | nil=>rfl
    | cons x es=>
     show cond ((x :: es).any star?) bad _ = _
     rw[q]; rfl
   rw[e,q] at h; exact Za h
theorem Zir {j:Nat} {x:PySem.Expr} {es:List PySem.Expr} (h:evsF (cEs (j + 1) sc (x :: es)) r hd hh nx lo ko ke=true) (q:(x :: es).any star? = false):evsF (.b 5 0 (cE j sc x) (cEs j sc es)) r hd hh nx lo ko ke=true:=by
 have h1:evsF (cond ((x :: es).any star?) bad (.b 5 0 (cE j sc x) (cEs j sc es))) r hd hh nx lo ko ke=true:=h
 rw[q] at h1; exact h1
theorem ZjI {ko:Lo→KS} {k:Nat} {q:Keyword} {ks:List Keyword} (h:kwF (cKw k sc (q :: ks)) r hd hh nx lo ko ke=true) :
  ∃ j,k=j + 1∧(q :: ks).all Zaw=true∧kwF (.b 6 (enc (q.arg.getD default)) (cE j sc q.value) (cKw j sc ks)) r hd hh nx lo ko ke=true:=by
 cases k with
 | zero=>exact Za h
 | succ j=>
  refine⟨j,rfl,?_⟩
  obtain⟨a,v,p⟩:=q
  have h1:kwF (cond ((Keyword.mk a v p :: ks).all Zaw) (.b 6 (enc (a.getD default)) (cE j sc v) (cKw j sc ks)) bad) r hd hh nx lo ko ke=true:=h
  cases e:(Keyword.mk a v p :: ks).all Zaw with
  | true=>rw[e] at h1; exact⟨rfl,h1⟩
  | false=>rw[e] at h1; exact Za h1
theorem ZkP {ko:Lo→KS} {k:Nat} (h:kwF (cKw k sc []) r hd hh nx lo ko ke=true):ko [] hh nx lo=true:=by
 cases k with
 | zero=>exact Za h
 | succ j=>exact h
end
section
variable {ke:Nat→KS} {Er:Value→Shared→Prop}
theorem ZgA (HA:AllS g r n) (hc:CxOK g c (n + 1)) (pos:Pos):∀ (es:List PySem.Expr) {k:Nat} {σ : St} {ko:List V→KS} {Q:List Value→Shared→Prop},Rel g c σ→evsF (cEs k c.env.scope.names es) r c.hd σ.h σ.nx σ.lo ko ke=true→PVs g c σ ko Q→PX g c σ ke Er→
  wpAny g.M c.A (spliced (backTo pos (starEach es c.env))) Q Er σ.s:=by
 intro es
 induction es with
 | nil=>
  intro k σ ko Q R h hQ hE
  obtain⟨j,rfl,_⟩:=Zdh h
  exact Calls.spliced_nil (hQ σ [] [] R (.refl ..) trivial h)
 | cons x rest ih=>
  intro k σ ko Q R h hQ hE
  obtain⟨j,rfl,st⟩:=Zdh h
  rw[Za4 (Bool.or_eq_false_iff.mp (List.any_cons.symm.trans st)).1]
  show wpAny _ _ (spliced ((false,eval x c.env) :: backTo pos (starEach rest c.env))) _ _ _
  exact Calls.spliced_cons (HA.ev c hc.down j x σ R _ _ (Zir h st) _ _ (fun σ' v rv R' X' vr hk=>ih R' hk (fun σ'' vs rvs R'' X'' vrs hk=>hQ σ'' (v :: vs) _ R'' (X'.trans X'') ⟨vr.mono X'' R',vrs⟩ hk) (hE.of X')) hE)
theorem s_kw (HA:AllS g r n) (hc:CxOK g c (n + 1)) (pos:Pos):∀ (ks:List Keyword) {k:Nat} {σ : St} {ko:Lo→KS} {Q:List Value→Shared→Prop},Rel g c σ→kwF (cKw k c.env.scope.names ks) r c.hd σ.h σ.nx σ.lo ko ke=true→
  (∀ σ' kw rvs,Rel g c σ'→Ext g c σ σ'→SR g σ' kw (((backToKw pos (keywordEach ks c.env)).filterMap (·.1)).zip rvs)→ko kw σ'.h σ'.nx σ'.lo=true→Q rvs σ'.s)→PX g c σ ke Er→
  wpAny g.M c.A (evalAll ((backToKw pos (keywordEach ks c.env)).map (·.2))) Q Er σ.s:=by
 intro ks
 induction ks with
 | nil=>
  intro k σ ko Q R h hQ hE
  exact wpAny_evalAll_nil (hQ σ [] [] R (.refl ..) trivial (ZkP h))
 | cons q rest ih=>
  obtain⟨a,v,p⟩:=q
  intro k σ ko Q R h hQ hE
  obtain⟨j,_,nm,h⟩:=ZjI h
  have na:Zaw ⟨a,v,p⟩=true:=(Yb nm).1
  cases a with
  | none=>exact Za na
  | some a=>
   show wpAny _ _ (evalAll ((do let v ← eval v c.env; standAt pos; pure v) :: (backToKw pos (keywordEach rest c.env)).map (·.2))) _ _ _
   exact wpAny_evalAll_cons (wpAny_bind (HA.ev c hc.down j v σ R _ _ h _ _ (fun σ' w rw R' X' vr hk=>wpAny_bind (wpAny_standAt (wpAny_pure
    (ih R' hk (fun σ'' kw rvs R'' X'' sr hk=>hQ σ'' ((enc a,w) :: kw) _ R'' (X'.trans X'') ⟨na,rfl,vr.mono X'' R',sr⟩ hk) (hE.of X'))))) hE))
theorem Zho (HA:AllS g r n) (hc:CxOK g c (n + 1)) (R:Rel g c σ) {k k2:Nat} {es:List PySem.Expr} {ks:List Keyword} {ko:List V→Lo→KS} {Q:Args→Shared→Prop}
  (h:ZeR r (cEs k c.env.scope.names es) (cKw k2 c.env.scope.names ks) c.hd ke ko σ.h σ.nx σ.lo=true) (hk:ks.all Zaw=true)
  (hQ:∀ σ' vs rvs kw rkw,Rel g c σ'→Ext g c σ σ'→VRs g σ' vs rvs→SR g σ' kw rkw→ko vs kw σ'.h σ'.nx σ'.lo=true→Q ⟨rvs,rkw⟩ σ'.s) (hE:PX g c σ ke Er) (pos:Pos) (rf:Value) :
  (((backTo pos (starEach es c.env)).any (·.1)||(backToKw pos (keywordEach ks c.env)).any (·.1.isNone))=false)∧wpAny g.M c.A (evalArgs rf true (backTo pos (starEach es c.env)) (backToKw pos (keywordEach ks c.env))) Q Er σ.s:=by
 obtain⟨_,_,st⟩:=Zdh h
 have a:=Zhn pos c.env hk
 have main:=ZgA (Q:=fun vs s₁=>wpAny g.M c.A (evalAll ((backToKw pos (keywordEach ks c.env)).map (·.2))) (fun kv s₂=>Q ⟨vs,((backToKw pos (keywordEach ks c.env)).filterMap (·.1)).zip kv⟩ s₂) Er s₁) HA hc pos es R h
  (fun σ' vs rvs R' X' vrs hk=>s_kw HA hc pos ks R' hk (fun σ'' kw kv R'' X'' sr hk=>hQ σ'' vs rvs kw _ R'' (X'.trans X'') (vrs.mono X'' R') sr hk) (hE.of X')) hE
 refine⟨by rw[Zes pos c.env st,a.2]; rfl,?_⟩
 cases es with
 | nil=>exact evalArgs_kw_nil a.1 fun Γ p hΓ=>(main Γ p hΓ) Γ p hΓ
 | cons x es=>
  have sx:=(Bool.or_eq_false_iff.mp (List.any_cons.symm.trans st)).1
  rw[Za4 sx] at main ⊢
  exact evalArgs_kw a.1 main
noncomputable abbrev ZcP (g:Gl) (rf:Value) (h:Heap):Prop:=∃ k,(k=Keeper.frame∨k=Keeper.machine∨k=Keeper.boundFrame)∧Looks g.M h (keeperOf rf) k
theorem Zfe (id:String) (h:Heap):ZcP g (.builtin id) h:=⟨.machine,.inr (.inl rfl),by rw[show keeperOf (.builtin id)=pure .machine from rfl]; exact .now⟩
theorem ZjJ (m:Nat) (h:Heap):ZcP g (biV m) h:=by
 refine⟨.machine,.inr (.inl rfl),?_⟩
 have q:=ZfT m
 have h2:keeperOf (biV m)=pure .machine:=by
  cases hb:biV m <;> first | rfl | (rw[hb] at q; exact Za q)
 rw[h2]; exact .now
theorem ZgB (OK:POK g.P g.K g.tabs g.dn) (hc:CxOK g c n) (R:Rel g c σ) {f:V} {rf:Value} (hv:VR g σ f rf) (h:Ze0 g.P σ.h f=true):ZcP g rf σ.s.heap:=by
 have X:=hc.X R
 cases f with
 | bi m=>obtain rfl:rf=biV m:=hv; exact ZjJ m _
 | ref i=>
  obtain⟨rfl,_⟩:=hv
  refine Zc (show og (ZbF σ.h i) _=true from h) fun p hp _=>?_
  obtain⟨name,qual,A,fb,scope,clos,doc,pm,c',ctv,p,k,e,h1,h2,ok,m,_⟩:ClosR g σ (σ.ρ (2 * i)) p.1 p.2:=R.trk i _ (Zc5 hp)
  exact⟨.frame,.inl rfl,(Looks.ld (part:=none) (R.N (_,Zbu name qual A fb scope clos doc pm c' ctv) m).1).andThen .now⟩
 | top a=>
  obtain⟨rfl,_⟩:=hv
  have h : @Option.rec E (fun _=>Bool) (onC g.P a fun ci=>ci.ok||Nat.ble 1 ci.xk) (fun f=>fnC f) (g.P.fns.get a)=true:=h
  cases e:g.P.fns.get a with
  | none=>
   rw[e] at h
   obtain⟨ci,hci,hk⟩:=ZZ (show og (g.P.clss.get a) _=true from h)
   exact keeps_K ((OK.cls a ci hci).keep hk) _ X
  | some f=>
   rw[e] at h
   have fin:∀ f,FnOK g.P g.K g.tabs a f→ZcP g (.ref a) σ.s.heap:=fun f hf=>by
    obtain⟨oc,od,osl,name,qual,A,body,scope,dV,doc,pm,an,cdv,ct,p,k,hK,_⟩:=hf
    exact⟨.frame,.inl rfl,(Looks.ld (part:=none) (X _ _ hK)).andThen .now⟩
   cases f with
   | u t n f=>exact fin f (OK.lf a t n f e (Yn h)).1
   | f p b=>exact(OK.fn a _ e).elim (fun q=>Za q) (fin _)
   | _=>exact Za h
 | _=>exact Za h
end
section
variable {ko:V→KS} {ke:Nat→KS} {Q Er:Value→Shared→Prop} {k k2:Nat}
theorem Zff (OK:POK g.P g.K g.tabs g.dn) (HA:AllS g r n) (hc:CxOK g c (n + 1)) (R:Rel g c σ) {fv:V} {rf:Value} {first:List V} {rfirst:List Value} {as:List PySem.Expr} {ks:List Keyword} (vf:VR g σ fv rf) (vfs:VRs g σ first rfirst)
  (h:Zcp g.P r fv first (cEs k c.env.scope.names as) (cKw k2 c.env.scope.names ks) c.hd σ.h σ.nx σ.lo ko ke=true) (hk:ks.all Zaw=true) (hQ:PV g c σ ko Q) (hE:PX g c σ ke Er) (pos:Pos)
  (app:∀ {a b:List V} {x y:List Value} {σ : St},VRs g σ a x→VRs g σ b y→VRs g σ (a++b) (x++y)) :
  wpAny g.M c.A (callWith pos rf rfirst (backTo pos (starEach as c.env)) (backToKw pos (keywordEach ks c.env))) Q Er σ.s:=by
 obtain⟨p1,p2⟩:=Zho HA hc R h hk (Q:=fun a s₁=>ZcP g rf s₁.heap∧wpAny g.M c.A (call rf (rfirst++a.pos) a.kw) Q Er s₁) (fun σ2 vs rvs kw rkw R2 X2 vrs sr h2=>Zf h2 fun hcal h3=>
  ⟨ZgB OK hc R2 (vf.mono X2 R) hcal,HA.app c hc.down σ2 R2 fv rf _ _ kw rkw _ _ (vf.mono X2 R) (app (vfs.mono X2 R) vrs) sr h3 _ _ (hQ.a X2) (hE.a X2)⟩) hE pos rf
 exact callWith_of p1 (fun h hp=>hp) p2
theorem VRs.append {b:List V} {y:List Value}:∀ {a:List V} {x:List Value},VRs g σ a x→VRs g σ b y→VRs g σ (a++b) (x++y):=fun {a}=>by
 induction a with
 | nil=>intro x h1 h2; cases x with | nil=>exact h2 | cons _ _=>exact h1.elim
 | cons v a ih=>intro x h1 h2; cases x with | nil=>exact h1.elim | cons w x=>exact⟨h1.1,ih h1.2 h2⟩
theorem ZkQ (OK:POK g.P g.K g.tabs g.dn) (HA:AllS g r n) (hc:CxOK g c (n + 1)) (R:Rel g c σ) {f:PySem.Expr} {as:List PySem.Expr} {ks:List Keyword} {pos:Pos}
  (hf:attr? f=none) (h:Zha (cE k c.env.scope.names f) (cEs k c.env.scope.names as) (cKw k c.env.scope.names ks) g.P r c.hd σ.h σ.nx σ.lo ko ke=true) (hk:ks.all Zaw=true) (hQ:PV g c σ ko Q) (hE:PX g c σ ke Er) :
  wpAny g.M c.A (eval (.Call f as ks pos) c.env) Q Er σ.s:=by
 have ee:eval (.Call f as ks pos) c.env=(do callWith pos (← eval f c.env) [] (backTo pos (starEach as c.env)) (backToKw pos (keywordEach ks c.env))):=by
  cases f <;> first | rfl | exact Ze hf.symm
 rw[ee]
 exact wpAny_bind (HA.ev c hc.down k f σ R _ _ h _ _ (fun σ1 fv rf R1 X1 vf h1=>Zff OK HA hc R1 (first:=[]) (rfirst:=[]) vf trivial h1 hk (hQ.of X1) (hE.of X1) pos VRs.append) hE)
theorem Zl3 (HA:AllS g r n) (hc:CxOK g c (n + 1)) (R:Rel g c σ) {es:List PySem.Expr} {kd:Nat} {pos:Pos}
  (h:Zi5 (cEs k c.env.scope.names es) g.P r c.hd σ.h σ.nx σ.lo ko ke=true) (hQ:PV g c σ ko Q) (hE:PX g c σ ke Er):wpAny g.M c.A (eval (.Tuple es kd pos) c.env) Q Er σ.s:=
 Tuple_ (ZgA HA hc pos es R h (fun σ' vs rvs R' X' vrs hk=>Zf hk fun hb hk=>by
  have hl:rvs.length≤sizeLine:=by rw[← vrs.length]; exact Nat.le_trans (Nat.le_of_lt (Nat.blt_eq.mp hb)) (by decide)
  refine newTuple_N R'.F R'.N (fun h' F' N'=>?_) hl
  obtain⟨R2,X2,p⟩:=R'.alloc (tk:=σ'.s.toks) F' N' (fun p hp=>Heap.lt_size (R'.N p hp).1)
  exact hQ _ (.tup vs) _ R2 (X'.trans X2) ⟨_,rvs,0,rfl,p,vrs.mono X2 R'⟩ hk) hE)
theorem ZkR (HA:AllS g r n) (hc:CxOK g c (n + 1)) (R:Rel g c σ) {es:List PySem.Expr} {pos:Pos}
  (h:Zhb (cEs k c.env.scope.names es) g.P r c.hd σ.h σ.nx σ.lo ko ke=true) (hQ:PV g c σ ko Q) (hE:PX g c σ ke Er):wpAny g.M c.A (eval (.List es pos) c.env) Q Er σ.s:=
 List_ (ZgA HA hc pos es R h (fun σ' vs rvs R' X' vrs hk=>Zf hk fun hb hk=>by
  have hb:=Nat.le_of_lt (Nat.blt_eq.mp hb)
  have hl:rvs.length≤sizeLine:=by rw[← vrs.length]; exact Nat.le_trans hb (by decide)
  refine newList_N R'.F R'.N (fun h' F' N'=>?_) hl
  obtain⟨σ2,R2,X2,v,e1,e2,e3,e4⟩:=R'.new1 (tk:=σ'.s.toks) (o:=.list vs) F' N' (fun p hp=>Heap.lt_size (R'.N p hp).1) rfl fun σ'' m Z=>⟨rvs,0,m,Nat.le_trans hb (by decide),vrs.mono0 Z⟩
  have:=hQ _ _ _ R2 (X'.trans X2) v
  rw[e1,e2,e3,e4] at this
  exact this hk) hE)
end
end
section
variable {g:Gl} {r:Rec} {n:Nat} {c:Cx} {σ : St}
noncomputable abbrev IsR (g:Gl) (σ : St) (ra rb:Value) (k:Bool→Bool):Prop:=∃ t,k t=true∧∀ (A:Around) (Q:Bool→Shared→Prop) (Er:Value→Shared→Prop),Q t σ.s→wpAny g.M A (isSame ra rb) Q Er σ.s
theorem Zis (R:Rel g c σ) {v:V} {w:Value} (hv:VR g σ v w) (hn:farV v=true):∃ a o C,w=.ref a∧((a,o) ∈ σ.news∧Unt σ a)∧o.cls=.ref C:=by
 cases v with
 | other=>obtain⟨a,o,e,p,⟨C,h⟩,_⟩:=hv; exact⟨a,o,C,e,⟨p.1,p.2.1⟩,h⟩
 | fr k ks vs=>
  match k,hv with
  | 0,_=>exact Za hn
  | 1,_=>exact Za hn
  | 2,_=>exact Za hn
  | k + 3,hv=>obtain⟨a,o,its,e,m,⟨d,es,n,h,_⟩,_⟩:=hv; exact⟨a,o,k,e,⟨(R.tab.2 _ m).1,(R.tab.2 _ m).2.1⟩,by rw[h]⟩
 | _=>exact Za hn
theorem ZgC {v:V} {w:Value} (hv:VR g σ v w) (hn:Zgn v=true):w≠.none∧∀ i,w≠.builtin i:=by
 cases v with
 | none=>exact Za hn
 | bool b=>obtain rfl:w=.bool b:=hv; exact⟨nofun,nofun⟩
 | int i=>obtain⟨t,rfl⟩:=hv; exact⟨nofun,nofun⟩
 | sint i=>obtain⟨t,rfl⟩:=hv; exact⟨nofun,nofun⟩
 | str i=>obtain⟨x,t,rfl,_⟩:=hv; exact⟨nofun,nofun⟩
 | sv i=>obtain⟨t,rfl⟩:=hv; exact⟨nofun,nofun⟩
 | unk i=>exact Za hn
 | tup vs=>obtain⟨a,its,n,rfl,_⟩:=hv; exact⟨nofun,nofun⟩
 | ref i=>obtain⟨rfl,_⟩:=hv; exact⟨nofun,nofun⟩
 | top i=>obtain⟨rfl,_⟩:=hv; exact⟨nofun,nofun⟩
 | bi i=>exact Za hn
 | rng i=>obtain⟨a,o,rfl,_⟩:=hv; exact⟨nofun,nofun⟩
 | other=>obtain⟨a,o,rfl,_⟩:=hv; exact⟨nofun,nofun⟩
 | fr k ks vs=>obtain⟨a,o,its,rfl,_⟩:=hv; exact⟨nofun,nofun⟩
theorem Zjg {b:V} {rb:Value} (hb:VR g σ b rb) {k:Bool→Bool} (h:visN b k=true):IsR g σ .none rb k∧IsR g σ rb .none k:=by
 have h:(bif ZS b then k true else bif Zgn b then k false else false)=true:=h
 cases ho:ZS b with
 | true=>
  rw[ho] at h
  obtain rfl:=Zao ho
  obtain rfl:rb=.none:=hb
  exact⟨⟨true,h,fun A Q Er q=>wpAny_of_eq (isSame_none .none) q⟩,true,h,fun A Q Er q=>wpAny_of_eq (isSame_none .none) q⟩
 | false=>
  rw[ho] at h
  refine Zf h fun hs hk=>?_
  obtain⟨e1,e2⟩:=ZgC hb hs
  refine⟨⟨false,hk,fun A Q Er q=>?_⟩,false,hk,fun A Q Er q=>wpAny_of_eq (isSame_none rb) (show Q (rb == .none) σ.s by rw[beq_eq_false_iff_ne.mpr e1]; exact q)⟩
  clear hb
  cases rb with
  | none=>exact absurd rfl e1
  | builtin i=>exact absurd rfl (e2 i)
  | _=>exact wpAny_of_eq (isSame_plain rfl) q
theorem ZjK (n:Nat):(biV n != .type "tuple")=true:=Zde (p:=fun v=>v != .type "tuple") (by decide) _ n (by decide)
theorem Zit (k:Nat):excV k≠.type "tuple":=by
 unfold excV
 split
 ·exact bne_iff_ne.mp (ZjK k)
 ·nofun
theorem Rel.at (R:Rel g c σ) {i:Nat} {o:O} (e : σ.h.get i=some o):∃ x,(σ.ρ (2 * i),x) ∈ σ.news∧(Zgm o=true→x.cls≠.type "tuple"):=by
 have t:=R.trk i o e
 cases o with
 | inst C f=>exact⟨_,t.1,fun _=>nofun⟩
 | exc C tt f=>
  obtain⟨x,vs,m,k,_⟩:=t
  exact⟨x,m,fun _=>by rw[k]; exact Zit _⟩
 | list xs=>obtain⟨its,n,m,_⟩:=t; exact⟨_,m,fun _=>by show Value.type "list"≠Value.type "tuple"; decide⟩
 | elist pk xs=>obtain⟨pre,its,n,m,_⟩:=t; exact⟨_,m,fun _=>by show Value.type "list"≠Value.type "tuple"; decide⟩
 | dict es=>obtain⟨o,kvs,m,d,_⟩:=t; exact⟨_,m,fun _=>by obtain⟨_,_,d,_⟩:=d; rw[d.1]; decide⟩
 | _=>obtain⟨x,m⟩:=t.main; exact⟨x,m,fun h=>Za h⟩
theorem s_is (R:Rel g c σ) {a b:V} {ra rb:Value} (ha:VR g σ a ra) (hb:VR g σ b rb) {k:Bool→Bool} (h:vis σ.h a b k=true):IsR g σ ra rb k:=by
 refine byG fun G fin=>?_
 have far:∀ {i:Nat} {o:O} {x:V} {rx:Value},σ.h.get i=some o→k false=true→VR g σ x rx→farV x=true→IsR g σ (.ref (σ.ρ (2 * i))) rx k∧IsR g σ rx (.ref (σ.ρ (2 * i))) k:=fun {i o x rx} e hk vr ho=>by
  obtain⟨y,oy,C,rfl,p,hc'⟩:=Zis R vr ho
  obtain⟨ox,m,_⟩:=R.at e
  have nt:oy.cls≠.type "tuple":=by rw[hc']; nofun
  exact⟨⟨false,hk,fun A Q Er q=>PySem.SeqAt.wpAny_isSame_ref_other' (p.2 _ (Zh e)) (R.N _ m).1 (R.N _ p.1).1 nt q⟩,false,hk,fun A Q Er q=>wpAny_isSame_ref_other (fun q=>p.2 _ (Zh e) q.symm) (R.N _ p.1).1 (R.N _ m).1 nt q⟩
 have h:(bif ZS a then visN b k else bif ZS b then visN a k else bif farV a then og (vRef b) fun j=>og (σ.h.get j) fun _=>k false
   else bif farV b then og (vRef a) fun i=>og (σ.h.get i) fun _=>k false
   else og (vRef a) fun i=>og (vRef b) fun j=>bif Nat.beq i j then k true else og (σ.h.get i) fun o=>og (σ.h.get j) fun _=>bif Zgm o then k false else false)=true:=h
 cases q1:ZS a with
 | true=>
  rw[q1] at h
  obtain rfl:=Zao q1
  obtain rfl:ra=.none:=ha
  exact fin (Zjg hb h).1
 | false=>
  rw[q1] at h
  cases q2:ZS b with
  | true=>
   rw[q2] at h
   obtain rfl:=Zao q2
   obtain rfl:rb=.none:=hb
   exact fin (Zjg ha h).2
  | false=>
   rw[q2] at h
   cases q3:farV a with
   | true=>
    rw[q3] at h
    refine Zc h fun j hj h=>Zc h fun o ho hk=>?_
    obtain rfl:=Zk hj
    obtain⟨rfl,_⟩:=hb
    exact fin (far ho hk ha q3).2
   | false=>
    rw[q3] at h
    cases q4:farV b with
    | true=>
     rw[q4] at h
     refine Zc h fun j hj h=>Zc h fun o ho hk=>?_
     obtain rfl:=Zk hj
     obtain⟨rfl,_⟩:=ha
     exact fin (far ho hk hb q4).1
    | false=>
     rw[q4] at h
     refine Zc h fun i hi h1=>Zc h1 fun j hj h2=>?_
     clear h h1
     obtain rfl:=Zk hi
     obtain rfl:=Zk hj
     obtain⟨rfl,_⟩:=ha
     obtain⟨rfl,_⟩:=hb
     cases q:Nat.beq i j with
     | true=>
      rw[q] at h2
      obtain rfl:=Yn q
      exact fin ⟨true,h2,fun A Q Er q=>wpAny_isSame_ref_self q⟩
     | false=>
      rw[q] at h2
      refine Zc h2 fun o ho h3=>Zc h3 fun o2 ho2 h4=>Zf h4 fun hb hk=>?_
      obtain⟨x,mx,tx⟩:=R.at ho
      obtain⟨y,my,_⟩:=R.at ho2
      have hne : σ.ρ (2 * i)≠σ.ρ (2 * j):=fun e=>by
       have:=Nat.eq_of_mul_eq_mul_left (by decide) (R.inj _ _ (Zh ho) (Zh ho2) e)
       rw[this,Nat.beq_refl] at q; exact Za q.symm
      exact fin ⟨false,hk,fun A Q Er q=>wpAny_isSame_ref_other hne (R.N _ mx).1 (R.N _ my).1 (tx hb) q⟩
end
noncomputable abbrev Ora:=List (Nat × Nat × Int × V)
section
variable {g:Gl} {r:Rec} {n:Nat} {c:Cx} {σ : St} {ora:Ora}
noncomputable def Eq3 (A:Around) (s:Shared) (x y:Value) (b:Bool):Prop:=RcAt A s x y b∧EqAt A s x y b∧RcNeAt A s x y (!b)
inductive RK (s:Shared):Nat→Value→Prop
 | none:RK s 0 .none
 | bool (b:Bool):RK s 1 (.bool b)
 | int (i:Int) (t:Tok):RK s 2 (.int i t)
 | str (x:Str) (t:Tok):RK s 3 (.str x t)
 | tup (a:Addr) (its:Array Value):s.heap.IsTuple a its→RK s 4 (.ref a)
 | list (a:Addr) (its:Array Value):s.heap.IsList a its→RK s 5 (.ref a)
theorem ZjL {A:Around} {s:Shared} {i j:Nat} {x y:Value} (hi:RK s i x) (hj:RK s j y) (ne:i≠j) (nb : ¬ (i + j=3∧1≤i∧1≤j)) (u:A.units < cLine):Eq3 A s x y false:=by
 cases hi with
 | none=>
  cases hj with
  | none=>exact absurd rfl ne
  | bool b2=>exact⟨.none_bool _,.none_bool _,.none_bool _⟩
  | int i2 t2=>exact⟨.none_int _ _,.none_int _ _,.none_int _ _⟩
  | str x2 t2=>exact⟨.none_str _ _,.none_str _ _,.none_str _ _⟩
  | tup a2 its2 h2=>exact⟨.none_tuple h2 u,.none_tuple h2 u,.none_tuple h2 u⟩
  | list a2 its2 h2=>exact⟨.none_list h2 u,.none_list h2 u,.none_list h2 u⟩
 | bool b=>
  cases hj with
  | none=>exact⟨.bool_none _,.bool_none _,.bool_none _⟩
  | bool b2=>exact absurd rfl ne
  | int i2 t2=>exact absurd ⟨rfl,by decide,by decide⟩ nb
  | str x2 t2=>exact⟨.bool_str _ _ _,.bool_str _ _ _,.bool_str _ _ _⟩
  | tup a2 its2 h2=>exact⟨.bool_tuple _ h2 u,.bool_tuple _ h2 u,.bool_tuple _ h2 u⟩
  | list a2 its2 h2=>exact⟨.bool_list _ h2 u,.bool_list _ h2 u,.bool_list _ h2 u⟩
 | int i t=>
  cases hj with
  | none=>exact⟨.int_none _ _,.int_none _ _,.int_none _ _⟩
  | bool b2=>exact absurd ⟨rfl,by decide,by decide⟩ nb
  | int i2 t2=>exact absurd rfl ne
  | str x2 t2=>exact⟨.int_str _ _ _ _,.int_str _ _ _ _,.int_str _ _ _ _⟩
  | tup a2 its2 h2=>exact⟨.int_tuple _ _ h2 u,.int_tuple _ _ h2 u,.int_tuple _ _ h2 u⟩
  | list a2 its2 h2=>exact⟨.int_list _ _ h2 u,.int_list _ _ h2 u,.int_list _ _ h2 u⟩
 | str x t=>
  cases hj with
  | none=>exact⟨.str_none _ _,.str_none _ _,.str_none _ _⟩
  | bool b2=>exact⟨.str_bool _ _ _,.str_bool _ _ _,.str_bool _ _ _⟩
  | int i2 t2=>exact⟨.str_int _ _ _ _,.str_int _ _ _ _,.str_int _ _ _ _⟩
  | str x2 t2=>exact absurd rfl ne
  | tup a2 its2 h2=>exact⟨.str_tuple _ _ h2 u,.str_tuple _ _ h2 u,.str_tuple _ _ h2 u⟩
  | list a2 its2 h2=>exact⟨.str_list _ _ h2 u,.str_list _ _ h2 u,.str_list _ _ h2 u⟩
 | tup a its h=>
  cases hj with
  | none=>exact⟨.tuple_none h u,.tuple_none h u,.tuple_none h u⟩
  | bool b2=>exact⟨.tuple_bool _ h u,.tuple_bool _ h u,.tuple_bool _ h u⟩
  | int i2 t2=>exact⟨.tuple_int _ _ h u,.tuple_int _ _ h u,.tuple_int _ _ h u⟩
  | str x2 t2=>exact⟨.tuple_str _ _ h u,.tuple_str _ _ h u,.tuple_str _ _ h u⟩
  | tup a2 its2 h2=>exact absurd rfl ne
  | list a2 its2 h2=>exact⟨.tuple_list h h2 u,.tuple_list h h2 u,.tuple_list h h2 u⟩
 | list a its h=>
  cases hj with
  | none=>exact⟨.list_none h u,.list_none h u,.list_none h u⟩
  | bool b2=>exact⟨.list_bool _ h u,.list_bool _ h u,.list_bool _ h u⟩
  | int i2 t2=>exact⟨.list_int _ _ h u,.list_int _ _ h u,.list_int _ _ h u⟩
  | str x2 t2=>exact⟨.list_str _ _ h u,.list_str _ _ h u,.list_str _ _ h u⟩
  | tup a2 its2 h2=>exact⟨.list_tuple h h2 u,.list_tuple h h2 u,.list_tuple h h2 u⟩
  | list a2 its2 h2=>exact absurd rfl ne
theorem ZkS {s:Shared} {i j:Nat} {x:Value} (hi:RK s i x) (hj:RK s j x):i=j:=by
 cases hi <;> cases hj <;> first | rfl | exact absurd rfl (ne_of_list_tuple (by assumption) (by assumption))
theorem Zap (R:Rel g c σ) {a:Addr} {its:List Value} {n:Nat} (p:Pin0 g σ a (Zba its.toArray n)) : σ.s.heap.IsTuple a its.toArray:=⟨_,(R.N _ p.1).1,rfl,n,rfl⟩
theorem Zhp {h:H} {i:Nat} (e:kq h (.ref i)≤5):∃ l,Zg h i=some l∧kq h (.ref i)=5:=by
 have q:kq h (.ref i) = @Option.rec (List V) (fun _=>Nat) 9 (fun _=>5) (Zg h i):=rfl
 cases e':Zg h i with
 | none=>rw[q,e'] at e; exact absurd e (by decide)
 | some l=>rw[q,e']; exact⟨l,rfl,rfl⟩
theorem ZcQ (R:Rel g c σ) {v:V} {w:Value} (hv:VR g σ v w) (h:kq σ.h v≤5):RK σ.s (kq σ.h v) w:=by
 cases v with
 | none=>obtain rfl:w=.none:=hv; exact .none
 | bool b=>obtain rfl:w=.bool b:=hv; exact .bool b
 | int i=>obtain⟨t,rfl⟩:=hv; exact .int _ _
 | sint i=>obtain⟨t,rfl⟩:=hv; exact .int _ _
 | str i=>obtain⟨x,t,rfl,_⟩:=hv; exact .str _ _
 | sv i=>obtain⟨t,rfl⟩:=hv; exact .str _ _
 | tup vs=>obtain⟨a,its,n,rfl,p,_⟩:=hv; exact .tup _ _ (Zap R p)
 | ref i=>
  obtain⟨l,hl,e⟩:=Zhp h
  obtain⟨rfl,_⟩:=hv
  obtain⟨its,il,_⟩:=R.isList hl
  rw[e]; exact .list _ _ il
 | fr k ks vs=>
  cases k with
  | zero=>obtain⟨a,o,its,rfl,m,f,_⟩:=hv; obtain⟨_,n,rfl⟩:=f; exact .list _ _ ⟨_,(R.N _ (R.tab.2 _ m).1).1,rfl,n,rfl⟩
  | succ k=>exact absurd h (by show ¬ (9:Nat)≤5; decide)
 | _=>exact absurd h (by show ¬ (9:Nat)≤5; decide)
theorem ZbB {f:V→V→Option Bool}:∀ {xs ys:List V} {b:Bool},ZaX f xs ys=some b→∃ e:Nat→Bool,xs.length=ys.length∧b=(List.range xs.length).all e∧∀ j (h1:j < xs.length) (h2:j < ys.length),f xs[j] ys[j]=some (e j):=fun {xs}=>by
 induction xs with
 | nil=>intro ys b h; cases ys with | nil=>exact⟨fun _=>true,rfl,(Option.some.inj h).symm,fun j h1=>absurd h1 (Nat.not_lt_zero _)⟩ | cons _ _=>exact Ze h
 | cons x xs ih=>
  intro ys b h
  cases ys with
  | nil=>exact Ze h
  | cons y ys=>
   refine Zi h fun a ha h=>Zi h fun b' hb h=>?_
   obtain⟨e,hl,he,hf⟩:=ih hb
   refine⟨fun j=>match j with | 0=>a | j + 1=>e j,congrArg Nat.succ hl,?_,fun j h1 h2=>?_⟩
   ·rw[← Option.some.inj h,he,List.length_cons,List.range_succ_eq_map,List.all_cons,List.all_map]
    rfl
   ·cases j with
    | zero=>exact ha
    | succ j=>exact hf j (Nat.lt_of_succ_lt_succ h1) (Nat.lt_of_succ_lt_succ h2)
theorem VRs.get:∀ {vs:List V} {ws:List Value},VRs g σ vs ws→∀ j (h1:j < vs.length) (h2:j < ws.length),VR g σ vs[j] ws[j]:=fun {vs}=>by
 induction vs with
 | nil=>intro ws _ j h1; exact absurd h1 (Nat.not_lt_zero _)
 | cons v vs ih=>
  intro ws h j h1 h2
  cases ws with
  | nil=>exact h.elim
  | cons w ws=>
   cases j with
   | zero=>exact h.1
   | succ j=>exact ih h.2 j (Nat.lt_of_succ_lt_succ h1) (Nat.lt_of_succ_lt_succ h2)
theorem ZaF {op k:Nat} {d:Int} {x:V}:∀ {l:Ora},oraK op k d l=some x→(op,k,d,x) ∈ l:=fun {l}=>by
 induction l with
 | nil=>intro h; exact Ze h
 | cons e l ih=>
  intro h
  have h1:(bif Nat.beq e.1 op&&Nat.beq e.2.1 k&&decide (e.2.2.1=d) then some e.2.2.2 else oraK op k d l)=some x:=h
  cases hc:(Nat.beq e.1 op&&Nat.beq e.2.1 k&&decide (e.2.2.1=d)) with
  | true=>
   rw[hc] at h1
   rw[Bool.and_eq_true,Bool.and_eq_true,decide_eq_true_eq] at hc
   obtain⟨a,b,d',y⟩:=e
   obtain⟨⟨e1,e2⟩,e3⟩:=hc
   obtain rfl:=Yn e1
   obtain rfl:=Yn e2
   obtain rfl:d'=d:=e3
   obtain rfl:=Option.some.inj h1
   exact .head _
  | false=>rw[hc] at h1; exact .tail _ (ih h1)
theorem Zdi (ho:∀ e ∈ ora,OraOK g e) {v w:V} {b:Bool} {x y:Value} (h:Zdx ora v w=some b) (hv:VR g σ v x) (hw:VR g σ w y):∃ i j t u,x=.int i t∧y=.int j u∧b=decide (i=j):=by
 cases q:vInt v with
 | some i=>
  obtain rfl:=Zt q
  refine Zi h fun j hj h=>?_
  obtain rfl:=Zt hj
  obtain⟨t,rfl⟩:=hv
  obtain⟨u,rfl⟩:=hw
  exact⟨i,j,t,u,rfl,rfl,(Option.some.inj h).symm⟩
 | none=>
  have h0:(Zj (Z8 v) fun k=>@Option.rec Int (fun _=>Option Bool) (Zj (Z8 w) fun j=>bif Nat.beq k j then some true else none) (fun j=>Zj (oraK 20 k j ora) Zbo) (vInt w))=some b:=by
   unfold Zdx at h; rw[q] at h; exact h
  refine Zi h0 fun k hk h1=>?_
  clear h h0
  obtain rfl:=ZT hk
  obtain⟨t,rfl⟩:=hv
  cases q2:vInt w with
  | some j=>
   rw[q2] at h1
   obtain rfl:=Zt q2
   obtain⟨u,rfl⟩:=hw
   refine Zi h1 fun z hz h2=>?_
   obtain rfl:=Zb3 h2
   have:=(ho _ (ZaF hz)).eq rfl
   injection this with this
   exact⟨_,j,t,u,rfl,rfl,this⟩
  | none=>
   rw[q2] at h1
   refine Zi h1 fun j hj h2=>?_
   obtain rfl:=ZT hj
   obtain⟨u,rfl⟩:=hw
   cases q3:Nat.beq k j with
   | true=>
    rw[q3] at h2
    obtain rfl:=Yn q3
    exact⟨_,_,t,u,rfl,rfl,by rw[← Option.some.inj h2]; exact(decide_eq_true rfl).symm⟩
   | false=>rw[q3] at h2; exact Ze h2
theorem ZjM {y z:Str} (hy:gd y=true) (hz:gd z=true):Nat.beq (enc y) (enc z)=(y==z):=by
 by_cases q:y=z
 ·subst q; rw[Nat.beq_refl,beq_self_eq_true]
 ·have:enc y≠enc z:=fun e=>q (Zw hy hz e)
  rw[beq_eq_false_iff_ne.mpr q,← Bool.not_eq_true,Nat.beq_eq]; exact this
theorem Zdj {v w:V} {b:Bool} {x y:Value} (h:Zdy v w=some b) (hv:VR g σ v x) (hw:VR g σ w y):∃ i j t u,x=.str i t∧y=.str j u∧b=(i==j):=by
 cases q:vStr v with
 | some i=>
  obtain rfl:=Z4 q
  refine Zi h fun j hj h=>?_
  obtain rfl:=Z4 hj
  obtain⟨x,t,rfl,hx,rfl⟩:=hv
  obtain⟨y,u,rfl,hy,rfl⟩:=hw
  exact⟨x,y,t,u,rfl,rfl,by rw[← Option.some.inj h,ZjM hx hy]⟩
 | none=>
  have h0:(Zj (vSv v) fun k=>Zj (vSv w) fun j=>bif Nat.beq k j then some true else none)=some b:=by
   unfold Zdy at h; rw[q] at h; exact h
  refine Zi h0 fun k hk h1=>Zi h1 fun j hj h2=>?_
  clear h h0 h1
  obtain rfl:=Zdc hk
  obtain rfl:=Zdc hj
  obtain⟨t,rfl⟩:=hv
  obtain⟨u,rfl⟩:=hw
  cases q3:Nat.beq k j with
  | true=>
   rw[q3] at h2
   obtain rfl:=Yn q3
   exact⟨_,_,t,u,rfl,rfl,by rw[← Option.some.inj h2]; exact(beq_self_eq_true _).symm⟩
  | false=>rw[q3] at h2; exact Ze h2
noncomputable def RefK (g:Gl) (σ : St) (v:V) (a:Addr):Prop:=(∃ i o,v=.ref i∧σ.h.get i=some o∧a = σ.ρ (2 * i))∨(vRef v=none∧a ∈ g.TA)
theorem Zfg (R:Rel g c σ) {v w:V} {a b:Addr} (h:Zbp v w=true) (ha:RefK g σ v a) (hb:RefK g σ w b):a≠b:=by
 rcases ha with⟨i,o,rfl,ei,rfl⟩ | ⟨e,ta⟩ <;> rcases hb with⟨j,o2,rfl,ej,rfl⟩ | ⟨e2,tb⟩
 ·intro q
  have q:=Nat.eq_of_mul_eq_mul_left (by decide) (R.inj _ _ (Zh ei) (Zh ej) q)
  have h:(!Nat.beq i j)=true:=h
  rw[q,Nat.beq_refl] at h
  exact Za h
 ·exact(R.tabU tb) _ (Zh ei)
 ·exact fun q=>(R.tabU ta) _ (Zh ej) q.symm
 ·unfold Zbp at h
  rw[e,e2] at h
  exact Za h
theorem ZbM (R:Rel g c σ) {v:V} {w:Value} {xs:List V} (h:Zam σ.h v=some xs) (hv:VR g σ v w):∃ a its,w=.ref a∧σ.s.heap.IsList a its.toArray∧VRs g σ xs its∧RefK g σ v a:=by
 unfold Zam at h
 cases q:vRef v with
 | some i=>
  rw[q] at h
  obtain rfl:=Zk q
  obtain⟨rfl,_⟩:=hv
  have h:Zg σ.h i=some xs:=h
  obtain⟨its,il,_,vr⟩:=R.isList h
  exact⟨_,its,rfl,il,vr,.inl ⟨i,_,rfl,ZH h,rfl⟩⟩
 | none=>
  rw[q] at h
  cases v with
  | fr k ks vs=>
   cases k with
   | zero=>
    obtain rfl:=Option.some.inj (show some vs=some xs from h)
    obtain⟨a,o,its,rfl,m,⟨_,n,rfl⟩,vr⟩:=hv
    exact⟨a,its,rfl,⟨_,(R.N _ (R.tab.2 _ m).1).1,rfl,n,rfl⟩,vr,.inr ⟨q,ZdI m⟩⟩
   | succ k=>exact Ze h
  | _=>exact Ze h
inductive VeqI (ora:Ora) (h:H) (d:Nat) (b:Bool) (v w:V):Prop
 | diff:kq h v≠kq h w→kq h v≤5→kq h w≤5→¬ (kq h v + kq h w=3∧1≤kq h v∧1≤kq h w)→b=false→VeqI ora h d b v w
 | none:v=.none→w=.none→b=true→VeqI ora h d b v w
 | bool (x y:Bool):v=.bool x→w=.bool y→b=(x==y)→VeqI ora h d b v w
 | num:Zdx ora v w=some b→VeqI ora h d b v w
 | str:Zdy v w=some b→VeqI ora h d b v w
 | tup (xs ys:List V):v=.tup xs→w=.tup ys→ZaX (veq ora h d) xs ys=some b→VeqI ora h d b v w
 | lst (xs ys:List V):Zbp v w=true→Zam h v=some xs→Zam h w=some ys→(bif Nat.beq xs.length ys.length then ZaX (veq ora h d) xs ys else some false)=some b→VeqI ora h d b v w
theorem kq0 {h:H} {v:V} (e:kq h v=0):v=.none:=by
 cases v with
 | none=>rfl
 | ref i=>exact absurd (Zhp (h:=h) (i:=i) (by rw[e]; decide)).choose_spec.2 (by rw[e]; decide)
 | fr k ks vs=>cases k <;> exact absurd e (Nat.succ_ne_zero _)
 | _=>exact absurd e (Nat.succ_ne_zero _)
theorem Zfh {i j:Nat} (h:Nat.beq i j=false):i≠j:=fun e=>by rw[e,Nat.beq_refl] at h; exact Za h.symm
theorem ZgD {h:H} {d:Nat} {v w:V} {b:Bool} (e:veq ora h (d + 1) v w=some b):VeqI ora h d b v w:=by
 have e1:(bif Nat.beq (kq h v) (kq h w) then
   ZcI none [some true,Zj (Zbo v) fun a=>Zj (Zbo w) fun b=>some (a==b),Zdx ora v w,Zdy v w,
    Zj (vTup v) fun a=>Zj (vTup w) fun b=>bif Nat.beq a.length b.length then ZaX (veq ora h d) a b else none,
    bif Zbp v w then Zj (Zam h v) fun a=>Zj (Zam h w) fun b=>bif Nat.beq a.length b.length then ZaX (veq ora h d) a b else some false else none] (kq h v)
  else bif Nat.ble (kq h v) 5&&Nat.ble (kq h w) 5&&!(Nat.beq ((kq h v) + (kq h w)) 3&&Nat.ble 1 (kq h v)&&Nat.ble 1 (kq h w)) then some false else none)=some b:=e
 clear e
 cases q:Nat.beq (kq h v) (kq h w) with
 | false=>
  rw[q] at e1
  cases q2:(Nat.ble (kq h v) 5&&Nat.ble (kq h w) 5&&!(Nat.beq ((kq h v) + (kq h w)) 3&&Nat.ble 1 (kq h v)&&Nat.ble 1 (kq h w))) with
  | false=>rw[q2] at e1; exact Ze e1
  | true=>
   rw[q2] at e1
   rw[Bool.and_eq_true,Bool.and_eq_true,Bool.not_eq_true'] at q2
   refine .diff (Zfh q) (Nat.le_of_ble_eq_true q2.1.1) (Nat.le_of_ble_eq_true q2.1.2) (fun k=>?_) (Option.some.inj e1).symm
   rw[k.1,Nat.ble_eq_true_of_le k.2.1,Nat.ble_eq_true_of_le k.2.2] at q2
   exact Za q2.2.symm
 | true=>
  rw[q] at e1
  have q:=Yn q
  generalize hk:kq h v=m at e1 q
  rcases Zjf e1 with⟨rfl,e1⟩ | ⟨rfl,e1⟩ | ⟨rfl,e1⟩ | ⟨rfl,e1⟩ | ⟨rfl,e1⟩ | ⟨rfl,e1⟩ | e1
  ·exact .none (kq0 hk) (kq0 q.symm) (Option.some.inj e1).symm
  ·exact Zi e1 fun x hx e2=>Zi e2 fun y hy e3=>.bool x y (Zb3 hx) (Zb3 hy) (Option.some.inj e3).symm
  ·exact .num e1
  ·exact .str e1
  ·refine Zi e1 fun x hx e2=>Zi e2 fun y hy e3=>?_
   cases q4:Nat.beq x.length y.length with
   | true=>rw[q4] at e3; exact .tup x y (ZP hx) (ZP hy) e3
   | false=>rw[q4] at e3; exact Ze e3
  ·
   have e1:(bif Zbp v w then Zj (Zam h v) fun a=>Zj (Zam h w) fun b=>bif Nat.beq a.length b.length then ZaX (veq ora h d) a b else some false else none)=some b:=e1
   cases q4:Zbp v w with
   | false=>rw[q4] at e1; exact Ze e1
   | true=>rw[q4] at e1; exact Zi e1 fun a ha e4=>Zi e4 fun b hb e5=>.lst a b q4 ha hb e5
  ·exact Ze e1
end
end Mn
end
section
set_option tactic.hygienic false
namespace Mn
open PySem PySem.W PyProof.Rows PySem.Calls PySem.Spec PySem.SeqAt MeetsSeq MeetsSeq2 MeetsSeq3 SeqRoads2
open AutoSeq1 (wpAny_loadPart')
section
variable {prog:Program} {w:World} {A:Around} {s:Shared}
noncomputable def EqW (prog:Program) (w:World) (A:Around) (s:Shared) (x y:Value):Prop:=∀ (E:Value→Shared→Prop) (Q:Bool→Shared→Prop),Q true s→wpAny (model prog w) A (eqBool x y) Q E s
noncomputable def RcW (prog:Program) (w:World) (A:Around) (s:Shared) (x y:Value):Prop:=∀ (E Q:Value→Shared→Prop),Q (.bool true) s→wpAny (model prog w) A (richCompare .Eq x y) Q E s
theorem EqW.of {x y:Value} (h:EqAt A s x y true):EqW prog w A s x y:=fun E Q q=>h prog w E Q q
theorem EqW.rc {a b:Addr} (h:RcW prog w A s (.ref a) (.ref b)):EqW prog w A s (.ref a) (.ref b):=fun E Q q=>by
 by_cases e:a=b
 ·subst e; exact EqAt.same _ prog w E Q q
 ·unfold eqBool
  exact wpAny_holding (wpAny_ite_split (fun x=>absurd (Value.ref.inj (eq_of_beq x)) e) fun _=>wpAny_bind (h E _ (wpAny_truthy_bool q)))
theorem RcW.tups {l b:Addr} {xs ys:List Value} (hl:s.heap.IsTuple l xs.toArray) (hb:s.heap.IsTuple b ys.toArray) (hz:xs.length=ys.length) (hu:A.units < cLine) (h:∀ p ∈ xs.zip ys,EqW prog w A.in1 s p.1 p.2):RcW prog w A s (.ref l) (.ref b):=fun E Q q=>by
 refine wpAny_richCompare_same_room (op:=.Eq) hl.typeIs hb.typeIs F.slot_tuple_eq (wpAny_call_entry F.slot_tuple_eq hl.typeIs F.entry_tuple_eq ?_ (F.args_tuple_eq_2 _ _)) hu
 obtain⟨⟨cls,dd,data,sl⟩,ho,hc,n,hd⟩:=hl
 obtain⟨⟨cls2,dd2,data2,sl2⟩,ho2,hc2,n2,hd2⟩:=hb
 simp only at hc hd hc2 hd2
 subst hc hd hc2 hd2
 obtain⟨hp,g,d,tk,os⟩:=s
 have f2:=AutoSeq1.sub_tuple_tuple
 wp_walk using wpAny_loadPart' ho,wpAny_loadPart' ho2,wpAny_forIn_list _ (fun rest b s'=>b.1=none∧s'=⟨hp,g,d,tk,os⟩∧∀ p ∈ rest,EqW prog w A.in1 ⟨hp,g,d,tk,os⟩ p.1 p.2) _
 case turn=>
  rintro⟨x,y⟩ rest b s' ⟨_,rfl,hr⟩
  refine wpAny_bind (hr _ (.head _) _ _ ?_)
  wp_walk
  exact⟨rfl,rfl,fun p hp=>hr p (.tail _ hp)⟩
 case fin=>
  rintro⟨b1,b2⟩ s' ⟨hn,rfl,_⟩
  simp only at hn
  subst hn
  wp_walk
  refine⟨_,rfl,nofun,?_⟩
  have:Builtin.Tuple.tupleCompareSizes .Eq xs.toArray.size ys.toArray.size=.bool true:=by simp [Builtin.Tuple.tupleCompareSizes,hz]
  rw[this]
  exact q
 case h=>exact⟨rfl,rfl,by simpa using h⟩
theorem Zhq (l b:Addr) (xs ys:List Value) (n n2:Nat) (dd dd2:Option Addr) (sl sl2:Array (Option Value)) (hz:xs.length=ys.length):∀ (k i:Nat),i + k=xs.length→MeetsIn prog w (Builtin.«list.__eq__.loop» ⟨[.ref l,.ref b,rawInt i,rawInt 2],[]⟩)
  (fun A R s=>s.heap.get? l=some { cls:=.type "list",dict:=dd,data:=.seq xs.toArray n,slots:=sl }∧s.heap.get? b=some { cls:=.type "list",dict:=dd2,data:=.seq ys.toArray n2,slots:=sl2 } ∧
   (∀ p ∈ xs.zip ys,EqW prog w A.in1 s p.1 p.2)∧R (.ok (.ret (.bool true))) s):=fun k=>by
 induction k with
 | zero=>
  rintro i hi A R ⟨hp,g,d,tk,os⟩ ⟨hl,hb,he,h⟩
  have e1:xs.toArray[((i:Nat):Int).toNat]? = none:=by simp; omega
  have e2:ys.toArray[((i:Nat):Int).toNat]? = none:=by simp; omega
  wp_walk using wpAny_loadPart' hl,wpAny_loadPart' hb
  rw[e1,e2]
  wp_walk using wpAny_loadPart' hl,wpAny_loadPart' hb
  have e3:(xs.toArray.size==ys.toArray.size)=true:=by simp [hz]
  show R (.ok (.ret (.bool (xs.toArray.size==ys.toArray.size)))) _
  rw[e3]
  exact h
 | succ k ih=>
  rintro i hi A R ⟨hp,g,d,tk,os⟩ ⟨hl,hb,he,h⟩
  have h1:i < xs.length:=by omega
  have h2:i < ys.length:=by omega
  have e1:xs.toArray[((i:Nat):Int).toNat]? = some xs[i]:=by simp [h1]
  have e2:ys.toArray[((i:Nat):Int).toNat]? = some ys[i]:=by simp [h2]
  wp_walk using wpAny_loadPart' hl,wpAny_loadPart' hb
  rw[e1,e2]
  have hm:(xs[i],ys[i]) ∈ xs.zip ys:=List.mem_iff_getElem.mpr ⟨i,by rw[List.length_zip]; omega,List.getElem_zip⟩
  refine wpAny_bind (he _ hm _ _ ?_)
  wp_walk
  rw[show ((i:Int) + 1)=((i + 1:Nat):Int) from rfl]
  exact⟨plainId_quiet plain_eq_loop _,codeAny_builtin entry_eq_loop (by rw[Around.under_plainId plain_eq_loop _]; exact ih (i + 1) (by omega) A R _ ⟨hl,hb,he,h⟩)⟩
theorem RcW.lists {l b:Addr} {xs ys:List Value} (hl:s.heap.IsList l xs.toArray) (hb:s.heap.IsList b ys.toArray) (hz:xs.length=ys.length) (hu:A.units < cLine) (h:∀ p ∈ xs.zip ys,EqW prog w A.in1 s p.1 p.2):RcW prog w A s (.ref l) (.ref b):=fun E Q q=>by
 obtain⟨⟨cls,dd,data,sl⟩,ho,hc,n,hd⟩:=id hl
 obtain⟨⟨cls2,dd2,data2,sl2⟩,ho2,hc2,n2,hd2⟩:=id hb
 simp only at hc hd hc2 hd2
 subst hc hd hc2 hd2
 refine wpAny_richCompare_same_room (op:=.Eq) hl.typeIs hb.typeIs F.slot_list_eq (call_meetsIn (S:=fun A R s=>s.heap.get? l=some { cls:=.type "list",dict:=dd,data:=.seq xs.toArray n,slots:=sl }∧s.heap.get? b=some { cls:=.type "list",dict:=dd2,data:=.seq ys.toArray n2,slots:=sl2 } ∧
   (∀ p ∈ xs.zip ys,EqW prog w A.in1 s p.1 p.2)∧R (.ok (.ret (.bool true))) s) F.slot_list_eq hl.typeIs F.entry_list_eq (F.args_list_eq_2 _ _) ?_ ⟨ho,ho2,h,nofun,q⟩) hu
 rintro A R ⟨hp,g,d,tk,os⟩ ⟨hl,hb,he,h⟩
 have f3:=AutoSeq1.sub_list_list
 have hne : ¬ (xs.toArray.size != ys.toArray.size)=true:=by simp [hz]
 wp_walk using wpAny_loadPart' hl,wpAny_loadPart' hb
 exact⟨plainId_quiet plain_eq_loop _,codeAny_builtin entry_eq_loop (by rw[Around.under_plainId plain_eq_loop _]; exact Zhq l b xs ys n n2 dd dd2 sl sl2 hz xs.length 0 (Nat.zero_add _) A R _ ⟨hl,hb,he,h⟩)⟩
end
section
variable {g:Gl} {c:Cx} {σ : St}
noncomputable def evP (g:Gl) (p:Nat × V):Nat × Int:=(p.1,evI g p.2)
theorem ZcR (es:Lo):gdUp g es=(es.map (evP g)).foldl (fun l p=>upd l p.1 p.2) g.gd:=by unfold gdUp; rw[List.foldl_map]; rfl
theorem Zfi {v:V} {w:Value} (h:Zy v=true) (vr:VR g σ v w):∃ t,w=.int (evI g v) t:=by
 cases v <;> first | exact vr | exact Za h
theorem ZkT {v w:V} (h:eqN v w=true):evI g v=evI g w∧Zy v=true:=by
 cases q:vInt v with
 | some i=>
  obtain rfl:=Zt q
  refine Zc (show og (vInt w) _=true from h) fun j hj hk=>?_
  obtain rfl:=Zt hj
  exact⟨of_decide_eq_true hk,rfl⟩
 | none=>
  unfold eqN at h
  rw[q] at h
  refine Zc (show og (Z8 v) _=true from h) fun i hi h=>Zc h fun j hj hk=>?_
  obtain rfl:=ZT hi
  obtain rfl:=ZT hj
  obtain rfl:=Yn hk
  exact⟨rfl,rfl⟩
theorem ZfX:∀ {a b:Lo},ZbG a b=true→a.map (evP g)=b.map (evP g)∧∀ p ∈ a,Zy p.2=true:=fun {a}=>by
 induction a with
 | nil=>intro b h; cases b with | nil=>exact⟨rfl,nofun⟩ | cons _ _=>exact Za h
 | cons p a ih=>
  intro b h
  cases b with
  | nil=>exact Za h
  | cons q b=>
   obtain⟨h1,h⟩:=Yb (show (Nat.beq p.1 q.1&&(eqN p.2 q.2&&ZbG a b))=true from h)
   obtain⟨h2,h3⟩:=Yb h
   obtain⟨e1,e2⟩:=ZkT (g:=g) h2
   obtain⟨e3,e4⟩:=ih h3
   refine⟨?_,fun x hx=>?_⟩
   ·rw[List.map_cons,List.map_cons,e3]; unfold evP; rw[Yn h1,e1]
   ·cases hx with
    | head=>exact e2
    | tail _ hx=>exact e4 x hx
theorem GdR.of_SR:∀ {es:Lo} {kvs:List (Str × Value)},(∀ p ∈ es,Zy p.2=true)→SR g σ es kvs→GdR (es.map (evP g)) kvs:=fun {es}=>by
 induction es with
 | nil=>intro kvs _ h; cases kvs with | nil=>trivial | cons _ _=>exact h.elim
 | cons p es ih=>
  intro kvs hn h
  cases kvs with
  | nil=>exact h.elim
  | cons q r=>exact⟨h.1,h.2.1,Zfi (hn _ (.head _)) h.2.2.1,ih (fun x hx=>hn x (.tail _ hx)) h.2.2.2⟩
theorem SR.of_keys:∀ {ks:List Nat} {vs:List V} {kvs:List (Str × Value)},ZbJ ks kvs→VRs g σ vs (kvs.map (·.2))→SR g σ (ks.zip vs) kvs:=fun {ks}=>by
 induction ks with
 | nil=>intro vs kvs k v; cases kvs with | nil=>trivial | cons _ _=>exact k.elim
 | cons n ks ih=>
  intro vs kvs k v
  cases kvs with
  | nil=>exact k.elim
  | cons q r=>
   cases vs with
   | nil=>exact v.elim
   | cons x vs=>exact⟨k.1,k.2.1,v.1,ih k.2.2 v.2⟩
structure DctR (g:Gl) (σ : St) (t:Nat) (es:Lo) (a:Addr) (o:Obj) (kvs:List (Str × Value)):Prop where
 m:(a,o) ∈ σ.news
 d:o.IsDictOf (PySem.strKind g.prog g.w) kvs
 z:a≠sysModules
 one:t=1→SR g σ es kvs
 two:t=2→GdR (gdUp g es) kvs∧(∀ p ∈ es,Zy p.2=true)∧g.gd.length≤1000
 alt:t=1∨t=2
theorem Zbk {h:H} {a:Nat} {es:Lo} (e:ZaO h a=some es):h.get a=some (.gdict es):=let ⟨o,q,r⟩:=ZW e; by
 cases o with
 | gdict l=>rw[q]; obtain rfl:=Option.some.inj r; rfl
 | _=>exact Ze r
theorem ZcS (R:Rel g c σ) {i t:Nat} {es:Lo} (h:ZaK σ.h i=some (t,es)):∃ ob,σ.h.get i=some ob∧two ob=false∧∃ o kvs,DctR g σ t es (σ.ρ (2 * i)) o kvs:=by
 unfold ZaK at h
 cases q:Zag σ.h i with
 | some l=>
  rw[q] at h
  cases Option.some.inj (show some (1,l)=some (t,es) from h)
  obtain⟨o,kvs,m,d,z,r⟩:DictR g σ _ es:=R.trk i _ (Zat q)
  exact⟨_,Zat q,rfl,o,kvs,m,d,z,fun _=>r,nofun,.inl rfl⟩
 | none=>
  rw[q] at h
  cases q2:ZaO σ.h i with
  | none=>rw[q2] at h; exact Ze h
  | some l=>
   rw[q2] at h
   cases Option.some.inj (show some (2,l)=some (t,es) from h)
   obtain⟨o,kvs,m,d,z,n,r⟩:GdictR g σ _ es:=R.trk i _ (Zbk q2)
   exact⟨_,Zbk q2,rfl,o,kvs,m,d,z,nofun,fun _=>⟨r,n⟩,.inr rfl⟩
theorem Zd6 (R:Rel g c σ) {v:V} {w:Value} {t:Nat} {es:Lo} (h:Zdw σ.h v=some (t,es)) (hv:VR g σ v w):∃ a o kvs,w=.ref a∧RefK g σ v a∧DctR g σ t es a o kvs:=by
 unfold Zdw at h
 cases q:vRef v with
 | some i=>
  rw[q] at h
  obtain rfl:=Zk q
  obtain⟨rfl,_⟩:=hv
  obtain⟨ob,e,_,o,kvs,D⟩:=ZcS R (show ZaK σ.h i=some (t,es) from h)
  exact⟨_,o,kvs,rfl,.inl ⟨i,_,rfl,e,rfl⟩,D⟩
 | none=>
  rw[q] at h
  cases v with
  | fr k ks vs=>
   have h:(bif Nat.beq k 1||Nat.beq k 2 then some (k,ks.zip vs) else none)=some (t,es):=h
   obtain⟨a,o,its,rfl,m,f,vr⟩:=hv
   have hn:=(R.tab.2 _ m).1
   match k,h,f with
   | 0,h,_=>exact Ze h
   | 1,h,f=>
    cases Option.some.inj (show some (1,ks.zip vs)=some (t,es) from h)
    obtain⟨z,kvs,d,rfl,k⟩:=f
    exact⟨a,o,kvs,rfl,.inr ⟨q,ZdI m⟩,hn,d,z,fun _=>.of_keys k vr,nofun,.inl rfl⟩
   | 2,h,f=>
    cases Option.some.inj (show some (2,ks.zip vs)=some (t,es) from h)
    obtain⟨z,z2,rfl,rfl,kvs,d,r⟩:=f
    exact⟨a,o,kvs,rfl,.inr ⟨q,ZdI m⟩,hn,d,z,nofun,fun _=>⟨r,nofun,z2⟩,.inr rfl⟩
   | _ + 3,h,_=>exact Ze h
  | _=>exact Ze h
theorem GdR.length:∀ {l:List (Nat × Int)} {kvs:List (Str × Value)},GdR l kvs→l.length=kvs.length:=fun {l}=>by
 induction l with
 | nil=>intro kvs h; cases kvs with | nil=>rfl | cons _ _=>exact h.elim
 | cons p l ih=>
  intro kvs h
  cases kvs with
  | nil=>exact h.elim
  | cons q r=>exact congrArg Nat.succ (ih h.2.2.2)
theorem SR.sz:∀ {es:Lo} {kvs:List (Str × Value)},SR g σ es kvs→es.length=kvs.length:=fun {es}=>by
 induction es with
 | nil=>intro kvs h; cases kvs with | nil=>rfl | cons _ _=>exact h.elim
 | cons p es ih=>
  intro kvs h
  cases kvs with
  | nil=>exact h.elim
  | cons q r=>exact congrArg Nat.succ (ih h.2.2.2)
theorem ZjN (l:List (Nat × Int)) (n:Nat) (v:Int):(upd l n v).length≤l.length + 1:=by
 induction l with
 | nil=>exact Nat.le_refl _
 | cons p l ih=>
  rw[Zay]
  split
  ·exact Nat.le_succ _
  ·exact Nat.succ_le_succ ih
theorem Zdk:∀ (es:Lo) (l:List (Nat × Int)),(es.foldl (fun l p=>upd l p.1 (evI g p.2)) l).length≤l.length + es.length:=fun es=>by
 induction es with
 | nil=>intro l; exact Nat.le_refl _
 | cons p es ih=>intro l; exact Nat.le_trans (ih _) (by have:=ZjN l p.1 (evI g p.2); show (upd l p.1 (evI g p.2)).length + es.length≤l.length + (es.length + 1); omega)
theorem DctR.len {t:Nat} {es:Lo} {a:Addr} {o:Obj} {kvs:List (Str × Value)} (D:DctR g σ t es a o kvs):kvs.length≤1000 + es.length:=by
 rcases D.alt with rfl | rfl
 ·rw[← (D.one rfl).sz]; exact Nat.le_add_left _ _
 ·obtain⟨a,_,c⟩:=D.two rfl
  rw[← a.length]
  exact Nat.le_trans (Zdk es g.gd) (Nat.add_le_add_right c _)
theorem GdR.hits {A:Around} {s:Shared} {kb:List (Str × Value)} (hn:(kb.map (·.1)).Nodup):∀ {l:List (Nat × Int)} {ra rb pre:List (Str × Value)},kb=pre++rb→GdR l ra→GdR l rb→KeqHits A s kb ra true∧ra.length=rb.length:=fun {l}=>by
 induction l with
 | nil=>
  intro ra rb pre _ h1 h2
  cases ra with
  | nil=>
   cases rb with
   | nil=>exact⟨.nil,rfl⟩
   | cons _ _=>exact h2.elim
  | cons _ _=>exact h1.elim
 | cons p l ih=>
  intro ra rb pre e h1 h2
  cases ra with
  | nil=>exact h1.elim
  | cons x ra=>
   cases rb with
   | nil=>exact h2.elim
   | cons y rb=>
    obtain⟨g1,e1,⟨t1,i1⟩,h1⟩:=h1
    obtain⟨g2,e2,⟨t2,i2⟩,h2⟩:=h2
    obtain⟨a,b⟩:=ih (pre:=pre ++ [y]) (by rw[e,List.append_assoc]; rfl) h1 h2
    have ek:x.1=y.1:=Zw g1 g2 (e1.trans e2.symm)
    obtain⟨kx,vx⟩:=x
    obtain⟨ky,vy⟩:=y
    dsimp only at ek i1 i2
    subst ek i1 i2
    refine⟨?_,congrArg Nat.succ b⟩
    have hv:valueAt kb kx=some (.int p.2 t2):=valueAt_of_get hn (i:=pre.length) (by rw[e,List.getElem?_append_right (Nat.le_refl _),Nat.sub_self]; rfl)
    have:=KeqHits.hit (A:=A) (s:=s) hv (EqAt.int_int p.2 t1 p.2 t2) a
    rwa [beq_self_eq_true,Bool.true_and] at this
theorem DctR.at (R:Rel g c σ) {t:Nat} {es:Lo} {a:Addr} {o:Obj} {kvs:List (Str × Value)} (D:DctR g σ t es a o kvs) : σ.s.heap.DictOf (PySem.strKind g.prog g.w) a kvs:=kda_dict R.N D.m D.d
theorem ZgE {A:Around} {s:Shared} {a b:Addr} {l:List (Nat × Int)} {ka kb:List (Str × Value)} (ha:s.heap.DictOf (PySem.strKind g.prog g.w) a ka) (hb:s.heap.DictOf (PySem.strKind g.prog g.w) b kb) (za:a≠sysModules) (zb:b≠sysModules) (h1:GdR l ka) (h2:GdR l kb) (hu:A.units < cLine) :
  RcW g.prog g.w A s (.ref a) (.ref b)∧∀ (E Q:Value→Shared→Prop),Q (.bool false) s→wpAny g.M A (richCompare .NotEq (.ref a) (.ref b)) Q E s:=by
 have hn:(kb.map (·.1)).Nodup:=let ⟨_,_,_,_,_,_,_,_,hn⟩:=hb; hn
 have hl:=(GdR.hits (A:=A) (s:=s) hn (pre:=[]) rfl h1 h2).2
 refine⟨fun E Q q=>keq_eq (beq_eq_false_iff_ne.mpr za) (beq_eq_false_iff_ne.mpr zb) ha hb hu (fun _=>(GdR.hits hn (pre:=[]) rfl h1 h2).1) ?_,fun E Q q=>keq_ne (beq_eq_false_iff_ne.mpr za) (beq_eq_false_iff_ne.mpr zb) ha hb hu (fun _=>(GdR.hits hn (pre:=[]) rfl h1 h2).1) ?_⟩
 ·rw[hl,beq_self_eq_true]; exact q
 ·rw[hl,beq_self_eq_true]; exact q
theorem Zjh (R:Rel g c σ) {v w:V} {x y:Value} (h:dEq σ.h v w=true) (hv:VR g σ v x) (hw:VR g σ w y) (A:Around) (hu:A.units < cLine):RcW g.prog g.w A σ.s x y∧∀ (E Q:Value→Shared→Prop),Q (.bool false) σ.s→wpAny g.M A (richCompare .NotEq x y) Q E σ.s:=by
 obtain⟨_,h⟩:=Yb h
 refine Zc h fun p hp h=>Zc h fun q hq h=>?_
 obtain⟨t,es⟩:=p
 obtain⟨t2,es2⟩:=q
 obtain⟨h1,h2⟩:=Yb h
 obtain rfl:t=t2:=Yn h1
 obtain⟨e,n⟩:=ZfX (g:=g) h2
 obtain⟨a,o,ka,rfl,_,D⟩:=Zd6 R hp hv
 obtain⟨b,o2,kb,rfl,_,D2⟩:=Zd6 R hq hw
 rcases D.alt with rfl | rfl
 ·have n2:∀ p ∈ es2,Zy p.2=true:=fun p hp=>by
   have:∀ {a b:Lo},ZbG a b=true→∀ p ∈ b,Zy p.2=true:=fun {a}=>by
    induction a with
    | nil=>intro b h; cases b with | nil=>exact nofun | cons _ _=>exact Za h
    | cons p a ih=>
     intro b h
     cases b with
     | nil=>exact nofun
     | cons q b=>
      obtain⟨h1,h⟩:=Yb (show (Nat.beq p.1 q.1&&(eqN p.2 q.2&&ZbG a b))=true from h)
      obtain⟨h2,h3⟩:=Yb h
      intro x hx
      cases hx with
      | head=>
       cases q5:vInt p.2 with
       | some i=>unfold eqN at h2; rw[q5] at h2; exact Zc (show og (vInt q.2) _=true from h2) fun j hj _=>by unfold Zy; rw[hj]
       | none=>unfold eqN at h2; rw[q5] at h2; exact Zc (show og (Z8 p.2) _=true from h2) fun j hj h2=>Zc h2 fun k hk _=>by obtain⟨y1,y2⟩:=q; obtain rfl:=ZT hk; rfl
      | tail _ hx=>exact ih h3 x hx
   exact this h2 p hp
  exact ZgE (D.at R) (D2.at R) D.z D2.z (GdR.of_SR n (D.one rfl)) (e ▸ GdR.of_SR n2 (D2.one rfl)) hu
 ·have:=(D2.two rfl).1
  rw[ZcR,← e,← ZcR] at this
  exact ZgE (D.at R) (D2.at R) D.z D2.z (D.two rfl).1 this hu
end
end Mn
end
section
set_option tactic.hygienic false
namespace Mn
open PySem PySem.W PyProof.Rows PySem.Calls PySem.Spec PySem.SeqAt
section
variable {g:Gl} {r:Rec} {n:Nat} {c:Cx} {σ : St} {ora:Ora}
theorem Ziu (R:Rel g c σ) (ho:∀ e ∈ ora,OraOK g e):∀ (d:Nat) {v w:V} {b:Bool} {x:Value},veq ora σ.h d v w=some b→VR g σ v x→VR g σ w x→b=true:=by
 intro d
 induction d with
 | zero=>intro v w b x h; exact Ze h
 | succ d ih=>
  intro v w b x h hv hw
  cases ZgD h with
  | diff ne h1 h2 _ _=>exact absurd (ZkS (ZcQ R hv h1) (ZcQ R hw h2)) ne
  | none _ _ e=>exact e
  | bool p q e1 e2 e=>
   subst e1 e2
   have hv:x=.bool p:=hv
   have hw:x=.bool q:=hw
   have:=hv.symm.trans hw
   injection this with this
   rw[e,this,beq_self_eq_true]
  | num e=>
   obtain⟨i,j,t,u,e1,e2,e3⟩:=Zdi ho e hv hw
   have:=e1.symm.trans e2
   injection this with this
   rw[e3,this]; exact decide_eq_true rfl
  | str e=>
   obtain⟨i,j,t,u,e1,e2,e3⟩:=Zdj e hv hw
   have:=e1.symm.trans e2
   injection this with this
   rw[e3,this,beq_self_eq_true]
  | tup vs ws e1 e2 e=>
   subst e1 e2
   obtain⟨a,its,nn,rfl,p,q⟩:=hv
   obtain⟨a2,its2,n2,hj,p2,q2⟩:=hw
   injection hj with hj
   subst hj
   have e3:=Zn R.N p.1 p2.1
   injection e3 with _ _ e3
   injection e3 with e3
   injection e3 with e3
   subst e3
   obtain⟨e,hl,rfl,hf⟩:=ZbB e
   rw[List.all_eq_true]
   intro j hj
   have hj:=List.mem_range.mp hj
   have h2:j < ws.length:=hl ▸ hj
   have h3:j < its.length:=q.length ▸ hj
   exact ih (hf j hj h2) (q.get j hj h3) (q2.get j h2 h3)
  | lst xs ys ap h1 h2 e=>
   obtain⟨a,its,rfl,_,_,k1⟩:=ZbM R h1 hv
   obtain⟨a2,its2,e2,_,_,k2⟩:=ZbM R h2 hw
   injection e2 with e2
   exact absurd e2 (Zfg R ap k1 k2)
theorem Eq3.lists {A:Around} {s:Shared} {a b:Addr} {its its2:Array Value} {e:Nat→Bool} {n:Nat} (hne:a≠b) (l1:s.heap.IsList a its) (l2:s.heap.IsList b its2) (sz:its.size=its2.size) (hn:its.size=n) (hu:A.units < cLine)
  (h:∀ j (h1:j < its.size) (h2:j < its2.size),EqAt A.in1 s its[j] its2[j] (e j)):Eq3 A s (.ref a) (.ref b) ((List.range n).all e):=by
 subst hn
 have a1:=RcAt.lists l1 l2 sz hu h
 exact⟨a1,.of_refs hne a1,.lists l1 l2 sz hu h⟩
theorem Eq3.lens {A:Around} {s:Shared} {a b:Addr} {its its2:Array Value} (hne:a≠b) (l1:s.heap.IsList a its) (l2:s.heap.IsList b its2) (sz:(its.size != its2.size)=true) (hu:A.units < cLine):Eq3 A s (.ref a) (.ref b) false:=
 ⟨.lists_lengths l1 l2 sz hu,.of_refs hne (.lists_lengths l1 l2 sz hu),.lists_lengths l1 l2 sz hu⟩
theorem Eq3.tups {A:Around} {s:Shared} {a b:Addr} {its its2:Array Value} {e:Nat→Bool} {n:Nat} (l1:s.heap.IsTuple a its) (l2:s.heap.IsTuple b its2) (sz:its.size=its2.size) (hn:its.size=n) (hu:A.units < cLine)
  (h:∀ j (h1:j < its.size) (h2:j < its2.size),EqAt A.in1 s its[j] its2[j] (e j)) (hs:a=b→(List.range n).all e=true):Eq3 A s (.ref a) (.ref b) ((List.range n).all e):=by
 subst hn
 have b1:((List.range (min its.size its2.size)).all e&&its.size==its2.size)=(List.range its.size).all e:=by
  rw[← sz,Nat.min_self,beq_self_eq_true,Bool.and_true]
 have a1:=RcAt.tuples l1 l2 hu h
 have a3:=RcNeAt.tuples l1 l2 hu h
 rw[b1] at a1 a3
 refine⟨a1,?_,a3⟩
 by_cases ha:a=b
 ·rw[hs ha]; subst ha; exact .same _
 ·exact .of_refs ha a1
theorem Zji (R:Rel g c σ) (ho:∀ e ∈ ora,OraOK g e):∀ (d:Nat) {v w:V} {b:Bool} {x y:Value},veq ora σ.h d v w=some b→VR g σ v x→VR g σ w y→∀ A:Around,A.units + d < cLine→Eq3 A σ.s x y b:=by
 intro d
 induction d with
 | zero=>intro v w b x y h; exact Ze h
 | succ d ih=>
  intro v w b x y h hv hw A hu
  have hu0:A.units < cLine:=Nat.lt_of_le_of_lt (Nat.le_add_right _ _) hu
  have elts:∀ {vs ws:List V} {its its2:List Value} {e:Nat→Bool},VRs g σ vs its→VRs g σ ws its2→(∀ j (h1:j < vs.length) (h2:j < ws.length),veq ora σ.h d vs[j] ws[j]=some (e j))→
    ∀ j (h1:j < its.toArray.size) (h2:j < its2.toArray.size),EqAt A.in1 σ.s its.toArray[j] its2.toArray[j] (e j):=fun {vs ws its its2 e} ha hb hf j h1 h2=>
   (ih (hf j (by rw[ha.length]; exact h1) (by rw[hb.length]; exact h2)) (ha.get j (by rw[ha.length]; exact h1) h1) (hb.get j (by rw[hb.length]; exact h2) h2) A.in1 (by show A.units + 1 + d < cLine; rwa [Nat.add_assoc,Nat.add_comm 1 d])).2.1
  cases ZgD h with
  | diff ne h1 h2 nb e=>subst e; exact ZjL (ZcQ R hv h1) (ZcQ R hw h2) ne nb hu0
  | none e1 e2 e=>subst e1 e2 e; obtain rfl:x=.none:=hv; obtain rfl:y=.none:=hw; exact⟨.none_none,.same _,.none_none⟩
  | bool p q e1 e2 e=>subst e1 e2 e; obtain rfl:x=.bool p:=hv; obtain rfl:y=.bool q:=hw; exact⟨.bool_bool _ _,.bool_bool _ _,.bool_bool _ _⟩
  | num e=>obtain⟨i,j,t,u,rfl,rfl,rfl⟩:=Zdi ho e hv hw; exact⟨.int_int _ _ _ _,.int_int _ _ _ _,.int_int _ _ _ _⟩
  | str e=>obtain⟨i,j,t,u,rfl,rfl,rfl⟩:=Zdj e hv hw; exact⟨.str_str _ _ _ _,.str_str _ _ _ _,.str_str _ _ _ _⟩
  | tup vs ws e1 e2 e=>
   subst e1 e2
   have hs:=fun (q:y=x)=>Ziu R ho (d + 1) h hv (show VR g σ (.tup ws) x from q ▸ hw)
   obtain⟨a,its,nn,rfl,p,q⟩:=hv
   obtain⟨a2,its2,n2,rfl,p2,q2⟩:=hw
   obtain⟨e,hl,rfl,hf⟩:=ZbB e
   exact .tups (Zap R p) (Zap R p2) (q.length.symm.trans (hl.trans q2.length)) q.length.symm hu0 (elts q q2 hf) fun r=>hs (congrArg Value.ref r.symm)
  | lst xs ys ap h1 h2 e=>
   obtain⟨a,its,rfl,l1,v1,k1⟩:=ZbM R h1 hv
   obtain⟨a2,its2,rfl,l2,v2,k2⟩:=ZbM R h2 hw
   have hne:=Zfg R ap k1 k2
   cases hl:Nat.beq xs.length ys.length with
   | true=>
    rw[hl] at e
    obtain⟨e,hle,rfl,hf⟩:=ZbB e
    exact .lists hne l1 l2 (v1.length.symm.trans (hle.trans v2.length)) v1.length.symm hu0 (elts v1 v2 hf)
   | false=>
    rw[hl] at e
    obtain rfl:=Option.some.inj e
    refine .lens hne l1 l2 (bne_iff_ne.mpr fun q=>?_) hu0
    have q:its.length=its2.length:=q
    rw[← v1.length,← v2.length] at q
    exact Zfh hl q
theorem ZjO {h:H} {v:V} (s:scal v=true):kq h v=2∨kq h v=3:=by
 cases v with
 | int i=>exact .inl rfl
 | sint i=>exact .inl rfl
 | str i=>exact .inr rfl
 | sv i=>exact .inr rfl
 | fr k _ _=>cases k <;> exact Za s
 | _=>exact Za s
noncomputable def rbI (i:Int):Value→Bool
 | .int j _=>decide (i=j)
 | _=>false
noncomputable def rbS (i:Str):Value→Bool
 | .str j _=>i==j
 | _=>false
noncomputable def rb (x y:Value):Bool:=match x with
 | .int i _=>rbI i y
 | .str i _=>rbS i y
 | _=>false
theorem ZkU (R:Rel g c σ) {v w:V} {a:Bool} {x y:Value} (s:scal v=true) (e:veq [] σ.h 1 v w=some a) (hv:VR g σ v x) (hw:VR g σ w y):a=rb x y:=by
 have no:∀ e ∈ ([]:Ora),OraOK g e:=fun e h=>nomatch h
 cases ZgD e with
 | diff ne k1 k2 _ e=>
  have r1:=ZcQ R hv k1
  have r2:=ZcQ R hw k2
  rw[e]
  rcases ZjO (h:=σ.h) s with k | k
  ·rw[k] at r1 ne
   generalize kq σ.h w=j at r2 ne
   cases r1
   cases r2 <;> first | rfl | exact absurd rfl ne
  ·rw[k] at r1 ne
   generalize kq σ.h w=j at r2 ne
   cases r1
   cases r2 <;> first | rfl | exact absurd rfl ne
 | num e=>obtain⟨i,j,t,u,rfl,rfl,e⟩:=Zdi no e hv hw; exact e
 | str e=>obtain⟨i,j,t,u,rfl,rfl,e⟩:=Zdj e hv hw; exact e
 | none e1 _ _=>subst e1; exact Za s
 | bool _ _ e1 _ _=>subst e1; exact Za s
 | tup _ _ e1 _ _=>subst e1; exact Za s
 | lst _ _ _ e1 _ _=>
  cases v with
  | fr k _ _=>cases k <;> exact Za s
  | int _=>exact Ze e1
  | sint _=>exact Ze e1
  | str _=>exact Ze e1
  | sv _=>exact Ze e1
  | _=>exact Za s
theorem ZfY (R:Rel g c σ) {w:V} {y:Value} (hw:VR g σ w y) {vs:List V} {its:List Value} {b:Bool} (h:ZeM σ.h w vs=some b) (hv:VRs g σ vs its) :
  its.any (fun x=>rb x y)=b∧∀ A:Around,A.units + 1 < cLine→∀ x ∈ its,EqAt A σ.s x y (rb x y):=by
 induction vs generalizing its b with
 | nil=>cases its with | nil=>exact⟨Option.some.inj h,fun _ _ _ h=>nomatch h⟩ | cons _ _=>exact hv.elim
 | cons v vs ih=>
  cases its with
  | nil=>exact hv.elim
  | cons x its=>
   have h:(bif scal v then Zj (veq [] σ.h 1 v w) fun a=>Zj (ZeM σ.h w vs) fun b=>some (a||b) else none)=some b:=h
   cases sv:scal v with
   | false=>rw[sv] at h; exact Ze h
   | true=>
    rw[sv] at h
    refine Zi h fun a ha h1=>Zi h1 fun b' hb h2=>?_
    obtain⟨q1,q2⟩:=ih hb hv.2
    have e:=ZkU R sv ha hv.1 hw
    refine⟨by rw[List.any_cons,q1,← Option.some.inj h2,e],fun A hu z hz=>?_⟩
    rcases List.mem_cons.mp hz with rfl | hz
    ·rw[← e]; exact(Zji R (ora:=[]) (fun e h=>nomatch h) 1 ha hv.1 hw A hu).2.1
    ·exact q2 A hu z hz
theorem SR.look:∀ {l:Lo} {rl:List (Str × Value)},SR g σ l rl→∀ x,gd x=true→OV g σ (Mn.look l (enc x)) (rl.lookup x):=fun {l}=>by
 induction l with
 | nil=>intro rl h x hx; cases rl with | nil=>exact rfl | cons _ _=>exact h.elim
 | cons p l ih=>
  intro rl h x hx
  cases rl with
  | nil=>exact h.elim
  | cons q rl=>
   obtain⟨y,rv⟩:=q
   rw[Zp,List.lookup_cons]
   by_cases e:x=y
   ·subst e; rw[if_pos h.2.1.symm,beq_self_eq_true]; exact⟨rv,rfl,h.2.2.1⟩
   ·rw[if_neg (fun q=>e (Zw hx h.1 (q.symm.trans h.2.1.symm))),beq_false_of_ne e]; exact ih h.2.2.2 x hx
theorem ZbN (kvs:List (Str × Value)) (x:Str):valueAt kvs x=kvs.lookup x:=by
 unfold valueAt
 induction kvs with
 | nil=>rfl
 | cons p kvs ih=>
  obtain⟨y,v⟩:=p
  rw[List.find?_cons,List.lookup_cons]
  by_cases e:x=y
  ·subst e; rw[decide_eq_true rfl,beq_self_eq_true]; rfl
  ·rw[decide_eq_false (fun q:y=x=>e q.symm),beq_false_of_ne e]; exact ih
theorem DictR.val {a:Addr} {es:Lo} (h:DictR g σ a es):∃ o kvs,(a,o) ∈ σ.news∧o.IsDictOf (strKind g.prog g.w) kvs∧(a==sysModules)=false∧SR g σ es kvs∧∀ x,gd x=true→OV g σ (look es (enc x)) (valueAt kvs x):=by
 obtain⟨o,kvs,m,d,z,r⟩:=h
 exact⟨o,kvs,m,d,beq_false_of_ne z,r,fun x hx=>by rw[ZbN]; exact r.look x hx⟩
theorem OV.isSome {v:Option V} {w:Option Value} (h:OV g σ v w):w.isSome=v.isSome:=by
 cases v with
 | none=>rw[show w=none from h]; rfl
 | some v=>obtain⟨x,rfl,_⟩:=h; rfl
theorem s_in (R:Rel g c σ) {a b:V} {ra rb:Value} (ha:VR g σ a ra) (hb:VR g σ b rb) {t:Bool} (h:vin σ.h a b=some t) (A:Around) (hu:A.units + 9 < cLine) {Q:Value→Shared→Prop} {Er:Value→Shared→Prop} :
  ((∀ σ',Rel g c σ'→Ext g c σ σ'→σ'.h = σ.h→σ'.nx = σ.nx→σ'.lo = σ.lo→Q (.bool t) σ'.s)→wpAny g.M A (compareOp .In ra rb) Q Er σ.s) ∧
  ((∀ σ',Rel g c σ'→Ext g c σ σ'→σ'.h = σ.h→σ'.nx = σ.nx→σ'.lo = σ.lo→Q (.bool (!t)) σ'.s)→wpAny g.M A (compareOp .NotIn ra rb) Q Er σ.s):=by
 have hu1:A.in1.units + 1 < cLine:=Nat.lt_of_le_of_lt (by show A.units + 1 + 1≤_; rw[Nat.add_assoc]; exact Nat.add_le_add_left (by decide) _) hu
 have h0:(@Option.rec (List V) (fun _=>Option Bool) (Zj (vRef b) fun a'=>Zj (Zag σ.h a') fun es=>Zj (vStr a) fun s=>some (hasK es s)) (fun l=>ZeM σ.h a l) (Zco σ.h b))=some t:=h
 clear h
 cases q:Zco σ.h b with
 | none=>
  rw[q] at h0
  refine Zi h0 fun i hi h1=>Zi h1 fun es he h2=>Zi h2 fun s hs h3=>?_
  clear h0 h1 h2
  obtain rfl:=Zk hi
  obtain rfl:=Z4 hs
  obtain⟨rfl,_⟩:=hb
  obtain⟨x,tk,rfl,hx,rfl⟩:=ha
  obtain⟨o,kvs,m,d,z,_,f⟩:=DictR.val (R.trk i _ (Zat he))
  have e:(valueAt kvs x).isSome=t:=by rw[(f x hx).isSome,← ZbI]; exact Option.some.inj h3
  have T:=R.tok (σ.s.toks + 1)
  exact⟨fun hq=>kda_in R.N m d z (strKind_is _ _ _ _) t e (hq _ T.1 T.2 rfl rfl rfl),fun hq=>kdg_notin R.N m d z (strKind_is _ _ _ _) t e (hq _ T.1 T.2 rfl rfl rfl)⟩
 | some l=>
  rw[q] at h0
  unfold Zco at q
  cases qb:vRef b with
  | none=>
   rw[qb] at q
   obtain rfl:=ZP q
   obtain⟨p,its,nn,rfl,pp,vr⟩:=hb
   obtain⟨e1,e2⟩:=ZfY R ha h0 vr
   have e1:its.toArray.any (fun x=>Mn.rb x ra)=t:=by rw[List.any_toArray]; exact e1
   exact⟨fun hq=>in_tupleAt _ (Zap R pp) (fun y hy=>e2 A.in1 hu1 y (by simpa using hy)) (e1 ▸ hq σ R (.refl ..) rfl rfl rfl),fun hq=>notIn_tupleAt _ (Zap R pp) (fun y hy=>e2 A.in1 hu1 y (by simpa using hy)) (e1 ▸ hq σ R (.refl ..) rfl rfl rfl)⟩
  | some i=>
   rw[qb] at q
   obtain rfl:=Zk qb
   obtain⟨rfl,_⟩:=hb
   obtain⟨its,il,_,vr⟩:=R.isList q
   obtain⟨e1,e2⟩:=ZfY R ha h0 vr
   have e1:its.toArray.any (fun x=>Mn.rb x ra)=t:=by rw[List.any_toArray]; exact e1
   exact⟨fun hq=>in_listAt _ il (fun y hy=>e2 A.in1 hu1 y (by simpa using hy)) (e1 ▸ hq σ R (.refl ..) rfl rfl rfl),fun hq=>notIn_listAt _ il (fun y hy=>e2 A.in1 hu1 y (by simpa using hy)) (e1 ▸ hq σ R (.refl ..) rfl rfl rfl)⟩
theorem Zaz {A:Around} (h:A.units≤9000) (k:Nat) (hk:k≤800):A.units + k < cLine:=
 Nat.lt_of_le_of_lt (Nat.add_le_add h hk) (by decide)
theorem ZkV (OK:POK g.P g.K g.tabs g.dn) (hc:CxOK g c n) (R:Rel g c σ) {v w:V} {x y:Value} (h:Zda g.P σ.h v w=true) (hv:VR g σ v x) (hw:VR g σ w y) (A:Around) (hu:A.units + 2 < cLine):RcAt A σ.s x y true∧RcNeAt A σ.s x y false:=
 Zc h fun i hi h1=>Zc h1 fun j hj h2=>Zf h2 fun hb h3=>Zc h3 fun p hp h4=>Zc h4 fun ci hci h5=>by
  clear h h1 h2 h3 h4
  obtain rfl:=Zk hi
  obtain rfl:=Zk hj
  obtain rfl:=Yn hb
  obtain⟨rfl,_⟩:=hv
  obtain⟨rfl,_⟩:=hw
  have t:=R.trk _ _ (ZaU hp)
  exact ZjD (hc.X R) ((OK.cls _ ci hci).cmp h5) (R.N _ t.1).1 rfl hu
theorem ZfZ {v:V} {x y:Value} (hf:Zb7 v=true) (hv:VR g σ v x) (hw:VR g σ v y) (A:Around):Eq3 A σ.s x y true:=by
 cases v with
 | none=>obtain rfl:x=.none:=hv; obtain rfl:y=.none:=hw; exact⟨.none_none,.same _,.none_none⟩
 | bool b=>
  obtain rfl:x=.bool b:=hv
  obtain rfl:y=.bool b:=hw
  have:(b==b)=true:=beq_self_eq_true b
  rw[← this]; exact⟨.bool_bool _ _,.bool_bool _ _,.bool_bool _ _⟩
 | int i=>
  obtain⟨t,rfl⟩:=hv
  obtain⟨u,rfl⟩:=hw
  have:decide (i=i)=true:=decide_eq_true rfl
  rw[← this]; exact⟨.int_int _ _ _ _,.int_int _ _ _ _,.int_int _ _ _ _⟩
 | str n=>
  obtain⟨a,t,rfl,ga,ea⟩:=hv
  obtain⟨b,u,rfl,gb,eb⟩:=hw
  obtain rfl:=Zw ga gb (ea.trans eb.symm)
  have:(a==a)=true:=beq_self_eq_true a
  rw[← this]; exact⟨.str_str _ _ _ _,.str_str _ _ _ _,.str_str _ _ _ _⟩
 | _=>exact Za hf
theorem Zcy {h:H} {a:Nat} {p:Nat × List V} (e:ZcL h a=some p):h.get a=some (.elist p.1 p.2):=let ⟨o,q,r⟩:=ZW e; by
 cases o with
 | elist k l=>rw[q]; obtain rfl:=Option.some.inj r; rfl
 | _=>exact Ze r
theorem VRs.zip2:∀ {vs:List V} {xs ys:List Value},VRs g σ vs xs→VRs g σ vs ys→∀ p ∈ xs.zip ys,∃ v ∈ vs,VR g σ v p.1∧VR g σ v p.2:=fun {vs}=>by
 induction vs with
 | nil=>intro xs ys h _ p hp; cases xs with | nil=>cases hp | cons _ _=>exact h.elim
 | cons v vs ih=>
  intro xs ys h1 h2 p hp
  cases xs with
  | nil=>exact h1.elim
  | cons x xs=>
   cases ys with
   | nil=>exact h2.elim
   | cons y ys=>
    cases hp with
    | head=>exact⟨v,.head _,h1.1,h2.1⟩
    | tail _ hp=>obtain⟨u,a,b⟩:=ih h1.2 h2.2 p hp; exact⟨u,.tail _ a,b⟩
theorem Zl4 (R:Rel g c σ):∀ (n:Nat) {v:V} {x y:Value},plN n v=true→VR g σ v x→VR g σ v y→∀ A:Around,A.units + n < cLine→EqW g.prog g.w A σ.s x y:=fun n=>by
 induction n with
 | zero=>intro v x y h hv hw A hu; exact .of (ZfZ h hv hw A).2.1
 | succ n ih=>
  intro v x y h hv hw A hu
  have hu0:A.units < cLine:=Nat.lt_of_le_of_lt (Nat.le_add_right _ _) hu
  have hu1:A.in1.units + n < cLine:=by show A.units + 1 + n < cLine; rwa [Nat.add_assoc,Nat.add_comm 1 n]
  have each:∀ {vs:List V} {xs ys:List Value},vs.all (plN n)=true→VRs g σ vs xs→VRs g σ vs ys→∀ p ∈ xs.zip ys,EqW g.prog g.w A.in1 σ.s p.1 p.2:=fun ha h1 h2 p hp=>by
   obtain⟨u,hm,a,b⟩:=h1.zip2 h2 p hp
   exact ih (List.all_eq_true.mp ha u hm) a b _ hu1
  rcases Bool.or_eq_true_iff.mp (show ((Zb7 v||(og (vTup v) fun vs=>vs.all (plN n)))||og (vFr v) fun p=>(Nat.beq p.1 0&&p.2.2.all (plN n))||(Nat.beq p.1 1&&p.2.2.all fun v=>og (vInt v) fun _=>true))=true from h) with h | h
  ·rcases Bool.or_eq_true_iff.mp h with h | h
   ·exact .of (ZfZ h hv hw A).2.1
   ·refine Zc h fun vs hvs ha=>?_
    obtain rfl:=ZP hvs
    obtain⟨a,its,m,rfl,p,q⟩:=hv
    obtain⟨b,its2,m2,rfl,p2,q2⟩:=hw
    exact .rc (.tups (Zap R p) (Zap R p2) (q.length.symm.trans q2.length) hu0 (each ha q q2))
  ·refine Zc h fun p hp h=>?_
   cases v with
   | fr k ks vs=>
    obtain rfl:=Option.some.inj (show some (k,ks,vs)=some p from hp)
    obtain⟨a,o,its,rfl,m,f,q⟩:=hv
    obtain⟨b,o2,its2,rfl,m2,f2,q2⟩:=hw
    have hn:=R.N _ (R.tab.2 _ m).1
    have hn2:=R.N _ (R.tab.2 _ m2).1
    rcases Bool.or_eq_true_iff.mp h with h | h
    ·obtain⟨h1,ha⟩:=Yb h
     obtain rfl:k=0:=Yn h1
     obtain⟨_,i,rfl⟩:=f
     obtain⟨_,j,rfl⟩:=f2
     exact .rc (.lists ⟨_,hn.1,rfl,i,rfl⟩ ⟨_,hn2.1,rfl,j,rfl⟩ (q.length.symm.trans q2.length) hu0 (each ha q q2))
    ·obtain⟨h1,ha⟩:=Yb h
     obtain rfl:k=1:=Yn h1
     obtain⟨z,kvs,d,rfl,kk⟩:=f
     obtain⟨z2,kvs2,d2,rfl,kk2⟩:=f2
     have num:∀ p ∈ ks.zip vs,Zy p.2=true:=fun p hp=>Zc (List.all_eq_true.mp ha p.2 (List.of_mem_zip hp).2) fun i hi _=>by unfold Zy; rw[hi]
     exact .rc (ZgE (kda_dict R.N (R.tab.2 _ m).1 d) (kda_dict R.N (R.tab.2 _ m2).1 d2) z z2 (.of_SR num (.of_keys kk q)) (.of_SR num (.of_keys kk2 q2)) hu0).1
   | _=>exact Ze hp
theorem Zl5 (R:Rel g c σ) {v w:V} {x y:Value} (h:eqG σ.h v w=true) (hv:VR g σ v x) (hw:VR g σ w y) (A:Around) (hu:A.units + 9 < cLine):RcW g.prog g.w A σ.s x y:=by
 refine Zc h fun i hi h1=>Zc h1 fun j hj h2=>Zc h2 fun p hp0 h3=>Zc h3 fun q hq0 h4=>?_
 clear h h1 h2 h3
 obtain rfl:=Zk hi
 obtain rfl:=Zk hj
 obtain⟨rfl,_⟩:=hv
 obtain⟨rfl,_⟩:=hw
 have hp:=Zcy hp0
 have hq:=Zcy hq0
 clear hp0 hq0
 obtain⟨k,xs⟩:=p
 obtain⟨k2,ys⟩:=q
 dsimp only at h4 hp hq
 obtain⟨c1,h4⟩:=Yb h4
 obtain⟨c2,h4⟩:=Yb h4
 obtain⟨_,h4⟩:=Yb h4
 obtain⟨c3,c4⟩:=Yb h4
 obtain rfl:=Yn c1
 obtain rfl:=Yn c2
 obtain rfl:=List.isEmpty_iff.mp c3
 obtain rfl:=List.isEmpty_iff.mp c4
 obtain⟨pre1,its1,n1,m1,⟨b1,pl⟩,z1,v1⟩:EListR g σ _ 2 []:=R.trk i _ hp
 obtain⟨pre2,its2,n2,m2,⟨b2,_⟩,z2,v2⟩:EListR g σ _ 2 []:=R.trk j _ hq
 obtain rfl:its1 = []:=by cases its1 with | nil=>rfl | cons _ _=>exact v1.elim
 obtain rfl:its2 = []:=by cases its2 with | nil=>rfl | cons _ _=>exact v2.elim
 rw[List.append_nil] at m1 m2
 refine .lists ⟨_,(R.N _ m1).1,rfl,n1,rfl⟩ ⟨_,(R.N _ m2).1,rfl,n2,rfl⟩ (b1.length.symm.trans b2.length) (Nat.lt_of_le_of_lt (Nat.le_add_right _ _) hu) fun p hp=>?_
 obtain⟨u,hm,a,b⟩:=b1.zip2 b2 p hp
 exact Zl4 R 5 ((pl u hm).2 rfl) a b A.in1 (by show A.units + 1 + 5 < cLine; omega)
theorem ZkW (OK:POK g.P g.K g.tabs g.dn) (hc:CxOK g c (n + 1)) (R:Rel g c σ) {a b:V} {ra rb:Value} (ha:VR g σ a ra) (hb:VR g σ b rb) {op:CmpOp} {k:Bool→Bool} (h:cmpV g.P (cCmp op) a b c.hd σ.h k=true) {Q Er:Value→Shared→Prop}
  (hQ:∀ σ' t,k t=true→Rel g c σ'→Ext g c σ σ'→σ'.h = σ.h→σ'.nx = σ.nx→σ'.lo = σ.lo→Q (.bool t) σ'.s):wpAny g.M c.A (compareOp op ra rb) Q Er σ.s:=by
 have hu:c.A.units≤9000:=Nat.le_trans (Nat.le_add_right _ _) hc.uni
 have hq:=fun t hk=>hQ σ t hk R (.refl ..) rfl rfl rfl
 have eqq:∀ {t},veqT g.P c.hd.ora σ.h a b=some t→RcAt c.A σ.s ra rb t∧RcNeAt c.A σ.s ra rb (!t):=fun {t} ht=>by
  unfold veqT at ht
  cases hs:Zda g.P σ.h a b with
  | true=>
   rw[hs] at ht
   obtain rfl:=Option.some.inj ht
   exact ZkV OK hc R hs ha hb c.A (Zaz hu 2 (by decide))
  | false=>
   rw[hs] at ht
   have:=Zji R hc.ora 9 (show veq c.hd.ora σ.h 9 a b=some t from ht) ha hb c.A (Zaz hu 9 (by decide))
   exact⟨this.1,this.2.2⟩
 cases op with
 | Eq=>
  have h:eqC g.P c.hd.ora σ.h a b k=true:=h
  unfold eqC at h
  cases qe:veqT g.P c.hd.ora σ.h a b with
  | some t=>rw[qe] at h; exact(eqq qe).1 g.prog g.w Er Q (hq t h)
  | none=>
   rw[qe] at h
   refine Zf h fun h1 hk=>?_
   rcases Bool.or_eq_true_iff.mp h1 with h1 | h1
   ·exact(Zjh R h1 ha hb c.A (Zaz hu 0 (by decide))).1 Er Q (hq _ hk)
   ·exact Zl5 R h1 ha hb c.A (Zaz hu 9 (by decide)) Er Q (hq _ hk)
 | NotEq=>
  have h:neC g.P c.hd.ora σ.h a b k=true:=h
  unfold neC at h
  cases qe:veqT g.P c.hd.ora σ.h a b with
  | some t=>rw[qe] at h; exact(eqq qe).2 g.prog g.w Er Q (hq _ h)
  | none=>
   rw[qe] at h
   exact Zf h fun h1 hk=>(Zjh R h1 ha hb c.A (Zaz hu 0 (by decide))).2 Er Q (hq _ hk)
 | Is=>obtain⟨t,hk,hw⟩:=s_is R ha hb (show vis σ.h a b k=true from h); exact wpAny_bind (hw c.A _ Er (wpAny_pure (hq t hk)))
 | IsNot=>obtain⟨t,hk,hw⟩:=s_is R ha hb (show vis σ.h a b (fun b=>k (!b))=true from h); exact wpAny_bind (hw c.A _ Er (wpAny_pure (hq _ hk)))
 | In=>exact Zc (show og (vin σ.h a b) k=true from h) fun t ht hk=>(s_in R ha hb ht c.A (Zaz hu 9 (by decide))).1 fun σ' R' X' e1 e2 e3=>hQ σ' t hk R' X' e1 e2 e3
 | NotIn=>exact Zc (show og (vin σ.h a b) (fun b=>k (!b))=true from h) fun t ht hk=>(s_in R ha hb ht c.A (Zaz hu 9 (by decide))).2 fun σ' R' X' e1 e2 e3=>hQ σ' _ hk R' X' e1 e2 e3
 | _=>exact Za h
theorem Zl6 (OK:POK g.P g.K g.tabs g.dn) (HA:AllS g r n) (hc:CxOK g c (n + 1)) (R:Rel g c σ) {k:Nat} {l rr:PySem.Expr} {op:CmpOp} {pos:Pos} {ko:V→KS} {ke:Nat→KS} {Q Er:Value→Shared→Prop}
  (hm:behindInMarks op rr=false) (h:Zi3 (cCmp op) (cE k c.env.scope.names l) (cE k c.env.scope.names rr) g.P r c.hd σ.h σ.nx σ.lo ko ke=true) (hQ:PV g c σ ko Q) (hE:PX g c σ ke Er) :
  wpAny g.M c.A (eval (.Compare l [op] [rr] pos) c.env) Q Er σ.s:=
 wpAny_Compare1 (HA.ev c hc.down k l σ R _ _ h _ _ (fun σ1 x rx R1 X1 v1 h1=>HA.ev c hc.down k rr σ1 R1 _ _ h1 _ _ (fun σ2 y ry R2 X2 v2 h2=>
  ZkW OK hc R2 (v1.mono X2 R1) v2 (k:=fun t=>ko (.bool t) σ2.h σ2.nx σ2.lo) h2 fun σ3 t hk R3 X3 e1 e2 e3=>hQ σ3 (.bool t) _ R3 ((X1.trans X2).trans X3) rfl (by rw[e1,e2,e3]; exact hk)) (hE.of X1)) hE) hm
end
end Mn
end
section
set_option tactic.hygienic false
set_option exponentiation.threshold 400
namespace Mn
open PySem PySem.W PyProof.Rows PySem.Calls PySem.Spec PySem.SeqAt
theorem ZlI (l:List Nat):∀ (n:Nat) (k:List Nat),k.length=n→encL (l++k)=encL l * 256 ^ k.length + encL k:=by
 intro n
 induction n with
 | zero=>
  intro k hk
  obtain rfl:=List.eq_nil_of_length_eq_zero hk
  simp [encL]
 | succ n ih=>
  intro k hk
  rcases List.eq_nil_or_concat k with rfl | ⟨k',c,rfl⟩
  ·simp at hk
  ·rw[List.concat_eq_append] at hk ⊢
   rw[← List.append_assoc,Zai,Zai,ih k' (by simpa using hk),List.length_append,Nat.pow_add]
   simp only [List.length_singleton,Nat.pow_one]
   rw[Nat.add_mul,Nat.mul_assoc,Nat.add_assoc]
theorem ZmM:∀ (n:Nat) (k:List Nat),k.length=n→gdL k=true→encL k < 256 ^ n∧(n≠0→256 ^ (n - 1)≤encL k):=by
 intro n
 induction n with
 | zero=>
  intro k hk _
  obtain rfl:=List.eq_nil_of_length_eq_zero hk
  exact⟨by decide,fun h=>absurd rfl h⟩
 | succ n ih=>
  intro k hk hg
  rcases List.eq_nil_or_concat k with rfl | ⟨k',c,rfl⟩
  ·simp at hk
  ·rw[List.concat_eq_append] at hk hg ⊢
   obtain⟨g1,c0,c1⟩:=Zbi hg
   have hk':k'.length=n:=by simpa using hk
   obtain⟨a,b⟩:=ih k' hk' g1
   rw[Zai]
   refine⟨?_,fun _=>?_⟩
   ·rw[Nat.pow_succ]; omega
   ·show 256 ^ n≤_
    cases n with
    | zero=>simp; omega
    | succ j=>
     have:=b (by omega)
     rw[Nat.pow_succ]
     have : 256 ^ j≤encL k':=this
     omega
section
variable {g:Gl} {r:Rec} {n k:Nat} {c:Cx} {σ : St} {Q Er:Value→Shared→Prop}
theorem NumIs.vr {v:V} {i:Int} (h:NumIs g v i) (t:Tok):VR g σ v (.int i t):=by
 rcases h with⟨j,rfl,rfl⟩ | ⟨k,rfl,rfl⟩ <;> exact⟨t,rfl⟩
theorem Zhr (R:Rel g c σ) {h':Heap} {tk:Nat} {a:Addr} {l:List V} {its:List Value} {k:Nat} {ko:KA} (F':Fr σ.g0 c.L h' σ.m) (N':News σ.g0 c.L h' ((a,listOf its.toArray k) :: σ.news)) (hf:∀ p ∈ σ.news,p.1 < a) (hl:l.length≤1000000) (vr:VRs g σ l its)
  (h:ko (.ref σ.nx) (hp σ.h σ.nx (.list l)) (Nat.succ σ.nx)=true) (hQ:PA g c σ ko Q):Q (.ref a) { σ.s with heap:=h',toks:=tk }:=by
 obtain⟨σ2,R2,X2,v,e1,e2,e3,e4⟩:=R.new1 (tk:=tk) (o:=.list l) F' N' hf rfl fun σ'' m Z=>⟨its,k,m,hl,vr.mono0 Z⟩
 have:=hQ _ _ _ R2 X2 e3 v
 rw[e1,e2,e4] at this
 exact this h
theorem Rel.top (R:Rel g c σ):∀ p ∈ σ.news,p.1 < σ.s.heap.objs.size:=fun p hp=>Heap.lt_size (R.N p hp).1
theorem ZkX (hc:CxOK g c n) (R:Rel g c σ) {a b:V} {ra rb:Value} (ha:VR g σ a ra) (hb:VR g σ b rb) {ko:KA} (h:addV a b c.hd σ.h σ.nx ko=true) (hQ:PA g c σ ko Q) (A:Around):wpAny g.M A (binaryOp .Add ra rb) Q Er σ.s:=by
 have h0:addL a b σ.h σ.nx ko=true:=h
 clear h
 refine Zc h0 fun i hi h1=>Zc h1 fun j hj h2=>Zc h2 fun l hl h3=>Zc h3 fun m hm h4=>Zf h4 fun hlen hk=>?_
 clear h0 h1 h2 h3 h4
 obtain rfl:=Zk hi
 obtain rfl:=Zk hj
 obtain⟨rfl,_⟩:=ha
 obtain⟨rfl,_⟩:=hb
 obtain⟨its,il,_,vl⟩:=R.isList hl
 obtain⟨jts,im,_,vm⟩:=R.isList hm
 have hlen:=Nat.le_of_lt (Nat.blt_eq.mp hlen)
 refine add_lists R.F R.N il im (fun h' F' N'=>Zhr R F' N' R.top (by rw[List.length_append]; exact hlen) (vl.append vm) hk hQ) ?_
 show its.length + jts.length≤sizeLine
 rw[← vl.length,← vm.length]; exact Nat.le_trans hlen (by decide)
theorem Zhs (hc:CxOK g c n) (R:Rel g c σ) {a b:V} {ra rb:Value} (ha:VR g σ a ra) (hb:VR g σ b rb) {ko:KA} (hQ:PA g c σ ko Q) (A:Around) :
  (modV 3 a b c.hd (fun v=>ko v σ.h σ.nx)=true→wpAny g.M A (binaryOp .Mod ra rb) Q Er σ.s)∧(modV 4 a b c.hd (fun v=>ko v σ.h σ.nx)=true→wpAny g.M A (binaryOp .FloorDiv ra rb) Q Er σ.s):=by
 have T:=R.tok (σ.s.toks + 1)
 have main:∀ op,modV op a b c.hd (fun v=>ko v σ.h σ.nx)=true→∃ i j t u,ra=.int i t∧rb=.int j u∧0 < j∧j < 1000000∧(op=3→∃ v,ko v σ.h σ.nx=true∧NumIs g v (i.fmod j))∧(op=4→∃ v,ko v σ.h σ.nx=true∧NumIs g v (i.fdiv j)):=fun op h=>
  Zc h fun j hj h1=>Zf h1 fun hd h2=>by
   clear h h1
   obtain rfl:=Zt hj
   obtain⟨u,rfl⟩:=hb
   have hd:=Yb hd
   have h0:=of_decide_eq_true hd.1
   cases q:vInt a with
   | some i=>
    rw[q] at h2
    obtain rfl:=Zt q
    obtain⟨t,rfl⟩:=ha
    exact⟨i,j,t,u,rfl,rfl,h0,of_decide_eq_true hd.2,(by rintro rfl; exact⟨_,h2,.inl ⟨_,rfl,rfl⟩⟩),by rintro rfl; exact⟨_,h2,.inl ⟨_,rfl,rfl⟩⟩⟩
   | none=>
    rw[q] at h2
    refine Zc h2 fun k hk h3=>Zc h3 fun x hx h4=>?_
    obtain rfl:=ZT hk
    obtain⟨t,rfl⟩:=ha
    have O:=hc.ora _ (ZaF hx)
    exact⟨_,j,t,u,rfl,rfl,h0,of_decide_eq_true hd.2,fun e=>(O.mod e h0).elim fun v q=>⟨v,q.2 _ h4,q.1⟩,fun e=>(O.div e h0).elim fun v q=>⟨v,q.2 _ h4,q.1⟩⟩
 refine⟨fun h=>?_,fun h=>?_⟩
 ·obtain⟨i,j,t,u,rfl,rfl,h0,h1,q,_⟩:=main 3 h
  obtain⟨v,hk,e⟩:=q rfl
  exact mod_int' (Int.ne_of_gt h0) (hQ _ v _ T.1 T.2 rfl (e.vr _) hk)
 ·obtain⟨i,j,t,u,rfl,rfl,h0,h1,_,q⟩:=main 4 h
  obtain⟨v,hk,e⟩:=q rfl
  exact floordiv_int (Int.ne_of_gt h0) (hQ _ v _ T.1 T.2 rfl (e.vr _) hk) (.inl (PyProof.noPylong_small (by omega)))
theorem VRs.rep {l:List V} {its:List Value} (h:VRs g σ l its):∀ k:Nat,VRs g σ (rep l k) (List.replicate k its).flatten:=fun k=>by
 induction k with
 | zero=>trivial
 | succ k ih=>
  rw[List.replicate_succ,List.flatten_cons]
  exact h.append ih
theorem Zl7 (l:List (Array Value)) (a:Array Value):(l.foldl (fun x y=>x++y) a).toList=a.toList++(l.map Array.toList).flatten:=by
 induction l generalizing a with
 | nil=>simp
 | cons x l ih=>rw[List.foldl_cons,ih]; simp
theorem ZmN (l:List V) (k:Nat):(rep l k).length=k * l.length:=by
 induction k with
 | zero=>rw[Nat.zero_mul]; rfl
 | succ k ih=>
  show (l++rep l k).length = _
  rw[List.length_append,ih,Nat.succ_mul,Nat.add_comm]
theorem ZmO:∀ k:Fin 10,Builtin.Int.intBits (k.val:Int)≤4:=by decide +kernel
theorem Zl8 (HA:AllS g r n) (hc:CxOK g c (n + 1)) (R:Rel g c σ) {l rr:PySem.Expr} {op:Operator} {pos:Pos} {ko:V→KS} {ke:Nat→KS}
  (h:Zi2 (cOp op) (cE k c.env.scope.names l) (cE k c.env.scope.names rr) g.P r c.hd σ.h σ.nx σ.lo ko ke=true) (hQ:PV g c σ ko Q) (hE:PX g c σ ke Er):wpAny g.M c.A (eval (.BinOp l op rr pos) c.env) Q Er σ.s:=by
 refine wpAny_BinOp (HA.ev c hc.down k l σ R _ _ h _ _ (fun σ1 x rx R1 X1 v1 h1=>HA.ev c hc.down k rr σ1 R1 _ _ h1 _ _ (fun σ2 y ry R2 X2 v2 h2=>?_) (hE.of X1)) hE)
 have v1:=v1.mono X2 R1
 have fin:PA g c σ2 (fun v h nx=>ko v h nx σ2.lo) Q:=hQ.a (X1.trans X2)
 have T:=R2.tok (σ2.s.toks + 1)
 have nums:∀ {f:Int→Int→Bool},og (vInt x) (fun i=>og (vInt y) fun j=>f i j)=true→∃ i j t u,x=.int i∧y=.int j∧rx=.int i t∧ry=.int j u∧f i j=true:=fun {f} h=>Zc h fun i hi h1=>Zc h1 fun j hj hf=>by
  clear h h1
  obtain rfl:=Zt hi
  obtain rfl:=Zt hj
  obtain⟨t,rfl⟩:=v1
  obtain⟨u,rfl⟩:=v2
  exact⟨i,j,t,u,rfl,rfl,rfl,rfl,hf⟩
 have h2:ZiX (cOp op) x y c.hd σ2.h σ2.nx (fun v h nx=>ko v h nx σ2.lo)=true:=h2
 cases op with
 | Add=>exact ZkX (ko:=fun v h nx=>ko v h nx σ2.lo) hc R2 v1 v2 h2 fin c.A
 | Sub=>obtain⟨i,j,t,u,rfl,rfl,rfl,rfl,hk⟩:=nums h2; exact sub_int' (fin _ (.int (i - j)) _ T.1 T.2 rfl ⟨_,rfl⟩ hk)
 | Mod=>exact(Zhs (ko:=fun v h nx=>ko v h nx σ2.lo) hc R2 v1 v2 fin c.A).1 h2
 | FloorDiv=>exact(Zhs (ko:=fun v h nx=>ko v h nx σ2.lo) hc R2 v1 v2 fin c.A).2 h2
 | _=>exact Za h2
end
section
variable {g:Gl} {r:Rec} {n k:Nat} {c:Cx} {σ : St} {Q Er:Value→Shared→Prop}
theorem VR.handed {v:V} {w:Value} (h:VR g σ v w):handedIn w=true:=by
 cases v with
 | none=>obtain rfl:w=.none:=h; rfl
 | bool b=>obtain rfl:w=.bool b:=h; rfl
 | int i=>obtain⟨t,rfl⟩:=h; rfl
 | sint i=>obtain⟨t,rfl⟩:=h; rfl
 | str i=>obtain⟨x,t,rfl,_⟩:=h; rfl
 | sv i=>obtain⟨t,rfl⟩:=h; rfl
 | unk i=>exact h.2
 | tup vs=>obtain⟨a,its,n,rfl,_⟩:=h; rfl
 | ref i=>obtain⟨rfl,_⟩:=h; rfl
 | top i=>obtain⟨rfl,_⟩:=h; rfl
 | bi m=>obtain rfl:w=biV m:=h; have q:=ZfT m; generalize biV m=u at q ⊢; cases u <;> first | exact q | rfl | exact Za q
 | rng i=>obtain⟨a,o,rfl,_⟩:=h; rfl
 | other=>obtain⟨a,o,rfl,_⟩:=h; rfl
 | fr k ks vs=>obtain⟨a,o,its,rfl,_⟩:=h; rfl
theorem ZbO {o:PySem.Expr} (h:ZD o=true) (x:Str) (env:Env) (whole:Sem Value):attributeBase o x env whole=whole:=by
 cases o with
 | Call f as kws p=>cases f <;> first | rfl | exact Za h
 | _=>rfl
theorem ZaL {ca:CA} {no oi:Bool} {fn:Nat→Bool} {val:V→Bool} {pr st:Nat→Bool} {G:Prop} (h:ZaS ca no oi fn val pr st=true) (h1:ca=.no→no=true→G) (h2:ca=.oi→oi=true→G) (h3:∀ f,ca=.fn f→fn f=true→G)
  (h4:∀ v,ca=.val v→val v=true→G) (h5:∀ f,ca=.pr f→pr f=true→G) (h6:∀ f,ca=.st f→st f=true→G):G:=by
 cases ca with
 | no=>exact h1 rfl h
 | oi=>exact h2 rfl h
 | fn f=>exact h3 f rfl h
 | val v=>exact h4 v rfl h
 | pr f=>exact h5 f rfl h
 | st f=>exact h6 f rfl h
theorem Zf0 {v:Value} {E:Value→Shared→Prop} {s:Shared} {A:Around} (h:handedIn v=true) (q:Q v s):wpAny g.M A (handedOut v) Q E s:=by rw[handedOut_of h]; exact wpAny_pure q
theorem Zht (OK:POK g.P g.K g.tabs g.dn) (HA:AllS g r n) (hc:CxOK g c (n + 1)) (R:Rel g c σ) {u:V} {a C:Nat} {f:Lo} {x:Str} (hx:gd x=true) (I0:InstV g σ u a C f) {ko:KA}
  (h:getI g.P r u C f (enc x) c.hd σ.h σ.nx ko=true) (hQ:PA g c σ ko Q):wpAny g.M c.A (getAttr (.ref a) x true) Q Er σ.s:=by
 refine byG fun G fin=>Zf h fun ok h1=>Zc h1 fun ca ha h2=>?_
 clear h h1
 obtain⟨ci,hci,hok,CO,hC⟩:=OK.ok ok
 obtain⟨_,_,_,q⟩:=OK.attr hx ha
 rw[hC] at q
 have pg:=CO.get hok
 have hd:=CO.dict (.inl hok)
 obtain⟨od,es,nn,I,kk,lr⟩:=I0.r
 have T:=R.tok (σ.s.toks + 1)
 have own:∀ {attr:Option Value} {w:V},findIn g.K (.ref C) x=some attr→noGet g.K attr=true→look f (enc x)=some w→ko w σ.h σ.nx=true→G:=fun {attr w} hf hn hw hk=>by
  have l:=lr x hx
  rw[hw] at l
  obtain⟨rw',e,vr⟩:=l
  exact fin (get_own R.F (hc.K R) I pg hd hf hn (by rw[ZaE kk,e]) vr.handed (hQ _ w _ T.1 T.2 rfl (vr.mono T.2 R) hk))
 refine ZaL h2 ?_ ?_ ?_ ?_ ?_ ?_
 ·rintro rfl h; exact Zc h fun w hw hk=>own q rfl hw hk
 ·intro _ h; exact Za h
 ·intro _ _ h; exact Za h
 ·rintro y rfl h
  obtain⟨ry,hf,hg,ht,hh,hcp,hvr,_⟩:=q
  cases hw:look f (enc x) with
  | some w=>rw[hw] at h; exact own hf (by show (specialIn g.K ry "__get__" == some none)=true; rw[hg]; rfl) hw h
  | none=>
   rw[hw] at h
   have l:=lr x hx
   rw[hw] at l
   exact fin (get_cls R.F (hc.K R) I pg hd hf hg hh hcp (by rw[ZaE kk]; exact congrArg some l) (hQ _ y _ T.1 T.2 rfl (hvr g _) h))
 ·rintro p rfl h
  obtain⟨pa,rest,hf,hp,hg,ht,_⟩:=q
  refine Zc h fun m hm h=>fin (get_prop R.F (hc.K R) I pg hd hf hg ht hp (codeAny_mono (HA.appd _ hc.in1 _ (T.1.wi _) p m [u] [.ref a] [] [] _ _ hm ⟨I0.vr.mono T.2 R,trivial⟩ trivial h (fun v s'=>wpAny g.M c.A (handedOut v) Q Er s') (fun _ _=>False) ?_ PAX.no) ?_))
  ·exact fun σ' v rv R' X' hl vr hk=>Zf0 vr.handed (hQ σ' v rv R'.un (T.2.trans X'.un) hl vr hk)
  ·intro rr s' z
   rcases rr with e | (v | _ | _ | _) <;> first | exact z | exact z.elim
 ·intro _ _ h; exact Za h
theorem ZkY (OK:POK g.P g.K g.tabs g.dn) (hc:CxOK g c n) (R:Rel g c σ) {i C:Nat} {t:Bool} {f:Lo} {x:Str} (hx:gd x=true) (ho : σ.h.get i=some (.exc C t f)) {ko:KA} {A:Around}
  (h:getX g.P (cN C) f (enc x) σ.h σ.nx ko=true) (hQ:PA g c σ ko Q):wpAny g.M A (getAttr (.ref (σ.ρ (2 * i))) x true) Q Er σ.s:=by
 refine byG fun G fin=>Zc h fun ci hci h1=>Zf h1 fun h2 h3=>Zc h3 fun ca ha h4=>Zf h4 fun hca h5=>Zc h5 fun w hw hk=>?_
 clear h h1 h3 h4 h5
 obtain rfl:=Zbv hca
 have h2:=Yn h2
 have CO:=OK.cls (cN C) ci hci
 have hC:excV (cN C)=.ref (cN C):=if_neg (Nat.not_lt.mpr (CO.own (.inr (.inr h2))))
 have q:=CO.attr x _ hx ha
 rw[hC] at q
 obtain⟨o,vs,m,k,e,z,tb,own,_⟩:ExcR g σ _ _ C t f:=R.trk i _ ho
 cases f with
 | nil=>exact Ze hw
 | cons p f=>
  obtain⟨od,es,nn,b,kk,_,lr⟩:=own
  have l:=lr x hx
  rw[hw] at l
  obtain⟨rw',e',vr⟩:=l
  have T:=R.tok (σ.s.toks + 1)
  have I:InstAt σ.s.heap (σ.ρ (2 * i)) o (cN C) (some (dictOf es nn)):=⟨(R.N _ m).1,k.trans hC,by unfold notCls; rw[e],by rw[od]; exact(R.N _ b).1⟩
  exact fin (ZjC (hc.X R) I (CO.getx h2) (findObj_own (CO.dict (.inr h2)) q rfl (by rw[lookIn_dict,ZaE kk,e'])) vr.handed (hQ _ w _ T.1 T.2 rfl (vr.mono T.2 R) hk))
theorem ZkZ (OK:POK g.P g.K g.tabs g.dn) (HA:AllS g r n) (hc:CxOK g c (n + 1)) (R:Rel g c σ) {v:V} {rv:Value} {x:Str} (hx:gd x=true) (hv:VR g σ v rv) {ko:KA} (h:getA g.P r v (enc x) c.hd σ.h σ.nx ko=true) (hQ:PA g c σ ko Q) :
  wpAny g.M c.A (getAttr rv x true) Q Er σ.s:=by
 have h0:(@Option.rec Nat (fun _=>Bool) (@Option.rec (Nat × List Nat × List V) (fun _=>Bool) (og (vTop v) fun c=>bif Nat.ble 20 c then og (ZJ g.P c (enc x)) fun ca=>ZaS ca false false (fun _=>false) (fun x=>ko x σ.h σ.nx) (fun _=>false) (fun _=>false) else false) (fun p=>getF g.P p (enc x) σ.h σ.nx ko) (vFr v))
  (fun a=>og (σ.h.get a) fun o=>selO o false (fun C f=>getI g.P r v C f (enc x) c.hd σ.h σ.nx ko) (fun C f=>getX g.P (cN C) f (enc x) σ.h σ.nx ko) (fun _=>false) (fun _ _=>false) (fun _=>false)) (vRef v))=true:=h
 clear h
 cases q:vRef v with
 | some i=>
  rw[q] at h0
  obtain rfl:=Zk q
  obtain⟨rfl,_⟩:=hv
  refine Zc h0 fun o ho h=>Zcw h ?_ ?_ ?_ ?_ ?_
  ·rintro C f rfl h; exact Zht OK HA hc R hx (R.instV ho) h hQ
  ·rintro C t f rfl h; exact ZkY OK hc R hx ho h hQ
  ·intro _ _ h; exact Za h
  ·intro _ _ _ h; exact Za h
  ·intro _ _ h; exact Za h
 | none=>
  rw[q] at h0
  cases qf:vFr v with
  | some p=>
   rw[qf] at h0
   cases v with
   | fr k ks vs=>
    obtain rfl:=Option.some.inj (show some (k,ks,vs)=some p from qf)
    refine Zf h0 fun hb h1=>?_
    obtain⟨h3,ok⟩:=Yb hb
    obtain⟨C,rfl⟩:∃ C,k=C + 3:=⟨k - 3,by have:=Nat.le_of_ble_eq_true h3; omega⟩
    obtain⟨a,rfl,I⟩:=R.instF hv
    refine Zht (r:=r) OK HA hc R hx I (ko:=ko) ?_ hQ
    have h1:og (ZJ g.P C (enc x)) _=true:=h1
    have ok:Zav g.P C=true:=ok
    show (bif Zav g.P C then _ else false)=true
    rw[ok]
    refine Zc h1 fun ca hca h2=>?_
    show og (ZJ g.P C (enc x)) _=true
    rw[hca]
    cases ca <;> first | exact h2 | exact Za h2
   | _=>exact Ze qf
  | none=>
  rw[qf] at h0
  refine Zc h0 fun C hC h1=>Zf h1 fun q20 h1=>Zc h1 fun ca ha h2=>?_
  clear h0 h1
  obtain rfl:=Zbt hC
  obtain⟨rfl,_⟩:=hv
  have T:=R.tok (σ.s.toks + 1)
  obtain⟨ci,hci,hl,at_⟩:=OK.attr hx ha
  refine ZaL h2 ?_ ?_ ?_ ?_ ?_ ?_
  ·intro _ h; exact Za h
  ·intro _ h; exact Za h
  ·intro _ _ h; exact Za h
  ·rintro y rfl h
   obtain⟨ry,_,_,_,hh,_,hvr,hr⟩:=at_
   have e:excV C=.ref C:=if_neg (Nat.not_lt.mpr (Nat.le_of_ble_eq_true q20))
   obtain⟨hr,hfc⟩:=hr C e
   rw[e] at hfc
   exact cls_value (hc.X R) hr hfc hh (hQ _ y _ T.1 T.2 rfl (hvr g _) h)
  ·intro _ _ h; exact Za h
  ·intro _ _ h; exact Za h
theorem Zk0 (OK:POK g.P g.K g.tabs g.dn) (HA:AllS g r n) (hc:CxOK g c (n + 1)) (R:Rel g c σ) {o:PySem.Expr} {x:Str} {pos:Pos} {ko:V→KS} {ke:Nat→KS} (hg:(gd x&&ZD o)=true)
  (h:Zg9 (enc x) (cE k c.env.scope.names o) g.P r c.hd σ.h σ.nx σ.lo ko ke=true) (hQ:PV g c σ ko Q) (hE:PX g c σ ke Er):wpAny g.M c.A (eval (.Attribute o x pos) c.env) Q Er σ.s:=by
 have hg:=Yb hg
 rw[arm_eval_Attribute,ZbO hg.2]
 refine wpAny_bind (HA.ev c hc.down k o σ R _ _ h _ _ (fun σ' v rv R' X' vr hk=>wpAny_bind (wpAny_standAt (wpAny_bind (wpAny_holding (ZkZ OK HA hc R' hg.1 vr hk (fun σ'' w rw R'' X'' hl vr' hk=>?_)))))) hE)
 exact wpAny_bind (wpAny_letTemporaryGo (wpAny_pure (hQ σ'' w rw R'' (X'.trans X'') vr' (hl ▸ hk))))
end
theorem ZeE:entryFor table "proto.unchain" = some Builtin.«proto.unchain»:=entryFor_of_fast (by kernel_rfl)
section
variable {prog:Program} {w:World} {A:Around} {s:Shared} {E:Value→Shared→Prop}
theorem Zfj {a he:Addr} {oh o:Obj} {vs ws:Array Value} {α : Type} {Q : α→Shared→Prop} (hh:A.handled=some (.ref he)) (hne:he≠a) (ho:s.heap.get? he=some oh) (hd:oh.data=.fields vs) (hx:vs[2]? = some .none)
  (oa:s.heap.get? a=some o) (od:o.data=.fields ws) (oz : 2 < ws.size) (h:E (.ref a) { s with heap:=s.heap.update a (Obj.mapFields (·.setIfInBounds 2 (.ref he))) }):wpAny (model prog w) A (raiseNew (.ref a):Sem α) Q E s:=by
 unfold raiseNew
 refine wpAny_bind (wpAny_handled ?_)
 rw[hh]
 dsimp only
 rw[if_pos (show (Value.ref he != Value.ref a)=true by simp [bne_iff_ne,hne])]
 refine wpAny_bind (wpAny_holding (wpAny_runValue (codeAny_builtin ZeE ?_)))
 show wpAny _ _ (field (.ref he) 2 >>= _) _ _ s
 refine wpAny_bind (wpAny_field ho hd hx ?_)
 rw[if_pos (show (Value.none==Value.none)=true from rfl)]
 refine wpAny_pure ?_
 show wpAny _ _ (updateField a 2 (.ref he) >>= fun _=>throw (.ref a)) _ _ s
 refine wpAny_bind (wpAny_setField (i:=2) (x:=.ref he) oa od oz ?_)
 exact wpAny_throw h
noncomputable def Zau (A:Around) (s:Shared) (it:Addr):Prop:=A.handled=none∨∃ he oh vs,A.handled=some (.ref he)∧he≠it∧s.heap.get? he=some oh∧oh.data=.fields vs∧vs[2]? = some .none
theorem Zd7 {it:Addr} {h0:Heap} {α : Type} {Q : α→Shared→Prop} (hh:Zau A { s with heap:=h0 } it) (x:Heap.ExtBut it h0 s.heap) (h:∀ h' a,Heap.ExtBut it h0 h'→({ s with heap:=h' }:Shared).TypeIs (.ref a) "StopIteration"→E (.ref a) { s with heap:=h' }) :
  wpAny (model prog w) A (newExc (.type "StopIteration") [] >>= fun e=>(raiseNew e:Sem α)) Q E s:=by
 refine wpAny_bind ?_
 simp only [newExc,newTuple]
 refine wpAny_bind (wpAny_newObj_type ?_ (by size_fits))
 refine wpAny_bind (m:=firstArgMember _ _) (wpAny_of_eq (a:=Value.none) (by first | rfl | (simp only [firstArgMember]; rfl)) ?_)
 refine wpAny_newObj_type ?_ (by size_fits)
 have x2:=(x.push { cls:=.type "tuple",data:=.seq #[] }).push { cls:=.type "StopIteration",data:=.fields (#[.ref s.heap.objs.size,.none,.none,.none,.bool false,.none]++ownMembersOf (.type "StopIteration") []) }
 rcases hh with hh | ⟨he,oh,vs,hh,hne,ho,hd,hx⟩
 ·simp only [raiseNew]
  refine wpAny_bind (wpAny_handled ?_)
  rw[hh]
  refine wpAny_bind (wpAny_pure (wpAny_throw ?_))
  exact h _ _ x2 ⟨_,Heap.get?_push_size _ rfl,rfl⟩
 ·have o2:=x2 he oh hne ho
  have a2:((s.heap.push { cls:=.type "tuple",data:=.seq #[] }).push { cls:=.type "StopIteration",data:=.fields (#[.ref s.heap.objs.size,.none,.none,.none,.bool false,.none]++ownMembersOf (.type "StopIteration") []) }).get? (s.heap.push { cls:=.type "tuple",data:=.seq #[] }).objs.size=some _:=Heap.get?_push_size _ rfl
  have hn:he≠(s.heap.push { cls:=.type "tuple",data:=.seq #[] }).objs.size:=fun q=>by
   have:=Heap.lt_size (x he oh hne ho)
   rw[Heap.size_push] at q
   rw[q] at this
   exact absurd this (Nat.not_lt.mpr (Nat.le_succ _))
  refine Zfj hh hn o2 hd hx a2 rfl (show 2 < 6 by decide) (h _ _ (fun b o hb e=>?_) ?_)
  ·have e1:=x b o hb e
   have hb2:b≠(s.heap.push { cls:=.type "tuple",data:=.seq #[] }).objs.size:=fun q=>by
    have:=Heap.lt_size e1
    rw[Heap.size_push] at q
    rw[q] at this
    exact absurd this (Nat.not_lt.mpr (Nat.le_succ _))
   exact(Heap.get?_update_other _ _ (Ne.symm hb2)).trans (x2 b o hb e)
  ·exact⟨_,Heap.get?_update_self _ a2 rfl,rfl⟩
theorem Zck {it l:Addr} {i:Nat} {items:Array Value} {Q:Option Value→Shared→Prop} (hh:Zau A s it) (hit:s.heap.IsListIter it l i) (hl:s.heap.IsList l items) (hx:items[i]? = none)
  (hQ:∀ h',Heap.ExtBut it s.heap h'→Q none { s with heap:=h' }):wpAny (model prog w) A (pyNext (.ref it)) Q E s:=by
 obtain⟨o,ho,hc,hd⟩:=id hit
 obtain⟨ol,hol,_,nl,hdl⟩:=hl
 unfold pyNext
 refine wpAny_bind (wpAny_attempt (wpAny_callSpecial?_slot (name:=Str.ofString "__next__") hit.typeIs slot_listiter_next (wpAny_call_entry slot_listiter_next hit.typeIs entry_listiter_next ?_ (args_listiter_next _))))
 show wpAny _ _ (field (.ref it) 0 >>= _) _ _ s
 refine wpAny_bind (wpAny_field ho hd (x:=.ref l) rfl ?_)
 show wpAny _ _ (if (Value.ref l==Value.none)=true then _ else _) _ _ s
 rw[if_neg (show ¬ ((Value.ref l==Value.none)=true) from Bool.false_ne_true)]
 show wpAny _ _ (field (.ref it) 1 >>= _) _ _ s
 refine wpAny_bind (wpAny_field ho hd (x:=.int i 0) rfl ?_)
 show wpAny _ _ (seqItems? (.ref l) >>= _) _ _ s
 refine wpAny_bind (wpAny_seqItems hol hdl ?_)
 simp only [Int.toNat_natCast,hx]
 refine wpAny_bind (wpAny_rule (wpAny_bind (wpAny_setField ho hd (by simp) ?_)))
 refine Zd7 (it:=it) (h0:=s.heap) (A:=A.in1) hh (Heap.SameBut.update ..).extBut fun h' a x T=>?_
 exact wpAny_bind (wpAny_isInstance T isSubtype_stop (wpAny_pure (hQ _ x)))
theorem Zd8 {it t:Addr} {i:Nat} {items:Array Value} {Q:Option Value→Shared→Prop} (hh:Zau A s it) (hit:s.heap.IsTupleIter it t i) (ht:s.heap.IsTuple t items) (hx:items[i]? = none)
  (hQ:∀ h',Heap.ExtBut it s.heap h'→Q none { s with heap:=h' }):wpAny (model prog w) A (pyNext (.ref it)) Q E s:=by
 obtain⟨o,ho,hc,hd⟩:=id hit
 obtain⟨ol,hol,_,nl,hdl⟩:=ht
 unfold pyNext
 refine wpAny_bind (wpAny_attempt (wpAny_callSpecial?_slot (name:=Str.ofString "__next__") hit.typeIs F.slot_tuple_iterator_next (wpAny_call_entry F.slot_tuple_iterator_next hit.typeIs F.entry_tuple_iterator_next ?_ (F.args_tuple_iterator_next_1 _))))
 show wpAny _ _ (field (.ref it) 0 >>= _) _ _ s
 refine wpAny_bind (wpAny_field ho hd (x:=.ref t) rfl ?_)
 show wpAny _ _ (if (Value.ref t==Value.none)=true then _ else _) _ _ s
 rw[if_neg (show ¬ ((Value.ref t==Value.none)=true) from Bool.false_ne_true)]
 show wpAny _ _ (field (.ref it) 1 >>= _) _ _ s
 refine wpAny_bind (wpAny_field ho hd (x:=.int i 0) rfl ?_)
 show wpAny _ _ (seqItems? (.ref t) >>= _) _ _ s
 refine wpAny_bind (wpAny_seqItems hol hdl ?_)
 simp only [Int.toNat_natCast,hx]
 refine wpAny_bind (wpAny_rule (wpAny_bind (wpAny_setField ho hd (by simp) ?_)))
 refine Zd7 (it:=it) (h0:=s.heap) (A:=A.in1) hh (Heap.SameBut.update ..).extBut fun h' a x T=>?_
 exact wpAny_bind (wpAny_isInstance T isSubtype_stop (wpAny_pure (hQ _ x)))
theorem Zd9 {it:Addr} {x left step:Int} {Q:Option Value→Shared→Prop} (hh:Zau A s it) (hit:IsRangeIter s.heap it x left step) (hleft:left≤0)
  (hQ:∀ h',Heap.ExtBut it s.heap h'→Q none { s with heap:=h' }):wpAny (model prog w) A (pyNext (.ref it)) Q E s:=by
 have hT:s.TypeIs (.ref it) "range_iterator":=⟨_,hit,rfl⟩
 unfold pyNext
 refine wpAny_bind (wpAny_attempt (wpAny_callSpecial?_slot (name:=Str.ofString "__next__") hT F.slot_range_iterator_next (wpAny_call_entry F.slot_range_iterator_next hT F.entry_range_iterator_next ?_ (F.args_range_iterator_next_1 _))))
 show wpAny _ _ (field (.ref it) 0 >>= _) _ _ s
 refine wpAny_bind (wpAny_field hit rfl (x:=rawInt x) rfl ?_)
 show wpAny _ _ (field (.ref it) 1 >>= _) _ _ s
 refine wpAny_bind (wpAny_field hit rfl (x:=rawInt left) rfl ?_)
 show wpAny _ _ (field (.ref it) 2 >>= _) _ _ s
 refine wpAny_bind (wpAny_field hit rfl (x:=rawInt step) rfl ?_)
 show wpAny _ _ (if left≤0 then _ else _) _ _ s
 rw[if_pos hleft]
 refine wpAny_bind (wpAny_rule ?_)
 refine wpAny_bind ?_
 refine Zd7 (it:=it) (h0:=s.heap) (A:=A.in1) hh (Heap.ExtBut.refl it s.heap) fun h' a x T=>?_
 exact wpAny_bind (wpAny_isInstance T isSubtype_stop (wpAny_pure (hQ _ x)))
end
section
variable {A₀:Around} {base g0 h h5:Heap} {outer:List Env} {L:Addr} {m:Str→Option Value} {env:Env}
theorem Zfk (hf:env.frame=some L) {b:Addr}:b ∈ (env :: outer).filterMap (·.frame) ↔ b=L∨b ∈ outer.filterMap (·.frame):=by
 rw[List.filterMap_cons,hf]
 exact List.mem_cons
theorem Zc6 (K:Below A₀ base outer g0) (F:Fr g0 L h m) (hf:env.frame=some L) (hG:∀ b o,g0.get? b=some o→b ∉ (env :: outer).filterMap (·.frame)→h5.get? b=some o) (hu:h.UpToSlots h5) :
  ∃ gr,KtsTurn (outer.filterMap (·.frame)) g0 gr∧Below A₀ base outer gr∧Fr gr L h5 m:=by
 obtain⟨T,S⟩:=kts_turn_at (h:=h5) (fs:=outer.filterMap (·.frame)) (g:=g0) (fun b hb=>by
   obtain⟨_,o,ho,_⟩:=K.frames.mem hb
   exact⟨o,ho⟩)
  (fun b o q hb=>hG b o q fun hm=>by
   rcases(Zfk hf).mp hm with rfl | hm
   ·rw[kts_self F] at q; cases q
   ·exact hb hm)
  (fun b o q hb=>hu b o (F.keep b o q) (by
   obtain⟨_,o',ho,hd⟩:=K.frames.mem hb
   rw[q] at ho; cases ho
   exact hd))
 refine⟨_,T,⟨K.stack,fun b o q=>T.other b o (K.stays b o q) fun hm=>?_,K.frames.of_keeps fun b o q _=>?_⟩,⟨hu.ns F.ns,S,by rw[T.size]; exact F.above⟩⟩
 ·rw[(K.frames.mem hm).1] at q; cases q
 ·obtain⟨sl,q'⟩:=T.up q
  exact⟨_,q',rfl⟩
end
section
variable {g:Gl} {n:Nat} {c:Cx} {σ : St} {Er:Value→Shared→Prop} {A:Around}
theorem ZB (R:Rel g c σ) {d:Addr} {o o':Obj} (hm:(d,o) ∈ σ.news) {h':Heap} (hs:Heap.SameBut d σ.s.heap h') (ho:h'.get? d=some o'):Fr σ.g0 c.L h' σ.m∧News σ.g0 c.L h' (setN σ.news d o'):=by
 have hd:=R.N _ hm
 refine⟨⟨R.F.ns.sameBut hs (Ne.symm hd.2.1),fun b ob e=>?_,R.F.above⟩,fun p hp=>?_⟩
 ·have hne:b≠d:=fun q=>by rw[q,hd.2.2] at e; cases e
  rw[hs.2 b hne]; exact R.F.keep b ob e
 ·obtain⟨p',hp',rfl⟩:=List.mem_map.mp hp
  by_cases q:p'.1=d
  ·rw[if_pos q]; exact⟨ho,hd.2⟩
  ·rw[if_neg q]; exact⟨(hs.2 _ q).trans (R.N _ hp').1,(R.N _ hp').2⟩
noncomputable abbrev Quiet (σ σ':St):Prop:=σ'.h = σ.h∧σ'.nx = σ.nx∧σ'.lo = σ.lo∧σ'.ρ = σ.ρ
theorem Zk1 {o:Obj} {v:Value} (h:Tb o):Tb (Obj.mapFields (·.setIfInBounds 3 v) o):=by
 obtain⟨ts,d,z,q⟩:=h
 exact⟨_,Obj.data_mapFields d _,by rw[Array.size_setIfInBounds]; exact z,fun q' t' e=>q q' t' (by rw[Array.getElem?_setIfInBounds_ne (by decide)] at e; exact e)⟩
theorem Zf1 (R:Rel g c σ) {T:Addr} (t:TbAt g σ T) {v:Value} {Q:Unit→Shared→Prop} (hQ:∀ σ',Rel g c σ'→Ext g c σ σ'→Quiet σ σ'→Q () σ'.s):wpAny g.M A (setField (.ref T) 3 v) Q Er σ.s:=by
 obtain⟨o,p,tb⟩:=t
 obtain⟨ts,d,z,_⟩:=id tb
 have d':=Obj.data_mapFields d (·.setIfInBounds 3 v)
 refine wpAny_setField (R.N _ p.1).1 d z ?_
 obtain⟨F',N'⟩:=ZB R p.1 (Heap.SameBut.update ..) (Heap.get?_update_self (Obj.mapFields (·.setIfInBounds 3 v)) (R.N _ p.1).1 (Obj.isFreed_of_fields d'))
 have nd:∀ es n,o.data≠.dict es n:=by rw[d]; nofun
 obtain⟨R',_,Y,_⟩:=R.turn (tk:=σ.s.toks) p nd (fun t=>t.2.1 tb) (fun _=>Zk1 tb) F' N'
 exact hQ _ R' (Y σ (.refl ..) fun x q=>by rw[Zn R.N q.1 p.1]; exact tb) ⟨rfl,rfl,rfl,rfl⟩
theorem ZQ (R:Rel g c σ) {i C:Nat} {t:Bool} {f:Lo} (ho : σ.h.get i=some (.exc C t f)) {fr:Option Addr} {Q:Unit→Shared→Prop} (hQ:∀ σ',Rel g c σ'→Ext g c σ σ'→Quiet σ σ'→Q () σ'.s) :
  wpAny g.M A (setFlight (.ref (σ.ρ (2 * i))) fr) Q Er σ.s:=by
 obtain⟨oe,vs,m,k,d,z,tb,own,cx⟩:ExcR g σ _ _ C t f:=R.trk i _ ho
 unfold setFlight
 cases t with
 | true=>
  obtain⟨T,e,tb⟩:=tb
  refine wpAny_bind (wpAny_field (R.N _ m).1 d e ?_)
  rw[if_pos (show (Value.ref T != Value.none)=true from rfl)]
  exact Zf1 R tb hQ
 | false=>
  refine wpAny_bind (wpAny_field (R.N _ m).1 d tb ?_)
  rw[if_neg (by decide)]
  exact wpAny_pure (hQ σ R (.refl ..) ⟨rfl,rfl,rfl,rfl⟩)
noncomputable def Zbb (h:H) (i C:Nat) (t:Bool) (f:Lo):H:=bif t then h else hp h i (.exc C true f)
theorem Z7 {h:H} {i C:Nat} {t:Bool} {f:Lo} (e:h.get i=some (.exc C t f)) (j:Nat):(Zbb h i C t f).get j=if j=i then some (.exc C true f) else h.get j:=by
 cases t with
 | true=>
  by_cases q:j=i
  ·rw[if_pos q,q]; exact e
  ·rw[if_neg q]; rfl
 | false=>exact Zm _ _ _ _
theorem ZaM {h:H} {i C:Nat} {t:Bool} {f:Lo} {k:H→Bool} (e:h.get i=some (.exc C t f)) (hk:Zz h i k=true):k (Zbb h i C t f)=true:=by
 refine Zc hk fun p hp hk=>?_
 have q:=Z9 hp
 rw[e] at q
 injection q with q
 injection q with q1 q2 q3
 subst q1 q2 q3
 unfold Zbb
 cases q:p.2.1 with
 | true=>rw[q] at hk; exact hk
 | false=>rw[q] at hk; exact hk
theorem Zf2 (hc:CxOK g c n) (R:Rel g c σ) {i C:Nat} {t:Bool} {f:Lo} (ho : σ.h.get i=some (.exc C t f)) {head:Value} {had:Bool} {Q:Unit→Shared→Prop}
  (hQ:∀ σ',Rel g c σ'→Ext g c σ σ'→σ'.h=Zbb σ.h i C t f→σ'.nx = σ.nx→σ'.lo = σ.lo→σ'.ρ = σ.ρ→Q () σ'.s) :
  wpAny g.M c.A (do let a ← frameOf c.fenv; let pl ← entryPlaceOf c.L had; let b ← EntryCells.newEntry head a .none (rawInt c.L) .none pl; setField (.ref (σ.ρ (2 * i))) 1 b) Q Er σ.s:=by
 obtain⟨oe,vs,m,k,d,z,tb,own,cx⟩:ExcR g σ _ _ C t f:=R.trk i _ ho
 obtain⟨A₀,B₀⟩:=R.B
 have FF:=(pushX B₀ R.F hc.ff hc.fk).frames
 have nofr:∀ {a o},(a,o) ∈ σ.news→a ∉ (c.fenv :: c.outer).filterMap (·.frame):=fun {a o} hm hf=>by
  rcases(Zfk hc.ff).mp hf with q | q
  ·exact(R.N _ hm).2.1 q
  ·obtain⟨_,o',ho',_⟩:=B₀.frames.mem q
   rw[(R.N _ hm).2.2] at ho'; cases ho'
 refine wpAny_bind (wpAny_frameOf_fun hc.fr FF hc.ff fun h₁ hs₁=>?_)
 refine wpAny_bind (wpAny_entryPlaceOf fun pl hpl=>?_)
 unfold EntryCells.newEntry newFields
 refine wpAny_bind (wpAny_newObj_type ?_ (hpl.sizeOk5 _ _ _ _ _))
 have old:∀ {a o},(a,o) ∈ σ.news→h₁.get? a=some o:=fun {a o} hm=>(hs₁.2.1 a (nofr hm)).trans (R.N _ hm).1
 generalize hT:({ cls:=.type "traceback",dict:=none,data:=.fields ([head,.ref c.L,.none,rawInt c.L,.none]++(if pl.isEmpty then List.replicate 6 Value.none else pl)).toArray }:Obj)=oT
 have tbT:Tb oT:=by
  subst hT
  refine⟨_,rfl,?_,fun q t e=>?_⟩
  ·simp only [List.size_toArray,List.length_append,List.length_cons,List.length_nil]
   omega
  ·cases e
 have he₂:(h₁.push oT).get? (σ.ρ (2 * i))=some oe:=Heap.get?_push_of_some _ (old m)
 refine wpAny_setField he₂ d (Nat.lt_trans (by decide) z) ?_
 have d₃:=Obj.data_mapFields d (·.setIfInBounds 1 (Value.ref h₁.objs.size))
 have hT0:h₁.objs.size = σ.s.heap.objs.size:=hs₁.1
 have fresh:∀ p ∈ σ.news,p.1 < h₁.objs.size:=fun p hp=>Heap.lt_size (old hp)
 have hTe : σ.ρ (2 * i)≠h₁.objs.size:=Nat.ne_of_lt (fresh _ m)
 generalize hh₃:(h₁.push oT).update (σ.ρ (2 * i)) (Obj.mapFields (·.setIfInBounds 1 (Value.ref h₁.objs.size)))=h₃
 have ge:h₃.get? (σ.ρ (2 * i))=some (Obj.mapFields (·.setIfInBounds 1 (Value.ref h₁.objs.size)) oe):=by rw[← hh₃]; exact Heap.get?_update_self _ he₂ (Obj.isFreed_of_fields d₃)
 have ga:∀ b o,b≠σ.ρ (2 * i)→h₁.get? b=some o→h₃.get? b=some o:=fun b o hb q=>by rw[← hh₃,Heap.get?_update_other _ _ (Ne.symm hb)]; exact Heap.get?_push_of_some _ q
 have gT:h₃.get? h₁.objs.size=some oT:=by
  rw[← hh₃,Heap.get?_update_other _ _ hTe]
  exact Heap.get?_push_size _ (by subst hT; rfl)
 have dd:(Obj.mapFields (·.setIfInBounds 1 (Value.ref h₁.objs.size)) oe).dict=oe.dict:=by unfold Obj.mapFields; split <;> rfl
 have kk:(Obj.mapFields (·.setIfInBounds 1 (Value.ref h₁.objs.size)) oe).cls=excV (cN C):=(Obj.cls_mapFields _ _).trans k
 have z₃ : 5 < (vs.setIfInBounds 1 (Value.ref h₁.objs.size)).size:=by rw[Array.size_setIfInBounds]; exact z
 have t₃:(vs.setIfInBounds 1 (Value.ref h₁.objs.size))[1]? = some (.ref h₁.objs.size):=Array.getElem?_setIfInBounds_self_of_lt (Nat.lt_trans (by decide) z)
 have x₃:C < nX→(vs.setIfInBounds 1 (Value.ref h₁.objs.size))[2]? = some .none:=fun q=>(Array.getElem?_setIfInBounds_ne (by decide)).trans (cx q)
 generalize Obj.mapFields (·.setIfInBounds 1 (Value.ref h₁.objs.size)) oe=oe' at ge d₃ dd kk
 generalize vs.setIfInBounds 1 (Value.ref h₁.objs.size)=vs' at d₃ z₃ t₃ x₃
 clear hh₃ he₂ hT
 obtain⟨gr,T,K',F'⟩:=Zc6 B₀ R.F hc.ff (h5:=h₃) (fun b o q hb=>ga b o (fun e=>by rw[e,(R.N _ m).2.2] at q; cases q) ((hs₁.2.1 b hb).trans (R.F.keep b o q))) fun b o q hd=>by
  obtain⟨sl,hs⟩:=hs₁.2.2 b o q
  exact⟨sl,ga b _ (fun e=>by rw[e,(R.N _ m).1] at q; cases q; exact hd vs d) hs⟩
 have above:c.L < h₁.objs.size:=by rw[hT0]; exact R.F.ns.lt
 have keys:∀ p ∈ setN σ.news (σ.ρ (2 * i)) oe',p.1 < h₁.objs.size:=fun p hp=>by
  obtain⟨p',hp',rfl⟩:=List.mem_map.mp hp
  by_cases q:p'.1 = σ.ρ (2 * i)
  ·rw[if_pos q]; exact fresh (_,oe) m
  ·rw[if_neg q]; exact fresh _ hp'
 have N':News gr c.L h₃ ((h₁.objs.size,oT) :: setN σ.news (σ.ρ (2 * i)) oe'):=fun p hp=>by
  rcases List.mem_cons.mp hp with rfl | hp
  ·exact⟨gT,Nat.ne_of_gt above,T.none_ _ (Heap.get?_none_of_le (Nat.le_trans R.F.above (Nat.le_of_lt above)))⟩
  ·obtain⟨p',hp',rfl⟩:=List.mem_map.mp hp
   by_cases q:p'.1 = σ.ρ (2 * i)
   ·rw[if_pos q]; exact⟨ge,(R.N _ m).2.1,T.none_ _ (R.N _ m).2.2⟩
   ·rw[if_neg q]; exact⟨ga _ _ q (old hp'),(R.N _ hp').2.1,T.none_ _ (R.N _ hp').2.2⟩
 have ue:Use σ.h (2 * i):=Zh ho
 have us:∀ j,Use (Zbb σ.h i C t f) j→Use σ.h j:=fun j u=>by
  unfold Use at u ⊢
  rw[Z7 ho] at u
  by_cases q:j / 2=i
  ·rw[if_pos q] at u; rw[q,ho]; exact u
  ·rw[if_neg q] at u; exact u
 have fr:=R.fresh fresh
 have H:Chg g c σ { σ with h:=Zbb σ.h i C t f,news:=(h₁.objs.size,oT) :: setN σ.news (σ.ρ (2 * i)) oe',s:={ σ.s with heap:=h₃ },g0:=gr } (fun a=>a = σ.ρ (2 * i)):=by
  refine⟨F',N',ZbK (by rw[Z5]; exact R.nd) keys,rfl,rfl,Nat.le_refl _,fun _ _=>rfl,fun _ _=>rfl,fun p hp n=>.tail _ (Zs hp n),fun a o p _ e=>p.2.1 _ ue e.symm,fun T' ht e=>?_,fun q hq e=>R.tabU hq _ ue e.symm,fun j u=>.inl (us j u),fun j _ u _ n _ _=>absurd (us j u) n,fun j hj=>?_,fun j x hx=>?_,
   fun Z=>R.locK Z rfl rfl fun n x hm=>.tail _ (Zs hm fun q=>(R.locU n).1 _ ue q.symm),fun _=>rfl,T,⟨A₀,K'⟩⟩
  ·obtain⟨x,q,_⟩:=ht; exact(q.2.1 _ ue e.symm).elim
  ·show (Zbb σ.h i C t f).get j=none
   rw[Z7 ho,if_neg (fun q:j=i=>absurd (R.lt ho) (Nat.not_lt.mpr (q ▸ hj)))]; exact R.fr j hj
  ·have hx:(Zbb σ.h i C t f).get j=some x:=hx
   rw[Z7 ho] at hx
   by_cases q:j=i
   ·rw[if_pos q] at hx; cases hx; subst q
    refine .inr fun Z=>⟨_,_,.tail _ (Zu m),kk,d₃,z₃,⟨h₁.objs.size,t₃,oT,⟨.head _,fun j u=>fr.1 j (us j u),fr.2⟩,tbT⟩,?_,x₃⟩
    cases f with
    | nil=>exact dd.trans own
    | cons p f=>
     refine⟨dd.trans own.1,own.2.mono0 Z fun x hm=>.tail _ (Zs hm fun e=>?_)⟩
     have:=R.inj _ _ (ZR ho rfl) ue e
     exact absurd this (Nat.succ_ne_self _)
   ·rw[if_neg q] at hx
    exact .inl ⟨hx,fun l ul hl e=>q (hl.symm.trans ((congrArg (· / 2) (R.inj l _ ul ue e)).trans (Zr i)))⟩
 obtain⟨R',X⟩:=R.to H fun a o p _ _ e=>p.2.1 _ ue e.symm
 exact hQ _ R' X rfl rfl rfl rfl
theorem Zbl (hc:CxOK g c n) (R:Rel g c σ) {i C:Nat} {t:Bool} {f:Lo} (ho : σ.h.get i=some (.exc C t f)) {Q:Unit→Shared→Prop}
  (hQ:∀ σ',Rel g c σ'→Ext g c σ σ'→σ'.h=Zbb σ.h i C t f→σ'.nx = σ.nx→σ'.lo = σ.lo→σ'.ρ = σ.ρ→Q () σ'.s):wpAny g.M c.A (noteFrame (.ref (σ.ρ (2 * i))) c.fenv) Q Er σ.s:=by
 obtain⟨oe,vs,m,k,d,z,tb,own,cx⟩:ExcR g σ _ _ C t f:=R.trk i _ ho
 unfold noteFrame
 simp only [hc.ff]
 cases t with
 | false=>
  refine wpAny_bind (wpAny_field (R.N _ m).1 d tb ?_)
  rw[if_neg (by decide)]
  exact Zf2 hc R ho hQ
 | true=>
  obtain⟨T,e,tb⟩:=tb
  refine wpAny_bind (wpAny_field (R.N _ m).1 d e ?_)
  rw[if_pos (show (Value.ref T != Value.none)=true from rfl)]
  obtain⟨oT,p,⟨ts,dT,zT,qT⟩⟩:=id tb
  obtain⟨x,hx⟩:∃ x,ts[3]? = some x:=⟨_,Array.getElem?_eq_getElem zT⟩
  refine wpAny_bind (wpAny_field (R.N _ p.1).1 dT hx ?_)
  by_cases q:(x==rawInt c.L)=true
  ·rw[if_pos q]
   exact wpAny_pure (hQ σ R (.refl ..) rfl rfl rfl rfl)
  ·rw[if_neg q]
   refine wpAny_bind (Zf1 R tb fun σ' R' X' e=>?_)
   obtain⟨e1,e2,e3,e4⟩:=e
   rw[← e4]
   refine Zf2 hc R' (by rw[e1]; exact ho) fun σ'' R'' X'' f1 f2 f3 f4=>hQ σ'' R'' (X'.trans X'') (by rw[f1,e1]) (f2.trans e2) (f3.trans e3) (f4.trans e4)
theorem ZgF (hc:CxOK g c n) (R:Rel g c σ) {i:Nat} (x:IsX σ i) {fr:Option Addr} {k:H→Bool} (hk:Zz σ.h i k=true) {Q:Unit→Shared→Prop}
  (hQ:∀ σ',Rel g c σ'→Ext g c σ σ'→IsX σ' i→k σ'.h=true→σ'.nx = σ.nx→σ'.lo = σ.lo→σ'.ρ = σ.ρ→Q () σ'.s):wpAny g.M c.A (noteFrame (.ref (σ.ρ (2 * i))) c.fenv >>= fun _=>setFlight (.ref (σ.ρ (2 * i))) fr) Q Er σ.s:=by
 obtain⟨C,t,f,ho⟩:=x
 have hk:=ZaM ho hk
 refine wpAny_bind (Zbl hc R ho fun σ' R' X' e1 e2 e3 e4=>?_)
 have ho' : σ'.h.get i=some (.exc C true f):=by rw[e1,Z7 ho,if_pos rfl]
 rw[← e4]
 exact ZQ R' ho' fun σ'' R'' X'' q=>hQ σ'' R'' (X'.trans X'') ⟨C,true,f,by rw[q.1]; exact ho'⟩ (by rw[q.1,e1]; exact hk) (q.2.1.trans e2) (q.2.2.1.trans e3) (q.2.2.2.trans e4)
end
section
variable {g:Gl} {r:Rec} {n:Nat} {c:Cx} {σ : St}
theorem SR.append {k:Lo} {rk:List (Str × Value)}:∀ {l:Lo} {rl:List (Str × Value)},SR g σ l rl→SR g σ k rk→SR g σ (l++k) (rl++rk):=fun {l}=>by
 induction l with
 | nil=>intro rl h1 h2; cases rl with | nil=>exact h2 | cons _ _=>exact h1.elim
 | cons p l ih=>intro rl h1 h2; cases rl with | nil=>exact h1.elim | cons q rl=>exact⟨h1.1,h1.2.1,h1.2.2.1,ih h1.2.2.2 h2⟩
theorem SR.one {x:Str} {v:V} {rv:Value} (hx:gd x=true) (hv:VR g σ v rv):SR g σ [(enc x,v)] [(x,rv)]:=⟨hx,rfl,hv,trivial⟩
theorem SR.zip:∀ {ns:List Str} {vs:List V} {rvs:List Value},(∀ x ∈ ns,gd x=true)→VRs g σ vs rvs→SR g σ ((ns.map enc).zip vs) (ns.zip rvs):=fun {ns}=>by
 induction ns with
 | nil=>intro vs rvs _ _; trivial
 | cons x ns ih=>
  intro vs rvs hg h
  cases vs with
  | nil=>cases rvs with | nil=>trivial | cons _ _=>exact h.elim
  | cons v vs=>cases rvs with | nil=>exact h.elim | cons w ws=>exact⟨hg x (.head _),rfl,h.1,ih (fun y hy=>hg y (.tail _ hy)) h.2⟩
theorem Zhu:∀ {ns:List Str} {x:Str},(∀ y ∈ ns,gd y=true)→gd x=true→mem (ns.map enc) (enc x)=true→ns.contains x=true:=fun {ns}=>by
 induction ns with
 | nil=>intro x _ _ h; exact Za h
 | cons y ns ih=>
  intro x hg hx h
  have h:mem (enc y :: ns.map enc) (enc x)=true:=h
  rw[mem_cons] at h
  rw[List.contains_cons]
  by_cases e:enc y=enc x
  ·rw[Zw (hg y (.head _)) hx e,beq_self_eq_true,Bool.true_or]
  ·rw[if_neg e] at h
   rw[ih (fun z hz=>hg z (.tail _ hz)) hx h,Bool.or_true]
theorem Zet {sl:Lo} {rs:List (Str × Value)} (h:SR g σ sl rs) {x:Str} (hx:gd x=true):(rs.lookup x).isSome=hasK sl (enc x):=by rw[ZbI]; exact(h.look x hx).isSome
noncomputable def ZdN:List (Str × Value)→List (Str × Value)→List (Str × Value)
 | sl,[]=>sl
 | sl,(k,v) :: l=>if (sl.lookup k).isNone then ZdN (sl ++ [(k,v)]) l else ZdN sl l
theorem Zk2:∀ {l:Lo} {rl:List (Str × Value)} {sl:Lo} {rs:List (Str × Value)},SR g σ l rl→SR g σ sl rs→SR g σ (addD l sl) (ZdN rs rl):=fun {l}=>by
 induction l with
 | nil=>intro rl sl rs h1 h2; cases rl with | nil=>exact h2 | cons _ _=>exact h1.elim
 | cons p l ih=>
  intro rl sl rs h1 h2
  cases rl with
  | nil=>exact h1.elim
  | cons q rl=>
   obtain⟨k,v⟩:=p
   obtain⟨x,rv⟩:=q
   obtain⟨hx,e,hv,hr⟩:=h1
   have e:enc x=k:=e
   subst e
   show SR g σ (bif hasK sl (enc x) then addD l sl else addD l (sl ++ [(enc x,v)])) (if (rs.lookup x).isNone=true then _ else _)
   have q:=Zet h2 hx
   rw[← Option.not_isSome,q]
   cases hasK sl (enc x) with
   | true=>exact ih hr h2
   | false=>exact ih hr (h2.append (.one hx hv))
theorem Zhv:∀ {ns:List Str} {sl:Lo} {rs:List (Str × Value)} {bs:Lo},SR g σ sl rs→(∀ x ∈ ns,gd x=true)→pick sl (ns.map enc)=some bs→SR g σ bs (ns.filterMap fun n=>(rs.lookup n).map (n,·))∧(∀ x ∈ ns,(rs.lookup x).isSome=true):=fun {ns}=>by
 induction ns with
 | nil=>intro sl rs bs _ _ e; cases e; exact⟨trivial,fun _ h=>nomatch h⟩
 | cons x ns ih=>
  intro sl rs bs h hg e
  refine Zi e fun v hv e=>Zi e fun l hl e=>?_
  obtain rfl:=Option.some.inj e
  obtain⟨rv,e2,vr⟩:OV g σ (some v) _:=hv ▸ h.look x (hg x (.head _))
  obtain⟨a,b⟩:=ih h (fun y hy=>hg y (.tail _ hy)) hl
  refine⟨?_,fun y hy=>?_⟩
  ·rw[List.filterMap_cons,e2]; exact⟨hg x (.head _),rfl,vr,a⟩
  ·rcases List.mem_cons.mp hy with rfl | hy
   ·rw[e2]; rfl
   ·exact b y hy
theorem Zk3:∀ {kw:Lo} {rkw:List (Str × Value)} {ns:List Str} {sl sl':Lo} {rs:List (Str × Value)},SR g σ kw rkw→SR g σ sl rs→(∀ x ∈ ns,gd x=true)→kwOK (ns.map enc) kw sl=some sl'→
  SR g σ sl' (rs++rkw)∧∀ (f:Str × Value→List (Str × Value) × List (Str × Value)→Sem (ForInStep (List (Str × Value) × List (Str × Value)))),
   (∀ p s,ns.contains p.1=true→(s.1.lookup p.1).isSome=false→f p s=pure (.yield (s.1 ++ [(p.1,p.2)],s.2)))→forIn rkw (rs,([]:List (Str × Value))) f=pure (rs++rkw,[]):=fun {kw}=>by
 induction kw with
 | nil=>
  intro rkw ns sl sl' rs h1 h2 _ e
  cases rkw with
  | cons _ _=>exact h1.elim
  | nil=>cases e; exact⟨by rw[List.append_nil]; exact h2,fun f _=>by rw[List.append_nil]; rfl⟩
 | cons p kw ih=>
  intro rkw ns sl sl' rs h1 h2 hg e
  cases rkw with
  | nil=>exact h1.elim
  | cons q rl=>
   obtain⟨k,v⟩:=p
   obtain⟨x,rv⟩:=q
   obtain⟨hx,e1,hv,hr⟩:=h1
   have e1:enc x=k:=e1
   subst e1
   have e:(bif mem (ns.map enc) (enc x)&&!hasK sl (enc x) then kwOK (ns.map enc) kw (sl ++ [(enc x,v)]) else none)=some sl':=e
   cases hc:(mem (ns.map enc) (enc x)&&!hasK sl (enc x)) with
   | false=>rw[hc] at e; exact Ze e
   | true=>
    rw[hc] at e
    obtain⟨hm,hn⟩:=Yb hc
    have hn:(rs.lookup x).isSome=false:=by rw[Zet h2 hx]; exact(Bool.not_eq_true' _).mp hn
    obtain⟨a,b⟩:=ih hr (h2.append (.one hx hv)) hg e
    have e3:rs++(x,rv) :: rl=rs ++ [(x,rv)]++rl:=by rw[List.append_assoc]; rfl
    rw[e3]
    refine⟨a,fun f hf=>?_⟩
    rw[List.forIn_cons,hf (x,rv) (rs,[]) (Zhu hg hx hm) hn,pure_bind]
    exact b f hf
theorem ZgG (f:Str × Value→List (Str × Value)→Sem (ForInStep (List (Str × Value)))) (hf:∀ p s,f p s=if (s.lookup p.1).isNone=true then pure (.yield (s ++ [(p.1,p.2)])) else pure (.yield s)) :
  ∀ (l s:List (Str × Value)),forIn l s f=pure (ZdN s l):=by
 intro l
 induction l with
 | nil=>intro s; rfl
 | cons p l ih=>
  obtain⟨x,v⟩:=p
  intro s
  rw[List.forIn_cons,hf]
  unfold ZdN
  cases h:(s.lookup x).isNone with
  | true=>simp only [if_true,pure_bind]; exact ih _
  | false=>simp only [Bool.false_eq_true,if_false,pure_bind]; exact ih _
theorem Zbw {A:Arguments} (h:Zbh A=true):A=⟨[],A.args,none,[],[],none,A.defaults⟩:=by
 obtain⟨po,as,va,ko,kd,kw,d⟩:=A
 unfold Zbh at h
 simp only [Bool.and_eq_true,List.isEmpty_iff,Option.isNone_iff_eq_none] at h
 obtain⟨⟨⟨⟨rfl,rfl⟩,rfl⟩,rfl⟩,rfl⟩:=h
 rfl
noncomputable def Zhw (σ : St) (dV:Value) (ds:List Value):Prop:=(dV=.none∧ds = [])∨∃ T o k,dV=.ref T∧σ.s.heap.get? T=some o∧o.data=.seq ds.toArray k
theorem Zhx {rs:List (Str × Value)}:∀ {ns:List Str},(∀ x ∈ ns,(rs.lookup x).isSome=true)→(ns.filterMap fun n=>(rs.lookup n).map (n,·)).map (·.1)=ns:=fun {ns}=>by
 induction ns with
 | nil=>intro _; rfl
 | cons x ns ih=>
  intro h
  obtain⟨v,hv⟩:=Option.isSome_iff_exists.mp (h x (.head _))
  rw[List.filterMap_cons,hv]
  exact congrArg (x :: ·) (ih fun y hy=>h y (.tail _ hy))
theorem Zhy {fd:FuncData} {as:List Arg} {dx:List PySem.Expr} {ds:List Value} {vas:List V} {ras:List Value} {kw:Lo} {rkw:List (Str × Value)} {d:List V} {bs:Lo}
  (hp:fd.params=⟨[],as,none,[],[],none,dx⟩) (hg:∀ x ∈ as,gd x.arg=true) (hd:Zhw σ fd.defaults ds) (hdv:VRs g σ d ds) (ha:VRs g σ vas ras) (hk:SR g σ kw rkw)
  (e:Zb0 (as.map fun x=>enc x.arg) vas kw d=some bs):∃ rbs,SR g σ bs rbs∧BindsTo σ.s fd ⟨ras,rkw⟩ rbs∧rbs.map (·.1)=as.map (·.arg):=by
 have en:(as.map fun x=>enc x.arg)=(as.map (·.arg)).map enc:=by rw[List.map_map]; rfl
 rw[en] at e
 generalize hns:as.map (·.arg)=ns at e
 have hg:∀ x ∈ ns,gd x=true:=fun x hx=>by rw[← hns] at hx; obtain⟨a,h1,rfl⟩:=List.mem_map.mp hx; exact hg a h1
 have e:(bif Nat.ble vas.length (ns.map enc).length&&Nat.ble d.length (ns.map enc).length then Zj (kwOK (ns.map enc) kw ((ns.map enc).zip vas)) fun sl=>Zj (pick sl ((ns.map enc).take ((ns.map enc).length - d.length))) fun _=>
  pick (addD (((ns.map enc).drop ((ns.map enc).length - d.length)).zip d) sl) (ns.map enc) else none)=some bs:=e
 cases hc:(Nat.ble vas.length (ns.map enc).length&&Nat.ble d.length (ns.map enc).length) with
 | false=>rw[hc] at e; exact Ze e
 | true=>
  rw[hc] at e
  obtain⟨hc1,hc2⟩:=Yb hc
  have l1:ras.length≤ns.length:=by have:=Nat.le_of_ble_eq_true hc1; rw[List.length_map,ha.length] at this; exact this
  have l2:ds.length≤ns.length:=by have:=Nat.le_of_ble_eq_true hc2; rw[List.length_map,hdv.length] at this; exact this
  refine Zi e fun sl hsl e=>Zi e fun rq hrq e=>?_
  obtain⟨s1,loop⟩:=Zk3 hk (SR.zip hg ha) hg hsl
  have s2:SR g σ (((ns.map enc).drop ((ns.map enc).length - d.length)).zip d) ((ns.drop (ns.length - ds.length)).zip ds):=by
   rw[← List.map_drop,List.length_map,hdv.length]
   exact SR.zip (fun x hx=>hg x (List.mem_of_mem_drop hx)) hdv
  obtain⟨s3,all⟩:=Zhv (Zk2 s2 s1) hg e
  rw[← List.map_take,List.length_map,hdv.length] at hrq
  obtain⟨_,req⟩:=Zhv s1 (fun x hx=>hg x (List.mem_of_mem_take hx)) hrq
  refine⟨_,s3,fun M A E Q q=>?_,Zhx all⟩
  have seq:∀ {Q:Option (Array Value)→Shared→Prop},(∀ o,(o.getD #[]).toList=ds→Q o σ.s)→wpAny M A (seqItems? fd.defaults) Q E σ.s:=fun {Q} hq=>by
   rcases hd with⟨e1,e2⟩ | ⟨T,o,k,e1,e2,e3⟩
   ·rw[e1]; exact wpAny_pure (hq none (by rw[e2]; rfl))
   ·rw[e1]; exact wpAny_seqItems e2 e3 (hq _ rfl)
  unfold bindArgs
  rw[hp]
  simp only [List.map_nil,List.nil_append,List.contains_nil,Bool.or_false,List.append_nil,hns]
  rw[loop _ (fun p s h1 h2=>by simp only [h1,h2,if_true,Bool.false_eq_true,if_false]),pure_bind]
  refine wpAny_bind (seq fun o ho=>?_)
  rw[if_neg (by simp; omega)]
  have hdr:ds.drop (ds.length - ns.length)=ds:=by rw[Nat.sub_eq_zero_of_le l2]; rfl
  have hmiss:((ns.take (ns.length - ds.length)).filter fun n=>(List.lookup n (ns.zip ras++rkw)).isNone) = []:=by
   rw[List.filter_eq_nil_iff]
   intro x hx
   rw[← Option.not_isSome,req x hx]; decide
  simp only [ho,hdr,hmiss,List.isEmpty_nil,Bool.not_true,Bool.false_eq_true,if_false]
  rw[ZgG _ (fun p s=>rfl),pure_bind]
  simp only [List.forIn_nil,pure_bind,List.isEmpty_nil,Bool.not_true,Bool.false_eq_true,if_false]
  exact wpAny_pure q
theorem Zbm {cm:Str→Option Value}:∀ {l:List (Str × Addr)} {a:List (Addr × Obj)},CellsAre cm l a→l.length=a.length
 | _,_,.nil=>rfl
 | _,_,.cons _ h=>congrArg Nat.succ (Zbm h)
theorem Zfl {cm:Str→Option Value}:∀ (names:List (Str × NameKind)) (n:Nat) (acc:List (Str × Addr)) (cells:List (Addr × Obj)),CellsAre cm (cellsFrom n names acc) cells→∃ pre a,cells=pre++a∧CellsAre cm acc a:=by
 intro names
 induction names with
 | nil=>intro n acc cells h; exact⟨[],cells,rfl,h⟩
 | cons p r ih=>
  obtain⟨x,k⟩:=p
  intro n acc cells h
  have h:CellsAre cm (if (k==NameKind.cell)=true then cellsFrom (n + 1) r ((x,n) :: acc) else cellsFrom n r acc) cells:=h
  cases hk:(k==NameKind.cell) with
  | true=>
   rw[hk,if_pos rfl] at h
   obtain⟨pre,a,e,ha⟩:=ih _ _ _ h
   cases ha with
   | @cons _ _ o _ a' hd ha=>exact⟨pre ++ [(n,o)],a',by rw[e,List.append_assoc]; rfl,ha⟩
  | false=>rw[hk,if_neg Bool.false_ne_true] at h; exact ih _ _ _ h
theorem Zf3 {c':Cx} {cm:Str→Option Value} {bs:Lo} {base:List (Addr × Obj)}:∀ (names:List (Str × NameKind)) (n:Nat) (acc:List (Str × Addr)) (cells pre acells:List (Addr × Obj)) (cs:Cs) (σ : St) (k:H→Nat→Cs→Bool),
  (∀ x ∈ names,gd x.1=true)→Rel g c' σ→(∀ x,(x,NameKind.cell) ∈ names→OV g σ (look bs (enc x)) (cm x))→
  ZbH bs (ZG names) σ.h σ.nx cs k=true→CsR cs σ.ρ σ.nx acc→
  CellsAre cm (cellsFrom n names acc) cells→cells=pre++acells→CellsAre cm acc acells→(∀ p ∈ σ.news,p.1 < n)→σ.news=acells++base→News σ.g0 c'.L σ.s.heap (cells++base)→
   ∃ σ' cs',Rel g c' σ'∧Ext g c' σ σ'∧σ'.lo = σ.lo∧σ'.m = σ.m∧σ'.s = σ.s∧k σ'.h σ'.nx cs'=true∧CsR cs' σ'.ρ σ'.nx (cellsFrom n names acc)∧σ'.g0 = σ.g0:=by
 intro names
 induction names with
 | nil=>
  intro n acc cells pre acells cs σ k hg R hb hk hcsr hC he hA hlt hn hN
  exact⟨σ,cs,R,.refl ..,rfl,rfl,rfl,hk,hcsr,rfl⟩
 | cons p r ih=>
  obtain⟨x,kd⟩:=p
  intro n acc cells pre acells cs σ k hg R hb hk hcsr hC he hA hlt hn hN
  have hgr:∀ x ∈ r,gd x.1=true:=fun y hy=>hg y (.tail _ hy)
  have e1:cellsFrom n ((x,kd) :: r) acc=if (kd==NameKind.cell)=true then cellsFrom (n + 1) r ((x,n) :: acc) else cellsFrom n r acc:=rfl
  have e2:ZG ((x,kd) :: r)=if (kd==NameKind.cell)=true then enc x :: ZG r else ZG r:=by
   unfold ZG
   rw[List.filterMap_cons]
   cases kd==NameKind.cell <;> rfl
  cases hkd:(kd==NameKind.cell) with
  | false=>
   rw[hkd,if_neg Bool.false_ne_true] at e1 e2
   rw[e1] at hC ⊢
   rw[e2] at hk
   exact ih n acc cells pre acells cs σ k hgr R (fun y hy=>hb y (.tail _ hy)) hk hcsr hC he hA hlt hn hN
  | true=>
   rw[hkd,if_pos rfl] at e1 e2
   rw[e1] at hC ⊢
   rw[e2] at hk
   have hgx:gd x=true:=hg (x,kd) (.head _)
   obtain⟨pre',a',hp',ha'⟩:=Zfl r _ _ _ hC
   cases ha' with
   | @cons _ _ o _ a2 hd ha2=>
    have l2:a2=acells:=by
     have h1:(pre' ++ [(n,o)])++a2=pre++acells:=by rw[← he,hp',List.append_assoc]; rfl
     exact(List.append_inj' h1 ((Zbm ha2).symm.trans (Zbm hA))).2
    subst l2
    have hN1:News σ.g0 c'.L σ.s.heap ((n,o) :: σ.news):=fun q hq=>hN q (by
     rw[hn] at hq
     rw[hp',List.append_assoc]
     exact List.mem_append_right _ hq)
    have hk:ZbH bs (ZG r) (hp σ.h σ.nx (.cell (look bs (enc x)))) (Nat.succ σ.nx) ((enc x,σ.nx) :: cs) k=true:=hk
    obtain⟨R1,X1,v1⟩:=R.new (h':=σ.s.heap) (tk:=σ.s.toks) (x:=n) (d:=0) (L:=[(n,o)]) (o:=.cell (look bs (enc x))) R.F hN1 (List.nodup_cons.mpr ⟨nofun,List.nodup_nil⟩) (fun q hq p hp=>by rw[List.mem_singleton.mp hq]; exact hlt p hp) hlt Za (fun σ' e0 _ en Z=>by
     refine⟨o,cm x,?_,hd,((hb x (by rw[← beq_iff_eq.mp hkd]; exact .head _)).mono0 Z).weak⟩
     rw[e0,en]; exact .head _)
    have v1:n=(σ.new (.cell (look bs (enc x))) n 0 ([(n,o)] ++ σ.news) σ.s.heap σ.s.toks).ρ (2 * σ.nx):=by have:=v1.1; injection this
    obtain⟨σ',cs',R',X',a1,a2',a3,a5,a6,a7⟩:=ih (n + 1) ((x,n) :: acc) cells pre' ((n,o) :: a2) ((enc x,σ.nx) :: cs) _ k hgr R1 (fun y hy=>(hb y (.tail _ hy)).mono0 (X1.z R)) hk (fun y i hy hl=>by
      rw[Zp] at hl
      rw[List.lookup_cons]
      by_cases e:enc x=enc y
      ·rw[if_pos e] at hl
       obtain rfl:=Option.some.inj hl
       obtain rfl:=Zw hgx hy e
       rw[beq_self_eq_true]
       exact⟨Nat.lt_succ_self _,congrArg some v1⟩
      ·rw[if_neg e] at hl
       obtain⟨h1,h2⟩:=hcsr y i hy hl
       rw[beq_false_of_ne fun q:y=x=>e (by rw[q])]
       exact⟨Nat.lt_succ_of_lt h1,h2.trans (congrArg some (X1.ρ i h1).symm)⟩) hC hp' (.cons hd ha2) (fun q hq=>by
      rcases List.mem_cons.mp hq with rfl | hq
      ·exact Nat.lt_succ_self _
      ·exact Nat.lt_succ_of_lt (hlt q hq)) (by show (n,o) :: σ.news = _; rw[hn]; rfl) hN
    exact⟨σ',cs',R',X1.trans X',a1,a2',a3,a5,a6,a7⟩
end
section
variable {A₀:Around} {base g h h₀ g':Heap} {outer:List Env} {L:Addr} {m:Str→Option Value} {env:Env} {news:List (Addr × Obj)}
theorem ZgH (B:Below A₀ base outer h₀) (FG:Fr h₀ L g m) (hf:env.frame=some L) (T:KtsTurn ((env :: outer).filterMap (·.frame)) g g') :
  ∃ h₀',KtsTurn (outer.filterMap (·.frame)) h₀ h₀'∧Below A₀ base outer h₀'∧Fr h₀' L g' m:=
 Zc6 B FG hf (fun b o q hb=>T.other b o (FG.keep b o q) hb) fun b o q _=>T.up q
theorem Fr.after (F:Fr h₀ L g m) (k:∀ b o,g.get? b=some o→h.get? b=some o):Fr h₀ L h m:=⟨F.ns.keeps k,fun b o q=>k b o (F.keep b o q),F.above⟩
theorem News.after {L':Addr} (F:Fr h₀ L g m) (N:News g L' h news):News h₀ L h news:=fun p hp=>by
 have q:=(N p hp).2.2
 refine⟨(N p hp).1,fun e=>?_,kts_none F.keep q⟩
 obtain⟨oL,es,ep,hL,_⟩:=F.ns
 rw[e,hL] at q; cases q
end
section
variable {prog:Program} {w:World} {A₀ A:Around} {s:Shared} {base h₀:Heap} {outer:List Env} {L:Addr} {m:Str→Option Value} {env:Env} {news:List (Addr × Obj)}
 {R:Result→Shared→Prop} {name qual:Str} {params:Arguments} {body:List Stmt} {scope:Scope} {clos:List (Str × Addr)} {dV kV doc pm cdv ct:Value} {an:Option Addr} {fo:Obj} {f:Addr} {args:Args} {binds:List (Str × Value)}
theorem ZfJ (B:Below A₀ base outer h₀) (F:Fr h₀ L s.heap m) (N:News h₀ L s.heap news) (hlim:h₀.NoLimit) (hA:A.frames=some (env :: outer)) (hf:env.frame=some L) (hke:env.scope.kind=.function)
  (ho:s.heap.get? f=some fo) (hd:fo.data=.func (fnX name qual params body scope [] dV kV doc pm an cdv ct)) (hcd:s.heap.CodeRec cdv qual) (hroom:A.depth < recursionLimit)
  (hbind:BindsTo s (fnX name qual params body scope [] dV kV doc pm an cdv ct) args binds)
  (hkind:∀ n,∀ x ∈ binds,scope.names.lookup x.1=some .local∨(scope.names.lookup x.1=some .cell∧((cellsFrom n scope.names []).lookup x.1).isSome=true))
  (hnd:((cellsFrom 0 scope.names []).map (·.1)).Nodup)
  (h:∀ g L' h₁ tk cells,Fr h₀ L g m→Fr g L' h₁ (bindL (envOfC qual scope L' f cdv).kindOf binds fun _=>none)→News g L' h₁ (cells++news)→
   CellsAre (bindC (envOfC qual scope L' f cdv).kindOf binds fun _=>none) (cellsFrom (L' + 1) scope.names []) cells→Below A base (env :: outer) g→(∀ p ∈ news,p.1 < L')→
   wpAny (model prog w) (A.deeper (envOfC qual scope L' f cdv)) (execs body (envOfC qual scope L' f cdv))
    (fun fl s'=>R (.ok (.ret (match fl with | .ret v=>v | _=>.none))) s')
    (fun e s'=>wpAny (model prog w) (A.deeper (envOfC qual scope L' f cdv)) (leaving (envOfC qual scope L' f cdv) e) (fun _ s''=>R (.error e) s'') (fun e' s''=>R (.error e') s'') s')
    { s with heap:=h₁,toks:=tk })
  (hco:scope.isCoroutine=false) (hgen:scope.isGenerator=false) (hk:scope.kind=.function):codeAny (model prog w) A (.call (.ref f) args) R s:=by
 obtain⟨onG,belowG,_,_⟩:=groundX (R:=R) B F N hA hf hke
 have size_of:∀ p ∈ news,p.1 < s.heap.objs.size:=fun p hp=>Heap.lt_size (N p hp).1
 refine codeAny_call_function hroom ho hd hco hgen rfl hcd (hbind _ _ _ _ ?_)
 refine wpAny_newFunctionEnv_cells hk (hkind _) ?_
 rintro frame rfl after made
 obtain⟨hp,clock,rfl,_⟩:=made.done
 have kept:=made.toInCall.keep
 refine⟨(hlim.keeps F.keep).keeps kept,codeAny_func ?_⟩
 have Zaw:((cellsFrom (s.heap.objs.size + 1) scope.names []).map (·.1)).Nodup:=cellsFrom_names scope.names 0 (s.heap.objs.size + 1) [] [] rfl ▸ hnd
 obtain⟨cells,newC,areC⟩:=Cl.news (h₀:=s.heap) (Nat.le_refl _) fun x a hm=>And.intro (made.cell x a (lookup_of_mem_nodup Zaw hm)) (made.above x a hm)
 have ledger:News (hideAll s.heap (news.map (·.1))) s.heap.objs.size hp (cells++news):=fun p hp=>(List.mem_append.mp hp).elim
  (fun q=>⟨(newC p q).1,(newC p q).2.1,kts_none (fun b o r=>of_hideAll _ r) (newC p q).2.2⟩)
  (fun q=>⟨kept _ _ (N p q).1,Nat.ne_of_lt (size_of p q),hideAll_none _ (List.mem_map_of_mem q)⟩)
 have frame':Fr (hideAll s.heap (news.map (·.1))) s.heap.objs.size hp (bindL (envOfC qual scope s.heap.objs.size f cdv).kindOf binds fun _=>none):=⟨made.toInCall.ns,fun b o r=>kept b o (of_hideAll _ r),Nat.le_of_eq (hideAll_size _ _)⟩
 exact wpAny_mono (h _ _ hp clock cells onG frame' ledger areC belowG size_of) (fun _ _ y=>y) fun _ _ y=>y
end
section
variable {g:Gl} {r:Rec} {n:Nat} {c c':Cx} {σ : St}
theorem Rel.enter (R:Rel g c σ) (hcs:c'.hd.cs = []) (hl:c'.env.locals=c'.L) {lo:Lo} {m':Str→Option Value} {h₁ gr:Heap} {tk:Nat} (F':Fr gr c'.L h₁ m') (N':News gr c'.L h₁ σ.news) (hLR:LW g σ lo m') (B:∃ A₀,Below A₀ g.base c'.outer gr) (hh:c'.hd.hd=c.hd.hd) (he:c'.he=c.he) :
  Rel g c' { σ with lo:=lo,m:=m',s:={ σ.s with heap:=h₁,toks:=tk },g0:=gr }∧Ext0 g σ { σ with lo:=lo,m:=m',s:={ σ.s with heap:=h₁,toks:=tk },g0:=gr }:=by
 have X:Ext0 g σ { σ with lo:=lo,m:=m',s:={ σ.s with heap:=h₁,toks:=tk },g0:=gr }:=⟨Nat.le_refl _,fun _ _=>rfl,fun _ _ p _=>p,fun _ t=>t⟩
 refine⟨⟨⟨R.nd,R.fr,R.inj,fun i o e=>(R.trk i o e).mono0 X (fun _ h=>h) (fun _ _ h=>h),(fun x i _ e=>by rw[hcs] at e; exact Ze e),.inl ⟨hl,hLR.mono0 X⟩,⟨fun q hq=>?_,R.tab.2⟩,B,by rw[hh,he]; exact R.hh⟩,F',N',R.gens,R.os⟩,X⟩
 obtain⟨u,ps,a,ht,hc⟩:=R.tab.1 q hq
 exact⟨u,ps,a,ht,fun pos cv e=>(hc pos cv e).mono0 X⟩
theorem Rel.back (R:Rel g c σ) {σ₁ σf:St} (hf:c.fenv.frame=some c.L) (nx : σ.nx≤σ₁.nx) (ρ : ∀ i,i < σ.nx→σ₁.ρ (2 * i) = σ.ρ (2 * i)) (hp:∀ a o,Pin0 g σ a o→¬ Tb o→Pin0 g σ₁ a o) (htb:∀ T,TbAt g σ T→TbAt g σ₁ T) (FG:Fr σ.g0 c.L σ₁.g0 σ.m)
  (R₁:Rel g c' σ₁) (X₁:Ext g c' σ₁ σf) (Rf:Rel g c' σf) (hL:c'.env.locals=c'.L) (ho:c'.outer=c.fenv :: c.outer) :
  ∃ gr,Rel g c { σf with lo:=σ.lo,m:=σ.m,g0:=gr }∧Ext g c σ { σf with lo:=σ.lo,m:=σ.m,g0:=gr }∧Ext0 g σf { σf with lo:=σ.lo,m:=σ.m,g0:=gr }:=by
 obtain⟨A₀,B₀⟩:=R.B
 have T:=X₁.turn
 unfold Cx.frs at T
 rw[ho] at T
 obtain⟨gr,hT,hB,FG'⟩:=ZgH B₀ FG hf T
 have Y:Ext0 g σf { σf with lo:=σ.lo,m:=σ.m,g0:=gr }:=⟨Nat.le_refl _,fun _ _=>rfl,fun _ _ p _=>p,fun _ t=>t⟩
 have X:Ext g c σ { σf with lo:=σ.lo,m:=σ.m,g0:=gr }:=⟨Nat.le_trans nx X₁.nx,fun i h=>(X₁.ρ i (Nat.lt_of_lt_of_le h nx)).trans (ρ i h),fun a o p _ t=>X₁.pin a o (hp a o p t) (by rw[hL]; exact(R₁.N _ (hp a o p t).1).2.1) t,fun T t=>X₁.tb T (htb T t),fun _=>rfl,hT⟩
 have XZ:=X.z R
 refine⟨gr,⟨⟨Rf.nd,Rf.fr,Rf.inj,fun i o e=>(Rf.trk i o e).mono0 Y (fun _ h=>h) (fun _ _ h=>h),R.cs.mono0 XZ,?_,⟨fun q hq=>?_,Rf.tab.2⟩,⟨A₀,hB⟩,fun j hj=>?_⟩,Fr.after FG' Rf.F.keep,News.after FG' Rf.N,Rf.gens,Rf.os⟩,X,Y⟩
 ·rcases R.loc with⟨e,l⟩ | ⟨e,o,nn,a,u,t,k,l⟩
  ·exact .inl ⟨e,l.mono0 XZ⟩
  ·have nt : ¬ Tb o:=fun ⟨ts,d,_⟩=>by obtain⟨es,ep,e,_⟩:=k; rw[d] at e; cases e
   have:=X₁.pin _ _ (hp _ _ ⟨a,u,t⟩ nt) (by rw[hL]; exact(R₁.N _ (hp _ _ ⟨a,u,t⟩ nt).1).2.1) nt
   exact .inr ⟨e,o,nn,this.1,this.2.1,this.2.2,k,l.mono0 XZ⟩
 ·obtain⟨u,ps,a,ht,hc⟩:=Rf.tab.1 q hq
  exact⟨u,ps,a,ht,fun pos cv e=>(hc pos cv e).mono0 Y⟩
 ·obtain⟨a,b⟩:=R.hh j hj
  exact⟨Nat.lt_of_lt_of_le a X.nx,(X.ρ j a).trans b⟩
noncomputable def callee (c:Cx) (env:Env) (L:Addr) (cs:Cs) (b:Bool):Cx:={ env:=env,fenv:=env,A:=c.A.deeper env,L:=L,outer:=c.fenv :: c.outer,hd:=⟨cs,c.hd.hd,c.hd.ora,b⟩,he:=c.he }
theorem CxOK.callee (hc:CxOK g c (n + 1)) {env:Env} {L:Addr} {cs:Cs} {b:Bool} {g0:Heap} (B:Below c.A g.base (c.fenv :: c.outer) g0) (hf:env.frame=some L) (hk:env.scope.kind=.function) (hg:env.globals=mainGlobals) (hb:env.builtins=builtinsNs)
  (hmk:b=true→∃ cc P,env.code=.ref cc∧(cc,P,env.qual) ∈ g.tabs∧CodeHd g.base cc P):CxOK g (callee c env L cs b) n where
 fr:=Around.frames_deeper B.stack
 ff:=hf
 fk:=hk
 ek:=hk
 eg:=hg
 eb:=hb
 ef:=hf
 Kb:=hc.Kb
 Tb:=hc.Tb
 dep:=by have:=hc.dep; show c.A.depth + 1 + n≤950; omega
 uni:=by have:=hc.uni; show c.A.units + 3 + 12 * n≤9000; omega
 hn:=hc.hn
 mkk:=hmk
 ora:=hc.ora
theorem Zjj (R:Rel g c σ) (hc:CxOK g c (n + 1)) {env:Env} {L:Addr} {cs:Cs} {b:Bool} {σ₁:St} (nx : σ.nx≤σ₁.nx) (ρ : ∀ i,i < σ.nx→σ₁.ρ (2 * i) = σ.ρ (2 * i)) (hp:∀ a o,Pin0 g σ a o→¬ Tb o→Pin0 g σ₁ a o) (htb:∀ T,TbAt g σ T→TbAt g σ₁ T)
  (FG:Fr σ.g0 c.L σ₁.g0 σ.m) (R₁:Rel g (callee c env L cs b) σ₁) (hL:env.locals=L) (hc2:CxOK g (callee c env L cs b) n) {ko:KA} {ke:KX} {Q Er:Value→Shared→Prop} (hQ:PA g c σ ko Q) (hE:PAX g c σ ke Er) :
  PV g (callee c env L cs b) σ₁ (fun v h nx _=>ko v h nx) Q∧PX g (callee c env L cs b) σ₁ (fun i h nx _=>Zz h i fun h=>ke i h nx) (fun e s'=>wpAny g.M (c.A.deeper env) (leaving env e) (fun _ s''=>Er e s'') (fun e' s''=>Er e' s'') s'):=by
 refine⟨fun σf v rv Rf Xf vr hk=>?_,fun σf i Rf Xf x hk=>?_⟩
 ·obtain⟨gr,R',X,Y⟩:=R.back hc.ff nx ρ hp htb FG R₁ Xf Rf hL rfl
  exact hQ { σf with lo:=σ.lo,m:=σ.m,g0:=gr } v rv R' X rfl (vr.mono0 Y) hk
 ·unfold leaving
  refine ZgF hc2 Rf x hk fun σ2 R2 X2 x2 hk2 e1 e2 e3=>?_
  obtain⟨gr,R',X,Y⟩:=R.back hc.ff nx ρ hp htb FG R₁ (Xf.trans X2) R2 hL rfl
  rw[← e3]
  exact hE { σ2 with lo:=σ.lo,m:=σ.m,g0:=gr } i R' X rfl x2 (by rw[← e1] at hk2; exact hk2)
theorem Zfm (kindOf:Str→Option NameKind):∀ (rbs:List (Str × Value)) (m:Str→Option Value) (y:Str),(rbs.map (·.1)).Nodup→
  bindL kindOf rbs m y=if kindOf y=some .local then(rbs.lookup y).or (m y) else m y:=by
 intro rbs
 induction rbs with
 | nil=>intro m y _; unfold bindL; split <;> rfl
 | cons p r ih=>
  obtain⟨x,v⟩:=p
  intro m y nd
  obtain⟨nd1,nd2⟩:=List.nodup_cons.mp nd
  unfold bindL
  rw[ih _ y nd2,List.lookup_cons]
  by_cases hy:y=x
  ·subst hy
   have hno:r.lookup y=none:=by
    cases h:r.lookup y with
    | none=>rfl
    | some w=>exact absurd (List.mem_map_of_mem (f:=(·.1)) (mem_of_lookup h)) nd1
   rw[beq_self_eq_true,hno]
   by_cases hk:kindOf y=some .local <;> simp [hk]
  ·rw[beq_false_of_ne hy]
   by_cases hk:kindOf x=some .local <;> simp [hk,hy]
theorem Zfn (kindOf:Str→Option NameKind):∀ (rbs:List (Str × Value)) (m:Str→Option Value) (y:Str),(rbs.map (·.1)).Nodup→
  bindC kindOf rbs m y=if kindOf y=some .local then m y else(rbs.lookup y).or (m y):=by
 intro rbs
 induction rbs with
 | nil=>intro m y _; unfold bindC; split <;> rfl
 | cons p r ih=>
  obtain⟨x,v⟩:=p
  intro m y nd
  obtain⟨nd1,nd2⟩:=List.nodup_cons.mp nd
  unfold bindC
  rw[ih _ y nd2,List.lookup_cons]
  by_cases hy:y=x
  ·subst hy
   have hno:r.lookup y=none:=by
    cases h:r.lookup y with
    | none=>rfl
    | some w=>exact absurd (List.mem_map_of_mem (f:=(·.1)) (mem_of_lookup h)) nd1
   rw[beq_self_eq_true,hno]
   by_cases hk:kindOf y=some .local <;> simp [hk]
  ·rw[beq_false_of_ne hy]
   by_cases hk:kindOf x=some .local <;> simp [hk,hy]
theorem ZfK (cells:List Nat) (bs:Lo) (j:Nat):look (Zah cells bs) j=if mem cells j=true then none else look bs j:=by
 induction bs with
 | nil=>show none = _; split <;> rfl
 | cons p l ih=>
  have e:Zah cells (p :: l)=bif mem cells p.1 then Zah cells l else p :: Zah cells l:=rfl
  rw[e,Zp]
  cases hk:mem cells p.1 with
  | true=>
   show look (Zah cells l) j = _
   rw[ih]
   by_cases q:p.1=j
   ·rw[if_pos (q ▸ hk),if_pos (q ▸ hk)]
   ·rw[if_neg q]
  | false=>
   show look (p :: Zah cells l) j = _
   rw[Zp,ih]
   by_cases q:p.1=j
   ·rw[if_pos q,if_pos q,if_neg (fun z=>by rw[← q,hk] at z; exact Za z)]
   ·rw[if_neg q,if_neg q]
theorem mem_filter {names:List (Str × NameKind)} {kd:NameKind} (hg:∀ x ∈ names,gd x.1=true) {x:Str} (hx:gd x=true):mem (names.filterMap fun x=>if x.2==kd then some (enc x.1) else none) (enc x)=true ↔ (x,kd) ∈ names:=by
 induction names with
 | nil=>exact⟨fun h=>Za h,fun h=>nomatch h⟩
 | cons p r ih=>
  obtain⟨y,k⟩:=p
  have ih:=ih fun z hz=>hg z (.tail _ hz)
  rw[List.filterMap_cons]
  by_cases hk:(k==kd)=true
  ·simp only [hk,if_true]
   rw[mem_cons]
   by_cases e:enc y=enc x
   ·rw[if_pos e,← Zw (hg (y,k) (.head _)) hx e,← beq_iff_eq.mp hk]
    exact⟨fun _=>.head _,fun _=>rfl⟩
   ·rw[if_neg e,ih]
    refine⟨.tail _,fun h=>?_⟩
    rcases List.mem_cons.mp h with q | q
    ·cases q; exact absurd rfl e
    ·exact q
  ·simp only [hk]
   rw[if_neg Bool.false_ne_true] at *
   rw[ih]
   refine⟨.tail _,fun h=>?_⟩
   rcases List.mem_cons.mp h with q | q
   ·cases q; exact absurd (beq_self_eq_true _) hk
   ·exact q
theorem Zab {names:List (Str × NameKind)} {x:Str} {k:NameKind} (nd:(names.map (·.1)).Nodup) (h:(x,k) ∈ names):names.lookup x=some k:=by
 induction names with
 | nil=>cases h
 | cons p r ih=>
  obtain⟨y,k'⟩:=p
  obtain⟨nd1,nd2⟩:=List.nodup_cons.mp nd
  rw[List.lookup_cons]
  rcases List.mem_cons.mp h with e | h
  ·cases e; rw[beq_self_eq_true]
  ·have:x≠y:=fun e=>nd1 (by rw[← e]; exact List.mem_map_of_mem (f:=(·.1)) h)
   rw[beq_false_of_ne this]; exact ih nd2 h
end
section
variable {g:Gl} {r:Rec} {n:Nat} {c:Cx} {σ : St}
theorem room (hc:CxOK g c n):c.A.depth < recursionLimit:=Nat.lt_of_le_of_lt (Nat.le_add_right _ n) (Nat.lt_of_le_of_lt hc.dep (by decide))
theorem Zcz {rbs:List (Str × Value)} {as:List Arg} (hn:rbs.map (·.1)=as.map (·.arg)) {y:Str × Value} (hy:y ∈ rbs):∃ x ∈ as,x.arg=y.1:=by
 have:=List.mem_map_of_mem (f:=(·.1)) hy
 rw[hn] at this
 exact List.mem_map.mp this
theorem Zhz {names:List (Str × NameKind)} {bs:Lo} {rbs:List (Str × Value)} {as:List Arg} {kindOf:Str→Option NameKind} (ek:∀ x,kindOf x=names.lookup x) (sr:SR g σ bs rbs) (hn:rbs.map (·.1)=as.map (·.arg)) (hnd:(rbs.map (·.1)).Nodup)
  (hgn:∀ x ∈ names,gd x.1=true) (hndn:(names.map (·.1)).Nodup) (hkind:∀ x ∈ as,names.lookup x.arg=some .local∨names.lookup x.arg=some .cell):LR g σ (Zah (ZG names) bs) (bindL kindOf rbs fun _=>none):=fun x hx=>by
 rw[ZfK,Zfm _ _ _ _ hnd,ek]
 have q:=sr.look x hx
 cases hl:rbs.lookup x with
 | none=>
  rw[hl] at q
  have:look bs (enc x)=none:=by
   cases hb:look bs (enc x) with
   | none=>rfl
   | some v=>rw[hb] at q; obtain⟨_,e,_⟩:=q; cases e
  rw[this]
  split <;> split <;> rfl
 | some w=>
  rw[hl] at q
  obtain⟨y,h1,h2⟩:=Zcz hn (mem_of_lookup hl)
  have h2:y.arg=x:=h2
  rcases hkind y h1 with h3 | h3
  ·rw[h2] at h3
   rw[if_neg (fun hm=>by have:=Zab hndn ((mem_filter hgn hx).mp hm); rw[h3] at this; cases this),if_pos h3]
   exact q
  ·rw[h2] at h3
   rw[if_pos (show mem (ZG names) (enc x)=true from(mem_filter hgn hx).mpr (mem_of_lookup h3)),if_neg (by rw[h3]; nofun)]
   rfl
theorem ZhA (OK:POK g.P g.K g.tabs g.dn) (hU:∀ v,g.unk 0 v) (HA:AllS g r n) (hc:CxOK g c (n + 1)) (R:Rel g c σ) {a:Nat} {f:E} (hf:FnOK g.P g.K g.tabs a f) {vas:List V} {ras:List Value} {kw:Lo} {rkw:List (Str × Value)} {ko:KA} {ke:KX}
  (ha:VRs g σ vas ras) (hkw:SR g σ kw rkw) (h:Zgo r f [] (mem g.P.mks a) vas kw c.hd σ.h σ.nx ko ke=true) {Q Er:Value→Shared→Prop} (hQ:PA g c σ ko Q) (hE:PAX g c σ ke Er) :
  codeAny g.M c.A (.call (.ref a) ⟨ras,rkw⟩) (Zaa Q Er) σ.s:=by
 obtain⟨oc,od,osl,name,qual,A,body,scope,dV,doc,pm,an,cdv,ct,p,k,hK,hcd,rfl,hps,hpc,hA,hga,hsk,hco,hgen,hdf,hnd,hgn,hnda,hndn,hmk,hkind⟩:=hf
 refine Zc (show og (Zb0 p.ps vas kw p.d) _=true from h) fun bs hbs h2=>?_
 clear h
 rw[hps] at hbs
 obtain⟨A₀,B₀⟩:=R.B
 have XK:=(hc.K R).keeps R.F.keep
 have hdf':∃ ds,Zhw σ dV ds∧VRs g σ p.d ds:=by
  rcases hdf with⟨e1,e2⟩ | ⟨T,tc,td,its,tn,ts,e1,e2,e3⟩
  ·exact⟨[],.inl ⟨e1,rfl⟩,by rw[e2]; trivial⟩
  ·exact⟨its.toList,.inr ⟨T,_,tn,e1,XK _ _ e2,rfl⟩,e3 g σ hU⟩
 obtain⟨ds,hd1,hd2⟩:=hdf'
 obtain⟨rbs,sr,hbind,hnames⟩:=Zhy (fd:=fnOf name qual A body scope dV .none doc pm an cdv ct) (Zbw hA) hga hd1 hd2 ha hkw hbs
 have hndb:(rbs.map (·.1)).Nodup:=by rw[hnames]; exact hnda
 refine ZfJ B₀ R.F R.N (hc.T R).nolimit hc.fr hc.ff hc.fk (XK _ _ hK) rfl (codeRec_of XK hcd) (room hc) hbind (fun n y hy=>by
   obtain⟨x,h1,h3⟩:=Zcz hnames hy
   rw[← h3]; exact hkind n x h1) hnd (fun g0 L' h₁ tk cells FG F' N' hC BG hlt=>?_) hco hgen hsk
 generalize henv:envOfC qual scope L' a cdv=env at F' hC ⊢
 have ekind:∀ x,env.kindOf x=scope.names.lookup x:=fun x=>by rw[← henv]; rfl
 have eloc:env.locals=L':=by rw[← henv]; rfl
 have eframe:env.frame=some L':=by rw[← henv]; rfl
 have escope:env.scope=scope:=by rw[← henv]; rfl
 have ecells:env.cells=cellsFrom (L' + 1) scope.names []:=by rw[← henv]; rfl
 have hLR:LR g σ (Zah (ZG scope.names) bs) (bindL env.kindOf rbs fun _=>none):=Zhz ekind sr hnames hndb hgn hndn fun x hx=>(hkind 0 x hx).imp id And.left
 obtain⟨R0,X0⟩:=R.enter (c':=callee c env L' [] (mem g.P.mks a)) rfl eloc (lo:=Zah (ZG scope.names) bs) (tk:=tk) F' (fun p hp=>N' p (List.mem_append_right _ hp)) hLR.lw ⟨_,BG⟩ rfl rfl
 rw[hpc] at h2
 obtain⟨σ₁,cs',R1,X1,hlo1,hm1,hs1,hk1,hcs1,hg1⟩:=Zf3 (c':=callee c env L' [] (mem g.P.mks a)) (cm:=bindC env.kindOf rbs fun _=>none) (bs:=bs) (base:=σ.news) scope.names (L' + 1) [] cells cells [] [] _ _ hgn R0 (fun x hx=>by
   have hgx:=hgn _ hx
   have h3:=Zab hndn hx
   rw[Zfn _ _ _ _ hndb,ekind,h3,if_neg nofun,Option.or_none]
   exact(sr.mono0 X0).look x hgx) h2 (fun x i _ e=>Ze e) hC (List.append_nil _).symm .nil (fun p hp=>Nat.lt_succ_of_lt (hlt p hp)) rfl N'
 have R2:Rel g (callee c env L' cs' (mem g.P.mks a)) σ₁:=⟨⟨R1.nd,R1.fr,R1.inj,R1.trk,by
  show CsR cs' _ _ env.cells
  rw[ecells]; exact hcs1,R1.loc,R1.tab,R1.B,R1.hh⟩,R1.F,R1.N,R1.gens,R1.os⟩
 have eg1 : σ₁.g0=g0:=hg1
 have FG':Fr σ.g0 c.L σ₁.g0 σ.m:=by rw[eg1]; exact FG
 have hp01:∀ a o,Pin0 g σ a o→¬ Tb o→Pin0 g σ₁ a o:=fun a o p t=>X1.pin a o p (by show a≠env.locals; rw[eloc]; exact(R0.N (a,o) p.1).2.1) t
 have hc2:=hc.callee (cs:=cs') (b:=mem g.P.mks a) BG eframe (by rw[escope]; exact hsk) (by rw[← henv]; rfl) (by rw[← henv]; rfl) (fun hm=>by
  obtain⟨cc,Q,e1,e2,e3⟩:=hmk hm
  exact⟨cc,Q,by rw[← henv]; exact e1,by rw[← henv]; exact e2,codeHd_of_K hc.Kb e3⟩)
 obtain⟨oV,oX⟩:=Zjj R hc X1.nx X1.ρ hp01 X1.tb FG' R2 eloc hc2 hQ hE
 have goal:=HA.ex _ hc2 rfl k body σ₁ R2 _ _ _ _ _ (by show r.ex (cSs k env.scope.names body) _ _ _ _ _ _ _ _ _=true; rw[escope,hlo1]; exact hk1)
  (fun fl s'=>Zaa Q Er (.ok (.ret (match fl with | .ret v=>v | _=>.none))) s') _ (fun σf Rf Xf hk=>oV σf .none .none Rf Xf rfl hk) PU.no PU.no (fun σf v rv Rf Xf vr hk=>oV σf v rv Rf Xf vr hk) oX
 rw[hs1] at goal
 exact goal
end
noncomputable def Zl9 (M:Model) (A:Around) (fb:FuncBody) (env:Env) (Q E:Value→Shared→Prop) (s:Shared):Prop:=match fb with
 | .expr b=>wpAny M A (eval b env) Q E s
 | .stmts b=>wpAny M A (execs b env) (fun fl s'=>Q (match fl with | .ret v=>v | _=>.none) s') E s
noncomputable def Zk4 (fb:FuncBody) (env:Env):Code:=match fb with
 | .stmts b=>.func b env
 | .expr e=>.expr e env
noncomputable def Zma (r:Rec) (fb:FuncBody) (k:Nat) (sc:Sc) (hd:Hd) (h:H) (nx:Nat) (bs:Lo) (ko:KA) (ke:KX):Prop:=match fb with
 | .expr b=>r.ev (cE k sc b) hd h nx bs (fun v h nx _=>ko v h nx) (fun i h nx _=>Zz h i fun h=>ke i h nx)=true
 | .stmts b=>r.ex (cSs k sc b) hd h nx bs (fun h nx _=>ko .none h nx) (fun _ _ _=>false) (fun _ _ _=>false) (fun v h nx _=>ko v h nx) (fun i h nx _=>Zz h i fun h=>ke i h nx)=true
section
variable {prog:Program} {w:World} {A A₀:Around} {s:Shared} {L:Addr} {h₀ base:Heap} {m:Str→Option Value} {news:List (Addr × Obj)}
theorem ZhB {env:Env} {outer:List Env} {R:Result→Shared→Prop} {name qual:Str} {params:Arguments} {fb:FuncBody} {scope:Scope} {cl:List (Str × Addr)} {doc pm ctv:Value} {c':Addr} {f:Addr} {args:Args} {binds:List (Str × Value)}
  (B:Below A₀ base outer h₀) (F:Fr h₀ L s.heap m) (N:News h₀ L s.heap news) (hlim:h₀.NoLimit) (hA:A.frames=some (env :: outer)) (hf:env.frame=some L) (hke:env.scope.kind=.function)
  (ho:(f,Zbu name qual params fb scope cl doc pm c' ctv) ∈ news) (hcd:s.heap.CodeRec (.ref c') qual) (hroom:A.depth < recursionLimit)
  (hbind:BindsTo s (mkFn name qual params fb scope cl doc pm c' ctv) args binds) (hloc:∀ y ∈ binds,scope.names.lookup y.1=some .local)
  (h:∀ g L' h₁,Fr h₀ L g m→Fr g L' h₁ (fun y=>binds.reverse.lookup y)→News g L' h₁ news→Below A base (env :: outer) g→
   Zl9 (model prog w) (A.deeper (envX qual scope L' f (.ref c') cl)) fb (envX qual scope L' f (.ref c') cl) (fun v s'=>R (.ok (.ret v)) s')
    (fun e s'=>wpAny (model prog w) (A.deeper (envX qual scope L' f (.ref c') cl)) (leaving (envX qual scope L' f (.ref c') cl) e) (fun _ s''=>R (.error e) s'') (fun e' s''=>R (.error e') s'') s')
    { s with heap:=h₁,toks:=s.toks + binds.length })
  (hco:scope.isCoroutine=false) (hgen:scope.isGenerator=false) (hk:scope.kind=.function)
  (hcell:∀ x ∈ scope.names,x.2≠.cell):codeAny (model prog w) A (.call (.ref f) args) R s:=by
 obtain⟨onG,belowG,_,_⟩:=groundX (R:=R) B F N hA hf hke
 have go:wpAny (model prog w) A.in1 (newFunctionEnv scope mainGlobals cl binds (qual ++ ".<locals>.") (some f) (.ref c') none builtinsNs) (fun env' s₂=>s₂.heap.NoLimit∧codeAny (model prog w) A (Zk4 fb env') R s₂) (fun e s'=>R (.error e) s') s:=
  wpAny_newFunctionEnv hcell hloc (fun hp ns same=>by
   have up:∀ b o,s.heap.get? b=some o→hp.get? b=some o:=fun b o e=>same.extBut b o (Nat.ne_of_lt (Heap.lt_size e)) (Heap.get?_push_of_some _ e)
   have frame':Fr (hideAll s.heap (news.map (·.1))) s.heap.objs.size hp (fun y=>binds.reverse.lookup y):=⟨ns,fun b o r=>up b o (of_hideAll _ r),Nat.le_of_eq (hideAll_size _ _)⟩
   have ledger:News (hideAll s.heap (news.map (·.1))) s.heap.objs.size hp news:=fun p q=>And.intro (up _ _ (N p q).1) ⟨Nat.ne_of_lt (Heap.lt_size (N p q).1),hideAll_none _ (List.mem_map_of_mem q)⟩
   refine⟨(hlim.keeps F.keep).fresh _ same,?_⟩
   have run:=h _ _ hp onG frame' ledger belowG
   cases fb with
   | expr b=>exact kla_codeExpr run
   | stmts b=>exact codeAny_func run) hk
 cases fb with
 | expr b=>exact kla_callFunE hroom (N _ ho).1 rfl hco hgen rfl hcd (hbind _ _ _ _ go)
 | stmts b=>exact codeAny_call_function hroom (N _ ho).1 rfl hco hgen rfl hcd (hbind _ _ _ _ go)
end
section
variable {g:Gl} {r:Rec} {n:Nat} {c:Cx} {σ : St}
theorem ZcA {l:List Str} (h:Zcq l=true):l.Nodup:=by
 induction l with
 | nil=>exact List.nodup_nil
 | cons x l ih=>
  obtain⟨h1,h2⟩:=Yb (show (!l.contains x&&Zcq l)=true from h)
  exact List.nodup_cons.mpr ⟨fun hm=>by rw[List.contains_iff_mem.mpr hm] at h1; exact Za h1,ih h2⟩
theorem Zcl {l:List (Str × Value)} {y:Str} {v:Value} (nd:(l.map (·.1)).Nodup) (hm:(y,v) ∈ l):l.lookup y=some v:=by
 induction l with
 | nil=>cases hm
 | cons p l ih=>
  obtain⟨x,w⟩:=p
  obtain⟨nd1,nd2⟩:=List.nodup_cons.mp nd
  rw[List.lookup_cons]
  rcases List.mem_cons.mp hm with e | hm
  ·cases e; rw[beq_self_eq_true]
  ·have:y≠x:=fun e=>nd1 (by rw[← e]; exact List.mem_map_of_mem (f:=(·.1)) hm)
   rw[beq_false_of_ne this]; exact ih nd2 hm
theorem Zb9 {l:List (Str × Value)} (nd:(l.map (·.1)).Nodup) (y:Str):l.reverse.lookup y=l.lookup y:=by
 cases h:l.lookup y with
 | some v=>
  refine Zcl (l:=l.reverse) ?_ (List.mem_reverse.mpr (mem_of_lookup h))
  rw[List.map_reverse]; exact List.pairwise_reverse.mpr (nd.imp fun h=>h.symm)
 | none=>
  cases h2:l.reverse.lookup y with
  | none=>rfl
  | some v=>
   have:=List.mem_reverse.mp (mem_of_lookup h2)
   rw[Zcl nd this] at h; cases h
structure LamOK (A:Arguments) (scope:Scope):Prop where
 plain:Zbh A=true
 dfl:A.defaults = []
 kind:scope.kind=.function
 co:scope.isCoroutine=false
 gen:scope.isGenerator=false
 cell:∀ x ∈ scope.names,x.2≠.cell
 gdn:∀ x ∈ scope.names,gd x.1=true
 arg:∀ x ∈ A.args,gd x.arg=true
 loc:∀ x ∈ A.args,scope.names.lookup x.arg=some .local
 nd:(A.args.map (·.arg)).Nodup
theorem Zca {A:Arguments} {scope:Scope} (h:Za9 A scope=true):LamOK A scope:=by
 unfold Za9 at h
 simp only [Bool.and_eq_true,List.all_eq_true,beq_iff_eq,Bool.not_eq_true',bne_iff_ne,List.isEmpty_iff] at h
 obtain⟨⟨⟨⟨⟨⟨⟨h0,h7⟩,h1⟩,h2⟩,h3⟩,h4⟩,h5⟩,h6⟩:=h
 exact⟨h0,h7,h1,h2,h3,fun x hx=>(h4 x hx).1,fun x hx=>(h4 x hx).2,fun x hx=>(h5 x hx).1,fun x hx=>(h5 x hx).2,ZcA h6⟩
theorem ZgI (bs:Lo):Zah [] bs=bs:=by
 induction bs with
 | nil=>rfl
 | cons p l ih=>exact congrArg (p :: ·) ih
theorem ZgJ (HA:AllS g r n) (hc:CxOK g c (n + 1)) (R:Rel g c σ) {i:Nat} {f:E} {cl:Cs} (e : σ.h.get i=some (.clos f cl)) {vas:List V} {ras:List Value} {kw:Lo} {rkw:List (Str × Value)} {ko:KA} {ke:KX}
  (ha:VRs g σ vas ras) (hkw:SR g σ kw rkw) (h:ZeN r f cl vas kw c.hd σ.h σ.nx ko ke=true) {Q Er:Value→Shared→Prop} (hQ:PA g c σ ko Q) (hE:PAX g c σ ke Er) :
  wpAny g.M c.A (call (.ref (σ.ρ (2 * i))) ras rkw) Q Er σ.s:=by
 obtain⟨name,qual,A,fb,scope,clos,doc,pm,c',ctv,p,k,hb,hp,⟨hpd,hpc⟩,hlam,hm,hcn,hcs⟩:ClosR g σ (σ.ρ (2 * i)) f cl:=R.trk _ _ e
 have LK:=Zca hlam
 obtain⟨A₀,B₀⟩:=R.B
 have hbs:∃ bs,Zb0 (A.args.map fun x=>enc x.arg) vas kw []=some bs∧Zma r fb k scope.names ⟨cl,c.hd.hd,c.hd.ora,false⟩ σ.h σ.nx bs ko ke:=by
  cases fb with
  | expr b=>
   obtain rfl:f=.u 5 0 (.f p (cE k scope.names b)):=hb
   refine Zc (show og (Zb0 p.ps vas kw p.d) _=true from h) fun bs hbs h2=>?_
   rw[hpd,hp] at hbs
   exact⟨bs,hbs,h2⟩
  | stmts b=>
   obtain rfl:f=.f p (cSs k scope.names b):=hb
   refine Zc (show og (Zb0 p.ps vas kw p.d) _=true from h) fun bs hbs h2=>?_
   rw[hpd,hp] at hbs
   rw[hpc,ZgI] at h2
   exact⟨bs,hbs,h2⟩
 clear h hb
 obtain⟨bs,hbs,h2⟩:=hbs
 obtain⟨rbs,sr,hbind,hnames⟩:=Zhy (fd:=mkFn name qual A fb scope clos doc pm c' ctv) (ds:=[]) (Zbw LK.plain) LK.arg (.inl ⟨rfl,rfl⟩) (show VRs g σ [] [] from trivial) ha hkw hbs
 have hndb:(rbs.map (·.1)).Nodup:=by rw[hnames]; exact LK.nd
 obtain⟨cc,oc,vs,t,e1,p1,d1,v1⟩:=id hcn
 refine wpAny_call (ZhB B₀ R.F R.N (hc.T R).nolimit hc.fr hc.ff hc.fk hm ⟨cc,oc,vs,t,e1,(R.N _ p1.1).1,d1,v1⟩ (room hc) hbind (fun y hy=>by
   obtain⟨x,h1,h3⟩:=Zcz hnames hy
   rw[← h3]; exact LK.loc x h1) (fun g0 L' h₁ FG F' N' BG=>?_) LK.co LK.gen LK.kind LK.cell)
 generalize henv:envX qual scope L' (σ.ρ (2 * i)) (.ref c') clos=env
 have eloc:env.locals=L':=by rw[← henv]
 have eframe:env.frame=some L':=by rw[← henv]
 have escope:env.scope=scope:=by rw[← henv]
 have ecells:env.cells=clos:=by rw[← henv]
 have hLR:LR g σ bs (fun y=>rbs.reverse.lookup y):=fun x hx=>by
  show OV g σ _ (List.lookup x rbs.reverse)
  rw[Zb9 hndb]
  exact sr.look x hx
 obtain⟨R0,X0⟩:=R.enter (c':=callee c env L' [] false) rfl eloc (lo:=bs) (tk:=σ.s.toks + rbs.length) F' N' hLR.lw ⟨_,BG⟩ rfl rfl
 have R2:Rel g (callee c env L' cl false) { σ with lo:=bs,m:=fun y=>rbs.reverse.lookup y,s:={ σ.s with heap:=h₁,toks:=σ.s.toks + rbs.length },g0:=g0 }:=
  ⟨⟨R0.nd,R0.fr,R0.inj,R0.trk,by show CsR cl _ _ env.cells; rw[ecells]; exact hcs,R0.loc,R0.tab,R0.B,R0.hh⟩,R0.F,R0.N,R0.gens,R0.os⟩
 have hc2:=hc.callee (cs:=cl) (b:=false) BG eframe (by rw[escope]; exact LK.kind) (by rw[← henv]) (by rw[← henv]) nofun
 obtain⟨oV,oX⟩:=Zjj (σ₁:={ σ with lo:=bs,m:=fun y=>rbs.reverse.lookup y,s:={ σ.s with heap:=h₁,toks:=σ.s.toks + rbs.length },g0:=g0 }) R hc (Nat.le_refl _) (fun _ _=>rfl) (fun _ _ p _=>p) (fun _ t=>t) FG R2 eloc hc2 hQ hE
 cases fb with
 | expr b=>exact HA.ev _ hc2 k b _ R2 _ _ (by show r.ev (cE k env.scope.names b) _ _ _ _ _ _=true; rw[escope]; exact h2) _ _ oV oX
 | stmts b=>exact HA.ex _ hc2 rfl k b _ R2 _ _ _ _ _ (by show r.ex (cSs k env.scope.names b) _ _ _ _ _ _ _ _ _=true; rw[escope]; exact h2) (fun fl s'=>Q (match fl with | .ret v=>v | _=>.none) s') _ (fun σf Rf Xf hk=>oV σf .none .none Rf Xf rfl hk) PU.no PU.no (fun σf v rv Rf Xf vr hk=>oV σf v rv Rf Xf vr hk) oX
end
section
variable {g:Gl} {r:Rec} {n:Nat} {c:Cx} {σ : St}
noncomputable def Zx (cells:List (Str × Addr)):List (Str × NameKind)→List (Str × Addr)→List (Str × Addr)
 | [],acc=>acc
 | p :: r,acc=>Zx cells r (cond (p.2==NameKind.free) ((cells.lookup p.1).elim acc fun a=>(p.1,a) :: acc) acc)
theorem Zcm {scope:Scope} {env:Env} (h:∀ x,(x,NameKind.free) ∈ scope.names→(env.cells.lookup x).isSome=true):closureFor scope env=pure (Zx env.cells scope.names []):=by
 unfold closureFor
 have main:∀ (l:List (Str × NameKind)) (acc:List (Str × Addr)),(∀ x,(x,NameKind.free) ∈ l→(env.cells.lookup x).isSome=true)→
   (forIn l acc fun (x:Str × NameKind) (s:List (Str × Addr))=>if (x.2==NameKind.free)=true then(do let a ← cellOf env x.1; pure (ForInStep.yield ((x.1,a) :: s)):Sem (ForInStep (List (Str × Addr)))) else pure (ForInStep.yield s))=pure (Zx env.cells l acc):=by
  intro l
  induction l with
  | nil=>intro acc _; rfl
  | cons p r ih=>
   obtain⟨x,k⟩:=p
   intro acc hl
   rw[List.forIn_cons]
   show _=pure (Zx env.cells r (cond (k==NameKind.free) ((env.cells.lookup x).elim acc fun a=>(x,a) :: acc) acc))
   cases hk:(k==NameKind.free) with
   | false=>
    rw[if_neg Bool.false_ne_true,pure_bind]
    exact ih acc fun y hy=>hl y (.tail _ hy)
   | true=>
    obtain⟨a,ha⟩:=Option.isSome_iff_exists.mp (hl x (by rw[← beq_iff_eq.mp hk]; exact .head _))
    have hc:cellOf env x=pure a:=by unfold cellOf; rw[ha]
    rw[if_pos rfl,hc,pure_bind,pure_bind,ha]
    exact ih _ fun y hy=>hl y (.tail _ hy)
 have:=main scope.names [] h
 simp only [bind_pure] at this ⊢
 exact this
theorem Zc7 {cells:List (Str × Addr)} {x:Str} {a:Addr} (ha:cells.lookup x=some a) {l:List (Str × NameKind)}:∀ {acc:List (Str × Addr)},((x,NameKind.free) ∈ l∨acc.lookup x=some a)→(Zx cells l acc).lookup x=some a:=by
 induction l with
 | nil=>intro acc h; exact h.resolve_left nofun
 | cons p r ih=>
  obtain⟨y,k⟩:=p
  intro acc h
  refine ih ?_
  have go:acc.lookup x=some a→(cond (k==NameKind.free) ((cells.lookup y).elim acc fun a=>(y,a) :: acc) acc).lookup x=some a:=fun h=>by
   cases hk:(k==NameKind.free) with
   | false=>exact h
   | true=>
    show ((cells.lookup y).elim acc fun a=>(y,a) :: acc).lookup x=some a
    cases hb:cells.lookup y with
    | none=>exact h
    | some b=>
     show ((y,b) :: acc).lookup x=some a
     rw[List.lookup_cons]
     by_cases e:x=y
     ·subst e; rw[beq_self_eq_true,← ha,hb]
     ·rw[beq_false_of_ne e]; exact h
  rcases h with h | h
  ·rcases List.mem_cons.mp h with e | h
   ·cases e
    right
    show (cond true ((cells.lookup x).elim acc fun a=>(x,a) :: acc) acc).lookup x=some a
    rw[ha]
    show ((x,a) :: acc).lookup x=some a
    rw[List.lookup_cons,beq_self_eq_true]
   ·exact .inl h
  ·exact .inr (go h)
theorem Zeu {cs:Cs} {l:List Nat} {j:Nat} (h:Zbq cs l=true) (hm:mem l j=true):∃ a,look cs j=some a:=by
 induction l with
 | nil=>exact Za hm
 | cons k l ih=>
  refine Zc (show og (look cs k) (fun _=>Zbq cs l)=true from h) fun a ha h2=>?_
  rw[mem_cons] at hm
  by_cases e:k=j
  ·exact⟨a,e ▸ ha⟩
  ·rw[if_neg e] at hm; exact ih h2 hm
theorem ZdO {free:List Nat} {cs:Cs} {j i:Nat} (h:look (Zan free cs) j=some i):mem free j=true∧look cs j=some i:=by
 induction cs with
 | nil=>exact Ze h
 | cons p l ih=>
  have h:look (cond (mem free p.1) (p :: Zan free l) (Zan free l)) j=some i:=h
  rw[Zp]
  cases hk:mem free p.1 with
  | true=>
   rw[hk] at h
   have h:look (p :: Zan free l) j=some i:=h
   rw[Zp] at h
   by_cases e:p.1=j
   ·rw[if_pos e] at h ⊢; exact⟨e ▸ hk,h⟩
   ·rw[if_neg e] at h ⊢; exact ih h
  | false=>
   rw[hk] at h
   obtain⟨h1,h2⟩:=ih h
   rw[if_neg (fun e=>by rw[e,h1] at hk; exact Za hk.symm)]
   exact⟨h1,h2⟩
theorem ZbP (pos:Pos) (a b:Int) (cv w:Value):∀ l:List Value,TriplesOk l→codeAmong pos (l ++ [rawInt a,rawInt b,cv])=some w→codeAmong pos l=some w∨(w=cv∧a=pos.line∧b=pos.col)
 | [],_,h=>by
  have h:(if (a==(pos.line:Int)&&b==(pos.col:Int))=true then some cv else codeAmong pos [])=some w:=h
  split at h
  ·next e=>exact .inr ⟨(Option.some.inj h).symm,beq_iff_eq.mp (Yb e).1,beq_iff_eq.mp (Yb e).2⟩
  ·exact Ze h
 | .int line t :: .int col u :: c0 :: rest,ht,h=>by
  have h:(if (line==(pos.line:Int)&&col==(pos.col:Int))=true then some c0 else codeAmong pos (rest ++ [rawInt a,rawInt b,cv]))=some w:=h
  show (if (line==(pos.line:Int)&&col==(pos.col:Int))=true then some c0 else codeAmong pos rest)=some w∨_
  split at h
  ·next e=>rw[if_pos e]; exact .inl h
  ·next e=>rw[if_neg e]; exact ZbP pos a b cv w rest ht h
theorem Rel.table (R:Rel g c σ) (htabs:∀ q ∈ g.tabs,∀ q' ∈ g.tabs,q.2.1=q'.2.1→q=q') {q:Addr × Addr × Str} (hq:q ∈ g.tabs) {ps:Array Value} (hps:(q.2.1,tabObj ps) ∈ σ.news) (ht:TriplesOk ps.toList) {h':Heap} {tk:Nat} {pos:Pos} {c':Addr} {oc:Obj} {vs:Array Value} {t:Tok}
  (F':Fr σ.g0 c.L h' σ.m) (N':News σ.g0 c.L h' ((c',oc) :: setN σ.news q.2.1 (tabObj (ps ++ #[rawInt pos.line,rawInt pos.col,.ref c'])))) (hf:∀ p ∈ σ.news,p.1 < c') (hd:oc.data=.fields vs) (hv:vs[1]? = some (.str (q.2.2++g.dn pos.line pos.col) t)) :
  Rel g c (σ.led ((c',oc) :: setN σ.news q.2.1 (tabObj (ps ++ #[rawInt pos.line,rawInt pos.col,.ref c']))) h' tk)∧Ext g c σ (σ.led ((c',oc) :: setN σ.news q.2.1 (tabObj (ps ++ #[rawInt pos.line,rawInt pos.col,.ref c']))) h' tk) ∧
   CodeN g (σ.led ((c',oc) :: setN σ.news q.2.1 (tabObj (ps ++ #[rawInt pos.line,rawInt pos.col,.ref c']))) h' tk) (.ref c') (q.2.2++g.dn pos.line pos.col):=by
 have uP:Unt σ q.2.1:=(R.tab.1 q hq).1
 have qTA:q.2.1 ∈ g.TA:=Ze7 hq
 have keep:∀ x o,(x,o) ∈ σ.news→x≠q.2.1→(x,o) ∈ (c',oc) :: setN σ.news q.2.1 (tabObj (ps ++ #[rawInt pos.line,rawInt pos.col,.ref c'])):=fun x o h hne=>.tail _ (Zs h hne)
 have hkeys:∀ p ∈ setN σ.news q.2.1 (tabObj (ps ++ #[rawInt pos.line,rawInt pos.col,.ref c'])),p.1 < c':=fun p hp=>by
  have h1:=List.mem_map_of_mem (f:=(·.1)) hp
  rw[Z5] at h1
  obtain⟨p',hp',e⟩:=List.mem_map.mp h1
  exact e ▸ hf p' hp'
 have fr:=R.fresh hf
 generalize hσ : σ.led ((c',oc) :: setN σ.news q.2.1 (tabObj (ps ++ #[rawInt pos.line,rawInt pos.col,.ref c']))) h' tk = σ'
 have eh : σ'.h = σ.h:=by rw[← hσ]; rfl
 have eρ : σ'.ρ = σ.ρ:=by rw[← hσ]; rfl
 have pin:∀ x o,Pin0 g σ x o→Pin0 g σ' x o:=fun x o p=>by rw[← hσ]; exact⟨keep x o p.1 fun e=>p.2.2 (e ▸ qTA),p.2.1,p.2.2⟩
 have X:Ext g c σ σ':=by rw[← hσ]; exact⟨Nat.le_refl _,fun _ _=>rfl,fun x o p _ _=>by rw[hσ]; exact pin x o p,fun T ⟨o,p,t⟩=>⟨o,by rw[hσ]; exact pin T o p,t⟩,fun _=>rfl,.refl⟩
 have Z:=X.z R
 have CN:CodeN g σ' (.ref c') (q.2.2++g.dn pos.line pos.col):=⟨c',oc,vs,t,rfl,by rw[← hσ]; exact⟨.head _,fr.1,fr.2⟩,hd,hv⟩
 have en : σ'.news=(c',oc) :: setN σ.news q.2.1 (tabObj (ps ++ #[rawInt pos.line,rawInt pos.col,.ref c'])):=by rw[← hσ]; rfl
 refine⟨⟨⟨?_,?_,?_,fun i o e=>?_,R.cs.mono0 Z,?_,⟨fun q' hq'=>?_,fun p hp=>⟨by rw[en]; exact keep _ _ (R.tab.2 p hp).1 fun e=>(R.tab.2 p hp).2.2 q hq e.symm,by rw[← hσ]; exact(R.tab.2 p hp).2.1,(R.tab.2 p hp).2.2⟩⟩,?_,?_⟩,?_,?_,?_,?_⟩,X,CN⟩
 ·rw[en]; exact ZbK (by rw[Z5]; exact R.nd) hkeys
 ·rw[← hσ]; exact R.fr
 ·rw[← hσ]; exact R.inj
 ·rw[eh] at e
  show ORa g σ' (σ'.ρ (2 * i)) (σ'.ρ (2 * i + 1)) o
  rw[eρ]
  exact(R.trk i o e).mono0 Z (fun x m=>by rw[en]; exact keep _ _ m fun z=>uP _ (Zh e) z) fun t x m=>by rw[en]; exact keep _ _ m fun z=>uP _ (ZR e t) z
 ·have hl : σ'.lo = σ.lo:=by rw[← hσ]; rfl
  have hm : σ'.m = σ.m:=by rw[← hσ]; rfl
  rcases R.locK Z hl hm (fun n x m=>by rw[en]; exact keep _ _ m fun e=>(R.locU n).2 (e ▸ qTA)) with h | ⟨n,o,m',a,b⟩
  ·exact .inl h
  ·exact .inr ⟨n,o,m',a,by rw[← hσ]; exact(R.locU n).1,(R.locU n).2,b⟩
 ·obtain⟨u,ps',m,ht',hc'⟩:=R.tab.1 q' hq'
  refine⟨by rw[← hσ]; exact u,?_⟩
  by_cases e:q'.2.1=q.2.1
  ·obtain rfl:=htabs q' hq' q hq e
   have e2:ps'=ps:=by have:=Zn R.N m hps; injection this with _ _ e3; injection e3
   subst e2
   refine⟨_,by rw[en]; exact .tail _ (Zu hps),?_,fun pos' cv h=>?_⟩
   ·rw[Array.toList_append]; exact TriplesOk_snoc _ _ (.ref c') _ ht
   ·rw[Array.toList_append] at h
    rcases ZbP pos' _ _ (.ref c') cv _ ht h with h | ⟨h,h1,h2⟩
    ·exact(hc' pos' cv h).mono0 Z
    ·rw[h,← Int.ofNat.inj h1,← Int.ofNat.inj h2]; exact CN
  ·exact⟨ps',by rw[en]; exact keep _ _ m e,ht',fun pos cv h=>(hc' pos cv h).mono0 Z⟩
 ·rw[← hσ]; exact R.B
 ·rw[← hσ]; exact R.hh
 ·rw[← hσ]; exact F'
 ·rw[← hσ]; exact N'
 ·rw[← hσ]; exact R.gens
 ·rw[← hσ]; exact R.os
end
section
variable {g:Gl} {r:Rec} {n:Nat} {c:Cx} {σ : St}
theorem ZhC (OK:POK g.P g.K g.tabs g.dn) (hc:CxOK g c (n + 1)) (R:Rel g c σ) {name:Str} {A:Arguments} {fb:FuncBody} {scope:Scope} {pos:Pos} {fl:Nat} {f:E} {p:FP} {k:Nat} (hb:Zhe f p k scope fb)
  (hps:p.ps=A.args.map fun x=>enc x.arg) (hdd:p.d = []∧p.cs = []) (hfr:p.fr=ZC scope.names) (ok:Za9 A scope=true) (hname:name=g.dn pos.line pos.col) (hm:c.hd.mkr=true) (ha:Zbq c.hd.cs p.fr=true) {Q Er:Value→Shared→Prop}
  (hQ:∀ σ' x,Rel g c σ'→Ext g c σ σ'→VR g σ' (.ref σ.nx) (.ref x)→σ'.h=hp σ.h σ.nx (.clos f (Zan p.fr c.hd.cs))→σ'.nx=Nat.succ σ.nx→σ'.lo = σ.lo→Q (.ref x) σ'.s) :
  wpAny g.M c.A (makeFunction name (c.env.qual++name) A fb scope c.env [] [] [] pos fl) Q Er σ.s:=by
 obtain⟨cc,P,hcode,hq,hhd⟩:=hc.mkk hm
 have LK:=Zca ok
 rw[hfr] at ha hQ
 have hcl:=Zcm (scope:=scope) (env:=c.env) fun x hx=>by
  obtain⟨i,hi⟩:=Zeu ha ((mem_filter LK.gdn (LK.gdn _ hx)).mpr hx)
  rw[(R.cs x i (LK.gdn _ hx) hi).2]; rfl
 have hCsR:CsR (Zan (ZC scope.names) c.hd.cs) σ.ρ σ.nx (Zx c.env.cells scope.names []):=fun x i hx hi=>by
  obtain⟨m1,m2⟩:=ZdO hi
  obtain⟨i1,i2⟩:=R.cs x i hx m2
  exact⟨i1,Zc7 i2 (.inl ((mem_filter LK.gdn hx).mp m1))⟩
 generalize Zx c.env.cells scope.names []=clos at hcl hCsR
 obtain⟨uP,ps,hP,ht,hcodes⟩:=R.tab.1 _ hq
 have gP:=(R.N _ hP).1
 have hgs:=(hc.T R).g.keeps R.F.keep
 obtain⟨bm,ob,b1,b2,b3,b4,b5,b6⟩:=(hc.T R).bmain
 have hb3:=R.F.keep _ _ b3
 have hgP:mainGlobals≠P:=fun q=>by
  obtain⟨o,es,ep,e,hd,_⟩:=hgs
  rw[q,show σ.s.heap.get? P = _ from gP] at e
  cases e; cases hd
 have hbP:bm≠P:=fun q=>by
  rw[q,show σ.s.heap.get? P = _ from gP] at hb3
  cases hb3; cases b4
 have hbG:bm≠mainGlobals:=fun q=>by
  obtain⟨o,es,ep,e,hd,_⟩:=hgs
  rw[← q,hb3] at e; cases e; rw[b6] at hd; cases hd
 have hBA : σ.s.heap.BuiltinsAt g.mg P:=⟨bm,ob,b1,b2,hbG,hbP,hb3,b4,b5,b6⟩
 have hLs:c.L < σ.s.heap.objs.size:=R.F.ns.lt
 have fresh:∀ b,c.L < b→σ.g0.get? b=none:=fun b hb=>Heap.get?_none_of_le (Nat.le_trans R.F.above (Nat.le_of_lt hb))
 have C:=hhd.keeps fun b o q=>R.F.keep b o (R.stays b o q)
 have last:∀ (σ₁:St) (doc pm:Value) (c':Addr) (ctv:Value) (h' h₁:Heap) (tk t₁:Nat),Rel g c σ₁→Ext g c σ σ₁→σ₁.h = σ.h→σ₁.nx = σ.nx→σ₁.lo = σ.lo→CodeN g σ₁ (.ref c') (c.env.qual++name)→c.L < h'.objs.size→(∀ p ∈ σ₁.news,p.1 < h'.objs.size)→
   Fr σ₁.g0 c.L (h'.push (Zbu name (c.env.qual++name) A fb scope clos doc pm c' ctv)) σ₁.m→News σ₁.g0 c.L (h'.push (Zbu name (c.env.qual++name) A fb scope clos doc pm c' ctv)) σ₁.news→σ₁.s = { σ.s with heap:=h₁,toks:=t₁ }→
   Q (.ref h'.objs.size) { σ.s with heap:=h'.push (Zbu name (c.env.qual++name) A fb scope clos doc pm c' ctv),toks:=tk }:=by
  intro σ₁ doc pm c' ctv h' h₁ tk t₁ R1 X1 e1 e2 e3 CN hl hlt F' N' es
  obtain⟨σ',R2,X2,v,h1,h2,h3,h4⟩:=R1.new1 (tk:=tk) (o:=.clos f (Zan (ZC scope.names) c.hd.cs)) F' (fun q hq=>by
   rcases List.mem_cons.mp hq with rfl | hq
   ·exact⟨Heap.get?_push_size _ rfl,Nat.ne_of_gt hl,Heap.get?_none_of_le (Nat.le_trans R1.F.above (Nat.le_of_lt hl))⟩
   ·exact N' q hq) hlt rfl (fun σ' m Z=>.mk name _ A fb scope clos doc pm c' ctv p k hb hps hdd ok m (CN.mono0 Z) ((hCsR.mono0 (X1.z R)).mono0 Z))
  have q:=hQ σ' h'.objs.size R2 (X1.trans X2) (e2 ▸ v) (by rw[h1,e1,e2]) (by rw[h2,e2]) (h3.trans e3)
  rw[h4,es] at q
  exact q
 cases hnf:codeAmong pos ps.toList with
 | none=>
  have fin:∀ (doc pm:Value) c' ctv h' tk,Heap.ExtBut P σ.s.heap h'→σ.s.heap.objs.size≤c'→c' < h'.objs.size→h'.CodeRec (.ref c') (c.env.qual++name)→h'.get? P=some (tabObj (ps ++ #[rawInt pos.line,rawInt pos.col,.ref c']))→
    Q (.ref h'.objs.size) { σ.s with heap:=h'.push (Zbu name (c.env.qual++name) A fb scope clos doc pm c' ctv),toks:=tk }:=by
   intro doc pm c' ctv h' tk hx hge hlt hrec htb
   obtain⟨c₂,oc,vs,t,e2,hoc,hd,hv⟩:=hrec
   cases e2
   have hLc:c.L < c':=Nat.lt_of_lt_of_le hLs hge
   have hall:∀ p ∈ σ.news,p.1 < c':=fun p hp=>Nat.lt_of_lt_of_le (Heap.lt_size (R.N p hp).1) hge
   have F1:Fr σ.g0 c.L h' σ.m:=⟨R.F.ns.extBut hx ((R.N _ hP).2.1).symm,fun b o e=>hx b o (fun q=>by rw[q,(R.N _ hP).2.2] at e; cases e) (R.F.keep b o e),R.F.above⟩
   have N1:News σ.g0 c.L h' ((c',oc) :: setN σ.news P (tabObj (ps ++ #[rawInt pos.line,rawInt pos.col,.ref c']))):=fun p hp=>by
    rcases List.mem_cons.mp hp with rfl | hp
    ·exact⟨hoc,Nat.ne_of_gt hLc,fresh _ hLc⟩
    ·obtain⟨p',hp',rfl⟩:=List.mem_map.mp hp
     by_cases e:p'.1=P
     ·rw[if_pos e]; exact⟨htb,(R.N _ hP).2⟩
     ·rw[if_neg e]; exact⟨hx _ _ e (R.N _ hp').1,(R.N _ hp').2⟩
   rw[hname] at hv
   obtain⟨R1,X1,CN⟩:=R.table OK.tabs hq hP ht (tk:=tk) F1 N1 hall hd hv
   rw[← hname] at CN
   exact last _ doc pm c' ctv h' h' tk tk R1 X1 rfl rfl rfl CN (Nat.lt_trans hLc hlt) (fun p hp=>Heap.lt_size (N1 p hp).1) ⟨R1.F.ns.push _,fun b o e=>Heap.get?_push_of_some _ (R1.F.keep b o e),R1.F.above⟩ (fun p hp=>⟨Heap.get?_push_of_some _ (N1 p hp).1,(N1 p hp).2⟩) rfl
  cases fb with
  | expr b=>exact kla_makeFunction (mg:=g.mg) hcl hc.eg hgs hcode C gP ht hnf hgP hBA fun c' ctv h' tk=>fin _ _ c' ctv h' tk
  | stmts b=>exact makeFunction_K (mg:=g.mg) hcl hc.eg hgs hcode C gP ht hnf hgP hBA fun c' ctv doc h' tk=>fin _ _ c' ctv h' tk
 | some cv=>
  have CN:=hcodes pos cv hnf
  rw[← hname] at CN
  obtain⟨c',oc,vs,t,rfl,p1,d1,v1⟩:=id CN
  have fin:∀ (doc pm ctv:Value) (h':Heap) (tk:Tok),(∀ b o,σ.s.heap.get? b=some o→h'.get? b=some o)→σ.s.heap.objs.size≤h'.objs.size→
    Q (.ref h'.objs.size) { σ.s with heap:=h'.push (Zbu name (c.env.qual++name) A fb scope clos doc pm c' ctv),toks:=tk }:=by
   intro doc pm ctv h' tk hk' hsz
   have hlt:∀ p ∈ σ.news,p.1 < h'.objs.size:=fun p hp=>Nat.lt_of_lt_of_le (Heap.lt_size (R.N p hp).1) hsz
   exact last σ doc pm c' ctv h' σ.s.heap tk σ.s.toks R (.refl ..) rfl rfl rfl CN (Nat.lt_of_lt_of_le hLs hsz) hlt ⟨(R.F.ns.keeps hk').push _,fun b o e=>Heap.get?_push_of_some _ (hk' b o (R.F.keep b o e)),R.F.above⟩ (fun p hp=>⟨Heap.get?_push_of_some _ (hk' _ _ (R.N p hp).1),(R.N p hp).2⟩) rfl
  cases fb with
  | expr b=>exact kla_makeFunctionHit (mg:=g.mg) hcl hc.eg hgs hcode C gP ht hnf hBA fun ctv h' tk=>fin _ _ ctv h' tk
  | stmts b=>exact makeFunction_hit (mg:=g.mg) hcl hc.eg hgs hcode C gP ht hnf hBA fun ctv doc h' tk=>fin _ _ ctv h' tk
theorem Zmb (OK:POK g.P g.K g.tabs g.dn) (hc:CxOK g c (n + 1)) (R:Rel g c σ) {k:Nat} {A:Arguments} {body:PySem.Expr} {scope:Scope} {pos:Pos} {ko:V→KS} {ke:Nat→KS} (h:evG g.P r (cE (k + 1) c.env.scope.names (.Lambda A body scope pos)) c.hd σ.h σ.nx σ.lo ko ke=true) {Q Er:Value→Shared→Prop} (hQ:PV g c σ ko Q) :
  wpAny g.M c.A (eval (.Lambda A body scope pos) c.env) Q Er σ.s:=by
 obtain⟨ok,h⟩:=Z0 (show evG g.P r (cond (Za9 A scope) (.u 5 0 (.f ⟨pos.line,pos.col,A.args.map fun x=>enc x.arg,[],[],ZC scope.names⟩ (cE k scope.names body))) bad) _ _ _ _ _ _=true from h)
 refine Zf (show (bif c.hd.mkr&&Zbq c.hd.cs (ZC scope.names)&&Zgv g.P pos.line pos.col then ko (.ref σ.nx) _ (Nat.succ σ.nx) σ.lo else false)=true from h) fun hb hk=>?_
 obtain⟨hb,hl⟩:=Yb hb
 obtain⟨hm,ha⟩:=Yb hb
 have LK:=Zca ok
 have hn:Zbr g.P pos.line pos.col=none:=by
  cases e:Zbr g.P pos.line pos.col with
  | none=>rfl
  | some m=>unfold Zgv at hl; rw[e] at hl; exact Za hl
 have hdef:defaultsOf A c.env=([],[]):=by rw[Zbw LK.plain,LK.dfl]; rfl
 refine kla_eval hdef (ZhC OK hc R (f:=.u 5 0 (.f ⟨pos.line,pos.col,A.args.map fun x=>enc x.arg,[],[],ZC scope.names⟩ (cE k scope.names body))) (k:=k) (fb:=.expr body) rfl rfl ⟨rfl,rfl⟩ rfl ok ((OK.dfs _ _).1 hn).symm hm ha fun σ' x R' X' v e1 e2 e3=>?_)
 exact hQ σ' _ _ R' X' v (by rw[e1,e2,e3]; exact hk)
end
theorem ZaY {v:Value} {x y:Str} {t:Tok} (h:v=.str y t):v.isStr x=decide (y=x):=by
 subst h
 show (y==x) = _
 by_cases e:y=x
 ·subst e; rw[beq_self_eq_true]; exact(decide_eq_true rfl).symm
 ·rw[decide_eq_false e,beq_false_of_ne e]
theorem Zaq (e:DictEntry) (r:List DictEntry) (y:Str):ZA (e :: r) y=if e.key.isStr y=true then some e.val else ZA r y:=by
 unfold ZA
 rw[List.find?_cons]
 cases e.key.isStr y <;> rfl
section
variable {x:Str} {hsh:Int} {t:Tok} {v:Value}
theorem ZgK {es:List DictEntry} (k:Zae es) (y:Str):ZA (putL x hsh (.str x t) v es) y=if y=x then some v else ZA es y:=by
 induction es with
 | nil=>
  unfold putL
  rw[Zaq]
  show (if (Value.str x t).isStr y=true then some v else ZA [] y) = _
  rw[ZaY rfl]
  by_cases e:y=x
  ·subst e; simp
  ·rw[decide_eq_false (fun q=>e q.symm),if_neg e]; rfl
 | cons e r ih=>
  obtain⟨z,u,hz,_⟩:=k e (.head _)
  have kr:Zae r:=fun q hq=>k q (.tail _ hq)
  unfold putL
  rw[ZaY hz]
  by_cases h:z=x
  ·subst h
   rw[decide_eq_true rfl,if_pos rfl,Zaq,Zaq]
   show (if e.key.isStr y=true then some v else _) = _
   rw[ZaY hz]
   by_cases q:z=y
   ·subst q; simp
   ·rw[decide_eq_false q,if_neg Bool.false_ne_true,if_neg Bool.false_ne_true,if_neg (fun e=>q e.symm)]
  ·rw[decide_eq_false h,if_neg Bool.false_ne_true,Zaq,Zaq,ZaY hz,ih kr]
   by_cases q:z=y
   ·subst q; rw[decide_eq_true rfl,if_pos rfl,if_pos rfl,if_neg h]
   ·rw[decide_eq_false q,if_neg Bool.false_ne_true,if_neg Bool.false_ne_true]
theorem ZgL (hx:gd x=true) {es:List DictEntry} (k:Zae es):Zae (putL x hsh (.str x t) v es):=by
 induction es with
 | nil=>
  intro e he
  rcases List.mem_cons.mp he with rfl | he
  ·exact⟨x,t,rfl,hx⟩
  ·cases he
 | cons e r ih=>
  intro q hq
  unfold putL at hq
  split at hq
  ·rcases List.mem_cons.mp hq with rfl | hq
   ·exact k e (.head _)
   ·exact k q (.tail _ hq)
  ·rcases List.mem_cons.mp hq with rfl | hq
   ·exact k _ (.head _)
   ·exact ih (fun q hq=>k q (.tail _ hq)) q hq
theorem Zfo {es:List DictEntry} (k:Zae es):(putL x hsh (.str x t) v es).length=if (ZA es x).isSome=true then es.length else es.length + 1:=by
 induction es with
 | nil=>rfl
 | cons e r ih=>
  obtain⟨z,u,hz,_⟩:=k e (.head _)
  have ih:=ih fun q hq=>k q (.tail _ hq)
  unfold putL
  rw[Zaq,ZaY hz]
  by_cases h:z=x
  ·subst h; simp
  ·rw[decide_eq_false h,if_neg Bool.false_ne_true,if_neg Bool.false_ne_true,List.length_cons,ih]
   split <;> rfl
end
section
variable {g:Gl} {c:Cx} {σ : St}
theorem Zea {es:List DictEntry} {f:Lo} {x:Str} {w:V} {rw_:Value} {n':Nat} {hsh:Int} {t:Tok} {d:Addr} (hx:gd x=true) (kk:Zae es) (ll:es.length≤f.length) (lr:LR g σ f (ZA es)) (hw:VR g σ w rw_)
  (m:(d,dictOf (putL x hsh (.str x t) rw_ es) n') ∈ σ.news):OwnR g σ d (upd f (enc x) w):=by
 refine⟨_,_,m,ZgL hx kk,?_,fun y hy=>?_⟩
 ·rw[Zfo kk,ZjA]
  have q:=lr x hx
  cases hq:look f (enc x) with
  | none=>
   rw[hq] at q
   rw[show ZA es x=none from q]
   exact Nat.succ_le_succ ll
  | some u=>
   rw[hq] at q
   obtain⟨z,e,_⟩:=q
   rw[e]; exact ll
 ·rw[Zb2,ZgK kk]
  by_cases e:y=x
  ·subst e; rw[if_pos rfl,if_pos rfl]; exact⟨rw_,rfl,hw⟩
  ·rw[if_neg e,if_neg (fun q=>e (Zw hy hx q))]; exact lr y hy
theorem Zf4 {es:List DictEntry} {x:Str} {hsh:Int} {t:Tok} {v:Value} {b:Nat} (kk:Zae es) (h:es.length < b):(putL x hsh (.str x t) v es).length≤b:=by
 rw[Zfo kk]
 split
 ·exact Nat.le_of_lt h
 ·exact h
theorem Rel.grow (R:Rel g c σ) {i C:Nat} {t:Bool} {f:Lo} (ho : σ.h.get i=some (.exc C t [])) {ox' od:Obj} {d:Addr} {h':Heap} {tk:Nat} (F':Fr σ.g0 c.L h' σ.m) (N':News σ.g0 c.L h' ((d,od) :: setN σ.news (σ.ρ (2 * i)) ox'))
  (hd:∀ p ∈ σ.news,p.1 < d) (hr:∀ σ':St,σ'.ρ (2 * i) = σ.ρ (2 * i)→σ'.ρ (2 * i + 1)=d→σ'.news=(d,od) :: setN σ.news (σ.ρ (2 * i)) ox'→Ext0 g σ σ'→OR g σ' i (.exc C t f)) :
  ∃ σ',Rel g c σ'∧Ext g c σ σ'∧σ'.h=hp σ.h i (.exc C t f)∧σ'.nx = σ.nx∧σ'.lo = σ.lo∧σ'.s = { σ.s with heap:=h',toks:=tk }:=by
 have hi:=R.lt ho
 have ui:=Zh ho
 have keys:∀ p ∈ setN σ.news (σ.ρ (2 * i)) ox',p.1 < d:=fun p hp=>by
  have h1:=List.mem_map_of_mem (f:=(·.1)) hp
  rw[Z5] at h1
  obtain⟨p',hp',e⟩:=List.mem_map.mp h1
  exact e ▸ hd p' hp'
 have nu : ¬ Use σ.h (2 * i + 1):=fun u=>by
  obtain⟨o,e,q⟩:=ZaP u
  rw[Zaj] at e q
  rw[ho] at e
  cases e
  rcases q with q | ⟨_,q⟩
  ·exact absurd q (Nat.succ_ne_self _)
  ·exact Za q
 let ρ':Nat→Addr:=fun k=>if k=2 * i + 1 then d else σ.ρ k
 have r0:∀ j,ρ' (2 * j) = σ.ρ (2 * j):=fun j=>if_neg fun q=>by have:=congrArg (· % 2) q; simp at this
 have r1 : ρ' (2 * i + 1)=d:=if_pos rfl
 let σ':St:={ σ with h:=hp σ.h i (.exc C t f),ρ:=ρ',news:=(d,od) :: setN σ.news (σ.ρ (2 * i)) ox',s:={ σ.s with heap:=h',toks:=tk } }
 have us:∀ k,Use σ'.h k→Use σ.h k∨k=2 * i + 1:=fun k u=>by
  by_cases q:k / 2=i
  ·obtain⟨o,e,h⟩:=ZaP u
   rw[q] at h
   rcases h with h | ⟨h,_⟩
   ·exact .inl (h ▸ ui)
   ·exact .inr h
  ·left
   unfold Use at u ⊢
   rw[show σ'.h.get (k / 2) = _ from Zm _ _ _ _,if_neg q] at u
   exact u
 have H:Chg g c σ σ' (fun a=>a = σ.ρ (2 * i)):=by
  refine⟨F',N',ZbK (by rw[Z5]; exact R.nd) keys,rfl,rfl,Nat.le_refl _,fun j _=>r0 j,fun k u=>if_neg fun q:k=2 * i + 1=>nu (q ▸ u),fun _ m n=>.tail _ (Zs m n),fun b x q _ e=>q.2.1 _ ui e.symm,fun T t e=>?_,fun q hq e=>R.tabU hq _ ui e.symm,
   fun k u=>(us k u).imp id fun q=>?_,fun j k uj uk nj nk e=>?_,fun j hj=>?_,fun j x hx=>?_,fun Z=>R.locK Z rfl rfl fun n x m=>.tail _ (Zs m fun q=>(R.locU n).1 _ ui q.symm),fun _=>rfl,.refl,R.B⟩
  ·obtain⟨x,q,_⟩:=t; exact(q.2.1 _ ui e.symm).elim
  ·subst q; show ∀ p ∈ σ.news,p.1≠ρ' (2 * i + 1); rw[r1]; exact fun p hp=>Nat.ne_of_lt (hd p hp)
  ·exact((us j uj).resolve_left nj).trans ((us k uk).resolve_left nk).symm
  ·show (hp σ.h i _).get j=none
   rw[Zm,if_neg (fun q:j=i=>absurd hi (Nat.not_lt.mpr (q ▸ hj)))]; exact R.fr j hj
  ·have hx:(hp σ.h i (.exc C t f)).get j=some x:=hx
   rw[Zm] at hx
   by_cases q:j=i
   ·rw[if_pos q] at hx; cases hx; subst q; exact .inr fun Z=>hr _ (r0 _) r1 rfl Z
   ·rw[if_neg q] at hx
    exact .inl ⟨hx,fun l ul hl q2=>q (hl.symm.trans ((congrArg (· / 2) (R.inj l _ ul ui q2)).trans (Zr i)))⟩
 obtain⟨R',X'⟩:=R.to H fun a x p _ _ e=>p.2.1 _ ui e.symm
 exact⟨σ',R',X',rfl,rfl,rfl,rfl⟩
end
end Mn
end
section
set_option tactic.hygienic false
namespace Mn
open PySem PySem.W PyProof.Rows PySem.Calls PySem.Spec PySem.SeqAt PySem.Builtin PySem.Builtin.ObjectAttr
section
variable {prog:Program} {w:World} {A:Around} {K:Frag} {C x:Nat} {s:Shared} {E:Value→Shared→Prop} {R:Result→Shared→Prop}
set_option tactic.hygienic true in
theorem ZjP {l:List (Option Value)} (h:excS l=true):∃ a b c d f,l = [a,b,c,d,some (.builtin "Exception.__new__"),f]:=by
 obtain⟨h1,h2⟩:=Yb h
 obtain⟨a,b,c,d,n,f,rfl⟩:=Zfb h1
 have:some (some (Value.builtin n))=some (some (.builtin "Exception.__new__")):=congrArg some (eq_of_beq h2)
 exact⟨a,b,c,d,f,by rw[Option.some.inj this]⟩
theorem ZjQ {cd:ClassData} (h:excM K C cd cd.mro=true):∃ bm,cd.mro=.ref C :: bm∧cd.hasDel=false∧cd.hasDict=true∧nsOkIn K cd.ns=true∧tailIn K Zcu bm=true:=by
 cases e:cd.mro with
 | nil=>rw[e] at h; exact Za h
 | cons c bm=>
  rw[e] at h
  obtain⟨a,h⟩:=Yb h
  obtain⟨b,h⟩:=Yb h
  obtain⟨b1,b2⟩:=Yb b
  obtain⟨c1,c2⟩:=Yb h
  have e4:cd.hasDel=false:=by
   cases q:cd.hasDel with
   | false=>rfl
   | true=>rw[q] at b1; exact Za b1
  exact⟨bm,by rw[eq_of_beq a],e4,b2,c2,c1⟩
theorem ZjR {oC:Obj} (q:(oC.cls == .type "type" && excO K C oC oC.data)=true):∃ bm N nm qn bs sn sub ab col dd k0 k1 k2 k3 k5,oC=excClassObj nm qn C N bs bm true sn sub ab col dd k0 k1 k2 k3 k5 "Exception.__new__"∧nsOkIn K N=true∧tailIn K Zcu bm=true:=by
 obtain⟨q0,q⟩:=Yb q
 have e0:=eq_of_beq q0
 cases e1:oC.data with
 | cls cd=>
  rw[e1] at q
  obtain⟨q1,q⟩:=Yb q
  obtain⟨k0,k1,k2,k3,k5,e2⟩:=ZjP q1
  obtain⟨bm,e3,e4,e5,e6,e7⟩:=ZjQ q
  refine⟨bm,cd.ns,cd.name,cd.qualname,cd.bases,cd.slotNames,cd.subclasses,cd.abstract,cd.collection,oC.dict,k0,k1,k2,k3,k5,?_,e6,e7⟩
  obtain⟨a,b,c,⟨d⟩⟩:=oC
  obtain⟨n1,n2,n3,n4,n5,n6,n7,n8,n9,na,nb⟩:=cd
  dsimp only at e0 e1 e2 e3 e4 e5
  rw[e0,e1,e2,e3,e4,e5]
 | _=>rw[e1] at q; exact Za q
theorem ZcT {h:Heap} (X:K.In h) (q:excD K C=true):∃ bm N nm qn bs sn sub ab col dd k0 k1 k2 k3 k5 mN,K.lookup C=some (excClassObj nm qn C N bs bm true sn sub ab col dd k0 k1 k2 k3 k5 "Exception.__new__")∧h.Ns N mN∧OwnTail h Zcu bm:=by
 unfold excD at q
 cases ho:K.lookup C with
 | none=>rw[ho] at q; exact Za q
 | some oC=>
  rw[ho] at q
  obtain⟨bm,N,nm,qn,bs,sn,sub,ab,col,dd,k0,k1,k2,k3,k5,rfl,a1,a2⟩:=ZjR q
  exact⟨bm,N,nm,qn,bs,sn,sub,ab,col,dd,k0,k1,k2,k3,k5,_,rfl,.of_isNs (isNs_of_in X a1),tail_of_in X a2⟩
theorem ZfL {h:Heap} {bm:List Value} (T:OwnTail h Zcu bm) (self:Value):refuseLoop self "__setattr__" bm=pure ():=by
 induction T with
 | base=>exact PySem.F.store_Exception.passes self
 | own _ _ _ _ ih=>rw[refuseLoop_ref]; exact ih
theorem ZjS {ox:Obj} {od:Option Obj} {name:Str} {tk:Tok} {v:Value} (X:K.In s.heap) (I:InstAt s.heap x ox C od) (q:excD K C=true) (ht:findIn K (.ref C) name=some none)
  (h:wpAny (model prog w) A.in1 (storeInOwnDict (.ref x) (.ref C) (.str name tk) name v false)
   (fun fin s'=>match fin with | .done f=>R (.ok f) s' | .again c'=>c'.quiet=true∧codeAny (model prog w) A c' R s') (fun e s'=>R (.error e) s') s) :
  codeAny (model prog w) A (.call (.builtin "object.__setattr__") ⟨[.ref x,.str name tk,v],[]⟩) R s:=by
 have SF:=PySem.F.store_object
 obtain⟨bm,N,nm,qn,bs,sn,sub,ab,col,dd,k0,k1,k2,k3,k5,mN,hC,hN,T⟩:=ZcT X q
 have hc:clsIn K C=some { name:=nm,bases:=bs,mro:=.ref C :: bm,ns:=N,qualname:=qn,hasDict:=true,slotNames:=sn,subclasses:=sub,abstract:=ab,collection:=col,hasDel:=false }:=by unfold clsIn; rw[hC]
 have sb:Looks (model prog w) s.heap (isInstance (.ref x) (.type "object")) true:=I.type.andThen (looks_mroIn X (by unfold mroIn; rw[hc]; show some ((Value.ref C :: bm).contains (.type "object"))=some true; rw[List.contains_cons,T.hasType (X:="object") (b:=true) rfl,Bool.or_true]))
 refine codeAny_call_builtin SF.slot.plain SF.entry (@check_slot (model prog w) _ _ s "object.__setattr__" "object" "__setattr__" (.ref x) [.str name tk,v] [] _ SF.kind SF.split sb (SF.args (.ref x) (.str name tk) v) ?_)
 have hm:Looks (model prog w) s.heap (mroOf (.ref C)) (.ref C :: bm):=(looks_clsIn X hc).andThen .now
 rw[osa_eq,refuse_eq]
 refine wpAny_bind (wpAny_bind (I.type.here (wpAny_bind (hm.here ?_))))
 rw[refuseLoop_ref,ZfL T]
 exact wpAny_pure (wpAny_bind (I.type.here (wpAny_bind ((looks_findIn X ht).here (wpAny_bind (Looks.now.here h))))))
theorem ZbQ {dx:Addr} {es:List DictEntry} {n:Nat} {name:Str} {tk:Tok} {v:Value} {Q:Fin→Shared→Prop} (D:s.heap.get? dx=some (dictOf es n)) (kk:Zae es) (hz:(putL name (PyData.keyHash w.params name) (.str name s.toks) v es).length≤1000)
  (h:∀ h',Heap.SameBut dx s.heap h'→h'.get? dx=some (dictOf (putL name (PyData.keyHash w.params name) (.str name s.toks) v es) (putN name es n))→Q (.done (.ret .none)) { s with heap:=h',toks:=s.toks + 1 }) :
  wpAny (model prog w) A (storeInDict dx (.str name tk) name v) Q E s:=by
 refine wpAny_bind (wpAny_pure (wpAny_bind ?_))
 unfold nsSet
 refine wpAny_bind (wpAny_bind (wpAny_askSetting (wpAny_pure (wpAny_bind (wpAny_mkText (wpAny_bind (wpAny_loadPart D ?_)))))))
 dsimp only
 have c:(!es.toArray.any (·.key.isStr name)&&es.toArray.any (·.refKey))=false:=by
  have:es.any (·.refKey)=false:=by
   rw[← Bool.not_eq_true,List.any_eq_true]
   rintro⟨e,he,hr⟩
   obtain⟨y,t,hk,_⟩:=kk e he
   unfold DictEntry.refKey at hr
   rw[hk] at hr; cases hr
  rw[← Array.any_toList,← Array.any_toList,this,Bool.and_false]
 rw[aRefKeyMayBeTheName_at,c]
 have D':=Heap.get?_update_self (Obj.putName name (PyData.keyHash w.params name) (.str name s.toks) v) D (by rw[putName_dict]; rfl)
 rw[putName_dict] at D'
 refine wpAny_updatePart D ?_
 refine wpAny_bind (wpAny_lookBehind D' (pastItsLine_dict (by rw[List.size_toArray,sizeLine_eq]; exact Nat.le_trans hz (by decide))) ?_)
 exact wpAny_pure (h _ (Heap.SameBut.update ..) D')
end
section
variable {prog:Program} {w:World} {A:Around} {K:Frag} {C x:Nat} {s:Shared} {E:Value→Shared→Prop} {R:Result→Shared→Prop}
theorem ZhD {ox:Obj} {vs:Array Value} {name:Str} {tk:Tok} {v:Value} {Q:Fin→Shared→Prop} (X:K.In s.heap) (q:excD K C=true) (hx:s.heap.get? x=some ox) (hC:ox.cls=.ref C) (hv:ox.data=.fields vs)
  (h:(ox.dict=none∧∀ h',h'.get? s.heap.objs.size=some (dictOf (putL name (PyData.keyHash w.params name) (.str name s.toks) v []) 1)→h'.get? x=some { ox with dict:=some s.heap.objs.size }→(∀ b o,b≠x→s.heap.get? b=some o→h'.get? b=some o)→Q (.done (.ret .none)) { s with heap:=h',toks:=s.toks + 1 }) ∨
   ∃ dx es n,ox.dict=some dx∧s.heap.get? dx=some (dictOf es n)∧Zae es∧(putL name (PyData.keyHash w.params name) (.str name s.toks) v es).length≤1000 ∧
    ∀ h',Heap.SameBut dx s.heap h'→h'.get? dx=some (dictOf (putL name (PyData.keyHash w.params name) (.str name s.toks) v es) (putN name es n))→Q (.done (.ret .none)) { s with heap:=h',toks:=s.toks + 1 }) :
  wpAny (model prog w) A (storeInOwnDict (.ref x) (.ref C) (.str name tk) name v false) Q E s:=by
 obtain⟨bm,N,nm,qn,bs,sn,sub,ab,col,dd,k0,k1,k2,k3,k5,mN,hCK,_⟩:=ZcT X q
 have hc:clsIn K C=some { name:=nm,bases:=bs,mro:=.ref C :: bm,ns:=N,qualname:=qn,hasDict:=true,slotNames:=sn,subclasses:=sub,abstract:=ab,collection:=col,hasDel:=false }:=by unfold clsIn; rw[hCK]
 obtain⟨oc,od,oda,osl⟩:=ox
 dsimp only at hC hv h
 subst hC hv
 refine wpAny_bind (wpAny_pure (wpAny_bind (wpAny_bind (wpAny_loadPart hx (wpAny_bind ((looks_clsIn X hc).here ?_))))))
 rcases h with⟨hd,h⟩ | ⟨dx,es,n,hd,hD,kk,hz,h⟩
 ·subst hd
  have hxs:x≠s.heap.objs.size:=Nat.ne_of_lt (Heap.lt_size hx)
  refine wpAny_bind (wpAny_alloc ?_)
  have hx₁:=Heap.get?_push_of_some emptyDict hx
  refine wpAny_bind (wpAny_update hx₁ ?_)
  refine wpAny_pure (wpAny_bind (wpAny_pure ?_))
  have hx₂:=Heap.get?_update_self (fun o=>{ cls:=o.cls,dict:=some s.heap.objs.size,data:=o.data,slots:=o.slots }) hx₁ rfl
  have hD:((s.heap.push emptyDict).update x fun o=>{ cls:=o.cls,dict:=some s.heap.objs.size,data:=o.data,slots:=o.slots }).get? s.heap.objs.size=some (dictOf [] 0):=
   (Heap.get?_update_other _ _ hxs).trans (Heap.get?_push_at rfl rfl)
  refine ZbQ (tk:=tk) hD (fun e he=>absurd he List.not_mem_nil) (by show 1≤1000; decide) fun h' same hd'=>h h' hd' ((same.2 x hxs).trans hx₂) fun b o hb e=>?_
  rw[same.2 b (Nat.ne_of_lt (Heap.lt_size e)),Heap.get?_update_other _ _ (Ne.symm hb)]
  exact Heap.get?_push_of_some _ e
 ·subst hd
  exact wpAny_pure (wpAny_bind (wpAny_pure (ZbQ (tk:=tk) hD kk hz h)))
end
section
variable {g:Gl} {r:Rec} {n:Nat} {c:Cx} {σ : St}
theorem Zk5 (OK:POK g.P g.K g.tabs g.dn) (hc:CxOK g c n) (R:Rel g c σ) {i C:Nat} {f:Lo} {w:V} {rw_:Value} {x:Str} (hx:gd x=true) (ho : σ.h.get i=some (.inst C f)) (hw:VR g σ w rw_) {k:H→Bool}
  (h:(bif Zav g.P C&&Nat.blt f.length 900 then og (ZJ g.P C (enc x)) fun ca=>bif ZeZ ca then k (hp σ.h i (.inst C (upd f (enc x) w))) else false else false)=true) {Q:Unit→Shared→Prop} {Er:Value→Shared→Prop}
  (hQ:∀ σ',Rel g c σ'→Ext g c σ σ'→σ'.lo = σ.lo→σ'.nx = σ.nx→k σ'.h=true→Q () σ'.s) (A:Around):wpAny g.M A (setAttr (.ref (σ.ρ (2 * i))) x rw_) Q Er σ.s:=by
 refine byG fun G fin=>Zf h fun hb h1=>Zc h1 fun ca ha h2=>Zf h2 fun hs hk=>?_
 clear h h1 h2
 obtain⟨ok,hlen⟩:=Yb hb
 obtain⟨ci,hci,hok,CO,hC⟩:=OK.ok ok
 have hlen:=Nat.blt_eq.mp hlen
 obtain⟨_,_,_,q⟩:=OK.attr hx ha
 rw[hC] at q
 obtain⟨es,nn,I,m,kk,ll,lr⟩:=R.inst ho
 have ht:takerIn g.K C x=some none:=by
  unfold takerIn
  cases ca with
  | no=>rw[show findIn g.K (.ref C) x=some none from q]; rfl
  | val y=>obtain⟨ry,hf,_,ht,_⟩:=q; rw[hf]; show (takesIn g.K ry).map _ = _; rw[ht]; rfl
  | _=>exact Za hs
 have hl0:=Nat.lt_of_le_of_lt ll hlen
 refine fin (set_dict R.F (hc.K R) R.N I rfl (CO.set (.inl hok)) (CO.over hok) ht (CO.dict (.inl hok)) (by rw[ZaE kk]; rfl) rfl (Zbj σ.news R.nd m) (Nat.le_trans (Zf4 kk hl0) (by decide)) fun h' F' N'=>?_)
 obtain⟨R',X'⟩:=R.upd (tk:=σ.s.toks + 2) (k:=2 * i + 1) ho (ZR ho rfl) (Zaj i) (o2:=.inst C (upd f (enc x) w)) rfl m F' N' (fun σ' er en Z=>by
  obtain⟨a,_⟩:=R.trk i _ ho
  show ORa g σ' (σ'.ρ (2 * i)) (σ'.ρ (2 * i + 1)) _
  rw[er]
  exact⟨by rw[en]; exact Zs a (fun e=>absurd (R.inj _ _ (Zh ho) (ZR ho rfl) e) (Nat.ne_of_lt (Nat.lt_succ_self _))),Zea hx kk ll (lr.mono0 Z) (hw.mono0 Z) (by rw[en]; exact Zu m)⟩)
 exact hQ _ R' X' rfl rfl hk
theorem Zk6 (OK:POK g.P g.K g.tabs g.dn) (hc:CxOK g c n) (R:Rel g c σ) {i C:Nat} {t:Bool} {f:Lo} {w:V} {rw_:Value} {x:Str} (hx:gd x=true) (ho : σ.h.get i=some (.exc C t f)) (hw:VR g σ w rw_) {k:H→Bool}
  (h:onC g.P (cN C) (fun ci=>bif Nat.beq ci.xk 2&&Nat.blt f.length 900 then og (look ci.attrs (enc x)) fun ca=>bif caNo ca then k (hp σ.h i (.exc C t (upd f (enc x) w))) else false else false)=true) {Q:Unit→Shared→Prop} {Er:Value→Shared→Prop}
  (hQ:∀ σ',Rel g c σ'→Ext g c σ σ'→σ'.lo = σ.lo→σ'.nx = σ.nx→k σ'.h=true→Q () σ'.s) (A:Around):wpAny g.M A (setAttr (.ref (σ.ρ (2 * i))) x rw_) Q Er σ.s:=by
 refine byG fun G fin=>Zc h fun ci hci h1=>Zf h1 fun hb h2=>Zc h2 fun ca ha h3=>Zf h3 fun hca hk=>?_
 clear h h1 h2 h3
 obtain⟨h2,hlen⟩:=Yb hb
 obtain rfl:=Zbv hca
 have h2:=Yn h2
 have hlen:=Nat.blt_eq.mp hlen
 have CO:=OK.cls (cN C) ci hci
 have hC:excV (cN C)=.ref (cN C):=if_neg (Nat.not_lt.mpr (CO.own (.inr (.inr h2))))
 have hf:=CO.attr x _ hx ha
 rw[hC] at hf
 have hf:findIn g.K (.ref (cN C)) x=some none:=hf
 obtain⟨o,vs,m,kd,e,z,tb,own,cx⟩:ExcR g σ _ _ C t f:=R.trk i _ ho
 have XK:=hc.X R
 have ox:=(R.N _ m).1
 have ui:=Zh ho
 refine fin ?_
 have I:∃ od,InstAt σ.s.heap (σ.ρ (2 * i)) o (cN C) od:=by
  cases f with
  | nil=>exact⟨none,ox,kd.trans hC,by unfold notCls; rw[e],by rw[show o.dict=none from own]; trivial⟩
  | cons p f=>
   obtain⟨od,es,nn,b,kk,_,lr⟩:=own
   exact⟨some (dictOf es nn),ox,kd.trans hC,by unfold notCls; rw[e],by rw[od]; exact(R.N _ b).1⟩
 obtain⟨od,I⟩:=I
 refine set_plain XK I (CO.set (.inr h2)) (ZjS (s:={ σ.s with toks:=σ.s.toks + 1 }) XK I (CO.x2 (.inr h2)) hf (ZhD (s:={ σ.s with toks:=σ.s.toks + 1 }) XK (CO.x2 (.inr h2)) ox (kd.trans hC) e ?_))
 cases f with
 | nil=>
  refine .inl ⟨own,fun h' hd hx' same=>?_⟩
  have fresh:∀ p ∈ σ.news,p.1 < σ.s.heap.objs.size:=fun p hp=>Heap.lt_size (R.N p hp).1
  have hL:c.L≠σ.ρ (2 * i):=(R.N _ m).2.1.symm
  obtain⟨oL,esL,epL,gL,hn1,hn2,hn3⟩:=R.F.ns
  have F':Fr σ.g0 c.L h' σ.m:=⟨⟨oL,esL,epL,same _ _ hL gL,hn1,hn2,hn3⟩,fun b ob q=>same _ _ (fun e=>by rw[e,(R.N _ m).2.2] at q; cases q) (R.F.keep b ob q),R.F.above⟩
  have N':News σ.g0 c.L h' ((σ.s.heap.objs.size,dictOf (putL x (PyData.keyHash g.w.params x) (.str x (σ.s.toks + 1)) rw_ []) 1) :: setN σ.news (σ.ρ (2 * i)) { o with dict:=some σ.s.heap.objs.size }):=fun p hp=>by
   rcases List.mem_cons.mp hp with rfl | hp
   ·exact⟨hd,Nat.ne_of_gt R.F.ns.lt,Heap.get?_none_of_le (Nat.le_trans R.F.above (Nat.le_of_lt R.F.ns.lt))⟩
   ·obtain⟨p',hp',rfl⟩:=List.mem_map.mp hp
    by_cases q:p'.1 = σ.ρ (2 * i)
    ·rw[if_pos q]; exact⟨hx',(R.N _ m).2⟩
    ·rw[if_neg q]; exact⟨same _ _ q (R.N _ hp').1,(R.N _ hp').2⟩
  obtain⟨σ',R',X',e1,e2,e3,e4⟩:=R.grow (tk:=σ.s.toks + 1 + 1) (f:=upd [] (enc x) w) ho F' N' fresh (fun σ' r0 r1 en Z=>by
   show ORa g σ' (σ'.ρ (2 * i)) (σ'.ρ (2 * i + 1)) _
   rw[r0,r1]
   refine⟨{ o with dict:=some σ.s.heap.objs.size },vs,by rw[en]; exact .tail _ (Zu m),kd,e,z,?_,?_,cx⟩
   ·cases t with
    | true=>obtain⟨T,q,r⟩:=tb; exact⟨T,q,Z.tb T r⟩
    | false=>exact tb
   ·exact⟨rfl,Zea (es:=[]) hx (fun e he=>absurd he List.not_mem_nil) (Nat.le_refl _) (fun y _=>rfl) (hw.mono0 Z) (by rw[en]; exact .head _)⟩)
  have:=hQ σ' R' X' e3 e2 (by rw[e1]; exact hk)
  rw[e4] at this
  exact this
 | cons p f=>
  obtain⟨od',es,nn,b,kk,ll,lr⟩:=own
  have hl0:=Nat.lt_of_le_of_lt ll hlen
  refine .inr ⟨_,es,nn,od',(R.N _ b).1,kk,Nat.le_trans (Zf4 kk hl0) (by decide),fun h' same hd=>?_⟩
  obtain⟨F',N'⟩:=ZB R b same hd
  have two':two (.exc C t (upd (p :: f) (enc x) w))=true:=by
   show (!(upd (p :: f) (enc x) w).isEmpty)=true
   rw[Zay]; split <;> rfl
  obtain⟨R',X'⟩:=R.upd (tk:=σ.s.toks + 1 + 1) (k:=2 * i + 1) ho (ZR ho rfl) (Zaj i) (o2:=.exc C t (upd (p :: f) (enc x) w)) two' b F' N' (fun σ' er en Z=>by
   show ORa g σ' (σ'.ρ (2 * i)) (σ'.ρ (2 * i + 1)) _
   rw[er]
   have q2:OwnR g σ' (σ.ρ (2 * i + 1)) (upd (p :: f) (enc x) w):=Zea hx kk ll (lr.mono0 Z) (hw.mono0 Z) (by rw[en]; exact Zu b)
   refine⟨o,vs,by rw[en]; exact Zs m (fun e=>absurd (R.inj _ _ ui (ZR ho rfl) e) (Nat.ne_of_lt (Nat.lt_succ_self _))),kd,e,z,?_,?_,cx⟩
   ·cases t with
    | true=>obtain⟨T,q,r⟩:=tb; exact⟨T,q,Z.tb T r⟩
    | false=>exact tb
   ·have hne:(upd (p :: f) (enc x) w).isEmpty=false:=by rw[Zay]; split <;> rfl
    rw[hne]
    exact⟨od',q2⟩)
  exact hQ _ R' X' rfl rfl hk
theorem Zk7 (OK:POK g.P g.K g.tabs g.dn) (hc:CxOK g c n) (R:Rel g c σ) {v w:V} {rv rw_:Value} {x:Str} (hx:gd x=true) (hv:VR g σ v rv) (hw:VR g σ w rw_) {k:H→Bool} (h:setA g.P v (enc x) w σ.h k=true) {Q:Unit→Shared→Prop} {Er:Value→Shared→Prop}
  (hQ:∀ σ',Rel g c σ'→Ext g c σ σ'→σ'.lo = σ.lo→σ'.nx = σ.nx→k σ'.h=true→Q () σ'.s) (A:Around):wpAny g.M A (setAttr rv x rw_) Q Er σ.s:=by
 refine Zc h fun i hi h1=>Zc h1 fun o ho h2=>?_
 clear h h1
 obtain rfl:=Zk hi
 obtain⟨rfl,_⟩:=hv
 cases o with
 | inst C f=>exact Zk5 OK hc R hx ho hw h2 hQ A
 | exc C t f=>exact Zk6 OK hc R hx ho hw h2 hQ A
 | _=>exact Za h2
end
end Mn
end
section
set_option tactic.hygienic false
namespace Mn
open PySem PySem.W PyProof.Rows PySem.Calls PySem.Spec PySem.SeqAt
section
variable {prog:Program} {w:World} {A:Around} {K:Frag} {C:Nat} {s:Shared} {E:Value→Shared→Prop} {R:Result→Shared→Prop}
noncomputable abbrev ZbR (rest:List Value):Obj:={ cls:=.type "tuple",data:=.seq rest.toArray }
noncomputable abbrev Zac (cls:Value) (t:Addr):Obj:={ cls:=cls,data:=.fields #[.ref t,.none,.none,.none,.bool false,.none] }
structure MadeX (h h':Heap) (e:Addr) (cls:Value):Prop where
 keeps:∀ b o,h.get? b=some o→h'.get? b=some o
 above:h.objs.size≤e
 there:∃ t,h'.get? e=some (Zac cls t)
theorem ZcB {rest:List Value} (X:K.In s.heap) (q:excD K C=true) (hrest:rest.length≤sizeLine)
  (h:∀ h₁,h₁=(s.heap.push (ZbR rest)).push (Zac (.ref C) s.heap.objs.size)→K.In h₁→MadeX s.heap h₁ (s.heap.objs.size + 1) (.ref C)→(∃ od,InstAt h₁ (s.heap.objs.size + 1) (Zac (.ref C) s.heap.objs.size) C od)→
   wpAny (model prog w) (A.under (.builtin "type.__call__" ⟨.ref C :: rest,[]⟩)) (callSpecial? (.ref (s.heap.objs.size + 1)) "__init__" rest) (fun r s'=>r=some .none∧R (.ok (.ret (.ref (s.heap.objs.size + 1)))) s') (fun e s'=>R (.error e) s') { s with heap:=h₁ }):codeAny (model prog w) A (.call (.ref C) ⟨rest,[]⟩) R s:=by
 obtain⟨hh,g,d,t,os⟩:=s
 obtain⟨bm,N,nm,qn,bs,sn,sub,ab,col,dd,k0,k1,k2,k3,k5,mN,hCK,hN,T⟩:=ZcT X q
 have hC:=X _ _ hCK
 dsimp only at hC hN T h X
 have f1:=tc_lookup
 have f2:=tc_bind (.ref C)
 have hT:(⟨hh,g,d,t,os⟩:Shared).TypeIs (.ref C) "type":=⟨_,hC,rfl⟩
 have F:=PySem.F.excBase_Exception
 refine codeAny_of_tree ?_
 show wpAny _ _ (callAny (.ref C) _) _ _ _
 repeat (any_goals (first | assumption | with_reducible refine wpAny_loadPart_at hC ?_ | wp_step))
 refine⟨rfl,?_⟩
 refine codeAny_call_builtin_at (Code.quiet_builtin _ (by decide +kernel)) entry_typeCall (wpAny_check_type_call_sub hC ?_)
 repeat (first | with_reducible refine wpAny_loadPart_at hC ?_ | with_reducible refine wpAny_madeBy_exc hC ?_ | wp_step)
 refine codeAny_call_builtin_code (Code.quiet_builtin _ F.quiet) (wpAny_check_new_subT F T hC ?_)
 refine codeAny_exc_new_subT F T hC ?_ hrest
 show wpAny _ _ _ _ _ _
 have kp:∀ b o,hh.get? b=some o→((hh.push (ZbR rest)).push (Zac (.ref C) hh.objs.size)).get? b=some o:=fun b o e=>Heap.get?_push_of_some _ (Heap.get?_push_of_some _ e)
 have X₁:=X.keeps kp
 have hget:((hh.push (ZbR rest)).push (Zac (.ref C) hh.objs.size)).get? (hh.objs.size + 1)=some (Zac (.ref C) hh.objs.size):=by heap_get
 have hc:clsIn K C=some { name:=nm,bases:=bs,mro:=.ref C :: bm,ns:=N,qualname:=qn,hasDict:=true,slotNames:=sn,subclasses:=sub,abstract:=ab,collection:=col,hasDel:=false }:=by unfold clsIn; rw[hCK]
 have I:InstAt ((hh.push (ZbR rest)).push (Zac (.ref C) hh.objs.size)) (hh.objs.size + 1) (Zac (.ref C) hh.objs.size) C none:=⟨hget,rfl,rfl,trivial⟩
 have sb:Looks (model prog w) ((hh.push (ZbR rest)).push (Zac (.ref C) hh.objs.size)) (isInstance (.ref (hh.objs.size + 1)) (.ref C)) true:=I.type.andThen (looks_mroIn X₁ (by unfold mroIn; rw[hc]; show some ((Value.ref C :: bm).contains (.ref C))=some true; rw[List.contains_cons,beq_self_eq_true,Bool.true_or]))
 refine wpAny_bind (sb.here (s:=⟨_,g,d,t,os⟩) ?_)
 rw[if_neg (by decide)]
 refine wpAny_bind (wpAny_holding (wpAny_mono (h _ rfl X₁ ⟨kp,Nat.le_succ _,_,hget⟩ ⟨_,I⟩) (fun r s' z=>?_) fun _ _ z=>z))
 obtain⟨rfl,z⟩:=z
 exact wpAny_pure z
theorem ZeF {rest:List Value} {fI:Addr} (X:K.In s.heap) (q:excD K C=true) (hi:findIn K (.ref C) "__init__" = some (some (.ref fI))) (hf:typeIn K (.ref fI)=some (.type "function")) (hrest:rest.length≤sizeLine)
  (h:∀ h₁ x,MadeX s.heap h₁ x (.ref C)→codeAny (model prog w) (A.under (.builtin "type.__call__" ⟨.ref C :: rest,[]⟩)) (.call (.ref fI) ⟨.ref x :: rest,[]⟩) (InitBack x R) { s with heap:=h₁ }):codeAny (model prog w) A (.call (.ref C) ⟨rest,[]⟩) R s:=
 ZcB X q hrest fun h₁ _ X₁ M I=>I.elim fun od I=>special_fn (s:={ s with heap:=h₁ }) X₁ I hi hf (wpAny_call (codeAny_mono (h _ _ M) fun r s' z=>by
  rcases r with e | (v | _ | _ | _) <;> first | exact z | exact z.elim | skip
  obtain⟨rfl,z⟩:=z
  exact⟨rfl,z⟩))
theorem Zeb {rest:List Value} (X:K.In s.heap) (q:excD K C=true) (hi:findIn K (.ref C) "__init__" = some (some (.builtin "Exception.__init__"))) (hrest:rest.length≤sizeLine)
  (h:∀ h₁ x,MadeX s.heap h₁ x (.ref C)→R (.ok (.ret (.ref x))) { s with heap:=h₁ }):codeAny (model prog w) A (.call (.ref C) ⟨rest,[]⟩) R s:=by
 refine ZcB X q hrest fun h₁ e₁ X₁ M I=>?_
 obtain⟨od,I⟩:=I
 obtain⟨bm,N,nm,qn,bs,sn,sub,ab,col,dd,k0,k1,k2,k3,k5,mN,hCK,hN,T⟩:=ZcT X₁ q
 have F:=PySem.F.excBase_Exception
 have hC₁:=X₁ _ _ hCK
 refine wpAny_bind (wpAny_bind (I.type.here (s:={ s with heap:=h₁ }) ((looks_findIn X₁ hi).here (wpAny_holding (wpAny_bind (wpAny_of_eq (F.init.bind _) ?_))))))
 obtain⟨hh,g,d,t,os⟩:=s
 refine wpAny_bind (wpAny_call (codeAny_call_builtin F.init.plain F.initEntry (wpAny_check_init_subT F T hC₁ I.at_ rfl ?_)))
 dsimp only at e₁
 subst e₁
 have hget:((hh.push (ZbR rest)).push (Zac (.ref C) hh.objs.size)).get? (hh.objs.size + 1)=some (Zac (.ref C) hh.objs.size):=I.at_
 wp_walk
 refine⟨rfl,h _ _ ⟨fun b o hb=>?_,Nat.le_succ _,hh.objs.size + 2,?_⟩⟩
 ·rw[Heap.get?_update_other _ _ (Nat.ne_of_gt (Nat.lt_succ_of_lt (Heap.lt_size hb)))]
  exact Heap.get?_push_of_some _ (Heap.get?_push_of_some _ (Heap.get?_push_of_some _ hb))
 ·rw[Heap.get?_update_self _ (Heap.get?_push_of_some _ hget) rfl]
  simp only [Heap.size_push]
  rfl
end
section
variable {prog:Program} {w:World} {A:Around} {E:Value→Shared→Prop} {s:Shared} {X N I:String}
theorem ZfM (hc:ExcClass X N I) {rest:List Value} {Q:Value→Shared→Prop}
  (h:∀ h' e,MadeX s.heap h' e (.type X)→Q (.ref e) { s with heap:=h' }) (hrest:rest.length≤sizeLine) :
  wpAny (model prog w) A (call (.type X) rest) Q E s:=by
 refine wpAny_call (codeAny_of_tree ?_)
 show wpAny _ _ (callAny (.type X) ⟨rest,[]⟩) _ _ s
 simp only [callAny]
 refine wpAny_pure ⟨Code.quiet_builtin _ (by decide +kernel),codeAny_builtin PyProof.Rows.entry_type_call ?_⟩
 rw[Around.under_plain (weight_type_call X _ _) (by first | rfl | kernel_rfl | decide +kernel)]
 unfold Builtin.«type.__call__»
 dsimp only
 rw[if_neg (by rw[hc.notType]; exact Bool.false_ne_true),if_neg (by rw[hc.canNew]; exact Bool.false_ne_true)]
 obtain⟨l,hl,hle⟩:=hc.mro
 refine wpAny_bind (wpAny_of_eq (hc.typeCall rest) (wpAny_bind (wpAny_of_eq hl ?_)))
 rw[if_neg (by rw[hle]; exact Bool.false_ne_true)]
 refine wpAny_bind (wpAny_of_eq hc.madeBy ?_)
 dsimp only
 refine wpAny_bind (wpAny_pure (wpAny_bind (wpAny_holding (new_exc hc ?_ hrest))))
 refine wpAny_bind (wpAny_isInstance (T:=X) ⟨_,Heap.get?_push_size _ rfl,rfl⟩ hc.self ?_)
 simp only [Bool.not_true,Bool.false_eq_true,if_false]
 refine wpAny_bind (wpAny_holding (wpAny_callSpecial?_slot (name:=Str.ofString "__init__") (T:=X) ⟨_,Heap.get?_push_size _ rfl,rfl⟩ hc.init
  (init_exc hc (Heap.get?_push_size _ rfl) rfl rfl rfl ?_ hrest)))
 dsimp only
 rw[if_neg (by decide)]
 refine wpAny_pure (h _ _ ⟨fun b o hb=>?_,by rw[Heap.size_push]; exact Nat.le_succ _,((s.heap.push { cls:=.type "tuple",data:=.seq rest.toArray }).push { cls:=.type X,data:=.fields #[.ref s.heap.objs.size,.none,.none,.none,.bool false,.none] }).objs.size,?_⟩)
 ·rw[Heap.get?_update_other _ _ (Nat.ne_of_gt (Nat.lt_of_lt_of_le (Heap.lt_size hb) (by rw[Heap.size_push]; exact Nat.le_succ _)))]
  exact Heap.get?_push_of_some _ (Heap.get?_push_of_some _ (Heap.get?_push_of_some _ hb))
 ·exact Heap.get?_update_self _ (Heap.get?_push_of_some _ (Heap.get?_push_size _ rfl)) (Obj.isFreed_of_fields (Obj.data_mapFields rfl _))
end
section
variable {g:Gl} {r:Rec} {n:Nat} {c:Cx} {σ : St} {Q Er:Value→Shared→Prop}
theorem Rel.made (R:Rel g c σ) {k x:Nat} {h':Heap} {tk:Nat} {cls:Value} (hk:excV (cN k)=cls) (M:MadeX σ.s.heap h' x cls) :
  ∃ σ',Rel g c σ'∧Ext g c σ σ'∧VR g σ' (.ref σ.nx) (.ref x)∧σ'.h=hp σ.h σ.nx (.exc k false [])∧σ'.nx=Nat.succ σ.nx∧σ'.lo = σ.lo∧σ'.s = { σ.s with heap:=h',toks:=tk }:=by
 subst hk
 obtain⟨kp,ab,t,hg⟩:=M
 have hL:c.L < x:=Nat.lt_of_lt_of_le R.F.ns.lt ab
 exact R.new1 (tk:=tk) (o:=.exc k false []) (ob:=Zac (excV (cN k)) t) ⟨R.F.ns.keeps kp,fun b o e=>kp b o (R.F.keep b o e),R.F.above⟩ (fun p hp=>by
  rcases List.mem_cons.mp hp with rfl | hp
  ·exact⟨hg,Nat.ne_of_gt hL,Heap.get?_none_of_le (Nat.le_trans R.F.above (Nat.le_of_lt hL))⟩
  ·exact⟨kp _ _ (R.N _ hp).1,(R.N _ hp).2⟩) (fun p hp=>Nat.lt_of_lt_of_le (Heap.lt_size (R.N p hp).1) ab) rfl (fun σ' m Z=>⟨_,_,m,rfl,rfl,Nat.lt_succ_self 5,rfl,rfl,fun _=>rfl⟩)
theorem ZgM (A:Around) (C:Addr) (rest:List Value) (kw:List (Str × Value)):A.under (.builtin "type.__call__" ⟨.ref C :: rest,kw⟩) = { A with depth:=A.depth + 1,units:=A.units + 1 }:=rfl
theorem CxOK.make (hc:CxOK g c (n + 1)) (C:Addr) (rest:List Value) (kw:List (Str × Value)):CxOK g (c.wi (c.A.under (.builtin "type.__call__" ⟨.ref C :: rest,kw⟩))) n:=by
 rw[ZgM]
 exact hc.wi rfl rfl (Nat.le_refl _) (Nat.add_le_add_left (by decide) _)
theorem Zfp {vas:List V} {ras:List Value} (ha:VRs g σ vas ras) (h:Nat.blt vas.length 1000=true):ras.length≤sizeLine:=by
 rw[← ha.length,sizeLine_eq]
 exact Nat.le_trans (Nat.le_of_lt (Nat.blt_eq.mp h)) (by decide)
theorem Ziv {x:Addr} {Q Er:Value→Shared→Prop} (r:Result) (s':Shared) (hr:Zaa (fun v s'=>v=.none∧Q (.ref x) s') Er r s'):InitBack x (Zaa Q Er) r s':=by
 rcases r with e | (v | _ | _ | _)
 ·exact hr
 all_goals first | exact hr | exact hr.elim
theorem ZhE (HA:AllS g r n) (hc:CxOK g (c.wi A') n) (R:Rel g c σ) {σ1:St} {x g':Nat} {m:E} {vas:List V} {ras:List Value} {kw:Lo} {rkw:List (Str × Value)} {ko:KA} {ke:KX} (R1:Rel g c σ1) (X1:Ext g c σ σ1) (v1:VR g σ1 (.ref σ.nx) (.ref x)) (hl : σ1.lo = σ.lo)
  (hm:g.P.fns.get g'=some m) (ha:VRs g σ vas ras) (hkw:SR g σ kw rkw) (h:r.app (.top g') (.ref σ.nx :: vas) kw c.hd σ1.h σ1.nx (fun v h n=>bif ZS v then ko (.ref σ.nx) h n else false) ke=true) (hQ:PA g c σ ko Q) (hE:PAX g c σ ke Er) :
  codeAny g.M A' (.call (.ref g') ⟨.ref x :: ras,rkw⟩) (InitBack x (Zaa Q Er)) σ1.s:=by
 refine codeAny_mono (HA.appd _ hc σ1 (R1.wi _) g' m (.ref σ.nx :: vas) (.ref x :: ras) kw rkw _ _ hm ⟨v1,ha.mono X1 R⟩ (hkw.mono X1 R) h (fun v s'=>v=.none∧Q (.ref x) s') Er (fun σ' v rv R' X' hlo vr hk=>Zf hk fun hv hk=>?_) (fun σ' i R' X' hlo x hk=>hE σ' i R'.un (X1.trans X'.un) (hlo.trans hl) x hk)) Ziv
 obtain rfl:=Zao hv
 exact⟨vr,hQ σ' (.ref σ.nx) _ R'.un (X1.trans X'.un) (hlo.trans hl) (v1.mono X'.un R1) hk⟩
theorem Zmc (OK:POK g.P g.K g.tabs g.dn) (HA:AllS g r n) (hc:CxOK g c (n + 1)) (R:Rel g c σ) {C:Nat} {vas:List V} {ras:List Value} {kw:Lo} {rkw:List (Str × Value)} {ko:KA} {ke:KX}
  (ha:VRs g σ vas ras) (hkw:SR g σ kw rkw) (h:newC g.P r C vas kw c.hd σ.h σ.nx ko ke=true) (hQ:PA g c σ ko Q) (hE:PAX g c σ ke Er):codeAny g.M c.A (.call (.ref C) ⟨ras,rkw⟩) (Zaa Q Er) σ.s:=by
 refine byG fun G fin=>Zc h fun ci hci h1=>?_
 clear h
 have CO:=OK.cls C ci hci
 have XK:=hc.X R
 have kwnil:kw.isEmpty=true→rkw = []:=fun q=>by
  cases kw with
  | nil=>cases rkw with | nil=>rfl | cons _ _=>exact hkw.elim
  | cons _ _=>exact Za q
 have at_:∀ {ca},excV C=.ref C→look ci.attrs Zdu=some ca→Zct g.K (.ref C) (Str.ofString "__init__") ca:=fun {ca} e q=>by
  rw[← nm_init.1] at q
  have:=CO.attr _ ca nm_init.2 q
  rwa [e] at this
 cases hok:ci.ok with
 | true=>
  rw[hok] at h1
  have hC:excV C=.ref C:=if_neg (Nat.not_lt.mpr (CO.own (.inl hok)))
  refine Zc (show og (look ci.attrs Zdu) _=true from h1) fun ca hca h2=>?_
  clear h1
  have q:=at_ hC hca
  have made:∀ {x dx:Addr} {h':Heap},Fr σ.g0 c.L h' σ.m→News σ.g0 c.L h' ((x,instObj C dx) :: (dx,emptyDict) :: σ.news)→(∀ p ∈ σ.news,p.1 < dx)→dx < x→
    ∃ σ',Rel g c σ'∧Ext g c σ σ'∧VR g σ' (.ref σ.nx) (.ref x)∧σ'.h=hp σ.h σ.nx (.inst C [])∧σ'.nx=Nat.succ σ.nx∧σ'.lo = σ.lo∧σ'.s = { σ.s with heap:=h' }:=fun {x dx h'} F' N' hl hdx=>by
   obtain⟨R',X,v⟩:=R.new (o:=.inst C []) (x:=x) (d:=dx) (tk:=σ.s.toks) (L:=[(x,instObj C dx),(dx,emptyDict)]) F' N' (List.nodup_cons.mpr ⟨fun hm=>absurd (show x=dx from List.mem_singleton.mp hm) (Nat.ne_of_gt hdx),List.nodup_cons.mpr ⟨nofun,List.nodup_nil⟩⟩)
    (fun q hq p hp=>by
     rcases List.mem_cons.mp hq with rfl | hq
     ·exact Nat.lt_trans (hl p hp) hdx
     ·rw[List.mem_singleton.mp hq]; exact hl p hp) (fun p hp=>Nat.lt_trans (hl p hp) hdx) (fun _=>⟨hl,Nat.ne_of_gt hdx⟩) (fun σ' e0 e1 en Z=>by
     show (σ'.ρ (2 * σ.nx),instObj C (σ'.ρ (2 * σ.nx + 1))) ∈ σ'.news∧OwnR g σ' (σ'.ρ (2 * σ.nx + 1)) []
     rw[e0,e1,en]
     exact⟨.head _,⟨[],0,by rw[en]; exact .tail _ (.head _),(fun e he=>absurd he List.not_mem_nil),Nat.le_refl _,fun _ _=>rfl⟩⟩)
   exact⟨_,R',X,v,rfl,rfl,rfl,rfl⟩
  refine ZaL h2 ?_ ?_ ?_ ?_ ?_ ?_
  ·intro _ h; exact Za h
  ·rintro rfl h3
   refine Zf h3 fun he hk=>?_
   obtain⟨e1,e2⟩:=Yb he
   obtain rfl:=kwnil e2
   obtain rfl:ras = []:=by cases vas with | nil=>(cases ras with | nil=>rfl | cons _ _=>exact ha.elim) | cons _ _=>exact Za e1
   refine fin (make_K0 R.F R.N XK (CO.makes hok) q fun x dx h' F' N' hl hdx=>?_)
   obtain⟨σ1,R1,X1,v1,e1,e2,e3,e4⟩:=made F' N' hl hdx
   rw[← e4]
   exact hQ σ1 _ _ R1 X1 e3 v1 (by rw[e1,e2]; exact hk)
  ·rintro g' rfl h3
   refine Zc h3 fun m hm h4=>?_
   obtain⟨hi,hf,_⟩:=q
   refine fin (make_K R.F R.N XK (CO.makes hok) hi hf.isFn' fun x dx h' F' N' hl hdx=>?_)
   obtain⟨σ1,R1,X1,v1,e1,e2,e3,e4⟩:=made F' N' hl hdx
   rw[← e4]
   exact ZhE HA (hc.make C ras rkw) R R1 X1 v1 e3 hm ha hkw (by rw[e1,e2]; exact h4) hQ hE
  ·intro _ _ h; exact Za h
  ·intro _ _ h; exact Za h
  ·intro _ _ h; exact Za h
 | false=>
  rw[hok] at h1
  have own:∀ k,ci.xk=k→k=1∨k=2→excV C=.ref C:=fun k e h=>if_neg (Nat.not_lt.mpr (CO.own (.inr (h.imp (fun z=>e.trans z) fun z=>e.trans z))))
  cases h5:Nat.beq ci.xk 1 with
  | true=>
   rw[h5] at h1
   have h5:=Yn h5
   refine Zf (show (bif kw.isEmpty&&(Nat.blt vas.length 1000&&Nat.blt C nX) then _ else false)=true from h1) fun hb hk=>?_
   obtain⟨b1,b2⟩:=Yb hb
   obtain⟨b2,b3⟩:=Yb b2
   obtain rfl:=kwnil b1
   refine fin (Zeb XK (CO.x2 (.inl h5)) (CO.x1 h5) (Zfp ha b2) fun h' x M=>?_)
   obtain⟨σ1,R1,X1,v1,e1,e2,e3,e4⟩:=R.made (tk:=σ.s.toks) ((congrArg excV (Nat.mod_eq_of_lt (Nat.blt_eq.mp b3))).trans (own 1 h5 (.inl rfl))) M
   have z:=hQ σ1 _ _ R1 X1 e3 v1 (by rw[e1,e2]; exact hk)
   rwa [e4] at z
  | false=>
   rw[h5] at h1
   refine Zf (show (bif Nat.beq ci.xk 2 then _ else false)=true from h1) fun h6 h2=>Zc h2 fun ca hca h3=>Zf h3 fun hb h4=>?_
   clear h1 h2 h3
   have h6:=Yn h6
   obtain⟨b1,b2⟩:=Yb hb
   obtain⟨b2,b3⟩:=Yb b2
   have hkw0:=kwnil b1
   have hC:=own 2 h6 (.inr rfl)
   have q:=at_ hC hca
   refine ZaL h4 ?_ ?_ ?_ ?_ ?_ ?_
   ·intro _ h; exact Za h
   ·intro _ h; exact Za h
   ·rintro g' rfl h3
    refine Zc h3 fun m hm h4=>?_
    obtain⟨hi,hf,_⟩:=q
    subst hkw0
    refine fin (ZeF XK (CO.x2 (.inr h6)) hi hf.isFn' (Zfp ha b2) fun h' x M=>?_)
    obtain⟨σ1,R1,X1,v1,e1,e2,e3,e4⟩:=R.made (tk:=σ.s.toks) ((congrArg excV (Nat.mod_eq_of_lt (Nat.blt_eq.mp b3))).trans hC) M
    have z:=ZhE HA (hc.make C ras []) R R1 X1 v1 e3 hm ha hkw (by rw[e1,e2]; exact h4) hQ hE
    rwa [e4] at z
   ·intro _ _ h; exact Za h
   ·intro _ _ h; exact Za h
   ·intro _ _ h; exact Za h
end
section
variable {g:Gl} {r:Rec} {n:Nat} {c:Cx} {σ : St} {Q Er:Value→Shared→Prop}
theorem Zmd (OK:POK g.P g.K g.tabs g.dn) (HA:AllS g r n) (hc:CxOK g c (n + 1)) (R:Rel g c σ) {v:V} {rv:Value} (hv:VR g σ v rv) {ko:KA} (h:ZeO g.P r v c.hd σ.h σ.nx ko=true) (hQ:PA g c σ ko Q) :
  wpAny g.M c.A (call (.builtin "len") [rv]) Q Er σ.s:=by
 refine Zc h fun i hi h1=>Zc h1 fun o ho h2=>?_
 clear h h1
 obtain rfl:=Zk hi
 obtain⟨rfl,_⟩:=hv
 refine Zcw h2 ?_ ?_ ?_ ?_ ?_
 ·rintro C f rfl h
  refine Zf h fun ok h=>?_
  obtain⟨_,_,_,_,hC⟩:=OK.ok ok
  refine call_function_entry kind_len plain_len entry_len (args_len1 _) ?_
  exact Zhi OK HA hc.in1 R ho hC h fun σ' j R' X' hl hk t=>⟨_,rfl,by
   have T:=R'.tok (σ'.s.toks + 1)
   exact hQ _ (.int j) _ T.1 (X'.trans T.2) hl ⟨t,rfl⟩ hk⟩
 ·intro _ _ _ _ h; exact Za h
 ·rintro l rfl h
  obtain⟨its,hl,hz,vr⟩:=R.isList (show Zg σ.h i=some l by unfold Zg onO; rw[ho]; rfl)
  have T:=R.tok (σ.s.toks + 1 + 1)
  have e:its.toArray.size=l.length:=vr.length.symm
  refine call_len_list hl ?_ (hQ _ (.int (.ofNat l.length)) _ T.1 T.2 rfl (by rw[e]; exact⟨_,rfl⟩) h)
  rw[e]
  exact Int.lt_of_le_of_lt (Int.ofNat_le.mpr hz) (by decide)
 ·intro _ _ _ h; exact Za h
 ·intro _ _ h; exact Za h
theorem Zk8 (R:Rel g c σ) {v:V} {rv:Value} (hv:VR g σ v rv) {ko:KA} (h:ZdA v σ.h σ.nx ko=true) (hQ:PA g c σ ko Q) (A:Around):wpAny g.M A (call (.type "list") [rv]) Q Er σ.s:=by
 refine Zc h fun i hi h1=>Zc h1 fun l hl h2=>Zf h2 fun hb h3=>?_
 clear h h1 h2
 obtain rfl:=Zk hi
 obtain⟨rfl,_⟩:=hv
 obtain⟨its,il,hz,vr⟩:=R.isList hl
 refine list_copyK R.F R.N il (fun D k h' F' N' hf=>?_) (by rw[sizeLine_eq]; show its.length≤_; rw[← vr.length]; exact Nat.le_trans hz (by decide))
 obtain⟨σ',R2,X2,v2,e1,e2,e3,e4⟩:=R.new1 (tk:=σ.s.toks) (o:=.list l) F' N' hf rfl fun σ' m Z=>⟨its,k,m,hz,vr.mono0 Z⟩
 have z:=hQ σ' (.ref σ.nx) _ R2 X2 e3 v2 (by rw[e1,e2]; exact h3)
 rwa [e4] at z
theorem Ziw {v:V} {m:Nat} {k:Nat→Bool} {G:Prop} {rv:Value} (hv:VR g σ v rv) (h:ZdB v m k=true) (f:∀ j t,rv=.int (Int.ofNat j) t→j < m→k j=true→G):G:=by
 refine Zc h fun i hi h1=>Zf h1 fun hb hk=>?_
 obtain rfl:=Zt hi
 obtain⟨t,rfl⟩:=hv
 obtain⟨b1,b2⟩:=Yb hb
 have e:=Int.toNat_of_nonneg (of_decide_eq_true b1)
 have lt:i < Int.ofNat m:=of_decide_eq_true b2
 refine f i.toNat t (by rw[show Int.ofNat i.toNat=i from e]) ?_ hk
 rw[← e] at lt
 exact Int.ofNat_lt.mp lt
theorem ZjT (R:Rel g c σ) {v:V} {rv:Value} (hv:VR g σ v rv) {ko:KA} (h:ZdB v 1000 (fun k=>ko (.rng k) σ.h σ.nx)=true) (hQ:PA g c σ ko Q) (A:Around):wpAny g.M A (call (.type "range") [rv]) Q Er σ.s:=by
 refine Ziw hv h fun k t e hb h=>?_
 subst e
 refine call_range_1 ?_
 obtain⟨R2,X2,p⟩:=R.alloc (tk:=σ.s.toks + 1 + 1) (R.F.push _) (R.N.push R.F { cls:=.type "range",data:=.fields #[.int 0 σ.s.toks,.int (Int.ofNat k) t,.int 1 (σ.s.toks + 1)] }) (fun p hp=>Heap.lt_size (R.N p hp).1)
 exact hQ _ (.rng k) _ R2 X2 rfl ⟨_,_,rfl,hb,p,_,_,_,rfl⟩ h
theorem Zme (OK:POK g.P g.K g.tabs g.dn) (hc:CxOK g c n) (R:Rel g c σ) {v w:V} {rv rw_:Value} (hv:VR g σ v rv) (hw:VR g σ w rw_) {ko:KA} (h:Zgp g.P v w σ.h (fun x=>ko x σ.h σ.nx)=true) (hQ:PA g c σ ko Q) (A:Around) :
  wpAny g.M A (call (.builtin "hasattr") [rv,rw_]) Q Er σ.s:=by
 refine byG fun G fin=>Zc h fun s hs h1=>Zc h1 fun i hi h2=>Zc h2 fun p hp h3=>?_
 clear h h1 h2
 obtain rfl:=Z4 hs
 obtain rfl:=Zk hi
 obtain⟨x,t,rfl,hx,rfl⟩:=hw
 obtain⟨rfl,_⟩:=hv
 cases hb:(hasK p.2 (enc x)||!Zav g.P p.1) with
 | true=>rw[hb] at h3; exact Za h3
 | false=>
  rw[hb] at h3
  obtain⟨b1,b2⟩:=Bool.or_eq_false_iff.mp hb
  refine Zc (show og (ZJ g.P p.1 (enc x)) _=true from h3) fun ca ha h4=>Zc h4 fun fn hfn hk=>?_
  obtain rfl:=Zcv hfn
  obtain⟨ci,hci,hok,CO,hC⟩:=OK.ok (by rw[← Bool.not_eq_false']; exact b2)
  obtain⟨_,_,_,q⟩:=OK.attr hx ha
  rw[hC] at q
  obtain⟨a1,F,a5⟩:=q
  obtain⟨es,nn,I,_,kk,_,lr⟩:=R.inst (ZaU hp)
  have ql:=lr x hx
  rw[ZbI] at b1
  rw[show look p.2 (enc x)=none by cases e:look p.2 (enc x) with | none=>rfl | some _=>rw[e] at b1; exact Za b1.symm] at ql
  refine fin (ZeC R.F (hc.K R) R.N I (CO.mod hok) (CO.get hok) (CO.dict (.inl hok)) a1 F.fn F.get F.take a5 (by rw[ZaE kk]; exact congrArg some ql) (fun a h' F' N' hf=>?_))
  obtain⟨R2,X2,p⟩:=R.alloc (tk:=σ.s.toks) F' N' hf
  exact hQ _ (.bool true) _ R2 X2 rfl rfl hk
end
section
variable {g:Gl} {r:Rec} {n:Nat} {c:Cx} {σ : St} {Q Er:Value→Shared→Prop}
theorem Zk9 (hc:CxOK g c n) (R:Rel g c σ) {v:V} {rv:Value} (hv:VR g σ v rv) {ko:KA} (h:ZdC v σ.h σ.nx ko=true) (hQ:PA g c σ ko Q) (A:Around):wpAny g.M A (call (.type "dict") [rv]) Q Er σ.s:=by
 refine Zc h fun p hp h1=>Zf h1 fun hb h3=>?_
 clear h h1
 obtain⟨t,es⟩:=p
 obtain⟨a,o,kvs,rfl,_,D⟩:=Zd6 R hp hv
 have hb:es.length < 100:=Nat.blt_eq.mp hb
 have hl:kvs.length≤sizeLine:=by have:=D.len; rw[sizeLine_eq]; omega
 have hbig : σ.s.heap.objs.size≠sysModules:=by
  obtain⟨o,es,ep,ho,_⟩:=(hc.T R).g
  exact Nat.ne_of_gt (Nat.lt_of_le_of_lt (by decide) (Heap.lt_size (R.F.keep _ _ ho)))
 refine kt_call_dict (knd:=PySem.strKind g.prog g.w) (beq_eq_false_iff_ne.mpr D.z) (D.at R) hl fun h' hd hs=>?_
 obtain⟨o',ho',hd'⟩:=Heap.dictOf_iff.mp hd
 have N1:=R.N.push R.F { cls:=.type "dict",data:=.dict #[] }
 have m1:=N1 _ (.head _)
 have N2:=N1.setIn (own:=[]) (fun p hp=>absurd hp List.not_mem_nil) (fun p hp=>Nat.ne_of_lt (R.top p hp)) hs ho'
 have F2:=(R.F.push { cls:=.type "dict",data:=.dict #[] }).change hs m1.2.1 m1.2.2
 rcases D.alt with rfl | rfl
 ·obtain⟨σ',R2,X2,v2,e1,e2,e3,e4⟩:=R.new1 (tk:=σ.s.toks) (o:=.dict es) F2 N2 R.top rfl fun σ' m Z=>⟨o',kvs,m,hd',hbig,(D.one rfl).mono0 Z⟩
  have z:=hQ σ' (.ref σ.nx) _ R2 X2 e3 v2 (by rw[e1,e2]; exact h3)
  rwa [e4] at z
 ·obtain⟨σ',R2,X2,v2,e1,e2,e3,e4⟩:=R.new1 (tk:=σ.s.toks) (o:=.gdict es) F2 N2 R.top rfl fun σ' m Z=>⟨o',kvs,m,hd',hbig,(D.two rfl).2,(D.two rfl).1⟩
  have z:=hQ σ' (.ref σ.nx) _ R2 X2 e3 v2 (by rw[e1,e2]; exact h3)
  rwa [e4] at z
theorem ZjU (OK:POK g.P g.K g.tabs g.dn) (HA:AllS g r n) (hc:CxOK g c (n + 1)) (R:Rel g c σ) {m:Nat} {vas:List V} {ras:List Value} {ko:KA} (ha:VRs g σ vas ras) (h:ZeP g.P r m vas c.hd σ.h σ.nx ko=true) (hQ:PA g c σ ko Q) :
  wpAny g.M c.A (call (biV m) ras) Q Er σ.s:=by
 refine byG fun G fin=>?_
 cases hx:(Nat.ble 11 m&&Nat.ble m 13) with
 | true=>
  have h0:(bif Nat.ble 11 m&&Nat.ble m 13 then(bif Nat.blt vas.length 1000 then ko (.ref σ.nx) (hp σ.h σ.nx (.exc m false [])) (Nat.succ σ.nx) else false) else _)=true:=h
  rw[hx] at h0
  refine Zf (show (bif Nat.blt vas.length 1000 then _ else false)=true from h0) fun hl hk=>?_
  clear h h0
  obtain⟨h1,h2⟩:=Yb hx
  have h1:=Nat.le_of_ble_eq_true h1
  have h2:=Nat.le_of_ble_eq_true h2
  have go:∀ {X N I:String},ExcClass X N I→biV m=.type X→G:=fun {X N I} hX e=>by
   refine fin (e ▸ ZfM hX (fun h' x M=>?_) (Zfp ha hl))
   obtain⟨σ1,R1,X1,v1,e1,e2,e3,e4⟩:=R.made (k:=m) (tk:=σ.s.toks) (by rw[show cN m=m from Nat.mod_eq_of_lt (Nat.lt_of_le_of_lt h2 (by decide))]; unfold excV; rw[if_pos (Nat.lt_of_le_of_lt h2 (by decide)),e]) M
   have z:=hQ σ1 _ _ R1 X1 e3 v1 (by rw[e1,e2]; exact hk)
   rwa [e4] at z
  have hm:m=11∨m=12∨m=13:=by omega
  rcases hm with rfl | rfl | rfl
  ·exact go excClass_KeyError rfl
  ·exact go excClass_ValueError rfl
  ·exact go excClass_TypeError rfl
 | false=>
  have h0:(bif Nat.ble 11 m&&Nat.ble m 13 then _ else @List.rec V (fun _=>Bool) false (fun v as _=>@List.rec V (fun _=>Bool)
   (bif Nat.beq m 14 then ZdC v σ.h σ.nx ko else ZcI false [false,ZeO g.P r v c.hd σ.h σ.nx ko,ZdA v σ.h σ.nx ko,ZdB v 1000 fun k=>ko (.rng k) σ.h σ.nx,false,false] m)
   (fun w as _=>bif as.isEmpty then bif Nat.beq m 7 then Zgp g.P v w σ.h fun x=>ko x σ.h σ.nx else false else false) as) vas)=true:=h
  rw[hx] at h0
  clear h
  refine fin ?_
  cases vas with
  | nil=>exact Za h0
  | cons v vas=>
   cases ras with
   | nil=>exact ha.elim
   | cons rv ras=>
    obtain⟨hv,ha⟩:=ha
    cases vas with
    | nil=>
     cases ras with
     | cons _ _=>exact ha.elim
     | nil=>
      have h1:(bif Nat.beq m 14 then ZdC v σ.h σ.nx ko else ZcI false [false,ZeO g.P r v c.hd σ.h σ.nx ko,ZdA v σ.h σ.nx ko,ZdB v 1000 fun k=>ko (.rng k) σ.h σ.nx,false,false] m)=true:=h0
      cases q14:Nat.beq m 14 with
      | true=>
       rw[q14] at h1
       obtain rfl:=Yn q14
       exact Zk9 hc R hv h1 hQ c.A
      | false=>
      rw[q14] at h1
      rcases Zjf h1 with⟨_,h⟩ | ⟨rfl,h⟩ | ⟨rfl,h⟩ | ⟨rfl,h⟩ | ⟨_,h⟩ | ⟨_,h⟩ | h
      ·exact Za h
      ·exact Zmd OK HA hc R hv h hQ
      ·exact Zk8 R hv h hQ c.A
      ·exact ZjT R hv h hQ c.A
      ·exact Za h
      ·exact Za h
      ·exact Za h
    | cons w vas=>
     cases ras with
     | nil=>exact ha.elim
     | cons rw_ ras=>
      obtain⟨hw,ha⟩:=ha
      refine Zf (show (bif vas.isEmpty then _ else false)=true from h0) fun he h1=>?_
      obtain rfl:=List.isEmpty_iff.mp he
      obtain rfl:ras = []:=by cases ras with | nil=>rfl | cons _ _=>exact ha.elim
      refine Zf h1 fun h7 h=>?_
      obtain rfl:=Yn h7
      exact Zme OK hc R hv hw h hQ c.A
theorem ZeG {c:Cx} {rf:Value} {ras:List Value} {rkw:List (Str × Value)} {s:Shared} (h:codeAny g.M c.A (.call rf ⟨ras,rkw⟩) (Zaa Q Er) s):wpAny g.M c.A (call rf ras rkw) Q Er s:=
 wpAny_call (codeAny_mono h fun r s' z=>by rcases r with e | (v | _ | _ | _) <;> exact z)
theorem ZhF (OK:POK g.P g.K g.tabs g.dn) (hU:∀ v,g.unk 0 v) (HA:AllS g r n) (hc:CxOK g c (n + 1)) (R:Rel g c σ) {a:Nat} {m:E} {as:List V} {ras:List Value} {kw:Lo} {rkw:List (Str × Value)} {ko:KA} {ke:KX}
  (q2:g.P.fns.get a=some m) (ha:VRs g σ as ras) (hk:SR g σ kw rkw) (h:appF g.P r a m as kw c.hd σ.h σ.nx ko ke=true) (hQ:PA g c σ ko Q) (hE:PAX g c σ ke Er):codeAny g.M c.A (.call (.ref a) ⟨ras,rkw⟩) (Zaa Q Er) σ.s:=by
 cases m with
 | f p b=>exact(OK.fn a _ q2).elim (fun q=>Za q) fun hf=>ZhA OK hU HA hc R hf ha hk h hQ hE
 | _=>exact Za h
theorem Zmf (OK:POK g.P g.K g.tabs g.dn) (hU:∀ v,g.unk 0 v) (HA:AllS g r n):AppS g (ZdD g.P r) (n + 1):=by
 intro c hc σ R f rf as ras kw rkw ko ke hv ha hk h Q Er hQ hE
 have h0:(@Option.rec Nat (fun _=>Bool) (@Option.rec Nat (fun _=>Bool)
   (og (vBi f) fun n=>bif kw.isEmpty then ZeP g.P r n as c.hd σ.h σ.nx ko else false)
   (fun a=>og (ZbF σ.h a) fun p=>ZeN r p.1 p.2 as kw c.hd σ.h σ.nx ko ke) (vRef f))
  (fun a=>@Option.rec E (fun _=>Bool) (newC g.P r a as kw c.hd σ.h σ.nx ko ke) (fun m=>appF g.P r a m as kw c.hd σ.h σ.nx ko ke) (g.P.fns.get a)) (vTop f))=true:=h
 clear h
 cases q1:vTop f with
 | some a=>
  rw[q1] at h0
  obtain rfl:=Zbt q1
  obtain⟨rfl,_⟩:=hv
  refine ZeG ?_
  have h0:(@Option.rec E (fun _=>Bool) (newC g.P r a as kw c.hd σ.h σ.nx ko ke) (fun m=>appF g.P r a m as kw c.hd σ.h σ.nx ko ke) (g.P.fns.get a))=true:=h0
  cases q2:g.P.fns.get a with
  | none=>rw[q2] at h0; exact Zmc OK HA hc R ha hk h0 hQ hE
  | some m=>
   rw[q2] at h0
   exact ZhF OK hU HA hc R q2 ha hk h0 hQ hE
 | none=>
  rw[q1] at h0
  cases q2:vRef f with
  | some i=>
   have h1:(@Option.rec Nat (fun _=>Bool) _ (fun a=>og (ZbF σ.h a) fun p=>ZeN r p.1 p.2 as kw c.hd σ.h σ.nx ko ke) (vRef f))=true:=h0
   rw[q2] at h1
   obtain rfl:=Zk q2
   obtain⟨rfl,_⟩:=hv
   exact Zc h1 fun p hp h2=>ZgJ HA hc R (Zc5 hp) ha hk h2 hQ hE
  | none=>
   have h1:(@Option.rec Nat (fun _=>Bool) (og (vBi f) fun n=>bif kw.isEmpty then ZeP g.P r n as c.hd σ.h σ.nx ko else false) _ (vRef f))=true:=h0
   rw[q2] at h1
   refine Zc h1 fun m hm h2=>Zf h2 fun he h3=>?_
   obtain rfl:=Zdd hm
   obtain rfl:rf=biV m:=hv
   obtain rfl:rkw = []:=by
    cases kw with
    | nil=>cases rkw with | nil=>rfl | cons _ _=>exact hk.elim
    | cons _ _=>exact Za he
   exact ZjU OK HA hc R ha h3 hQ
theorem Zla (OK:POK g.P g.K g.tabs g.dn) (hU:∀ v,g.unk 0 v) (HA:AllS g r n):AppD g (ZdD g.P r) (n + 1):=by
 intro c hc σ R a m as ras kw rkw ko ke q2 ha hk h Q Er hQ hE
 have h0:(@Option.rec E (fun _=>Bool) (newC g.P r a as kw c.hd σ.h σ.nx ko ke) (fun m=>appF g.P r a m as kw c.hd σ.h σ.nx ko ke) (g.P.fns.get a))=true:=h
 rw[q2] at h0
 exact ZhF OK hU HA hc R q2 ha hk h0 hQ hE
end
section
variable {g:Gl} {r:Rec} {n:Nat} {c:Cx} {σ : St} {Q Er:Value→Shared→Prop}
set_option tactic.hygienic true in
theorem ZhG {K:Frag} {p:Addr} {l:List Value} {T:String} (h:recIn K p T=some l):typeIn K (.ref p)=some (.type T):=by
 unfold recIn at h
 show (K.lookup p).map (·.cls) = _
 split at h
 ·rename_i ho
  split at h
  ·rename_i q; rw[ho,beq_iff_eq.mp q]; rfl
  ·exact Ze h
 ·exact Ze h
theorem Zlb (OK:POK g.P g.K g.tabs g.dn) (hc:CxOK g c n) (R:Rel g c σ) {u:V} {a C:Nat} {f:Lo} (I0:InstV g σ u a C f) {x:Str} (hx:gd x=true) {k:V→List V→Bool} (h:mRes g.P u C f (enc x) k=true) (pl:Sem Bool) (A:Around) {Q:Value × List Value→Shared→Prop}
  (hQ:∀ σ' fv rf first rfirst,Rel g c σ'→Ext g c σ σ'→Quiet σ σ'→VR g σ' fv rf→VRs g σ' first rfirst→k fv first=true→Q (rf,rfirst) σ'.s) :
  wpAny g.M A (getMethod (.ref a) x pl) Q Er σ.s:=by
 refine byG fun G fin=>Zf h fun ok h1=>Zc h1 fun ca ha h2=>?_
 clear h h1
 obtain⟨ci,hci,hok,CO,hC⟩:=OK.ok ok
 obtain⟨_,_,_,q⟩:=OK.attr hx ha
 rw[hC] at q
 have pg:=CO.get hok
 have hd:=CO.dict (.inl hok)
 obtain⟨od,es,nn,I,kk,lr⟩:=I0.r
 have X:=hc.X R
 have T:=R.tok (σ.s.toks + 1)
 have ql:=lr x hx
 have none_of:∀ {b:Bool},(bif hasK f (enc x) then false else b)=true→ZA es x=none∧b=true:=fun {b} h=>by
  rw[ZbI] at h
  cases e:look f (enc x) with
  | none=>rw[e] at h ql; exact⟨ql,h⟩
  | some _=>rw[e] at h; exact Za h
 refine ZaL h2 ?_ ?_ ?_ ?_ ?_ ?_
 ·rintro rfl h
  refine Zc h fun w hw hk=>?_
  rw[hw] at ql
  obtain⟨rw',e,vr⟩:=ql
  exact fin (method_usual X I (plainGet_of pg).1 (plainGet_of pg).2 (show findIn g.K (.ref C) x=some none from q) rfl (get_own R.F (hc.K R) I pg hd q rfl (by rw[ZaE kk,e]) vr.handed
   (hQ _ w _ [] [] T.1 T.2 ⟨rfl,rfl,rfl,rfl⟩ (vr.mono T.2 R) trivial hk)))
 ·intro _ h; exact Za h
 ·rintro g' rfl h
  obtain⟨hl,hk⟩:=none_of h
  obtain⟨hf,F,_⟩:=q
  exact fin (method_inst R.F (hc.K R) I pg hf F.fn (by rw[ZaE kk,hl]) (hQ σ (.top g') _ [u] _ R (.refl ..) ⟨rfl,rfl,rfl,rfl⟩ ⟨rfl,F.ob⟩ ⟨I0.vr,trivial⟩ hk))
 ·intro _ _ h; exact Za h
 ·intro _ _ h; exact Za h
 ·rintro g' rfl h
  obtain⟨hl,hk⟩:=none_of h
  obtain⟨p,rest,hf,hp,hg,ht,hcp,hob⟩:=q
  refine fin (method_usual X I (plainGet_of pg).1 (plainGet_of pg).2 hf (by show ((typeIn g.K (.ref p)).any _)=true; rw[ZhG hp]; rfl) (get_bind X I (plainGet_of pg).1 (findObj_fn hd hf hg ht hcp (by rw[lookIn_dict,ZaE kk,hl])) (plainGet_of pg).2 (wpAny_call (sm_get (s:={ σ.s with toks:=σ.s.toks + 1 }) X hp ?_))))
  exact Zf0 rfl (hQ _ (.top g') _ [] [] T.1 T.2 ⟨rfl,rfl,rfl,rfl⟩ ⟨rfl,hob⟩ trivial hk)
theorem Zfq (R:Rel g c σ) {i:Nat} {l:List V} (e:Zg σ.h i=some l) (hlen:l.length < 900000) {v:V} {rv:Value} (hv:VR g σ v rv)
  (hQ:∀ σ',Rel g c σ'→Ext g c σ σ'→σ'.lo = σ.lo→σ'.h=hp σ.h i (.list (l ++ [v]))→σ'.nx = σ.nx→Q .none σ'.s) (A:Around) :
  wpAny g.M A (call (.builtin "list.append") [.ref (σ.ρ (2 * i)),rv]) Q Er σ.s:=by
 obtain⟨its,k,hm,hz,vr⟩:=R.list e
 have hl:=vr.length
 have e0:=ZH e
 have ea:its.toArray.push rv=(its ++ [rv]).toArray:=by simp
 refine append_K R.F R.N (Zbj σ.news R.nd hm) (fun h' F' N'=>?_) (by rw[sizeLine_eq]; show its.length≤_; rw[← hl]; exact Nat.le_trans (Nat.le_of_lt hlen) (by decide))
 rw[ea] at N'
 obtain⟨R',X'⟩:=R.upd (tk:=σ.s.toks) (k:=2 * i) e0 (Zh e0) (Zr i) (o2:=.list (l ++ [v])) rfl hm F' N' (fun σ' er en Z=>by
  show ORa g σ' (σ'.ρ (2 * i)) _ _
  rw[er]
  exact⟨its ++ [rv],k + 1,by rw[en]; exact Zu hm,by rw[List.length_append]; exact Nat.le_trans (Nat.succ_le_of_lt hlen) (by decide),(vr.mono0 Z).append ⟨hv.mono0 Z,trivial⟩⟩)
 exact hQ _ R' X' rfl rfl rfl
theorem ZjV (R:Rel g c σ) {i:Nat} {l:List V} (e:Zg σ.h i=some l)
  (hQ:∀ σ',Rel g c σ'→Ext g c σ σ'→σ'.lo = σ.lo→σ'.h=hp σ.h i (.list [])→σ'.nx = σ.nx→Q .none σ'.s) (A:Around) :
  wpAny g.M A (call (.builtin "list.clear") [.ref (σ.ρ (2 * i))]) Q Er σ.s:=by
 obtain⟨its,k,hm,hz,vr⟩:=R.list e
 have e0:=ZH e
 have fin:∀ h' k',Fr σ.g0 c.L h' σ.m→News σ.g0 c.L h' (setN σ.news (σ.ρ (2 * i)) (listOf #[] k'))→Q .none { σ.s with heap:=h' }:=fun h' k' F' N'=>by
  obtain⟨R',X'⟩:=R.upd (tk:=σ.s.toks) (k:=2 * i) e0 (Zh e0) (Zr i) (o2:=.list []) rfl hm F' N' (fun σ' er en Z=>by
   show ORa g σ' (σ'.ρ (2 * i)) _ _
   rw[er]
   exact⟨[],k',by rw[en]; exact Zu hm,Nat.zero_le _,trivial⟩)
  exact hQ _ R' X' rfl rfl rfl
 by_cases h0:its.length=0
 ·obtain rfl:=List.eq_nil_of_length_eq_zero h0
  obtain⟨pre,post,e1,e2,a,b⟩:=(Zbj (o':=listOf #[] k) σ.news R.nd hm).split
  have z:=R.N _ hm
  have N:=R.N
  rw[e1] at N
  refine call_meets PySem.F.slot_list_clear ⟨_,z.1,rfl⟩ PySem.F.entry_list_clear (PySem.F.args_list_clear_1 _) (PySem.AutoSeq1.list_clear_list_0 _ _ k (Nat.zero_le _)) ⟨z.1,fin _ k (R.F.change (Heap.SameBut.update ..) z.2.1 z.2.2) ?_⟩
  rw[e2]
  exact kl_turn0 (fun _=>#[]) N a b rfl rfl
 ·exact kl_clear R.F R.N (Zbj σ.news R.nd hm) h0 (by rw[sizeLine_eq]; show its.length≤_; rw[← vr.length]; exact Nat.le_trans hz (by decide)) fun h' F' N'=>fin h' (k + 1) F' N'
theorem ZjW (R:Rel g c σ) {D:Addr} {xs:Array Value} {k:Nat} (hm:(D,listOf xs k) ∈ σ.news) (f:Array Value→Array Value) :
  ∃ k',Fr σ.g0 c.L (σ.s.heap.update D (Obj.mapSeq f)) σ.m∧News σ.g0 c.L (σ.s.heap.update D (Obj.mapSeq f)) (setN σ.news D (listOf (f xs) k')):=
 ⟨_,ZB R hm (Heap.SameBut.update ..) (get?_update_seq (R.N _ hm).1 f)⟩
theorem ZfN (R:Rel g c σ) {d:Addr} {o o':Obj} (hm:(d,o) ∈ σ.news) {h':Heap} (hs:∀ b x,b≠d→σ.s.heap.get? b=some x→h'.get? b=some x) (ho:h'.get? d=some o'):Fr σ.g0 c.L h' σ.m∧News σ.g0 c.L h' (setN σ.news d o'):=by
 have hd:=R.N _ hm
 obtain⟨oL,esL,epL,gL,hn⟩:=R.F.ns
 refine⟨⟨⟨oL,esL,epL,hs _ _ (Ne.symm hd.2.1) gL,hn⟩,fun b ob e=>hs _ _ (fun q=>by rw[q,hd.2.2] at e; cases e) (R.F.keep b ob e),R.F.above⟩,fun p hp=>?_⟩
 obtain⟨p',hp',rfl⟩:=List.mem_map.mp hp
 by_cases q:p'.1=d
 ·rw[if_pos q]; exact⟨ho,hd.2⟩
 ·rw[if_neg q]; exact⟨hs _ _ q (R.N _ hp').1,(R.N _ hp').2⟩
theorem ZjX (R:Rel g c σ) {i:Nat} (e:Zg σ.h i=some []) (q:Addr) (hQ:∀ σ',Rel g c σ'→Ext g c σ σ'→σ'.lo = σ.lo→σ'.h=hp σ.h i (.list [])→σ'.nx = σ.nx→Q .none σ'.s) (A:Around) :
  wpAny g.M A (call (.builtin "list.sort") [.ref (σ.ρ (2 * i))] [(Str.ofString "key",.ref q)]) Q Er σ.s:=by
 obtain⟨its,k,hm,hz,vr⟩:=R.list e
 obtain rfl:its = []:=by cases its with | nil=>rfl | cons _ _=>exact vr.elim
 have e0:=ZH e
 have g0:=(R.N _ hm).1
 have lt:=Heap.lt_size g0
 have fin:∀ h' k',(∀ b x,b≠σ.ρ (2 * i)→σ.s.heap.get? b=some x→h'.get? b=some x)→h'.get? (σ.ρ (2 * i))=some (listOf #[] k')→Q .none { σ.s with heap:=h' }:=fun h' k' hs hg=>by
  obtain⟨F',N'⟩:=ZfN R hm hs hg
  obtain⟨R',X'⟩:=R.upd (tk:=σ.s.toks) (k:=2 * i) e0 (Zh e0) (Zr i) (o2:=.list []) rfl hm F' N' (fun σ' er en Z=>by
   show ORa g σ' (σ'.ρ (2 * i)) _ _
   rw[er]
   exact⟨[],k',by rw[en]; exact Zu hm,Nat.zero_le _,trivial⟩)
  exact hQ _ R' X' rfl rfl rfl
 generalize σ.ρ (2 * i)=D at g0 lt fin
 obtain⟨e1,g1⟩:∃ e1,(σ.s.heap.update D (Obj.mapSeq fun _=>(#[]:Array Value))).get? D=some (listOf #[] e1):=⟨_,get?_update_seq g0 fun _=>#[]⟩
 have s1:∀ b x,b≠D→σ.s.heap.get? b=some x→(σ.s.heap.update D (Obj.mapSeq fun _=>(#[]:Array Value))).get? b=some x:=fun b x hb h=>(Heap.get?_update_other _ _ (Ne.symm hb)).trans h
 refine wpAny_call_entry_kw slot_list_sort ⟨_,g0,rfl⟩ entry_list_sort ?_ (ksk_l1 _ _)
 rw[ksk_t1]
 unfold ksk_tree
 refine wpAny_bind (listItems_at g0 rfl ?_)
 refine wpAny_bind (listUpdate_at g0 rfl ?_ (Nat.zero_le _) (Nat.zero_le _))
 generalize σ.s.heap.update D (Obj.mapSeq fun _=>(#[]:Array Value))=h1 at g1 s1
 refine wpAny_bind (seqEpoch_at g1 rfl ?_)
 refine wpAny_bind (wpAny_newTuple ?_ (Nat.zero_le _))
 refine wpAny_bind (wpAny_newList ?_ (Nat.zero_le _))
 dsimp only
 generalize hh2:h1.push { cls:=.type "tuple",data:=.seq ([]:List Value).toArray }=h2
 have g2:h2.get? D=some (listOf #[] e1):=by rw[← hh2]; exact Heap.get?_push_of_some _ g1
 have s2:∀ b x,b≠D→σ.s.heap.get? b=some x→h2.get? b=some x:=fun b x hb h=>by rw[← hh2]; exact Heap.get?_push_of_some _ (s1 b x hb h)
 have ne:D≠h2.objs.size:=Nat.ne_of_lt (Heap.lt_size g2)
 have g3:=Heap.get?_push_of_some (listOf #[] 0) g2
 have k3:(h2.push (listOf #[] 0)).get? h2.objs.size=some (listOf #[] 0):=Heap.get?_push_size _ rfl
 have s3:∀ b x,b≠D→σ.s.heap.get? b=some x→(h2.push (listOf #[] 0)).get? b=some x:=fun b x hb h=>Heap.get?_push_of_some _ (s2 b x hb h)
 refine wpAny_holding ?_
 unfold ksk_rest
 refine wpAny_bind (wpAny_rule (wpAny_bind ?_))
 refine wpAny_pure ?_
 refine wpAny_bind (listItems_at k3 rfl ?_)
 unfold ksk_end
 rw[if_neg Bool.false_ne_true]
 refine wpAny_bind (wpAny_pure (wpAny_bind ?_))
 rw[if_pos (show #[].size < 2 by decide)]
 refine wpAny_pure (wpAny_bind ?_)
 refine listUpdate_at k3 rfl ?_ (Nat.zero_le _) (Nat.zero_le _)
 have g4:=(Heap.get?_update_other (h2.push (listOf #[] 0)) (Obj.mapSeq fun _=>(#[]:Array Value)) ne.symm).trans g3
 have s4:∀ b x,b≠D→σ.s.heap.get? b=some x→((h2.push (listOf #[] 0)).update h2.objs.size (Obj.mapSeq fun _=>(#[]:Array Value))).get? b=some x:=fun b x hb h=>(Heap.get?_update_other _ _ (Nat.ne_of_gt (Heap.lt_size (s2 b x hb h)))).trans (s3 b x hb h)
 have hout:(arrOf (SortSt.mk' general' ((#[]:Array Value).zip (#[]:Array Value)) #[] 7 none)).map (·.2) = #[]:=by
  show ((#[]:Array Value).zip (#[]:Array Value)).map (·.2) = #[]
  apply Array.toList_inj.mp; simp
 refine wpAny_bind (wpAny_letGo (wpAny_bind (seqEpoch_at g4 rfl (wpAny_bind (listUpdate_at g4 rfl ?_ (Nat.zero_le _) (by show ((arrOf (SortSt.mk' general' ((#[]:Array Value).zip (#[]:Array Value)) #[] 7 none)).map (·.2)).size≤_; rw[hout]; exact Nat.zero_le _))))))
 show wpAny _ _ (do
  if (e1 != e1)=true then do rule "list.sort.modified"; raiseError "ValueError" "list modified during sort"
  ret .none) _ _ _
 rw[bne_self_eq_false]
 have fin':∀ f:Array Value→Array Value,f #[] = #[]→Q .none { σ.s with heap:=((h2.push (listOf #[] 0)).update h2.objs.size (Obj.mapSeq fun _=>(#[]:Array Value))).update D (Obj.mapSeq f) }:=fun f hf=>
  fin _ _ (fun b x hb h=>(Heap.get?_update_other _ _ (Ne.symm hb)).trans (s4 b x hb h)) (by have:=get?_update_seq g4 f; rw[hf] at this; exact this)
 exact wpAny_pure ⟨_,rfl,fin' _ hout⟩
end
section
variable {g:Gl} {r:Rec} {n:Nat} {c:Cx} {σ : St} {Q Er:Value→Shared→Prop}
theorem ZhH {d:Addr} {o:Obj}:∀ {news:List (Addr × Obj)},(news.map (·.1)).Nodup→(d,o) ∈ news→setN news d o=news:=fun {news}=>by
 induction news with
 | nil=>intro _ h; cases h
 | cons p r ih=>
  intro nd hm
  obtain⟨h1,h2⟩:=List.nodup_cons.mp nd
  unfold setN
  rw[List.map_cons]
  rcases List.mem_cons.mp hm with e | hm
  ·subst e
   have h:∀ p ∈ r,p.1≠d:=fun p hp e=>h1 (e ▸ List.mem_map_of_mem (f:=(·.1)) hp)
   rw[if_pos rfl]
   exact congrArg _ (ZfV h)
  ·have hne:p.1≠d:=fun e=>h1 (by show p.1 ∈ _; rw[e]; exact List.mem_map_of_mem (f:=(·.1)) hm)
   rw[if_neg hne]
   exact congrArg _ (ih h2 hm)
theorem Rel.redesc (R:Rel g c σ) {i:Nat} {o o2:O} {ob:Obj} (e : σ.h.get i=some o) (t:two o2=two o) (hm:(σ.ρ (2 * i),ob) ∈ σ.news) {tk:Nat} (ho:∀ σ':St,σ'.ρ = σ.ρ→σ'.news = σ.news→Ext0 g σ σ'→OR g σ' i o2) :
  ∃ σ',Rel g c σ'∧Ext g c σ σ'∧σ'.h=hp σ.h i o2∧σ'.nx = σ.nx∧σ'.lo = σ.lo∧σ'.s = { σ.s with toks:=tk }:=by
 have s:=ZhH R.nd hm
 obtain⟨R',X'⟩:=R.upd (tk:=tk) (k:=2 * i) (ob':=ob) e (Zh e) (Zr i) t hm R.F (by rw[s]; exact R.N) fun σ' er en Z=>ho σ' er (en.trans s) Z
 exact⟨_,R',X',rfl,rfl,rfl,rfl⟩
theorem ZhI (R:Rel g c σ) {i pk:Nat} {l:List V} (e : σ.h.get i=some (.elist pk l)) (hlen:l.length < 900) {v:V} {rv:Value} (hv:VR g σ v rv)
  (hQ:∀ σ',Rel g c σ'→Ext g c σ σ'→σ'.lo = σ.lo→σ'.h=hp σ.h i (.elist pk (l ++ [v]))→σ'.nx = σ.nx→Q .none σ'.s) (A:Around) :
  wpAny g.M A (call (.builtin "list.append") [.ref (σ.ρ (2 * i)),rv]) Q Er σ.s:=by
 obtain⟨pre,its,k,hm,b,hz,vr⟩:EListR g σ _ pk l:=R.trk i _ e
 have hl:=vr.length
 have ea:(pre++its).toArray.push rv=(pre++(its ++ [rv])).toArray:=by simp
 refine append_K R.F R.N (Zbj σ.news R.nd hm) (fun h' F' N'=>?_) (by
  rw[sizeLine_eq]
  show (pre++its).length≤_
  rw[List.length_append,← hl]
  exact Nat.le_trans (Nat.add_le_add (Nat.le_trans hz.1 hz.2.1) hz.2.2) (by decide))
 rw[ea] at N'
 obtain⟨R',X'⟩:=R.upd (tk:=σ.s.toks) (k:=2 * i) e (Zh e) (Zr i) (o2:=.elist pk (l ++ [v])) rfl hm F' N' (fun σ' er en Z=>by
  show ORa g σ' (σ'.ρ (2 * i)) _ _
  rw[er]
  exact⟨pre,its ++ [rv],k + 1,by rw[en]; exact Zu hm,b.mono0 Z,⟨hz.1,hz.2.1,by rw[List.length_append]; exact Nat.le_trans (Nat.succ_le_of_lt hlen) (by decide)⟩,(vr.mono0 Z).append ⟨hv.mono0 Z,trivial⟩⟩)
 exact hQ _ R' X' rfl rfl rfl
theorem ZfO {h:H} {a:Nat} {p:Nat × Lo} (e:Zdt h a=some p):h.get a=some (.pmap p.1 p.2):=let ⟨o,q,r⟩:=ZW e; by
 cases o with
 | pmap k l=>rw[q]; obtain rfl:=Option.some.inj r; rfl
 | _=>exact Ze r
theorem ZgN {kvs:List (Str × Value)} {x:Str} {i:Int} {t:Tok} (h:kvs.lookup x=some (.int i t)):Zaf kvs x=i:=by unfold Zaf; rw[h]
theorem ZgO {kvs:List (Str × Value)} {x:Str} (h:kvs.lookup x=none):Zaf kvs x=0:=by unfold Zaf; rw[h]
theorem ZjY (hc:CxOK g c n) (R:Rel g c σ) {i k:Nat} {es:Lo} (e : σ.h.get i=some (.pmap k es)) {x:Str} {tk u:Tok} (hx:gd x=true) {ko:KA} (h:Zgu i k es (enc x) c.hd σ.h σ.nx ko=true) (hQ:PA g c σ ko Q) (A:Around) :
  wpAny g.M A (call (.builtin "dict.get") [.ref (σ.ρ (2 * i)),.str x tk,.int 0 u]) Q Er σ.s:=by
 obtain⟨o,kvs,m,d,z,hi,hr⟩:PmapR g σ _ k es:=R.trk i _ e
 obtain⟨r1,r2⟩:=hr x hx
 refine kdg_get2 R.N m d (beq_false_of_ne z) (strKind_is _ _ _ _) _ rfl ?_
 rw[ZbN]
 have val:∃ t,(match kvs.lookup x with | some v=>v | none=>Value.int 0 u)=.int (Zaf kvs x) t:=by
  cases hl:kvs.lookup x with
  | none=>rw[ZgO hl]; exact⟨_,rfl⟩
  | some w=>
   obtain⟨_,_,j,t,rfl⟩:=hi x w hl
   rw[ZgN hl]; exact⟨t,rfl⟩
 obtain⟨t,val⟩:=val
 have T:=R.tok (σ.s.toks + 1)
 have fin:∀ σ':St,Rel g c σ'→Ext g c σ σ'→σ'.lo = σ.lo→σ'.s = { σ.s with toks:=σ.s.toks + 1 }→ko (.int (Zaf kvs x)) σ'.h σ'.nx=true→Q (match kvs.lookup x with | some v=>v | none=>Value.int 0 u) { σ.s with toks:=σ.s.toks + 1 }:=fun σ' R' X' hl hs hk=>by
  rw[val,← hs]
  exact hQ σ' (.int (Zaf kvs x)) _ R' X' hl ⟨t,rfl⟩ hk
 have h0:(@Option.rec V (fun _=>Bool) (og (oraK 9 k (Int.ofNat (enc x)) c.hd.ora) fun u=>Zdz u fun y=>og (vInt y) fun _=>ko y (hp σ.h i (.pmap k (upd es (enc x) y))) σ.nx) (fun y=>ko y σ.h σ.nx) (look es (enc x)))=true:=h
 have goal:Q (match kvs.lookup x with | some v=>v | none=>Value.int 0 u) { σ.s with toks:=σ.s.toks + 1 }:=by
  cases hl:look es (enc x) with
  | some v=>
   rw[hl] at h0
   obtain rfl:=r1 v hl
   exact fin _ T.1 T.2 rfl rfl h0
  | none=>
   rw[hl] at h0
   refine Zc h0 fun q hq h1=>?_
   obtain⟨hk9,_,v,nv,hc9⟩:=(hc.ora _ (ZaF hq)).pm rfl
   refine Zc (hc9 _ h1) fun j hj hk=>?_
   obtain rfl:=Zt hj
   have ej:j=Zaf kvs x:=by
    rw[r2 hl]
    rcases nv with⟨a,e1,e2⟩ | ⟨a,e1,_⟩
    ·injection e1 with e1; rw[e1]; exact e2
    ·cases e1
   subst ej
   obtain⟨σ',R',X',e1,e2,e3,e4⟩:=R.redesc (tk:=σ.s.toks + 1) (o2:=.pmap k (upd es (enc x) (.int (Zaf kvs x)))) e rfl m fun σ' er en Z=>by
    show ORa g σ' (σ'.ρ (2 * i)) _ _
    rw[er]
    refine⟨o,kvs,by rw[en]; exact m,d,z,hi,fun y hy=>?_⟩
    rw[Zb2]
    by_cases q:y=x
    ·subst q; rw[if_pos rfl]; exact⟨fun v hv=>(Option.some.inj hv).symm,fun h=>nomatch h⟩
    ·rw[if_neg (fun q2=>q (Zw hy hx q2))]; exact hr y hy
   exact fin σ' R' X' e3 e4 (by rw[e1,e2]; exact hk)
 cases hl:kvs.lookup x with
 | none=>rw[hl] at goal; exact goal
 | some v=>rw[hl] at goal; exact goal
end
theorem ZcC:∀ (L l:List Nat),l.Nodup→(∀ x ∈ l,x ∈ L)→l.length≤L.length
 | [],[],_,_=>Nat.le_refl _
 | [],x :: _,_,h=>nomatch h x (.head _)
 | a :: L,l,nd,h=>by
  by_cases ha:a ∈ l
  ·have:=ZcC L (l.erase a) (nd.erase a) fun x hx=>by
    have hm:=(List.Nodup.mem_erase_iff nd).mp hx
    exact(List.mem_cons.mp (h x hm.2)).resolve_left hm.1
   rw[List.length_erase_of_mem ha] at this
   show l.length≤L.length + 1
   omega
  ·exact Nat.le_succ_of_le (ZcC L l nd fun x hx=>(List.mem_cons.mp (h x hx)).resolve_left fun e=>ha (e ▸ hx))
theorem Zec {l:List Nat} {n:Nat} (h:mem l n=true):n ∈ l:=by
 induction l with
 | nil=>exact Za h
 | cons k l ih=>
  rw[mem_cons] at h
  split at h
  ·next e=>subst e; exact .head _
  ·exact .tail _ (ih h)
section
variable {w:Value} {x:Str}
theorem ZbC (y:Str) (u:Value) (kvs:List (Str × Value)):stored ((y,u) :: kvs) x w=if y=x then(y,w) :: (kvs.map fun kv=>if kv.1=x then(kv.1,w) else kv) else(y,u) :: stored kvs x w:=by
 unfold stored
 by_cases h:y=x
 ·simp [h]
 ·simp only [List.any_cons,h,decide_false,Bool.false_or,if_false]
  split <;> simp [h]
theorem Zcb:∀ {kvs:List (Str × Value)},(∀ p ∈ kvs,p.1≠x)→(kvs.map fun kv=>if kv.1=x then(kv.1,w) else kv)=kvs
 | [],_=>rfl
 | p :: kvs,h=>by rw[List.map_cons,if_neg (h p (.head _)),Zcb fun q hq=>h q (.tail _ hq)]
theorem Za5 (z:Str):∀ {kvs:List (Str × Value)},(kvs.map (·.1)).Nodup→(stored kvs x w).lookup z=if z=x then some w else kvs.lookup z
 | [],_=>by
  show List.lookup z [(x,w)] = _
  rw[List.lookup_cons]
  by_cases h:z=x
  ·subst h; simp
  ·rw[if_neg h,beq_false_of_ne h]
 | (y,u) :: kvs,nd=>by
  obtain⟨n1,n2⟩:=List.nodup_cons.mp nd
  rw[ZbC]
  by_cases h:y=x
  ·subst h
   rw[if_pos rfl,Zcb fun p hp e=>n1 (List.mem_map.mpr ⟨p,hp,e⟩),List.lookup_cons,List.lookup_cons]
   by_cases q:z=y
   ·subst q; simp
   ·rw[if_neg q,beq_false_of_ne q]
  ·rw[if_neg h,List.lookup_cons,List.lookup_cons,Za5 z n2]
   by_cases q:z=y
   ·subst q; simp [h]
   ·rw[beq_false_of_ne q]
end
theorem Za6:∀ {kvs:List (Str × Value)},(kvs.map (·.1)).Nodup→∀ {p:Str × Value},p ∈ kvs→∃ w,kvs.lookup p.1=some w
 | (y,u) :: kvs,nd,p,h=>by
  rw[List.lookup_cons]
  by_cases e:p.1=y
  ·rw[e,beq_self_eq_true]; exact⟨u,rfl⟩
  ·rw[beq_false_of_ne e]
   rcases List.mem_cons.mp h with rfl | h
   ·exact absurd rfl e
   ·exact Za6 (List.nodup_cons.mp nd).2 h
theorem Zc8:∀ {kvs:List (Str × Value)},(kvs.map (·.1)).Nodup→(∀ q ∈ kvs,gd q.1=true)→(kvs.map fun p=>enc p.1).Nodup
 | [],_,_=>List.nodup_nil
 | p :: kvs,nd,h=>by
  obtain⟨n1,n2⟩:=List.nodup_cons.mp nd
  refine List.nodup_cons.mpr ⟨fun hm=>?_,Zc8 n2 fun q hq=>h q (.tail _ hq)⟩
  obtain⟨q,hq,e⟩:=List.mem_map.mp hm
  have:=Zw (h q (.tail _ hq)) (h p (.head _)) e
  exact n1 (List.mem_map.mpr ⟨q,hq,this⟩)
section
variable {g:Gl} {r:Rec} {n:Nat} {c:Cx} {σ : St} {Er:Value→Shared→Prop}
theorem SR.stored {v:V} {w:Value} {x:Str} (hx:gd x=true) (hv:VR g σ v w):∀ {es:Lo} {kvs:List (Str × Value)},SR g σ es kvs→(kvs.map (·.1)).Nodup→SR g σ (upd es (enc x) v) (stored kvs x w):=fun {es}=>by
 induction es with
 | nil=>
  intro kvs h nd
  cases kvs with
  | nil=>exact⟨hx,rfl,hv,trivial⟩
  | cons _ _=>exact h.elim
 | cons p es ih=>
  intro kvs h nd
  cases kvs with
  | nil=>exact h.elim
  | cons q kvs=>
   obtain⟨y,u⟩:=q
   obtain⟨h1,h2,h3,h4⟩:=h
   obtain⟨n1,n2⟩:=List.nodup_cons.mp nd
   rw[ZbC,Zay]
   by_cases e:y=x
   ·subst e
    rw[if_pos rfl,if_pos h2.symm,Zcb fun p hp e=>n1 (List.mem_map.mpr ⟨p,hp,e⟩)]
    exact⟨h1,h2,hv,h4⟩
   ·rw[if_neg e,if_neg fun q=>e (Zw h1 hx (h2.trans q))]
    exact⟨h1,h2,h3,ih h4 n2⟩
theorem GdR.stored {x:Str} {i:Int} {t:Tok} (hx:gd x=true):∀ {l:List (Nat × Int)} {kvs:List (Str × Value)},GdR l kvs→(kvs.map (·.1)).Nodup→GdR (upd l (enc x) i) (stored kvs x (.int i t)):=fun {l}=>by
 induction l with
 | nil=>intro kvs h _; cases kvs with | nil=>exact⟨hx,rfl,⟨t,rfl⟩,trivial⟩ | cons _ _=>exact h.elim
 | cons p l ih=>
  intro kvs h nd
  cases kvs with
  | nil=>exact h.elim
  | cons q kvs=>
   obtain⟨y,u⟩:=q
   obtain⟨h1,h2,h3,h4⟩:=h
   obtain⟨n1,n2⟩:=List.nodup_cons.mp nd
   rw[ZbC,Zay]
   by_cases e:y=x
   ·subst e
    rw[if_pos rfl,if_pos h2.symm,Zcb fun p hp e=>n1 (List.mem_map.mpr ⟨p,hp,e⟩)]
    exact⟨h1,h2,⟨t,rfl⟩,h4⟩
   ·rw[if_neg e,if_neg fun q=>e (Zw h1 hx (h2.trans q))]
    exact⟨h1,h2,h3,ih h4 n2⟩
theorem SR.len:∀ {es:Lo} {kvs:List (Str × Value)},SR g σ es kvs→kvs.length=es.length:=fun {es}=>by
 induction es with
 | nil=>intro kvs h; cases kvs with | nil=>rfl | cons _ _=>exact h.elim
 | cons p es ih=>intro kvs h; cases kvs with | nil=>exact h.elim | cons q kvs=>exact congrArg Nat.succ (ih h.2.2.2)
theorem Zix (hc:CxOK g c n) (R:Rel g c σ) {o i v:V} {ro ri rv:Value} (ho:VR g σ o ro) (hi:VR g σ i ri) (hv:VR g σ v rv) {k:H→Bool} (h:ZeY o i v c.hd σ.h k=true) {Q:Unit→Shared→Prop}
  (hQ:∀ σ',Rel g c σ'→Ext g c σ σ'→k σ'.h=true→σ'.nx = σ.nx→σ'.lo = σ.lo→Q () σ'.s) (A:Around):wpAny g.M A (setItem ro ri rv) Q Er σ.s:=by
 refine Zc h fun a ha h1=>?_
 clear h
 obtain rfl:=Zk ha
 obtain⟨rfl,_⟩:=ho
 refine Zc (show og (vStr i) _=true from h1) fun s hs h2=>?_
 clear h1
 obtain rfl:=Z4 hs
 obtain⟨x,tk,rfl,gx,rfl⟩:=hi
 have h3:(@Option.rec Lo (fun _=>Bool) (@Option.rec Lo (fun _=>Bool) (ZiY a (enc x) v c.hd σ.h k) (fun es=>bif Zy v&&Nat.blt es.length 100 then k (hp σ.h a (.gdict (es ++ [(enc x,v)]))) else false) (ZaO σ.h a)) (fun es=>bif Nat.blt es.length 100 then k (hp σ.h a (.dict (upd es (enc x) v))) else false) (Zag σ.h a))=true:=h2
 clear h2
 cases qd:Zag σ.h a with
 | some es=>
  rw[qd] at h3
  refine Zf h3 fun hb hk=>?_
  have e0:=Zat qd
  obtain⟨ob,kvs,m,d,z,sr⟩:DictR g σ _ es:=R.trk a _ e0
  have nd:(kvs.map (·.1)).Nodup:=by obtain⟨_,_,_,_,_,_,nd⟩:=d; exact nd
  refine wpAny_setItem_pairs (hsz:=?_) (strKind_is _ _ _ _) (Heap.dictOf_iff.mpr ⟨ob,(R.N _ m).1,d⟩) fun h' hm hs=>?_
  ·obtain⟨ob',ho',hd'⟩:=Heap.dictOf_iff.mp hm
   obtain⟨F',N'⟩:=ZB R m hs ho'
   obtain⟨R',X'⟩:=R.upd (tk:=σ.s.toks + 1) (k:=2 * a) e0 (Zh e0) (Zr a) (o2:=.dict (upd es (enc x) v)) rfl m F' N' (fun σ' er en Z=>by
    show ORa g σ' (σ'.ρ (2 * a)) _ _
    rw[er]
    exact⟨ob',_,by rw[en]; exact Zu m,hd',z,SR.stored gx (hv.mono0 Z) (sr.mono0 Z) nd⟩)
   exact hQ _ R' X' hk rfl rfl
  ·rw[sr.len,sizeLine_eq]; exact Nat.le_trans (Nat.le_of_lt (Nat.blt_eq.mp hb)) (by decide)
 | none=>
  rw[qd] at h3
  cases qg:ZaO σ.h a with
  | some es=>
   rw[qg] at h3
   refine Zf h3 fun hb hk=>?_
   obtain⟨hn,hb⟩:=Yb hb
   have e0:=Zbk qg
   obtain⟨ob,kvs,m,d,z,nn,gr⟩:GdictR g σ _ es:=R.trk a _ e0
   have nd:(kvs.map (·.1)).Nodup:=by obtain⟨_,_,_,_,_,_,nd⟩:=d; exact nd
   obtain⟨tv,rfl⟩:=Zfi hn hv
   refine wpAny_setItem_pairs (hsz:=?_) (strKind_is _ _ _ _) (Heap.dictOf_iff.mpr ⟨ob,(R.N _ m).1,d⟩) fun h' hm hs=>?_
   ·obtain⟨ob',ho',hd'⟩:=Heap.dictOf_iff.mp hm
    obtain⟨F',N'⟩:=ZB R m hs ho'
    obtain⟨R',X'⟩:=R.upd (tk:=σ.s.toks + 1) (k:=2 * a) e0 (Zh e0) (Zr a) (o2:=.gdict (es ++ [(enc x,v)])) rfl m F' N' (fun σ' er en Z=>by
     show ORa g σ' (σ'.ρ (2 * a)) _ _
     rw[er]
     refine⟨ob',_,by rw[en]; exact Zu m,hd',z,⟨fun p hp=>?_,nn.2⟩,?_⟩
     ·rcases List.mem_append.mp hp with hp | hp
      ·exact nn.1 p hp
      ·rw[List.mem_singleton.mp hp]; exact hn
     ·unfold gdUp; rw[List.foldl_append]; exact GdR.stored gx gr nd)
    exact hQ _ R' X' hk rfl rfl
   ·have h1:=gr.length
    have h2:(gdUp g es).length≤g.gd.length + es.length:=Zdk es g.gd
    have h3:=nn.2
    have h4:es.length < 100:=Nat.blt_eq.mp hb
    rw[sizeLine_eq]
    omega
  | none=>
  rw[qg] at h3
  refine Zc (show og (Zdt σ.h a) _=true from h3) fun p hp h4=>Zc h4 fun zi hz h5=>Zc h5 fun u hu hk=>?_
  clear h3 h4 h5
  obtain rfl:=Zt hz
  obtain⟨tv,rfl⟩:=hv
  have e0:=ZfO hp
  obtain⟨ob,kvs,m,d,z,hi,hr⟩:PmapR g σ _ p.1 p.2:=R.trk a _ e0
  have nd:(kvs.map (·.1)).Nodup:=by obtain⟨_,_,_,_,_,_,nd⟩:=d; exact nd
  have key:=((hc.ora _ (ZaF hu)).pm rfl).1
  refine wpAny_setItem_pairs (hsz:=?_) (strKind_is _ _ _ _) (Heap.dictOf_iff.mpr ⟨ob,(R.N _ m).1,d⟩) fun h' hm hs=>?_
  ·obtain⟨ob',ho',hd'⟩:=Heap.dictOf_iff.mp hm
   obtain⟨F',N'⟩:=ZB R m hs ho'
   obtain⟨R',X'⟩:=R.upd (tk:=σ.s.toks + 1) (k:=2 * a) e0 (Zh e0) (Zr a) (o2:=.pmap p.1 (upd p.2 (enc x) (.int zi))) rfl m F' N' (fun σ' er en Z=>by
    show ORa g σ' (σ'.ρ (2 * a)) _ _
    rw[er]
    refine⟨ob',_,by rw[en]; exact Zu m,hd',z,fun y w hw=>?_,fun y hy=>?_⟩
    ·rw[Za5 y nd] at hw
     by_cases e:y=x
     ·subst e; rw[if_pos rfl] at hw; exact⟨gx,key,_,_,(Option.some.inj hw).symm⟩
     ·rw[if_neg e] at hw; exact hi y w hw
    ·have e1:Zaf (stored kvs x (.int zi tv)) y=if y=x then zi else Zaf kvs y:=by
      unfold Zaf
      rw[Za5 y nd]
      by_cases e:y=x
      ·rw[if_pos e,if_pos e]
      ·rw[if_neg e,if_neg e]
     rw[e1,Zb2]
     by_cases e:y=x
     ·subst e; rw[if_pos rfl,if_pos rfl]; exact⟨fun v hv=>(Option.some.inj hv).symm,fun h=>nomatch h⟩
     ·rw[if_neg e,if_neg fun q=>e (Zw hy gx q)]; exact hr y hy)
   exact hQ _ R' X' hk rfl rfl
  ·have e1:(kvs.map fun p=>enc p.1).length≤(g.pk p.1).length:=ZcC _ _ (Zc8 nd fun q hq=>?_) fun y hy=>?_
   ·rw[List.length_map] at e1
    rw[sizeLine_eq]
    exact Nat.le_trans (Nat.le_trans e1 (hc.ora _ (ZaF hu) |>.pm rfl).2.1) (by decide)
   ·obtain⟨w,hw⟩:=Za6 nd hq
    exact(hi q.1 w hw).1
   ·obtain⟨q,hq,rfl⟩:=List.mem_map.mp hy
    obtain⟨w,hw⟩:=Za6 nd hq
    exact Zec (hi q.1 w hw).2.1
end
section
variable {g:Gl} {r:Rec} {n:Nat} {c:Cx} {σ : St} {Q Er:Value→Shared→Prop}
end
section
variable {g:Gl} {r:Rec} {n:Nat} {c:Cx} {σ : St} {Q Er:Value→Shared→Prop}
theorem ZK (xs:Array Value) (k:Nat):(¬ Told (listOf xs k))∧¬ Tb (listOf xs k):=by
 refine⟨?_,fun ⟨ts,d,_⟩=>nomatch d⟩
 rintro⟨_,_,⟨C,h⟩ | h | h | ⟨vs,q,t,h,_⟩⟩
 ·cases h
 ·exact absurd (show Value.type "list" = Value.type "tuple" from h) (by decide)
 ·exact absurd (show Value.type "list" = Value.type "range" from h) (by decide)
 ·cases h
theorem Rel.turnL (R:Rel g c σ) {a:Addr} {xs:Array Value} {k:Nat} (p:Pin0 g σ a (listOf xs k)) (f:Array Value→Array Value) :
  ∃ k' σ',Rel g c σ'∧Pin0 g σ' a (listOf (f xs) k')∧Quiet σ σ'∧σ'.s = { σ.s with heap:=σ.s.heap.update a (Obj.mapSeq f) }∧Ext0 g σ σ'∧(∀ σ₀,Ext g c σ₀ σ→(∀ x,¬ Pin0 g σ₀ a x)→Ext g c σ₀ σ')∧∀ b x,b≠a→Pin0 g σ b x→Pin0 g σ' b x:=by
 obtain⟨k',F',N'⟩:=ZjW R p.1 f
 obtain⟨R',p',Y,K⟩:=R.turn (tk:=σ.s.toks) p nofun (ZK _ _).1 (fun t=>((ZK _ _).2 t).elim) F' N'
 have Z:Ext0 g σ (σ.led (setN σ.news a (listOf (f xs) k')) (σ.s.heap.update a (Obj.mapSeq f)) σ.s.toks):=
  ⟨Nat.le_refl _,fun _ _=>rfl,fun b x q t=>K b x (fun e=>by subst e; exact(ZK _ _).1 (Zn R.N p.1 q.1 ▸ t)) q,fun T ⟨b,q,t⟩=>⟨b,K T b (fun e=>by subst e; exact(ZK _ _).2 (Zn R.N p.1 q.1 ▸ t)) q,t⟩⟩
 exact⟨k',_,R',p',⟨rfl,rfl,rfl,rfl⟩,rfl,Z,fun σ₀ X h=>Y σ₀ X fun x q=>(h x q).elim,K⟩
theorem Zfr {h:H} {i k:Nat} (u:Use (hdel h i) k):Use h k∧k / 2≠i:=by
 unfold Use at u ⊢
 rw[Ze5] at u
 by_cases q:k / 2=i
 ·rw[if_pos q] at u; exact u.elim
 ·rw[if_neg q] at u; exact⟨u,q⟩
theorem Rel.hide (R:Rel g c σ) {i:Nat} {xs:List V} (e:Zg σ.h i=some xs) :
  ∃ its k,(σ.ρ (2 * i),listOf (List.toArray its) k) ∈ σ.news∧VRs g σ xs its∧Rel g c { σ with h:=hdel σ.h i }∧Ext g c σ { σ with h:=hdel σ.h i }∧Pin0 g { σ with h:=hdel σ.h i } (σ.ρ (2 * i)) (listOf its.toArray k):=by
 obtain⟨its,k,m,z,vr⟩:=R.list e
 have e0:=ZH e
 have H:Chg g c σ { σ with h:=hdel σ.h i } (fun _=>False):=⟨R.F,R.N,R.nd,rfl,rfl,Nat.le_refl _,fun _ _=>rfl,fun _ _=>rfl,fun _ m _=>m,fun _ _ _ _=>id,fun _ _ d=>d.elim,fun _ _=>id,fun _ u=>.inl (Zfr u).1,fun _ _ u _ n _ _=>absurd (Zfr u).1 n,
  fun j hj=>by show (hdel σ.h i).get j=none; rw[Ze5]; split; rfl; exact R.fr j hj,fun j o hj=>by
   have hj:(hdel σ.h i).get j=some o:=hj
   rw[Ze5] at hj
   by_cases q:j=i
   ·rw[if_pos q] at hj; exact Ze hj
   ·rw[if_neg q] at hj; exact .inl ⟨hj,fun _ _ _=>id⟩,
  fun Z=>R.locK Z rfl rfl fun _ _ m=>m,fun _=>rfl,.refl,R.B⟩
 obtain⟨R',X⟩:=R.to H fun _ _ _ _ _=>id
 refine⟨its,k,m,vr,R',X,m,fun k hk e2=>?_,fun hm=>?_⟩
 ·obtain⟨u,q⟩:=Zfr hk
  have:=R.inj _ _ u (Zh e0) e2
  exact q (by rw[this]; exact Zr i)
 ·exact R.tabU hm _ (Zh e0) rfl
theorem ZcU {h:H} {i k:Nat} {o:O} (t:two o=false) (u:Use (hp h i o) k):Use h k∨k=2 * i:=by
 by_cases q:k / 2=i
 ·obtain⟨o',e,hk⟩:=ZaP u
  rw[Zm,if_pos q] at e
  cases e
  rw[q] at hk
  rcases hk with hk | ⟨_,t'⟩
  ·exact .inr hk
  ·rw[t] at t'; exact Za t'
 ·left
  unfold Use at u ⊢
  rw[Zm,if_neg q] at u
  exact u
theorem Rel.showL (R:Rel g c σ) {i:Nat} {xs:List V} {its:List Value} {k:Nat} (e : σ.h.get i=none) (hi:i < σ.nx) (p:Pin0 g σ (σ.ρ (2 * i)) (listOf its.toArray k)) (z:xs.length≤1000000) (vr:VRs g σ xs its) :
  Rel g c { σ with h:=hp σ.h i (.list xs) }∧∀ σ₀,Ext g c σ₀ σ→(∀ x,¬ Pin0 g σ₀ (σ.ρ (2 * i)) x)→Ext g c σ₀ { σ with h:=hp σ.h i (.list xs) }:=by
 have pin:∀ b x,b≠σ.ρ (2 * i)→Pin0 g σ b x→Pin0 g { σ with h:=hp σ.h i (.list xs) } b x:=fun b x n q=>⟨q.1,fun k hk e=>by
  rcases ZcU rfl hk with h | rfl
  ·exact q.2.1 k h e
  ·exact n e.symm,q.2.2⟩
 have Z:Ext0 g σ { σ with h:=hp σ.h i (.list xs) }:=⟨Nat.le_refl _,fun _ _=>rfl,fun b x q t=>pin b x (fun e=>by subst e; exact(ZK _ _).1 (Zn R.N p.1 q.1 ▸ t)) q,fun T ⟨b,q,t⟩=>⟨b,pin T b (fun e=>by subst e; exact(ZK _ _).2 (Zn R.N p.1 q.1 ▸ t)) q,t⟩⟩
 have unt:∀ {b:Addr} {o:Obj},(b,o) ∈ σ.news→b≠σ.ρ (2 * i)→Unt σ b→Unt { σ with h:=hp σ.h i (.list xs) } b:=fun m n u k hk e=>by
  rcases ZcU rfl hk with h | rfl
  ·exact u k h e
  ·exact n e.symm
 refine⟨⟨⟨R.nd,fun j hj=>?_,fun j l hj hl e2=>?_,fun j o hj=>?_,R.cs.mono0 Z,?_,⟨fun q hq=>?_,fun q hq=>⟨(R.tab.2 q hq).1,unt (R.tab.2 q hq).1 (fun e=>p.2.2 (e ▸ ZdI hq)) (R.tab.2 q hq).2.1,(R.tab.2 q hq).2.2⟩⟩,R.B,R.hh⟩,R.F,R.N,R.gens,R.os⟩,fun σ₀ X h=>⟨X.nx,X.ρ,fun b x q n t=>pin b x (fun e=>h x (e ▸ q)) (X.pin b x q n t),fun T t=>Z.tb T (X.tb T t),X.m,X.turn⟩⟩
 ·show (hp σ.h i (.list xs)).get j=none
  rw[Zm,if_neg (fun q:j=i=>absurd hi (Nat.not_lt.mpr (q ▸ hj)))]; exact R.fr j hj
 ·rcases ZcU rfl hj with uj | rfl <;> rcases ZcU rfl hl with ul | rfl
  ·exact R.inj _ _ uj ul e2
  ·exact absurd e2 (p.2.1 _ uj)
  ·exact absurd e2.symm (p.2.1 _ ul)
  ·rfl
 ·have hj:(hp σ.h i (.list xs)).get j=some o:=hj
  rw[Zm] at hj
  by_cases q:j=i
  ·rw[if_pos q] at hj
   cases hj
   subst q
   exact⟨its,k,p.1,z,vr.mono0 Z⟩
  ·rw[if_neg q] at hj
   exact ORa.mono0 Z (fun _ m=>m) (fun _ _ m=>m) (R.trk j o hj)
 ·rcases R.loc with⟨e,l⟩ | ⟨n,o,m',a,u,t,ns,l⟩
  ·exact .inl ⟨e,l.mono0 Z⟩
  ·refine .inr ⟨n,o,m',a,unt a (fun e=>?_) u,t,ns,l.mono0 Z⟩
   obtain⟨es,ep,d,_⟩:=ns
   have:=Zn R.N p.1 (e ▸ a)
   rw[← this] at d
   cases d
 ·obtain⟨u,ps,m,t,cv⟩:=R.tab.1 q hq
  exact⟨unt m (fun e=>p.2.2 (e ▸ Ze7 hq)) u,ps,m,t,fun pos v e=>(cv pos v e).mono0 Z⟩
theorem Zmg (HA:AllS g r n) (hc:CxOK g c n) (R:Rel g c σ) {q:Nat} {x:V} {rx:Value} (hq:∃ o,g.K.lookup q=some o) (hx:VR g σ x rx) {k:Nat→H→Nat→Bool} (h:Zgq r (.top q) x c.hd σ.h σ.nx k=true) {Q:Except Value Value→Shared→Prop} {E:Value→Shared→Prop}
  (hQ:∀ σ' y t,Rel g c σ'→Ext g c σ σ'→σ'.lo = σ.lo→gd y=true→enc y < 256→k (enc y) σ'.h σ'.nx=true→Q (.ok (.str y t)) σ'.s):wpAny g.M c.A (call (.ref q) [rx]).attempt Q E σ.s:=by
 refine wpAny_attempt (HA.app c hc σ R (.top q) (.ref q) [x] [rx] [] [] _ _ ⟨rfl,hq⟩ ⟨hx,trivial⟩ trivial h _ _ (fun σ' v rv R' X' hl vr hk=>?_) PAX.no)
 refine Zc hk fun s hs hk1=>Zf hk1 fun hb hk2=>?_
 clear hk hk1
 obtain rfl:=Z4 hs
 obtain⟨y,t,rfl,gy,rfl⟩:=vr
 exact hQ σ' y t R' X' hl gy (Nat.blt_eq.mp hb) hk2
end
section
variable {g:Gl} {r:Rec} {n:Nat} {c:Cx} {σ : St} {Q Er:Value→Shared→Prop}
theorem ZgP (R:Rel g c σ) {i:Nat} {xs:List V} {out:List Value} {keys:Array Value} {kS k2 ke:Nat} {st:SortSt} {ko:KA} {σ₀:St} (X0:Ext g c σ₀ σ) (hl : σ.lo = σ₀.lo) (hi:i < σ.nx) (np:∀ x,¬ Pin0 g σ₀ (σ.ρ (2 * i)) x) (nS:∀ x,¬ Pin0 g σ₀ kS x)
  (pD:Pin0 g σ (σ.ρ (2 * i)) (listOf #[] k2)) (pS:Pin0 g σ kS (listOf keys ke)) (hne:kS≠σ.ρ (2 * i)) (hkz:keys.size≤1000) (ho:(arrOf st).map (·.2)=out.toArray) (hf:failedOf st=none) (vr:VRs g σ xs out) (hz:xs.length≤1000) (h:Zgr i xs σ.h σ.nx ko=true) (hQ:PA g c σ₀ ko Q) (A:Around) {E:Value→Shared→Prop} :
  wpAny g.M A (ksk_tail (σ.ρ (2 * i)) false k2 (.ref kS) st) (fun fin s'=>∃ v,fin=.done (.ret v)∧Q v s') E σ.s:=by
 unfold ksk_tail
 dsimp only
 obtain⟨k3,σ1,R1,p1,q1,e1,Z1,Y1,K1⟩:=R.turnL pS (fun _=>#[])
 refine wpAny_bind (listUpdate_at (R.N _ pS.1).1 rfl ?_ (Nat.le_trans hkz (by rw[sizeLine_eq]; decide)) (Nat.zero_le _))
 rw[← e1]
 refine wpAny_bind (wpAny_letGo ?_)
 have hr : σ1.ρ (2 * i) = σ.ρ (2 * i):=Z1.ρ i hi
 have pD1:=K1 _ _ (Ne.symm hne) pD
 refine wpAny_bind (seqEpoch_at (R1.N _ pD1.1).1 rfl ?_)
 obtain⟨k4,σ2,R2,p2,q2,e2,Z2,Y2,K2⟩:=R1.turnL pD1 (fun _=>(arrOf st).map (·.2))
 have hol:out.length≤1000:=by rw[← vr.length]; exact hz
 refine wpAny_bind (listUpdate_at (R1.N _ pD1.1).1 rfl ?_ (Nat.zero_le _) (by show ((arrOf st).map (·.2)).size≤_; rw[ho,List.size_toArray,sizeLine_eq]; omega))
 have e2 : σ2.s = { σ1.s with heap:=σ1.s.heap.update (σ.ρ (2 * i)) (Obj.mapSeq fun _=>(arrOf st).map (·.2)) }:=e2
 show wpAny _ _ _ _ _ { σ1.s with heap:=σ1.s.heap.update (σ.ρ (2 * i)) (Obj.mapSeq fun _=>(arrOf st).map (·.2)) }
 rw[← e2,hf]
 simp only [bne_self_eq_false,Bool.false_eq_true,if_false]
 refine wpAny_pure ⟨_,rfl,?_⟩
 have p2:Pin0 g σ2 (σ.ρ (2 * i)) (listOf out.toArray k4):=by rw[← ho]; exact p2
 have hr2 : σ2.ρ (2 * i) = σ.ρ (2 * i):=(Z2.ρ i (Nat.lt_of_lt_of_le hi Z1.nx)).trans hr
 have hh : σ2.h = σ.h:=q2.1.trans q1.1
 have hx : σ2.nx = σ.nx:=q2.2.1.trans q1.2.1
 have hlo : σ2.lo = σ.lo:=q2.2.2.1.trans q1.2.2.1
 have X2:=Y2 σ₀ (Y1 σ₀ X0 nS) np
 have h : @Option.rec O (fun _=>Bool) (ko .none (hp σ.h i (.list xs)) σ.nx) (fun _=>false) (σ.h.get i)=true:=h
 cases hg : σ.h.get i with
 | some o=>rw[hg] at h; exact Za h
 | none=>
  rw[hg] at h
  obtain⟨R3,Y3⟩:=R2.showL (xs:=xs) (by rw[hh]; exact hg) (by rw[hx]; exact hi) (by rw[hr2]; exact p2) (Nat.le_trans hz (by decide)) ((vr.mono0 Z1).mono0 Z2)
  exact hQ { σ2 with h:=hp σ2.h i (.list xs) } .none .none R3 (Y3 σ₀ X2 (by rw[hr2]; exact np)) (hlo.trans hl) rfl (by show ko .none (hp σ2.h i (.list xs)) σ2.nx=true; rw[hh,hx]; exact h)
theorem Zlc (HA:AllS g r n) (hc:CxOK g c (n + 1)) (R:Rel g c σ) {i q:Nat} {l:List V} {ko:KA} (hq:∃ o,g.K.lookup q=some o) (e:Zg σ.h i=some l) (h:Zgs r i l (.top q) c.hd σ.h σ.nx ko=true) (hQ:PA g c σ ko Q) :
  wpAny g.M c.A (call (.builtin "list.sort") [.ref (σ.ρ (2 * i))] [(Str.ofString "key",.ref q)]) Q Er σ.s:=by
 cases l with
 | nil=>exact ZjX R e q (fun σ' R' X' hl hh hn=>hQ σ' .none _ R' X' hl rfl (by rw[hh,hn]; exact h)) c.A
 | cons x l=>
  have e0:=ZH e
  have hi:=R.lt e0
  obtain⟨its,k,m,vr,R1,X1,p1⟩:=R.hide e
  have np:∀ x,¬ Pin0 g σ (σ.ρ (2 * i)) x:=fun x p=>p.2.1 (2 * i) (Zh e0) rfl
  have hlz:(x :: l).length≤2:=by
   cases l with
   | nil=>exact(by decide : 1≤2)
   | cons y l=>exact Za h
  have hiz:its.length≤2:=by rw[← vr.length]; exact hlz
  generalize hσ1:({ σ with h:=hdel σ.h i }:St) = σ1 at R1 X1 p1
  have s1 : σ1.s = σ.s:=by rw[← hσ1]
  have h1 : σ1.h=hdel σ.h i:=by rw[← hσ1]
  have n1 : σ1.nx = σ.nx:=by rw[← hσ1]
  have l1 : σ1.lo = σ.lo:=by rw[← hσ1]
  have r1 : σ1.ρ = σ.ρ:=by rw[← hσ1]
  have vr1:=vr.mono X1 R
  clear vr
  refine wpAny_call_entry_kw slot_list_sort ⟨_,(R.N _ m).1,rfl⟩ entry_list_sort ?_ (ksk_l1 _ _)
  rw[ksk_t1,← s1]
  unfold ksk_tree
  refine wpAny_bind (listItems_at (R1.N _ p1.1).1 rfl ?_)
  obtain⟨k2,σ2,R2,p2,q2,e2,Z2,Y2,K2⟩:=R1.turnL p1 (fun _=>#[])
  refine wpAny_bind (listUpdate_at (R1.N _ p1.1).1 rfl ?_ (by rw[List.size_toArray,sizeLine_eq]; omega) (Nat.zero_le _))
  rw[← e2]
  have X2:=Y2 σ X1 np
  have vr2:=vr1.mono0 Z2
  refine wpAny_bind (seqEpoch_at (R2.N _ p2.1).1 rfl ?_)
  refine wpAny_bind (wpAny_newTuple ?_ (by rw[sizeLine_eq]; show its.length≤_; omega))
  obtain⟨R3,X3,p3⟩:=R2.alloc (tk:=σ2.s.toks) (R2.F.push (Zba its.toArray 0)) (R2.N.push R2.F _) R2.top
  generalize hσ3 : σ2.led ((σ2.s.heap.objs.size,Zba its.toArray 0) :: σ2.news) (σ2.s.heap.push (Zba its.toArray 0)) σ2.s.toks = σ3 at R3 X3 p3
  have s3 : σ3.s = { σ2.s with heap:=σ2.s.heap.push (Zba its.toArray 0) }:=by rw[← hσ3]; rfl
  have d3 : σ3.h = σ2.h∧σ3.nx = σ2.nx∧σ3.lo = σ2.lo:=by rw[← hσ3]; exact⟨rfl,rfl,rfl⟩
  show wpAny _ _ _ _ _ { σ2.s with heap:=σ2.s.heap.push (Zba its.toArray 0) }
  rw[← s3]
  refine wpAny_bind (wpAny_newList ?_ (Nat.zero_le _))
  obtain⟨R4,X4,p4⟩:=R3.alloc (tk:=σ3.s.toks) (R3.F.push (listOf #[] 0)) (R3.N.push R3.F _) R3.top
  generalize hσ4 : σ3.led ((σ3.s.heap.objs.size,listOf #[] 0) :: σ3.news) (σ3.s.heap.push (listOf #[] 0)) σ3.s.toks = σ4 at R4 X4 p4
  have s4 : σ4.s = { σ3.s with heap:=σ3.s.heap.push (listOf #[] 0) }:=by rw[← hσ4]; rfl
  have d4 : σ4.h = σ3.h∧σ4.nx = σ3.nx∧σ4.lo = σ3.lo:=by rw[← hσ4]; exact⟨rfl,rfl,rfl⟩
  show wpAny _ _ _ _ _ { σ3.s with heap:=σ3.s.heap.push (listOf #[] 0) }
  rw[← s4]
  generalize hkS : σ3.s.heap.objs.size=kS at p4
  have hfS:∀ x,¬ Pin0 g σ3 kS x:=fun x p=>absurd (Heap.lt_size (R3.N _ p.1).1) (by rw[hkS]; exact Nat.lt_irrefl _)
  have X03:=X2.trans X3
  have nS:∀ x,¬ Pin0 g σ kS x:=fun x p=>by
   have hlt:=Heap.lt_size (R.N _ p.1).1
   have : σ.s.heap.objs.size≤kS:=by
    rw[← hkS,s3,e2,s1]
    show _≤(Heap.push _ _).objs.size
    rw[Heap.size_push,Heap.size_update]
    exact Nat.le_succ _
   exact absurd hlt (Nat.not_lt.mpr this)
  have X04:=X03.trans X4
  have vr4:=(vr2.mono X3 R2).mono X4 R3
  have nd:∀ es n,(listOf (#[]:Array Value) k2).data≠.dict es n:=nofun
  have pD4:Pin0 g σ4 (σ.ρ (2 * i)) (listOf #[] k2):=by
   have p2:Pin0 g σ2 (σ.ρ (2 * i)) (listOf #[] k2):=p2
   have a3:=X3.pin _ _ p2 (R2.pin_ne p2 nd) (ZK _ _).2
   exact X4.pin _ _ a3 (R3.pin_ne a3 nd) (ZK _ _).2
  have r4 : σ4.ρ (2 * i) = σ.ρ (2 * i):=X04.ρ i hi
  have hne:kS≠σ.ρ (2 * i):=fun q=>by
   have a3:=X3.pin _ _ (show Pin0 g σ2 (σ.ρ (2 * i)) (listOf #[] k2) from p2) (R2.pin_ne p2 nd) (ZK _ _).2
   exact hfS _ (q ▸ a3)
  have h4 : σ4.h=hdel σ.h i:=d4.1.trans (d3.1.trans (q2.1.trans h1))
  have n4 : σ4.nx = σ.nx:=d4.2.1.trans (d3.2.1.trans (q2.2.1.trans n1))
  have l4 : σ4.lo = σ.lo:=d4.2.2.trans (d3.2.2.trans (q2.2.2.1.trans l1))
  clear hσ1 hσ3 hσ4 s1 h1 n1 l1 r1 vr1 e2 Z2 Y2 K2 s3 d3 s4 d4 hkS X03 X2 X3 X4 R1 R2 R3 X1 p1 p2 p3 q2 vr2 m
  refine wpAny_holding ?_
  unfold ksk_rest
  refine wpAny_bind (wpAny_rule ?_)
  rw[List.forIn_toArray]
  cases its with
  | nil=>exact vr4.elim
  | cons rx its=>
   obtain⟨vx,vr4⟩:=vr4
   have nk:∀ ks k,(∀ es n,(listOf ks k).data≠.dict es n):=fun ks k=>nofun
   -- what stands behind the keys
   rw[List.forIn_cons]
   cases l with
   | nil=>
    cases its with
    | cons _ _=>exact vr4.elim
    | nil=>
     have h:Zgq r (.top q) x c.hd σ4.h σ4.nx (fun _ h nx=>Zgr i [x] h nx ko)=true:=by rw[h4,n4]; exact h
     refine wpAny_bind (wpAny_bind (wpAny_bind (Zmg (c:=c.wi c.A.in1) HA hc.in1 (R4.wi _) hq vx h fun σ5 y t R5 X5 hl5 gy hy hk5=>?_)))
     have R5:=R5.un
     have X5:=X5.un
     dsimp only
     have pS5:=X5.pin _ _ p4 (R4.pin_ne p4 (nk _ _)) (ZK _ _).2
     have pD5:=X5.pin _ _ pD4 (R4.pin_ne pD4 nd) (ZK _ _).2
     obtain⟨k6,σ6,R6,p6,q6,e6,Z6,Y6,K6⟩:=R5.turnL pS5 (·.push (.str y t))
     refine wpAny_bind (listUpdate_at (R5.N _ pS5.1).1 rfl ?_ (Nat.zero_le _) (by show 1≤_; rw[sizeLine_eq]; decide))
     rw[← e6]
     refine wpAny_pure ?_
     dsimp only
     rw[List.forIn_nil]
     refine wpAny_pure ?_
     refine wpAny_bind (listItems_at (R6.N _ p6.1).1 rfl ?_)
     unfold ksk_end
     rw[if_neg Bool.false_ne_true]
     refine wpAny_bind (wpAny_pure (wpAny_bind ?_))
     rw[if_pos (show (#[rx]:Array Value).size < 2 from Nat.lt_succ_self 1)]
     refine wpAny_pure ?_
     dsimp only
     have X06:=Y6 σ (X04.trans X5) nS
     have r5 : σ5.ρ (2 * i) = σ.ρ (2 * i):=(X04.trans X5).ρ i hi
     have r6 : σ6.ρ (2 * i) = σ.ρ (2 * i):=X06.ρ i hi
     have fin:=ZgP (E:=Er) (xs:=[x]) (out:=[rx]) (st:=SortSt.mk' general' ((#[Value.str y t]:Array Value).zip (#[rx]:Array Value)) #[] 7 none) (ko:=ko) R6 X06 (q6.2.2.1.trans (hl5.trans l4)) (Nat.lt_of_lt_of_le hi X06.nx) (by rw[r6]; exact np) nS
      (by rw[r6]; exact K6 _ _ (Ne.symm hne) pD5) p6 (by rw[r6]; exact hne) (by show 1≤1000; decide) (by show ((#[Value.str y t]:Array Value).zip (#[rx]:Array Value)).map (·.2) = _; apply Array.toList_inj.mp; simp) rfl ((VRs.mono (v:=[x]) (w:=[rx]) X5 R4 ⟨vx,trivial⟩).mono0 Z6) (by show 1≤1000; decide) (by rw[q6.1,q6.2.1]; exact hk5) hQ c.A.in1
     rw[r6] at fin
     exact fin
   | cons x2 l=>exact Za h
end
section
variable {g:Gl} {r:Rec} {n:Nat} {c:Cx} {σ : St} {Q Er:Value→Shared→Prop}
theorem nm_append:enc (Str.ofString "append")=Zal∧gd (Str.ofString "append")=true:=by decide +kernel
theorem nm_clear:enc (Str.ofString "clear")=Zdv∧gd (Str.ofString "clear")=true:=by decide +kernel
theorem nm_sort:enc (Str.ofString "sort")=ZeL∧gd (Str.ofString "sort")=true:=by decide +kernel
theorem nm_get:enc (Str.ofString "get")=nGet∧gd (Str.ofString "get")=true:=by decide +kernel
theorem Zld:enc (Str.ofString "key")=nKey∧gd (Str.ofString "key")=true:=by decide +kernel
theorem ZaA {x y:Str} {k:Nat} (hx:gd x=true) (hy:enc y=k∧gd y=true) (h:Nat.beq (enc x) k=true):x=y:=
 Zw hx hy.2 ((Yn h).trans hy.1.symm)
theorem SR.nil_of {kw:Lo} {rkw:List (Str × Value)} (h:SR g σ kw rkw) (e:kw.isEmpty=true):rkw = []:=by
 cases kw with
 | nil=>cases rkw with | nil=>rfl | cons _ _=>exact h.elim
 | cons _ _=>exact Za e
theorem VRs.nil_of {vas:List V} {ras:List Value} (h:VRs g σ vas ras) (e:vas.isEmpty=true):ras = []:=by
 cases vas with
 | nil=>cases ras with | nil=>rfl | cons _ _=>exact h.elim
 | cons _ _=>exact Za e
theorem ZdP {o:O} {d:Bool} {ki:Nat→Lo→Bool} {kx:Nat→Lo→Bool} {kl:List V→Bool} {ke:Nat→List V→Bool} {kd:Lo→Bool} {G:Prop} (h:selO o d ki kx kl ke kd=true) (h1:∀ c f,o=.inst c f→ki c f=true→G)
  (h2:∀ c t f,o=.exc c t f→kx c f=true→G) (h3:∀ l,o=.list l→kl l=true→G) (h4:∀ pk l,o=.elist pk l→ke pk l=true→G) (h5:∀ es,o=.dict es→kd es=true→G) (h6:d=true→G):G:=by
 cases o with
 | inst c f=>exact h1 c f rfl h
 | exc c t f=>exact h2 c t f rfl h
 | list l=>exact h3 l rfl h
 | elist pk l=>exact h4 pk l rfl h
 | dict es=>exact h5 es rfl h
 | _=>exact h6 h
theorem Zcc {o:O} {p:Nat × Lo} (e:ZcK o=some p):o=.pmap p.1 p.2:=by
 cases o with
 | pmap k es=>cases e; rfl
 | _=>cases e
theorem Zbc {i x:Nat} {vas:List V} {kw:Lo} {hd:Hd} {h:H} {nx:Nat} {ko:KA} {G:Prop} (e:ZeQ r (.ref i) x vas kw hd h nx ko=true) (f1:∀ l,Zg h i=some l→ZiZ r i l x vas kw hd h nx ko=true→G) (f2:∀ es,Zag h i=some es→Zgt es x vas kw h nx ko=true→G)
  (f3:∀ pk l,h.get i=some (.elist pk l)→mEl i pk l x vas kw h nx ko=true→G) (f4:∀ k es,h.get i=some (.pmap k es)→mPm i k es x vas kw hd h nx ko=true→G):G:=by
 refine Zc (show og (h.get i) _=true from e) fun o ho e=>ZdP e ?_ ?_ ?_ ?_ ?_ ?_
 ·intro _ _ _ h; exact Za h
 ·intro _ _ _ _ h; exact Za h
 ·rintro l rfl h'; exact f1 l (by unfold Zg onO; rw[ho]; rfl) h'
 ·rintro pk l rfl h'; exact f3 pk l ho h'
 ·rintro es rfl h'; exact f2 es (by unfold Zag onO; rw[ho]; rfl) h'
 ·intro h'
  refine Zc h' fun p hp h2=>?_
  obtain rfl:=Zcc hp
  exact f4 p.1 p.2 ho h2
theorem ZbS {a b:Nat} {x y:Bool} (h:(bif Nat.beq a b then x else y)=true) (e:Nat.beq a b=false):y=true:=by rw[e] at h; exact h
theorem ZcV {a:Nat} {x y:Bool} (h:(bif Nat.beq a a then x else y)=true):x=true:=by rw[Nat.beq_refl] at h; exact h
noncomputable def ZbT (g:Gl) (r:Rec) (c:Cx) (σ : St) (i k:Nat) (id:String):Prop:=∀ vas ras kw rkw ko,VRs g σ vas ras→SR g σ kw rkw→ZeQ r (.ref i) k vas kw c.hd σ.h σ.nx ko=true→∀ Q Er,PA g c σ ko Q→wpAny g.M c.A (call (.builtin id) (.ref (σ.ρ (2 * i)) :: ras) rkw) Q Er σ.s
theorem Zdl {k:Nat} {es:Lo} {vas:List V} {kw:Lo} {h:H} {nx:Nat} {ko:KA} {G:Prop} (hb:Nat.beq k nGet=false) (e:Zgt es k vas kw h nx ko=true):G:=by
 have e:(bif Nat.beq k nGet&&kw.isEmpty then _ else false)=true:=e
 rw[hb] at e
 exact Za e
theorem Zfs {i q k:Nat} {es:Lo} {vas:List V} {kw:Lo} {hd:Hd} {h:H} {nx:Nat} {ko:KA} {G:Prop} (hb:Nat.beq k nGet=false) (e:mPm i q es k vas kw hd h nx ko=true):G:=by
 have e:(bif Nat.beq k nGet&&kw.isEmpty then _ else false)=true:=e
 rw[hb] at e
 exact Za e
theorem Zft {i pk k:Nat} {l:List V} {vas:List V} {kw:Lo} {h:H} {nx:Nat} {ko:KA} {G:Prop} (hb:Nat.beq k Zal=false) (e:mEl i pk l k vas kw h nx ko=true):G:=by
 have e:(bif Nat.beq k Zal then _ else false)=true:=e
 rw[hb] at e
 exact Za e
theorem ZdQ (R:Rel g c σ) {i:Nat}:ZbT g r c σ i Zal "list.append":=fun vas ras kw rkw ko vrs sr h Q' Er' hQ=>Zbc h (fun l hl h=>by
 have h0 : @List.rec V (fun _=>Bool) false (fun x t _=>bif t.isEmpty&&kw.isEmpty&&Nat.blt l.length 900000 then ko .none (hp σ.h i (.list (l ++ [x]))) σ.nx else false) vas=true:=ZcV h
 cases vas with
 | nil=>exact Za h0
 | cons x t=>
  cases ras with
  | nil=>exact vrs.elim
  | cons rx rt=>
   refine Zf h0 fun hb hk=>?_
   obtain⟨b1,b2⟩:=Yb hb
   obtain⟨b0,b1⟩:=Yb b1
   obtain rfl:=sr.nil_of b1
   obtain rfl:=VRs.nil_of vrs.2 b0
   exact Zfq R hl (Nat.blt_eq.mp b2) vrs.1 (fun σ'' R2 X2 hl hh hn=>hQ σ'' .none _ R2 X2 hl rfl (by rw[hh,hn]; exact hk)) c.A) (fun es _ h=>Zdl rfl h) (fun pk l hl h=>by
 have h0 : @List.rec V (fun _=>Bool) false (fun x t _=>bif t.isEmpty&&kw.isEmpty&&Nat.blt l.length 900 then ko .none (hp σ.h i (.elist pk (l ++ [x]))) σ.nx else false) vas=true:=ZcV h
 cases vas with
 | nil=>exact Za h0
 | cons x t=>
  cases ras with
  | nil=>exact vrs.elim
  | cons rx rt=>
   refine Zf h0 fun hb hk=>?_
   obtain⟨b1,b2⟩:=Yb hb
   obtain⟨b0,b1⟩:=Yb b1
   obtain rfl:=sr.nil_of b1
   obtain rfl:=VRs.nil_of vrs.2 b0
   exact ZhI R hl (Nat.blt_eq.mp b2) vrs.1 (fun σ'' R2 X2 hl hh hn=>hQ σ'' .none _ R2 X2 hl rfl (by rw[hh,hn]; exact hk)) c.A) fun k es _ h=>Zfs rfl h
theorem ZhJ (R:Rel g c σ) {i:Nat}:ZbT g r c σ i Zdv "list.clear":=fun vas ras kw rkw ko vrs sr h Q' Er' hQ=>Zbc h (fun l hl h=>by
 refine Zf (show (bif kw.isEmpty&&vas.isEmpty then ko .none (hp σ.h i (.list [])) σ.nx else false)=true from ZcV (ZbS h rfl)) fun hb hk=>?_
 obtain⟨b1,b2⟩:=Yb hb
 obtain rfl:=sr.nil_of b1
 obtain rfl:=vrs.nil_of b2
 exact ZjV R hl (fun σ'' R2 X2 hl hh hn=>hQ σ'' .none _ R2 X2 hl rfl (by rw[hh,hn]; exact hk)) c.A) (fun es _ h=>Zdl rfl h) (fun _ _ _ h=>Zft rfl h) fun k es _ h=>Zfs rfl h
theorem Ziy (HA:AllS g r n) (hc:CxOK g c (n + 1)) (R:Rel g c σ) {i:Nat}:ZbT g r c σ i ZeL "list.sort":=fun vas ras kw rkw ko vrs sr h Q' Er' hQ=>Zbc h (fun l hl h=>by
 have h0 : @List.rec (Nat × V) (fun _=>Bool) false (fun p t _=>bif t.isEmpty&&vas.isEmpty&&Nat.beq p.1 nKey then og (vTop p.2) fun _=>Zgs r i l p.2 c.hd σ.h σ.nx ko else false) kw=true:=ZcV (ZbS (ZbS h rfl) rfl)
 cases kw with
 | nil=>exact Za h0
 | cons p t=>
  cases rkw with
  | nil=>exact sr.elim
  | cons q rt=>
   refine Zf h0 fun hb h1=>Zc h1 fun a ha hk=>?_
   obtain⟨hb,b4⟩:=Yb hb
   obtain⟨b1,b2⟩:=Yb hb
   obtain⟨y,rf⟩:=q
   obtain⟨hy,he,hv,sr⟩:=sr
   obtain rfl:=SR.nil_of sr b1
   obtain rfl:=vrs.nil_of b2
   have e:V.top a=p.2:=(Zbt ha).symm
   rw[← e] at hv hk
   obtain⟨rfl,kk⟩:=hv
   rw[← show enc y=p.1 from he] at b4
   obtain rfl:y=Str.ofString "key":=ZaA hy Zld b4
   exact Zlc HA hc R kk hl hk hQ) (fun es _ h=>Zdl rfl h) (fun _ _ _ h=>Zft rfl h) fun k es _ h=>Zfs rfl h
theorem Zf5 (hc:CxOK g c (n + 1)) (R:Rel g c σ) {i:Nat}:ZbT g r c σ i nGet "dict.get":=fun vas ras kw rkw ko vrs sr h Q' Er' hQ=>Zbc h (fun l hl h=>Za (ZbS (ZbS (ZbS h rfl) rfl) rfl)) (fun es hes h=>by
 refine Zf (show (bif Nat.beq nGet nGet&&kw.isEmpty then @List.rec V (fun _=>Bool) false (fun x t _=>@List.rec V (fun _=>Bool) false (fun d t _=>bif t.isEmpty then og (vStr x) fun s=>@Option.rec V (fun _=>Bool) (ko d σ.h σ.nx) (fun y=>ko y σ.h σ.nx) (look es s) else false) t) vas else false)=true from h) fun hb h1=>?_
 obtain rfl:=sr.nil_of (Yb hb).2
 cases vas with
 | nil=>exact Za h1
 | cons x t=>
  cases ras with
  | nil=>exact vrs.elim
  | cons rx rt=>
   cases t with
   | nil=>exact Za h1
   | cons d t=>
    cases rt with
    | nil=>exact vrs.2.elim
    | cons rd rt=>
     refine Zf h1 fun he h2=>Zc h2 fun s hs h3=>?_
     obtain⟨hx,hd,h4⟩:=vrs
     obtain rfl:=VRs.nil_of h4 he
     obtain rfl:=Z4 hs
     obtain⟨y,tk,rfl,hy,rfl⟩:=hx
     obtain⟨o,kvs,m,dd,z,_,f⟩:=DictR.val (R.trk i _ (Zat hes))
     have T:=R.tok (σ.s.toks + 1)
     have q:=f y hy
     refine kdg_get2 R.N m dd z (strKind_is _ _ _ _) _ rfl ?_
     cases hl:look es (enc y) with
     | none=>
      rw[hl] at q h3
      rw[show valueAt kvs y=none from q]
      exact hQ _ d _ T.1 T.2 rfl (hd.mono T.2 R) h3
     | some v=>
      rw[hl] at q h3
      obtain⟨w,e,vr⟩:=q
      rw[e]
      exact hQ _ v _ T.1 T.2 rfl (vr.mono T.2 R) h3) (fun _ _ _ h=>Zft rfl h) fun k es hes h=>by
 refine Zf (show (bif Nat.beq nGet nGet&&kw.isEmpty then @List.rec V (fun _=>Bool) false (fun x t _=>@List.rec V (fun _=>Bool) false (fun d t _=>bif t.isEmpty then og (vStr x) fun s=>og (vInt d) fun z=>bif decide (z=0) then Zgu i k es s c.hd σ.h σ.nx ko else false else false) t) vas else false)=true from h) fun hb h1=>?_
 obtain rfl:=sr.nil_of (Yb hb).2
 cases vas with
 | nil=>exact Za h1
 | cons x t=>
  cases ras with
  | nil=>exact vrs.elim
  | cons rx rt=>
   cases t with
   | nil=>exact Za h1
   | cons d t=>
    cases rt with
    | nil=>exact vrs.2.elim
    | cons rd rt=>
     refine Zf h1 fun he h2=>Zc h2 fun s hs h3=>Zc h3 fun z hz h4=>Zf h4 fun hz0 h5=>?_
     obtain⟨hx,hd,h6⟩:=vrs
     obtain rfl:=VRs.nil_of h6 he
     obtain rfl:=Z4 hs
     obtain⟨y,tk,rfl,hy,rfl⟩:=hx
     obtain rfl:=Zt hz
     obtain⟨u,rfl⟩:=hd
     obtain rfl:z=0:=of_decide_eq_true hz0
     exact ZjY hc R hes hy h5 hQ c.A
theorem ZfP {l:List (Bool × Sem Value)} (h:l.any (·.1)=false):l.all (!·.1)=true:=by
 rw[List.all_eq_true]
 intro p hp
 cases q:p.1 with
 | false=>rfl
 | true=>exact absurd (List.any_eq_true.mpr ⟨p,hp,q⟩) (by rw[h]; decide)
theorem ZdR {o:PySem.Expr} {x:Str} {ap pos:Pos} {es:List PySem.Expr} {ks:List Keyword} {env:Env}
  (hb:ZD o=true) (hl:(ap.endLine==pos.line)=true) (hn:es.length + ks.length < 28)
  (h1:(backTo pos (starEach es env)).any (·.1)=false) (h2:(backToKw pos (keywordEach ks env)).all (·.1.isSome)=true) :
  ∃ pl,eval (.Call (.Attribute o x ap) es ks pos) env=(do
   let ov ← eval o env
   standAt ap.atName
   let (f,first) ← holding [ov] (getMethod ov x pl)
   callWith pos f first (backTo pos (starEach es env)) (backToKw pos (keywordEach ks env))):=by
 have hform:methodCallForm (es.length + ks.length) (backTo pos (starEach es env)) (backToKw pos (keywordEach ks env))=true:=by
  unfold methodCallForm
  rw[ZfP h1,h2]
  have:decide (es.length + ks.length + (if (backToKw pos (keywordEach ks env)).isEmpty=true then 0 else 1) < 30)=true:=by
   apply decide_eq_true
   split <;> omega
  rw[this]; rfl
 refine⟨(do return (← importBound o env).getD true),?_⟩
 rw[arm_eval_Call,ZbO hb]
 unfold methodCall calleeOf methodCallPos
 rw[hform,hl]
 simp only [if_true,Bool.not_true,Bool.false_or,pure_bind]
theorem Zed {α : Type} {M:Model} {A:Around} {vs:List Value} {m:Sem α} {f : α→Sem Value} {s:Shared} {Q Er:Value→Shared→Prop} (h:wpAny M A (m >>= f) Q Er s):wpAny M A (holding vs m >>= f) Q Er s:=fun Γ p hΓ=>by
 have h:=h Γ p hΓ
 rw[Sem.wp_bind'] at h ⊢
 rw[Sem.wp_holding]
 exact h
theorem ZjZ (OK:POK g.P g.K g.tabs g.dn) (HA:AllS g r n) (hc:CxOK g c (n + 1)) (R:Rel g c σ) {k:Nat} {o:PySem.Expr} {x:Str} {ap pos:Pos} {as:List PySem.Expr} {ks:List Keyword} {ko:V→KS} {ke:Nat→KS}
  (hg:(gd x&&ZD o&&ap.endLine==pos.line&&Nat.blt (as.length + ks.length) 28)=true) (hok:Ze1 as ks=true)
  (h:ZfQ (enc x) (cE k c.env.scope.names o) (cEs k c.env.scope.names as) (cKw k c.env.scope.names ks) g.P r c.hd σ.h σ.nx σ.lo ko ke=true) (hQ:PV g c σ ko Q) (hE:PX g c σ ke Er) :
  wpAny g.M c.A (eval (.Call (.Attribute o x ap) as ks pos) c.env) Q Er σ.s:=by
 obtain⟨hs,hks⟩:=Yb hok
 have hs:=(Bool.not_eq_true' _).mp hs
 obtain⟨hg,g4⟩:=Yb hg
 obtain⟨hg,g3⟩:=Yb hg
 obtain⟨gx,hb⟩:=Yb hg
 have a:=Zhn pos c.env hks
 obtain⟨pl,ee⟩:=ZdR (o:=o) (x:=x) (ap:=ap) (pos:=pos) (es:=as) (ks:=ks) (env:=c.env) hb g3 (Nat.blt_eq.mp g4) (Zes pos c.env hs) a.1
 rw[ee]
 refine wpAny_bind (HA.ev c hc.down k o σ R _ _ h _ _ (fun σ1 v rv R1 X1 vr h1=>?_) hE)
 clear h
 refine wpAny_bind (wpAny_standAt (Zed ?_))
 have hE1:=hE.of X1
 have hQ1:PV g c σ1 ko Q:=hQ.of X1
 have ofI:∀ {a C:Nat} {f:Lo},rv=.ref a→InstV g σ1 v a C f→mRes g.P v C f (enc x) (fun g' first=>Zcp g.P r g' first (cEs k c.env.scope.names as) (cKw k c.env.scope.names ks) c.hd σ1.h σ1.nx σ1.lo ko ke)=true→
   wpAny g.M c.A (getMethod rv x pl >>= fun fx=>callWith pos fx.1 fx.2 (backTo pos (starEach as c.env)) (backToKw pos (keywordEach ks c.env))) Q Er σ1.s:=fun {a C f} e I h=>by
  subst e
  refine wpAny_bind (Zlb OK hc R1 I gx h pl c.A fun σ2 fv rf first rfirst R2 X2 qt vf vfs h1=>?_)
  obtain⟨q1,q2,q3,_⟩:=qt
  exact Zff OK HA hc R2 vf vfs (by rw[q1,q2,q3]; exact h1) hks (hQ1.of X2) (hE1.of X2) pos VRs.append
 dsimp only at h1
 cases hi:vRef v with
 | none=>
  rw[hi] at h1
  refine Zc (show og (vFr v) _=true from h1) fun p hp h2=>Zf h2 fun h3 h4=>?_
  cases v with
  | fr k' ks' vs=>
   obtain rfl:=Option.some.inj (show some (k',ks',vs)=some p from hp)
   obtain⟨C,rfl⟩:∃ C,k'=C + 3:=⟨k' - 3,by have:=Nat.le_of_ble_eq_true h3; omega⟩
   obtain⟨a,e,I⟩:=R1.instF vr
   exact ofI e I h4
  | _=>exact Ze hp
 | some i=>
 rw[hi] at h1
 refine Zc (show og (σ1.h.get i) _=true from h1) fun ob hob h3=>?_
 clear h1
 obtain rfl:=Zk hi
 obtain⟨rfl,_⟩:=vr
 -- a built-in method
 have blt:∀ {id:String} {m:Nat},(∀ σ',Rel g c σ'→ZbT g r c σ' i m id)→m=enc x→(∀ {Q:Value × List Value→Shared→Prop} {Er},Q (.builtin id,[.ref (σ1.ρ (2 * i))]) σ1.s→wpAny g.M c.A (getMethod (.ref (σ1.ρ (2 * i))) x pl) Q Er σ1.s)→
   ZeR r (cEs k c.env.scope.names as) (cKw k c.env.scope.names ks) c.hd ke (fun vs ks h nx lo=>ZeQ r (.ref i) (enc x) vs ks c.hd h nx (fun x h nx=>ko x h nx lo)) σ1.h σ1.nx σ1.lo=true→
   wpAny g.M c.A (getMethod (.ref (σ1.ρ (2 * i))) x pl >>= fun fx=>callWith pos fx.1 fx.2 (backTo pos (starEach as c.env)) (backToKw pos (keywordEach ks c.env))) Q Er σ1.s:=fun {id m} met em gm h=>by
  refine wpAny_bind (gm ?_)
  obtain⟨p1,p2⟩:=Zho HA hc R1 h hks (Q:=fun a s₁=>ZcP g (.builtin id) s₁.heap∧wpAny g.M c.A (call (.builtin id) ([.ref (σ1.ρ (2 * i))]++a.pos) a.kw) Q Er s₁) (fun σ2 vs rvs kw rkw R2 X2 vrs sr h2=>by
   refine⟨Zfe id _,?_⟩
   rw[← X2.ρ i (R1.lt hob)]
   exact met σ2 R2 vs rvs kw rkw _ vrs sr (em ▸ h2) Q Er (hQ1.a X2)) hE1 pos (.builtin id)
  exact callWith_of p1 (fun h hp=>hp) p2
 refine ZdP h3 ?_ ?_ ?_ ?_ ?_ ?_
 ·rintro C f rfl h
  exact ofI rfl (R1.instV hob) h
 ·intro _ _ _ _ h; exact Za h
 ·rintro l rfl h
  refine Zf h fun hm h4=>?_
  obtain⟨its,kk,m,_⟩:=R1.list (show Zg σ1.h i=some l by unfold Zg onO; rw[hob]; rfl)
  rcases Bool.or_eq_true_iff.mp hm with hm | hm
  ·obtain rfl:=ZaA gx nm_append hm
   exact blt (fun _ R=>ZdQ R) nm_append.1.symm (listMethod_K R1.N m PySem.F.slot_list_append PySem.F.type_list_append) h4
  ·rcases Bool.or_eq_true_iff.mp hm with hm | hm
   ·obtain rfl:=ZaA gx nm_clear hm
    exact blt (fun _ R=>ZhJ R) nm_clear.1.symm (listMethod_K R1.N m PySem.F.slot_list_clear PySem.F.type_list_clear) h4
   ·obtain rfl:=ZaA gx nm_sort hm
    exact blt (fun _ R=>Ziy HA hc R) nm_sort.1.symm (listMethod_K R1.N m slot_list_sort PySem.F.type_list_sort) h4
 ·rintro pk l rfl h
  refine Zf h fun hm h4=>?_
  obtain⟨pre,its,kk,m,_⟩:EListR g σ1 _ pk l:=R1.trk i _ hob
  obtain rfl:=ZaA gx nm_append hm
  exact blt (fun _ R=>ZdQ R) nm_append.1.symm (listMethod_K R1.N m PySem.F.slot_list_append PySem.F.type_list_append) h4
 ·rintro es rfl h
  refine Zf h fun hm h4=>?_
  obtain rfl:=ZaA gx nm_get hm
  obtain⟨o,kvs,m,dd,z,_,f⟩:=DictR.val (R1.trk i _ hob)
  exact blt (fun _ R=>Zf5 hc R) nm_get.1.symm (kdg_method R1.N m dd) h4
 ·intro h
  refine Zf h fun hm h4=>Zc h4 fun p hp h5=>?_
  obtain rfl:=Zcc hp
  obtain rfl:=ZaA gx nm_get hm
  obtain⟨o,kvs,m,dd,_⟩:PmapR g σ1 _ p.1 p.2:=R1.trk i _ hob
  exact blt (fun _ R=>Zf5 hc R) nm_get.1.symm (kdg_method R1.N m dd) h5
end
section
variable {g:Gl} {r:Rec} {n:Nat} {c:Cx} {σ : St} {Er:Value→Shared→Prop}
theorem ZhK {hd:Hd} (h:noHd hd=true):hd.hd=none:=by
 unfold noHd at h
 cases e:hd.hd with
 | none=>rfl
 | some i=>rw[e] at h; exact Za h
theorem CxOK.none (hc:CxOK g c n) (h:noHd c.hd=true):c.A.handled=none:=by rw[hc.hn,ZhK h]; rfl
noncomputable def HandB (A:Around) (s:Shared):Prop:=A.handled=none∨∃ he oh vs,A.handled=some (.ref he)∧s.heap.get? he=some oh∧oh.data=.fields vs∧vs[2]? = some .none
theorem Ziz (hc:CxOK g c n) (R:Rel g c σ) (h:okHd c.hd σ.h=true):HandB c.A σ.s:=by
 unfold okHd at h
 cases e:c.hd.hd with
 | none=>exact .inl (by rw[hc.hn,e]; rfl)
 | some j=>
  rw[e] at h
  refine Zc h fun q hq hlt=>?_
  obtain⟨oe,vs,m,k,d,z,tb,own,cx⟩:ExcR g σ _ _ q.1 q.2.1 q.2.2:=R.trk j _ (Z9 hq)
  exact .inr ⟨c.he,oe,vs,by rw[hc.hn,e]; rfl,by rw[← (R.hh j e).2]; exact(R.N _ m).1,d,cx (Nat.blt_eq.mp hlt)⟩
theorem HandB.it {A:Around} {s:Shared} (h:HandB A s) {h':Heap} (hk:∀ b o,s.heap.get? b=some o→b≠s.heap.objs.size→h'.get? b=some o):Zau A { s with heap:=h' } s.heap.objs.size:=by
 rcases h with h | ⟨he,oh,vs,e1,e2,e3,e4⟩
 ·exact .inl h
 ·have hne:=Nat.ne_of_lt (Heap.lt_size e2)
  exact .inr ⟨he,oh,vs,e1,hne,hk _ _ e2 hne,e3,e4⟩
theorem Zj0 {prog:Program} {w:World} {A:Around} {E:Value→Shared→Prop} {s:Shared} {t:Addr} {items:Array Value} {Q:List Value→Shared→Prop} (hh:HandB A s) (ht:IsTup s.heap t items)
  (hQ:∀ h',Heap.ExtBut s.heap.objs.size s.heap h'→Q items.toList { s with heap:=h' }):wpAny (model prog w) A (unpackItems (.ref t) items.size none) Q E s:=by
 have hne:t≠s.heap.objs.size:=by obtain⟨o,ho,_⟩:=ht; exact Nat.ne_of_lt (Heap.lt_size ho)
 have whole:(items.toList.drop 0).take items.size=items.toList:=by rw[List.drop_zero]; exact List.take_of_length_le (by simp)
 unfold unpackItems notIterableAtAll
 refine wpAny_bind (wpAny_bind (wpAny_specialOf ht.typeIs slot_tuple_iter.lookup (wpAny_pure ?_)))
 simp only [Bool.false_eq_true,if_false]
 refine wpAny_bind (wpAny_holding (iter_tuple ht (wpAny_bind (wpAny_holding (draw_tuple hne items.size 0 _ _ ⟨_,Heap.get?_push_size _ rfl,rfl,rfl⟩ (ht.push _) (by omega) fun h₁ hit hs=>?_)))))
 rw[whole,if_neg (by simp)]
 have keep:∀ b o,s.heap.get? b=some o→b≠s.heap.objs.size→h₁.get? b=some o:=fun b o e hb=>hs.extBut b o hb (Heap.get?_push_of_some _ e)
 refine wpAny_bind (wpAny_holding (Mn.Zd8 (hh.it keep) hit ((ht.push _).extBut hs.extBut hne) (by simp) fun h₂ he=>?_))
 simp only [Option.isSome_none,Bool.false_eq_true,if_false]
 exact wpAny_pure (hQ h₂ fun b o hb e=>he b o hb (keep b o e hb))
theorem ZaZ {o:Obj} {es:Array DictEntry} {ep:Nat} (h:o.data=.dict es ep) : ¬ Told o∧¬ Tb o:=⟨fun t=>t.1 es ep h,fun ⟨ts,d,_⟩=>by rw[d] at h; cases h⟩
theorem ZhL {lo:Lo} {m m':Str→Option Value} {x:Str} {v:V} {rv:Value} (hx:gd x=true) (l:LW g σ lo m) (hv:VR g σ v rv) (hm:∀ y,m' y=if y=x then some rv else m y):LW g σ (upd lo (enc x) v) m':=fun y u hy e=>by
 rw[Zb2] at e
 rw[hm]
 by_cases h:y=x
 ·subst h; rw[if_pos rfl] at e; cases e; rw[if_pos rfl]; exact⟨rv,rfl,hv⟩
 ·rw[if_neg (fun q=>h (Zw hy hx q))] at e; rw[if_neg h]; exact l y u hy e
theorem Zfu (hc:CxOK g c n) (R:Rel g c σ) {x:Str} (hx:gd x=true) (hk:c.env.kindOf x=some .local) {v:V} {rv:Value} (hv:VR g σ v rv) {A:Around} {Q:Unit→Shared→Prop}
  (hQ:∀ σ',Rel g c σ'→Ext g c σ σ'→σ'.h = σ.h→σ'.nx = σ.nx→σ'.lo=upd σ.lo (enc x) v→Q () σ'.s):wpAny g.M A (storeName c.env x rv) Q Er σ.s:=by
 rcases R.loc with⟨hL,l⟩ | ⟨hL,o,m',a,u,t,⟨es,ep,d,k,f⟩,l⟩
 ·refine wpAny_storeName_local hk (by rw[hL]; exact R.F.ns) (fun h' hn hs=>?_) (by rw[hc.ek]; rfl)
  rw[hL] at hn hs
  obtain⟨R',X'⟩:=R.store (tk:=σ.s.toks + 1) (lo':=upd σ.lo (enc x) v) hL (R.F.set hn hs) (R.N.set hs) fun σ' Z=>ZhL hx (l.mono0 Z) (hv.mono0 Z) fun _=>rfl
  exact hQ _ R' X' rfl rfl rfl
 ·refine wpAny_storeName_local hk ⟨o,es,ep,(R.N _ a).1,d,k,f⟩ (fun h' hn hs=>?_) (by rw[hc.ek]; rfl)
  obtain⟨o',es',ep',ho',d',k',f'⟩:=hn
  obtain⟨F',N'⟩:=ZB R a hs ho'
  obtain⟨R',X'⟩:=R.storeN (tk:=σ.s.toks + 1) (lo':=upd σ.lo (enc x) v) hL F' N' ⟨es',ep',d',k',f'⟩ (fun σ' Z=>ZhL hx (l.mono0 Z) (hv.mono0 Z) fun _=>rfl) fun o2 h2=>by
   have:=Zn R.N a h2
   subst this
   exact ZaZ d
  exact hQ _ R' X' rfl rfl rfl
theorem ZiA (hc:CxOK g c n) (R:Rel g c σ) {x:Str} (hx:gd x=true) (hk:c.env.kindOf x=some .cell) {v:V} {rv:Value} (hv:VR g σ v rv) {a:Nat} {w:Option V} (ha:look c.hd.cs (enc x)=some a) (ho:Zbf σ.h a=some w) {A:Around} {Q:Unit→Shared→Prop}
  (hQ:∀ σ',Rel g c σ'→Ext g c σ σ'→σ'.h=hp σ.h a (.cell (some v))→σ'.nx = σ.nx→σ'.lo = σ.lo→Q () σ'.s):wpAny g.M A (storeName c.env x rv) Q Er σ.s:=by
 obtain⟨ai,hcl⟩:=R.cs x a hx ha
 obtain⟨ob,w',hm,hd,_⟩:=R.cell ho
 refine wpAny_storeName_cell hc.ek hk hcl ⟨ob,(R.N _ hm).1,hd⟩ fun h' hv' hs=>?_
 obtain⟨o',ho',hd'⟩:=hv'
 obtain⟨F',N'⟩:=ZB R hm hs ho'
 obtain⟨R',X'⟩:=R.upd (tk:=σ.s.toks) (k:=2 * a) (ZbA ho) (Zh (ZbA ho)) (Zr a) (o2:=.cell (some v)) rfl hm F' N' (fun σ' er en Z=>by
  show ORa g σ' (σ'.ρ (2 * a)) _ _
  rw[er]
  exact⟨o',some rv,by rw[en]; exact Zu hm,hd',rv,rfl,hv.mono0 Z⟩)
 exact hQ _ R' X' rfl rfl rfl
theorem ZbU {env:Env}:∀ {ts:List PySem.Expr},ts.any star? = false→(assignEach ts env).length=ts.length∧(assignEach ts env).findIdx? (·.1)=none∧(assignEach ts env).map (·.2)=ts.map fun t=>assign t env:=fun {ts}=>by
 induction ts with
 | nil=>intro _; exact⟨rfl,rfl,rfl⟩
 | cons t ts ih=>
  intro h
  obtain⟨h1,h2⟩:=Bool.or_eq_false_iff.mp (List.any_cons.symm.trans h)
  obtain⟨i1,i2,i3⟩:=ih h2
  have e:assignEach (t :: ts) env=(false,assign t env) :: assignEach ts env:=by cases t <;> first | rfl | exact Za h1.symm
  rw[e]
  refine⟨by rw[List.length_cons,i1]; rfl,?_,by rw[List.map_cons,i3]; rfl⟩
  rw[List.findIdx?_cons,i2]; rfl
theorem ZiB (HA:AllS g r n) (hc:CxOK g c (n + 1)):∀ {vs:List V} {ws:List Value} {ts:List PySem.Expr} {k:Nat} {σ : St} {kc:KS} {ke:Nat→KS} {Q:Unit→Shared→Prop},Rel g c σ→VRs g σ vs ws→
  zipF (cTs k c.env.scope.names ts) r vs c.hd ke kc σ.h σ.nx σ.lo=true→PU g c σ kc (Q ())→PX g c σ ke Er→wpAny g.M c.A (assignInOrder (ts.map fun t=>assign t c.env) ws) Q Er σ.s:=fun {vs}=>by
 induction vs with
 | nil=>
  intro ws ts k σ kc ke Q R hv h hQ hE
  cases ws with
  | cons _ _=>exact hv.elim
  | nil=>
   cases k with
   | zero=>exact Za h
   | succ k=>
    cases ts with
    | nil=>exact wpAny_pure (hQ σ R (.refl ..) h)
    | cons t ts=>exact Za h
 | cons v vs ih=>
  intro ws ts k σ kc ke Q R hv h hQ hE
  cases ws with
  | nil=>exact hv.elim
  | cons w ws=>
   cases k with
   | zero=>exact Za h
   | succ k=>
    cases ts with
    | nil=>exact Za h
    | cons t ts=>
     show wpAny _ _ (do holding ws (assign t c.env w); assignInOrder (ts.map fun t=>assign t c.env) ws) _ _ _
     refine wpAny_bind (wpAny_holding (HA.asg c hc.down k t σ R v w hv.1 _ _ h _ _ (fun σ' R' X' hk=>?_) hE))
     exact ih R' (hv.2.mono X' R) hk (hQ.of X') (hE.of X')
theorem Zfv {b:Bool} {e:E} {v:V} {kc:KS} {ke:Nat→KS} (h:asgG g.P r (cond b e bad) v c.hd σ.h σ.nx σ.lo kc ke=true):b=true∧asgG g.P r e v c.hd σ.h σ.nx σ.lo kc ke=true:=by
 cases b with
 | true=>exact⟨rfl,h⟩
 | false=>exact Za h
theorem Zmh (OK:POK g.P g.K g.tabs g.dn) (HA:AllS g r n):AsS g (ZdD g.P r) (n + 1):=by
 intro c hc k t σ R v rv hv kc ke h Q E hQ hE
 have h:asgG g.P r (cT k c.env.scope.names t) v c.hd σ.h σ.nx σ.lo kc ke=true:=h
 cases k with
 | zero=>exact Za h
 | succ k=>
  cases t with
  | Name x pos=>
   obtain⟨hg,h⟩:=Zfv (show asgG g.P r (cond (gdn x) (ZcM (enc x) (c.env.scope.names.lookup x)) bad) v c.hd σ.h σ.nx σ.lo kc ke=true from h)
   obtain⟨gx,_,_⟩:=Zdg hg
   generalize hw:c.env.scope.names.lookup x=w at h
   cases w with
   | none=>exact Za h
   | some w=>
    cases w with
    | «local»=>exact wpAny_assign_Name (Zfu hc R gx hw hv fun σ' R' X' e1 e2 e3=>hQ σ' R' X' (by rw[e1,e2,e3]; exact h))
    | cell=>exact Zc (show og (look c.hd.cs (enc x)) _=true from h) fun a ha h1=>Zc h1 fun w hw' h2=>wpAny_assign_Name (ZiA hc R gx hw hv ha hw' fun σ' R' X' e1 e2 e3=>hQ σ' R' X' (by rw[e1,e2,e3]; exact h2))
    | _=>exact Za h
  | Attribute o x pos=>
   obtain⟨hg,h⟩:=Zfv (show asgG g.P r (cond (gd x&&ZD o) (.u 9 (enc x) (cE k c.env.scope.names o)) bad) v c.hd σ.h σ.nx σ.lo kc ke=true from h)
   obtain⟨gx,hb⟩:=Yb hg
   have h:r.ev (cE k c.env.scope.names o) c.hd σ.h σ.nx σ.lo (fun x' h nx lo=>setA g.P x' (enc x) v h fun h=>kc h nx lo) ke=true:=h
   rw[arm_assign_Attribute]
   refine wpAny_bind (wpAny_holding (HA.ev c hc.down k o σ R _ _ h _ _ (fun σ1 ov rov R1 X1 vo h1=>?_) hE))
   refine wpAny_bind (wpAny_standAt (wpAny_bind (wpAny_holding (Zk7 OK hc R1 gx vo (hv.mono X1 R) (k:=fun h=>kc h σ1.nx σ1.lo) h1 (fun σ2 R2 X2 e1 e2 hk=>?_) c.A))))
   exact wpAny_release (hQ σ2 R2 (X1.trans X2) (by rw[e1,e2]; exact hk))
  | Tuple ts kd pos=>
   have h:asgG g.P r (cond (ts.any star?) bad (.u 10 ts.length (cTs k c.env.scope.names ts))) v c.hd σ.h σ.nx σ.lo kc ke=true:=h
   cases hs:ts.any star? with
   | true=>rw[hs] at h; exact Za h
   | false=>
    rw[hs] at h
    refine Zc (show og (vTup v) _=true from h) fun vs hvs h1=>Zf h1 fun hb h2=>?_
    obtain rfl:=ZP hvs
    obtain⟨ta,its,m,rfl,p,vrs⟩:=hv
    obtain⟨b1,b2⟩:=Yb hb
    have hlen:vs.length=ts.length:=Yn b2
    obtain⟨i1,i2,i3⟩:=ZbU (env:=c.env) hs
    rw[assign_Tuple]
    refine wpAny_bind (wpAny_standAt ?_)
    unfold unpack
    rw[show (assignEach ts c.env).length=its.toArray.size by rw[i1,← hlen,vrs.length]; rfl,i2]
    refine wpAny_bind (wpAny_holding (Zj0 (Ziz hc R b1) (Zap R p) fun h' he=>?_))
    obtain⟨R',X'⟩:=R.still (tk:=σ.s.toks) (R.F.extBut he (Nat.le_refl _)) (R.N.extBut he (Nat.le_refl _))
    rw[i3]
    exact ZiB HA hc R' (vrs.mono X' R) h2 (hQ.of X') (hE.of X')
  | Subscript o i pos=>
   have h:asgG g.P r (match cond (slice? i) none (some (o,i)) with | some (o,i)=>.b 7 0 (cE k c.env.scope.names o) (cE k c.env.scope.names i) | none=>bad) v c.hd σ.h σ.nx σ.lo kc ke=true:=h
   cases hs:slice? i with
   | true=>rw[hs] at h; exact Za h
   | false=>
    rw[hs] at h
    have h:r.ev (cE k c.env.scope.names o) c.hd σ.h σ.nx σ.lo (fun x h nx lo=>r.ev (cE k c.env.scope.names i) c.hd h nx lo (fun y h nx lo=>ZeY x y v c.hd h fun h=>kc h nx lo) ke) ke=true:=h
    rw[arm_assign_Subscript]
    refine wpAny_bind (wpAny_holding (HA.ev c hc.down k o σ R _ _ h _ _ (fun σ1 ov rov R1 X1 vo h1=>?_) hE))
    refine wpAny_bind (wpAny_holding (HA.ev c hc.down k i σ1 R1 _ _ h1 _ _ (fun σ2 iv riv R2 X2 vi h2=>?_) (hE.of X1)))
    refine wpAny_bind (wpAny_standAt (wpAny_bind (wpAny_holding (Zix hc R2 (vo.mono X2 R1) vi (hv.mono (X1.trans X2) R) (k:=fun h=>kc h σ2.nx σ2.lo) h2 (fun σ3 R3 X3 hk e1 e2=>?_) c.A))))
    exact wpAny_release (hQ σ3 R3 ((X1.trans X2).trans X3) (by rw[e1,e2]; exact hk))
  | _=>exact Za h
end
section
variable {g:Gl} {r:Rec} {n:Nat} {c:Cx} {σ : St} {Er:Value→Shared→Prop}
theorem Rel.forget (R:Rel g c σ) {h':Heap} {tk:Nat} {a:Addr} {o:Obj} (p:Pin0 g σ a o) (hl:a≠c.env.locals) (ht : ¬ Told o) (hb : ¬ Tb o) (he:Heap.ExtBut a σ.s.heap h') :
  Rel g c (σ.led (σ.news.filter fun q=>q.1 != a) h' tk)∧∀ σ₀,Ext g c σ₀ σ→(∀ x,¬ Pin0 g σ₀ a x)→Ext g c σ₀ (σ.led (σ.news.filter fun q=>q.1 != a) h' tk):=by
 have hN:=R.N _ p.1
 have keep:∀ b x,(b,x) ∈ σ.news→b≠a→(b,x) ∈ σ.news.filter fun q=>q.1 != a:=fun b x h n=>List.mem_filter.mpr ⟨h,bne_iff_ne.mpr n⟩
 have H:Chg g c σ (σ.led (σ.news.filter fun q=>q.1 != a) h' tk) (fun b=>b=a):=⟨⟨R.F.ns.extBut he (Ne.symm hN.2.1),fun b ob e=>he b ob (fun q=>by have e : σ.g0.get? b=some ob:=e; rw[q,hN.2.2] at e; cases e) (R.F.keep b ob e),R.F.above⟩,
  fun q hq=>⟨he _ _ (bne_iff_ne.mp (List.mem_filter.mp hq).2) (R.N q (List.mem_filter.mp hq).1).1,(R.N q (List.mem_filter.mp hq).1).2⟩,R.nd.sublist ((List.filter_sublist).map _),rfl,rfl,Nat.le_refl _,fun _ _=>rfl,fun _ _=>rfl,fun q m n=>keep _ _ m n,
  fun b x q t e=>by subst e; exact ht (Zn R.N p.1 q.1 ▸ t),fun T t e=>by subst e; obtain⟨x,q,b⟩:=t; exact(hb (Zn R.N p.1 q.1 ▸ b)).elim,fun q hq e=>p.2.2 (e ▸ hq),fun _ u=>.inl u,fun _ _ u _ n _ _=>absurd u n,R.fr,
  fun _ _ e=>.inl ⟨e,fun k u _ q=>p.2.1 k u q⟩,fun Z=>R.locK Z rfl rfl fun _ _ m=>keep _ _ m hl.symm,fun _=>rfl,.refl,R.B⟩
 refine⟨R.to0 H,fun σ₀ Y hn=>⟨Y.nx,Y.ρ,fun b x q n t=>?_,fun T t=>H.tb R T (Y.tb T t),Y.m,Y.turn⟩⟩
 have z:=Y.pin b x q n t
 exact⟨keep b x z.1 (fun e=>hn x (e ▸ q)),z.2.1,z.2.2⟩
noncomputable def ItO (o:Obj):Prop:=∃ T a b rest,o.cls=.type T∧T≠"tuple"∧T≠"range"∧o.data=.fields (List.toArray (a :: b :: rest))∧rest.length < 2∧(∀ q t,b≠.str q t)
theorem ItO.no {o:Obj} (h:ItO o):(¬ Told o)∧(¬ Tb o)∧∀ es n,o.data≠.dict es n:=by
 obtain⟨T,a,b,rest,hc,h1,h2,hd,hl,hb⟩:=h
 refine⟨?_,?_,fun es n e=>by rw[hd] at e; cases e⟩
 ·rintro⟨_,_,⟨C,h⟩ | h | h | ⟨vs,q,t,h,h3⟩⟩
  ·rw[hc] at h; cases h
  ·rw[hc] at h; injection h with h; exact h1 h
  ·rw[hc] at h; injection h with h; exact h2 h
  ·rw[hd] at h; injection h with h
   subst h
   injection h3 with h3
   exact hb q t h3
 ·rintro⟨ts,d,z,_⟩
  rw[hd] at d; injection d with d
  subst d
  have z : 3 < rest.length + 2:=z
  exact absurd (Nat.lt_of_succ_lt_succ (Nat.lt_of_succ_lt_succ z)) (Nat.not_lt.mpr (Nat.le_of_lt_succ hl))
inductive ItAt (g:Gl) (σ : St) (it:Addr):V→Nat→Prop
 | list (l i:Nat) (o:Obj):l < σ.nx→Pin0 g σ it o→o.cls=.type "list_iterator"→o.data=.fields #[.ref (σ.ρ (2 * l)),.int i 0]→ItAt g σ it (.ref l) i
 | tup (vs:List V) (ta:Addr) (its:List Value) (n i:Nat) (o:Obj):Pin0 g σ ta (Zba its.toArray n)→VRs g σ vs its→Pin0 g σ it o→o.cls=.type "tuple_iterator"→o.data=.fields #[.ref ta,.int i 0]→ItAt g σ it (.tup vs) i
 | rng (n i:Nat):i≤n→Pin0 g σ it { cls:=.type "range_iterator",dict:=none,data:=.fields #[rawInt (i:Int),rawInt ((n:Int) - i),rawInt 1],slots:=#[] }→ItAt g σ it (.rng n) i
theorem ItAt.pin {it:Addr} {v:V} {i:Nat} (h:ItAt g σ it v i):∃ o,Pin0 g σ it o∧ItO o:=by
 cases h with
 | list l i o _ p hc hd=>exact⟨o,p,"list_iterator",_,_,[],hc,by decide,by decide,hd,by decide,nofun⟩
 | tup vs ta its n i o _ _ p hc hd=>exact⟨o,p,"tuple_iterator",_,_,[],hc,by decide,by decide,hd,by decide,nofun⟩
 | rng n i hi p=>exact⟨_,p,"range_iterator",_,_,[rawInt 1],rfl,by decide,by decide,rfl,by decide,nofun⟩
theorem ItAt.mono0 {σ':St} (X:Ext0 g σ σ') (pn:∀ o,Pin0 g σ it o→Pin0 g σ' it o) {v:V} {i:Nat} (h:ItAt g σ it v i):ItAt g σ' it v i:=by
 cases h with
 | list l i o hl p hc hd=>exact .list l i o (Nat.lt_of_lt_of_le hl X.nx) (pn _ p) hc (by rw[X.ρ _ hl]; exact hd)
 | tup vs ta its n i o q vr p hc hd=>exact .tup vs ta its n i o (X.pin _ _ q (Zdf _ _)) (vr.mono0 X) (pn _ p) hc hd
 | rng n i hi p=>exact .rng n i hi (pn _ p)
theorem ItAt.mono {σ':St} (X:Ext g c σ σ') (R:Rel g c σ) {it:Addr} {v:V} {i:Nat} (h:ItAt g σ it v i):ItAt g σ' it v i:=by
 obtain⟨o,p,q⟩:=h.pin
 obtain⟨q1,q2,q3⟩:=q.no
 exact h.mono0 (X.z R) fun o' p'=>by have:=Zn R.N p.1 p'.1; subst this; exact X.pin _ _ p (R.pin_ne p q3) q2
theorem Zfw (R:Rel g c σ) {v:V} {rv:Value} (hv:VR g σ v rv) {x:Option V} (hi:Zas σ.h v 0=some x) (A:Around) {Q:Value→Shared→Prop}
  (hQ:∀ σ' it,Rel g c σ'→Ext g c σ σ'→Quiet σ σ'→ItAt g σ' it v 0→(∀ y,¬ Pin0 g σ it y)→Q (.ref it) σ'.s):wpAny g.M A (pyIter rv) Q Er σ.s:=by
 have fresh:∀ y,¬ Pin0 g σ σ.s.heap.objs.size y:=fun y p=>absurd (Heap.lt_size (R.N _ p.1).1) (Nat.lt_irrefl _)
 have mk:∀ ob:Obj,(∀ σ',Ext0 g σ σ'→σ'.ρ = σ.ρ→σ'.nx = σ.nx→Pin0 g σ' σ.s.heap.objs.size ob→ItAt g σ' σ.s.heap.objs.size v 0)→ob.isFreed=false→Q (.ref σ.s.heap.objs.size) { σ.s with heap:=σ.s.heap.push ob }:=fun ob f hf=>by
  obtain⟨R',X',q⟩:=R.alloc (tk:=σ.s.toks) (R.F.push ob) (R.N.push R.F ob hf) R.top
  exact hQ _ _ R' X' ⟨rfl,rfl,rfl,rfl⟩ (f _ (X'.z R) rfl rfl q) fresh
 cases v with
 | tup l=>
  obtain⟨ta,its,n,rfl,p,vr⟩:=hv
  exact wpAny_pyIter_tuple (Zap R p) (mk _ (fun σ' Z er en q=>.tup l ta its n 0 _ (Z.pin _ _ p (Zdf _ _)) (vr.mono0 Z) q rfl rfl) rfl)
 | ref a=>
  obtain⟨rfl,ha⟩:=hv
  have hi:(@Option.rec (List V) (fun _=>Option (Option V)) none (fun l=>some l[0]?) (Zg σ.h a))=some x:=hi
  cases hl:Zg σ.h a with
  | none=>rw[hl] at hi; exact Ze hi
  | some l=>
   obtain⟨its,il,hz,vr⟩:=R.isList hl
   exact wpAny_pyIter_list il (mk _ (fun σ' Z er en q=>.list a 0 _ (by rw[en]; exact ha) q rfl (by rw[er]; rfl)) rfl)
 | rng k=>
  obtain⟨a,o,rfl,hk,p,t,u,w,e⟩:=hv
  subst e
  have hs:Builtin.Range.rangeSize 0 (k:Int) 1=k:=by
   rw[rangeSize_one]
   by_cases h : 0 < (k:Int)
   ·rw[if_pos h]; omega
   ·rw[if_neg h]; omega
  refine wpAny_pyIter_range (R.N _ p.1).1 (small_one (by decide) (by decide) (by omega) (by omega)) ?_
  rw[hs]
  refine mk _ (fun σ' Z er en q=>.rng k 0 (Nat.zero_le _) ?_) rfl
  rw[show (k:Int) - ((0:Nat):Int)=k from Int.sub_zero _]
  exact q
 | _=>exact Ze hi
end
section
variable {g:Gl} {r:Rec} {n:Nat} {c:Cx} {σ : St} {Er:Value→Shared→Prop}
theorem VRs.getV {vs:List V} {ws:List Value} {j:Nat} (h:VRs g σ vs ws):(vs[j]? = none∧ws[j]? = none)∨∃ v w,vs[j]? = some v∧ws[j]? = some w∧VR g σ v w:=by
 have hl:=h.length
 by_cases hj:j < vs.length
 ·have hj':j < ws.length:=hl ▸ hj
  exact .inr ⟨vs[j],ws[j],List.getElem?_eq_getElem hj,List.getElem?_eq_getElem hj',h.get j hj hj'⟩
 ·exact .inl ⟨List.getElem?_eq_none (Nat.le_of_not_lt hj),List.getElem?_eq_none (hl ▸ Nat.le_of_not_lt hj)⟩
theorem ZhM (hc:CxOK g c n) (R:Rel g c σ) {it:Addr} {o:Obj} (p:Pin0 g σ it o) (h:okHd c.hd σ.h=true):Zau c.A σ.s it:=by
 unfold okHd at h
 cases e:c.hd.hd with
 | none=>exact .inl (by rw[hc.hn,e]; rfl)
 | some j=>
  rw[e] at h
  refine Zc h fun q hq hlt=>?_
  have ho:=Z9 hq
  obtain⟨oe,vs,m,k,d,z,tb,own,cx⟩:ExcR g σ _ _ q.1 q.2.1 q.2.2:=R.trk j _ ho
  have he:=(R.hh j e).2
  exact .inr ⟨c.he,oe,vs,by rw[hc.hn,e]; rfl,by rw[← he]; exact p.2.1 _ (Zh ho),by rw[← he]; exact(R.N _ m).1,d,cx (Nat.blt_eq.mp hlt)⟩
theorem ZhN (R:Rel g c σ) {v:V} {i:Nat} {it:Addr} (I:ItAt g σ it v i) {x:Option V} (hi:Zas σ.h v i=some x) {A:Around} (hh:x=none→Zau A σ.s it) {Q:Option Value→Shared→Prop}
  (hs:∀ y,x=some y→∀ σ' ry,Rel g c σ'→Quiet σ σ'→VR g σ' y ry→ItAt g σ' it v (i + 1)→(∀ σ₀,Ext g c σ₀ σ→(∀ x,¬ Pin0 g σ₀ it x)→Ext g c σ₀ σ')→Q (some ry) σ'.s)
  (hn:x=none→∀ σ',Rel g c σ'→Quiet σ σ'→(∀ σ₀,Ext g c σ₀ σ→(∀ x,¬ Pin0 g σ₀ it x)→Ext g c σ₀ σ')→Q none σ'.s):wpAny g.M A (pyNext (.ref it)) Q Er σ.s:=by
 obtain⟨o0,p0,io⟩:=I.pin
 obtain⟨ht,hb,hd0⟩:=io.no
 have hl:it≠c.env.locals:=R.pin_ne p0 hd0
 have ext:x=none→∀ h',Heap.ExtBut it σ.s.heap h'→Q none { σ.s with heap:=h' }:=fun hx h' he=>by
  obtain⟨R',Y⟩:=R.forget (tk:=σ.s.toks) p0 hl ht hb he
  exact hn hx _ R' ⟨rfl,rfl,rfl,rfl⟩ Y
 have step:∀ y,x=some y→∀ h' tk o' ry,h'.get? it=some o'→Heap.SameBut it σ.s.heap h'→VR g σ y ry→(∀ σ',Ext0 g σ σ'→σ'.ρ = σ.ρ→σ'.nx = σ.nx→Pin0 g σ' it o'→(∀ b x,b≠it→Pin0 g σ b x→Pin0 g σ' b x)→ItAt g σ' it v (i + 1))→Q (some ry) { σ.s with heap:=h',toks:=tk }:=fun y hx h' tk o' ry ho' hs' vy f=>by
  obtain⟨F',N'⟩:=ZB R p0.1 hs' ho'
  obtain⟨R',p',Y,K⟩:=R.turn (tk:=tk) p0 hd0 ht (fun t=>(hb t).elim) F' N'
  have Z:Ext0 g σ (σ.led (setN σ.news it o') h' tk):=⟨Nat.le_refl _,fun _ _=>rfl,fun b x q t=>K b x (fun e=>by subst e; exact ht (Zn R.N p0.1 q.1 ▸ t)) q,fun T ⟨b,q,t⟩=>⟨b,K T b (fun e=>by subst e; exact hb (Zn R.N p0.1 q.1 ▸ t)) q,t⟩⟩
  exact hs y hx _ ry R' ⟨rfl,rfl,rfl,rfl⟩ (vy.mono0 Z) (f _ Z rfl rfl p' K) fun σ₀ X0 h0=>Y σ₀ X0 fun x p=>(h0 x p).elim
 cases I with
 | list l _ o hlt p hc hdt=>
  have hi:(@Option.rec (List V) (fun _=>Option (Option V)) none (fun l=>some l[i]?) (Zg σ.h l))=some x:=hi
  cases hla:Zg σ.h l with
  | none=>rw[hla] at hi; exact Ze hi
  | some xs=>
   rw[hla] at hi
   have hi:xs[i]? = x:=Option.some.inj hi
   obtain⟨its,il,hz,vr⟩:=R.isList hla
   have IL : σ.s.heap.IsListIter it (σ.ρ (2 * l)) i:=⟨o,(R.N _ p.1).1,hc,hdt⟩
   rcases vr.getV (j:=i) with⟨e1,e2⟩ | ⟨y,ry,e1,e2,vy⟩
   ·have hx:x=none:=hi.symm.trans e1
    exact Zck (hh hx) IL il (by rw[List.getElem?_toArray]; exact e2) (ext hx)
   ·refine wpAny_pyNext_list_item IL il (by rw[List.getElem?_toArray]; exact e2) fun h' hit' hs'=>?_
    obtain⟨o',ho',hc',hd'⟩:=hit'
    exact step y (hi.symm.trans e1) h' σ.s.toks o' ry ho' hs' vy fun σ' Z er en p' _=>.list l (i + 1) o' (by rw[en]; exact hlt) p' hc' (by rw[er]; exact hd')
 | tup vs ta its m _ o q vr p hc hdt=>
  have hi:vs[i]? = x:=Option.some.inj hi
  have IL : σ.s.heap.IsTupleIter it ta i:=⟨o,(R.N _ p.1).1,hc,hdt⟩
  rcases vr.getV (j:=i) with⟨e1,e2⟩ | ⟨y,ry,e1,e2,vy⟩
  ·have hx:x=none:=hi.symm.trans e1
   exact Zd8 (hh hx) IL (Zap R q) (by rw[List.getElem?_toArray]; exact e2) (ext hx)
  ·refine wpAny_pyNext_tuple_item IL (Zap R q) (by rw[List.getElem?_toArray]; exact e2) fun h' hit' hs'=>?_
   obtain⟨o',ho',hc',hd'⟩:=hit'
   have hne:ta≠it:=fun e=>by
    subst e
    have e:=Zn R.N q.1 p.1
    rw[← e] at hc
    exact absurd (show Value.type "tuple" = Value.type "tuple_iterator" from hc) (by decide)
   exact step y (hi.symm.trans e1) h' σ.s.toks o' ry ho' hs' vy fun σ' Z er en p' K=>.tup vs ta its m (i + 1) o' (K _ _ hne q) (vr.mono0 Z) p' hc' hd'
 | rng m _ hi0 p=>
  have hi:some (bif Nat.blt i m then some (V.int (.ofNat i)) else none)=some x:=hi
  have hi:=Option.some.inj hi
  cases hb:Nat.blt i m with
  | false=>
   rw[hb] at hi
   have hx:x=none:=hi.symm
   have : ¬ i < m:=by rw[← Bool.not_eq_true,Nat.blt_eq] at hb; exact hb
   exact Zd9 (hh hx) (R.N _ p.1).1 (by omega) (ext hx)
  | true=>
   rw[hb] at hi
   have hlt:=Nat.blt_eq.mp hb
   refine wpAny_pyNext_range_item (R.N _ p.1).1 (by omega) fun h' hit' hs'=>?_
   refine step _ hi.symm h' (σ.s.toks + 1) _ (.int i σ.s.toks) hit' hs' ⟨_,rfl⟩ fun σ' Z er en p' _=>.rng m (i + 1) hlt ?_
   have e:({ cls:=.type "range_iterator",dict:=none,data:=.fields #[rawInt ((i + 1:Nat):Int),rawInt ((m:Int) - ((i + 1:Nat):Int)),rawInt 1],slots:=#[] }:Obj) = { cls:=.type "range_iterator",dict:=none,data:=.fields #[rawInt ((i:Int) + 1),rawInt ((m:Int) - i - 1),rawInt 1],slots:=#[] }:=by
    rw[show ((i + 1:Nat):Int)=(i:Int) + 1 from rfl,show (m:Int) - ((i:Int) + 1)=(m:Int) - i - 1 by omega]
   rw[e]; exact p'
theorem ZcW (R:Rel g c σ) {it a:Addr} {i:Nat} {its:List Value} {o:Obj} (p0:Pin0 g σ it o) (hc:o.cls=.type "list_iterator") (hd:o.data=.fields #[.ref a,.int i 0]) (il : σ.s.heap.IsList a its.toArray) {A:Around} (hh:its[i]? = none→Zau A σ.s it) {Q:Option Value→Shared→Prop}
  (hs:∀ ry,its[i]? = some ry→∀ σ' o',Rel g c σ'→Quiet σ σ'→Ext0 g σ σ'→Pin0 g σ' it o'→o'.cls=.type "list_iterator"→o'.data=.fields #[.ref a,.int (i + 1:Nat) 0]→(∀ b x,b≠it→Pin0 g σ b x→Pin0 g σ' b x)→Q (some ry) σ'.s)
  (hn:its[i]? = none→∀ σ',Rel g c σ'→Quiet σ σ'→Q none σ'.s):wpAny g.M A (pyNext (.ref it)) Q Er σ.s:=by
 obtain⟨ht,hb,hd0⟩:=(show ItO o from⟨"list_iterator",_,_,[],hc,by decide,by decide,hd,by decide,nofun⟩).no
 have IL : σ.s.heap.IsListIter it a i:=⟨o,(R.N _ p0.1).1,hc,hd⟩
 cases e:its[i]? with
 | none=>exact Zck (hh e) IL il (by rw[List.getElem?_toArray]; exact e) fun h' he=>hn e _ (R.forget (tk:=σ.s.toks) p0 (R.pin_ne p0 hd0) ht hb he).1 ⟨rfl,rfl,rfl,rfl⟩
 | some ry=>
  refine wpAny_pyNext_list_item IL il (by rw[List.getElem?_toArray]; exact e) fun h' hit' hs'=>?_
  obtain⟨o',ho',hc',hd'⟩:=hit'
  obtain⟨F',N'⟩:=ZB R p0.1 hs' ho'
  obtain⟨R',p',Y,K⟩:=R.turn (tk:=σ.s.toks) p0 hd0 ht (fun t=>(hb t).elim) F' N'
  exact hs ry e _ o' R' ⟨rfl,rfl,rfl,rfl⟩ ⟨Nat.le_refl _,fun _ _=>rfl,fun b x q t=>K b x (fun e=>by subst e; exact ht (Zn R.N p0.1 q.1 ▸ t)) q,fun T ⟨b,q,t⟩=>⟨b,K T b (fun e=>by subst e; exact hb (Zn R.N p0.1 q.1 ▸ t)) q,t⟩⟩ p' hc' hd' K
end
theorem Zmi {h:H} {a k:Nat} (e:ZlK h a=some k):h.get a=some (.abs k):=let ⟨o,q,r⟩:=ZW e; by
 cases o with
 | abs k=>rw[q]; obtain rfl:=Option.some.inj r; rfl
 | _=>exact Ze r
section
variable {g:Gl} {r:Rec} {n:Nat} {c:Cx} {σ : St}
structure ItemS (g:Gl) (c:Cx) (σ : St) (ro ri:Value) (k:V→Bool):Prop where
 ty:∃ T id,σ.s.TypeIs ro T∧typeLookup (.type T) "__getitem__" = pure (some (.builtin id))
 get:∀ {A:Around} {Q Er:Value→Shared→Prop},(∀ σ' v rv,Rel g c σ'→Ext g c σ σ'→VR g σ' v rv→k v=true→σ'.h = σ.h→σ'.nx = σ.nx→σ'.lo = σ.lo→Q rv σ'.s)→wpAny g.M A (getItem ro ri) Q Er σ.s
theorem Zle (hc:CxOK g c n) (R:Rel g c σ) {o i:V} {ro ri:Value} (ho:VR g σ o ro) (hi:VR g σ i ri) {k:V→Bool} (h:subV o i c.hd σ.h k=true):ItemS g c σ ro ri k:=by
 have fin:∀ {Q:Value→Shared→Prop} v rv,VR g σ v rv→k v=true→(∀ σ' v rv,Rel g c σ'→Ext g c σ σ'→VR g σ' v rv→k v=true→σ'.h = σ.h→σ'.nx = σ.nx→σ'.lo = σ.lo→Q rv σ'.s)→Q rv σ.s:=fun v rv vr hk hQ=>hQ σ v rv R (.refl ..) vr hk rfl rfl rfl
 refine Zc h fun j qi h=>?_
 obtain rfl:=Zt qi
 obtain⟨t,rfl⟩:=hi
 refine Zf (show (bif decide (0≤j)&&decide (j < 1000000) then _ else false)=true from h) fun hb h1=>?_
 clear h
 obtain⟨b1,b2⟩:=Yb hb
 have b1:=of_decide_eq_true b1
 have b2:=of_decide_eq_true b2
 have f2:j < 2 ^ 63:=Int.lt_trans b2 (by decide)
 refine Zc (show og (@Option.rec (List V) (fun _=>Option (List V)) (Zam σ.h o) some (vTup o)) _=true from h1) fun l hl h5=>Zc h5 fun v hv hk=>?_
 clear h1 h5
 cases q:vTup o with
 | some vs=>
  rw[q] at hl
  obtain rfl:=Option.some.inj (show some vs=some l from hl)
  obtain rfl:=ZP q
  obtain⟨a,its,m,rfl,p,vrs⟩:=ho
  rcases vrs.getV (j:=j.toNat) with⟨e1,_⟩ | ⟨v',w,e1,e2,vr⟩
  ·rw[e1] at hv; exact Ze hv
  ·rw[e1] at hv
   obtain rfl:=Option.some.inj hv
   have hlt:j.toNat < its.length:=(List.getElem?_eq_some_iff.mp e2).1
   have hix:seqIndex? j its.toArray.size=some j.toNat:=by
    unfold seqIndex?
    simp
    omega
   exact⟨⟨_,_,(Zap R p).typeIs,PySem.F.slot_tuple_getitem.lookup⟩,fun hQ=>getItem_tuple (Zap R p) (by omega) f2 hix (by rw[List.getElem?_toArray]; exact e2) (fin v' w vr hk hQ)⟩
 | none=>
  rw[q] at hl
  obtain⟨a,its,rfl,il,vrs,_⟩:=ZbM R (show Zam σ.h o=some l from hl) ho
  rcases vrs.getV (j:=j.toNat) with⟨e1,_⟩ | ⟨v',w,e1,e2,vr⟩
  ·rw[e1] at hv; exact Ze hv
  ·rw[e1] at hv
   obtain rfl:=Option.some.inj hv
   exact⟨⟨_,_,il.typeIs,PySem.slot_list_getitem.lookup⟩,fun hQ=>wpAny_getItem_list il b1 f2 (by rw[List.getElem?_toArray]; exact e2) (fin v' w vr hk hQ)⟩
end
section
variable {g:Gl} {r:Rec} {n:Nat} {c:Cx} {σ : St} {Er:Value→Shared→Prop} {kn kb kc:KS} {kr:V→KS} {ke:Nat→KS}
noncomputable def IsXt (σ : St) (i:Nat):Prop:=∃ C f,σ.h.get i=some (.exc C true f)
theorem Zee (hc:CxOK g c n) (R:Rel g c σ) {i:Nat} (x:IsX σ i) {k:H→Bool} (hk:Zz σ.h i k=true)
  (hQ:∀ σ',Rel g c σ'→Ext g c σ σ'→IsXt σ' i→k σ'.h=true→σ'.nx = σ.nx→σ'.lo = σ.lo→Er (.ref (σ'.ρ (2 * i))) σ'.s):notedBy g.M c.A c.fenv Er (.ref (σ.ρ (2 * i))) σ.s:=by
 obtain⟨C,t,f,ho⟩:=x
 have hk:=ZaM ho hk
 refine Zbl hc R ho fun σ' R' X' e1 e2 e3 e4=>?_
 have ho' : σ'.h.get i=some (.exc C true f):=by rw[e1,Z7 ho,if_pos rfl]
 rw[← e4]
 exact hQ σ' R' X' ⟨C,f,ho'⟩ (by rw[e1]; exact hk) e2 e3
theorem ZdS (R:Rel g c σ) {i:Nat} (x:IsXt σ i) {A:Around} {env:Env} (hQ:∀ σ',Rel g c σ'→Ext g c σ σ'→Quiet σ σ'→Er (.ref (σ'.ρ (2 * i))) σ'.s):cameBackBy g.M A env Er (.ref (σ.ρ (2 * i))) σ.s:=by
 obtain⟨C,f,ho⟩:=x
 obtain⟨oe,vs,m,k,d,z,⟨T,e,tb⟩,own,_⟩:ExcR g σ _ _ C true f:=R.trk i _ ho
 refine wpAny_bind (wpAny_field (R.N _ m).1 d e ?_)
 rw[if_neg (show ¬ ((Value.ref T==Value.none)=true) from Bool.false_ne_true)]
 exact ZQ R ho fun σ' R' X' q=>by rw[← q.2.2.2]; exact hQ σ' R' X' q
theorem Quiet.isXt {σ σ':St} (q:Quiet σ σ') {i:Nat} (x:IsXt σ i):IsX σ' i:=by
 obtain⟨C,f,ho⟩:=x; exact⟨C,true,f,by rw[q.1]; exact ho⟩
theorem IsXt.x {i:Nat} (x:IsXt σ i):IsX σ i:=let ⟨C,f,h⟩:=x; ⟨C,true,f,h⟩
theorem CxOK.le {m:Nat} (h:CxOK g c n) (hm:m≤n):CxOK g c m:={ h with dep:=Nat.le_trans (Nat.add_le_add_left hm _) h.dep,uni:=Nat.le_trans (Nat.add_le_add_left (Nat.mul_le_mul_left 12 hm) _) h.uni }
theorem Zbn {k:Nat} {sc:Sc} {it:PySem.Expr} {ko:V→KS} {lo:Lo} {h:H} {nx:Nat} {hd:Hd} {P:Prg} (e:evG P r (cE k sc it) hd h nx lo ko ke=true) (env:Env) (x:Value):foldedSetIterable it env x=pure x:=by
 cases k with
 | zero=>exact Za e
 | succ k=>cases it <;> first | rfl | exact Za e
noncomputable def ZhO (it:Addr) (a:Int):Sem Unit:=do
 let o ← load it
 match o.cls,o.data with
 | .type n,.fields vs=>
  if ["enumerate","zip","dict_itemiterator","dict_reverseitemiterator","odict_iterator","itertools.zip_longest","itertools.pairwise"].contains n&&vs[0]? == some (rawInt a) then
   rule "for.unpacks-the-owned-tuple"
   updateField it 0 .none
 | _,_=>pure ()
theorem ZdT {it:Addr} {v:V} {i:Nat} (R:Rel g c σ) (I:ItAt g σ it v i) {tg:PySem.Expr} {rv:Value} {A:Around} {Q:Unit→Shared→Prop} (h:Q () σ.s):wpAny g.M A (letOwnedTupleGo tg (.ref it) rv) Q Er σ.s:=by
 have main:∀ (a:Int) (T:String) (o:Obj) (vs:Array Value),Pin0 g σ it o→o.cls=.type T→o.data=.fields vs→((["enumerate","zip","dict_itemiterator","dict_reverseitemiterator","odict_iterator","itertools.zip_longest","itertools.pairwise"]:List String).contains T)=false→wpAny g.M A (ZhO it a) Q Er σ.s:=fun a T o vs p hc hd hT=>by
  refine wpAny_bind (wpAny_load (R.N _ p.1).1 ?_)
  rw[hc,hd]
  dsimp only
  rw[hT]
  exact wpAny_pure h
 have fin:∀ a:Int,wpAny g.M A (ZhO it a) Q Er σ.s:=fun a=>by
  cases I with
  | list l i o _ p hc hd=>exact main a _ o _ p hc hd (by decide)
  | tup vs ta its n i o _ _ p hc hd=>exact main a _ o _ p hc hd (by decide)
  | rng n i hi p=>exact main a _ _ _ p rfl rfl (by decide)
 cases tg <;> first
  | exact wpAny_pure h
  | (cases rv <;> first | exact wpAny_pure h | exact fin _)
theorem Zlf (HA:∀ m,m≤n→AllS g (rec g.P m) m) {tg:PySem.Expr} {body:List Stmt} {k1 k2:Nat} (hc:CxOK g c n) (own:c.env=c.fenv) {σ₀:St} {it:Addr} {v:V} (hit:∀ y,¬ Pin0 g σ₀ it y) {Q:Flow→Shared→Prop} (h1:PU g c σ₀ kn (Q .next)) (h4:PV g c σ₀ kr (fun v=>Q (.ret v)))
  {R:Result→Shared→Prop} (hR:∀ f s',Q f s'→R (.ok f) s') (hX:∀ σ' i,Rel g c σ'→Ext g c σ₀ σ'→IsXt σ' i→ke i σ'.h σ'.nx σ'.lo=true→R (.error (.ref (σ'.ρ (2 * i)))) σ'.s)
  (Rσ : Rel g c σ) (X0:Ext g c σ₀ σ) {i:Nat} (I:ItAt g σ it v i) (h:(rec g.P n).loop (cT k1 c.env.scope.names tg) v i (cSs k2 c.env.scope.names body) c.hd σ.h σ.nx σ.lo kn kr ke=true) :
  codeAny g.M c.A (.forLoop tg (.ref it) body [] c.env) R σ.s:=by
 refine codeAny_forLoop_any (fun m s=>m≤n∧∃ σ i,s = σ.s∧Rel g c σ∧Ext g c σ₀ σ∧ItAt g σ it v i∧(rec g.P m).loop (cT k1 c.env.scope.names tg) v i (cSs k2 c.env.scope.names body) c.hd σ.h σ.nx σ.lo kn kr ke=true) ?_ n ⟨Nat.le_refl _,σ,i,rfl,Rσ,X0,I,h⟩
 rintro m s ⟨hm,σ,i,rfl,Rσ,X0,I,h⟩
 cases m with
 | zero=>exact Za h
 | succ m=>
  have hm':m≤n:=Nat.le_of_succ_le hm
  have HAm:=HA m hm'
  have hcm:CxOK g c m:=hc.le hm'
  have err:∀ {σ₁:St},Ext g c σ₀ σ₁→PX g c σ₁ (fun j h nx lo=>Zz h j fun h=>ke j h nx lo) (notedBy g.M c.A c.env fun e s'=>R (.error e) s'):=fun {σ₁} X1 σ' j R' X' x hk=>by
   rw[own]
   exact Zee hc R' x hk fun σ2 R2 X2 x2 hk e2 e3=>hX σ2 j R2 ((X1.trans X').trans X2) x2 (by rw[e2,e3]; exact hk)
  refine Zc (show og (Zas σ.h v i) _=true from h) fun xo hxo h=>?_
  have hh:xo=none→Zau c.A σ.s it:=fun e=>by subst e; exact Zf h fun b _=>ZhM hc Rσ I.pin.choose_spec.1 b
  refine ZhN Rσ I hxo hh (fun y hy σ' ry R' qt vy I' Y=>?_) (fun hy σ' R' qt Y=>?_)
  ·subst hy
   obtain⟨e1,e2,e3,_⟩:=qt
   have X':Ext g c σ₀ σ':=Y σ₀ X0 hit
   have h:(rec g.P m).asg (cT k1 c.env.scope.names tg) y c.hd σ'.h σ'.nx σ'.lo (fun h nx lo=>(rec g.P m).ex (cSs k2 c.env.scope.names body) c.hd h nx lo (fun h nx lo=>(rec g.P m).loop (cT k1 c.env.scope.names tg) v (Nat.succ i) (cSs k2 c.env.scope.names body) c.hd h nx lo kn kr ke) kn
    (fun h nx lo=>(rec g.P m).loop (cT k1 c.env.scope.names tg) v (Nat.succ i) (cSs k2 c.env.scope.names body) c.hd h nx lo kn kr ke) kr (fun j h nx lo=>Zz h j fun h=>ke j h nx lo)) (fun j h nx lo=>Zz h j fun h=>ke j h nx lo)=true:=by rw[e1,e2,e3]; exact h
   refine ZdT R' I' ?_
   refine HAm.asg c hcm k1 _ σ' R' y ry vy _ _ h _ _ (fun σ2 R2 X2 hk=>?_) (err X')
   have X02:=X'.trans X2
   have I2:=I'.mono X2 R'
   exact HAm.ex c hcm own k2 body σ2 R2 _ _ _ _ _ hk (fun f s₃=>match f with
     | .next | .cont=>∃ m',m' < m + 1∧m'≤n∧∃ σ i,s₃ = σ.s∧Rel g c σ∧Ext g c σ₀ σ∧ItAt g σ it v i∧(rec g.P m').loop (cT k1 c.env.scope.names tg) v i (cSs k2 c.env.scope.names body) c.hd σ.h σ.nx σ.lo kn kr ke=true
     | .brk=>R (.ok .next) s₃
     | .ret v=>R (.ok (.ret v)) s₃) _
    (fun σ3 R3 X3 hk=>⟨m,Nat.lt_succ_self _,hm',σ3,i + 1,rfl,R3,X02.trans X3,I2.mono X3 R2,hk⟩)
    (fun σ3 R3 X3 hk=>hR _ _ (h1 σ3 R3 (X02.trans X3) hk))
    (fun σ3 R3 X3 hk=>⟨m,Nat.lt_succ_self _,hm',σ3,i + 1,rfl,R3,X02.trans X3,I2.mono X3 R2,hk⟩)
    (fun σ3 v rv R3 X3 vr hk=>hR _ _ (h4 σ3 v rv R3 (X02.trans X3) vr hk)) (err X02)
  ·subst hy
   obtain⟨e1,e2,e3,_⟩:=qt
   refine Zf h fun _ hk=>?_
   exact wpAny_execs_nil (hR _ _ (h1 σ' R' (Y σ₀ X0 hit) (by rw[e1,e2,e3]; exact hk)))
theorem Zmj (HA:∀ m,m≤n→AllS g (rec g.P m) m) (hc:CxOK g c (n + 1)) (own:c.env=c.fenv) (R:Rel g c σ) {k:Nat} {tg:PySem.Expr} {it:PySem.Expr} {body:List Stmt} {pos:Pos} {Q:Flow→Shared→Prop}
  (h:Zjc (cT k c.env.scope.names tg) (cE k c.env.scope.names it) (cSs k c.env.scope.names body) g.P (rec g.P n) c.hd σ.h σ.nx σ.lo kn kb kc kr ke=true) (h1:PU g c σ kn (Q .next)) (h4:PV g c σ kr (fun v=>Q (.ret v))) (h5:PX g c σ ke Er):wpAny g.M c.A (exec (.For tg it body [] pos) c.env) Q Er σ.s:=by
 have HAn:=HA n (Nat.le_refl _)
 cases n with
 | zero=>exact Za h
 | succ n=>
  refine wpAny_For (HAn.ev c hc.down k it σ R _ _ h _ _ (fun σ1 v rv R1 X1 vr hk=>?_) h5) (fun x=>Zbn (r:=rec g.P n) h c.env x)
  refine Zc (show og (Zas σ1.h v 0) _=true from hk) fun xo hxo _=>?_
  refine Zfw R1 vr hxo c.A fun σ2 ita R2 X2 qt I2 fresh=>?_
  have hk:(rec g.P (n + 1)).loop (cT k c.env.scope.names tg) v 0 (cSs k c.env.scope.names body) c.hd σ2.h σ2.nx σ2.lo kn kr ke=true:=by rw[qt.1,qt.2.1,qt.2.2.1]; exact hk
  exact Zlf HA hc.down own fresh (h1.of X1) (h4.of X1) (fun f s' hq=>hq) (fun σ' i R' X' x hk=>ZdS R' x fun σ'' R'' X'' q=>h5 σ'' i R'' ((X1.trans X').trans X'') (q.isXt x) (by rw[q.1,q.2.1,q.2.2.1]; exact hk)) R2 X2 I2 hk
end
section
variable {g:Gl} {r:Rec} {n k:Nat} {c:Cx} {σ : St} {Q:Flow→Shared→Prop} {Er:Value→Shared→Prop} {kn kb kc:KS} {kr:V→KS} {ke:Nat→KS}
theorem Zj1 (HA:AllS g r n):ExS g (ZdD g.P r) (n + 1):=by
 intro c hc own k ss σ R kn kb kc kr ke h Q Er h1 h2 h3 h4 h5
 have h:exG g.P r (cSs k c.env.scope.names ss) c.hd σ.h σ.nx σ.lo kn kb kc kr ke=true:=h
 cases k with
 | zero=>exact Za h
 | succ k=>
  cases ss with
  | nil=>exact wpAny_execs_nil (h1 σ R (.refl ..) h)
  | cons st rest=>
   refine wpAny_execs_cons (HA.ex1 c hc.down own k st σ R _ _ _ _ _ (show r.ex (cS k c.env.scope.names st) c.hd σ.h σ.nx σ.lo (fun h nx lo=>r.ex (cSs k c.env.scope.names rest) c.hd h nx lo kn kb kc kr ke) kb kc kr ke=true from h) _ _ (fun σ' R' X' hk=>?_) h2 h3 h4 h5)
   exact HA.ex c hc.down own k rest σ' R' _ _ _ _ _ hk Q Er (h1.of X') (h2.of X') (h3.of X') (h4.of X') (h5.of X')
theorem s_if (HA:AllS g r n) (hc:CxOK g c (n + 1)) (own:c.env=c.fenv) (R:Rel g c σ) {t:PySem.Expr} {a b:List Stmt} {pos:Pos} (h:exIf (cE k c.env.scope.names t) (cSs k c.env.scope.names a) (cSs k c.env.scope.names b) g.P r c.hd σ.h σ.nx σ.lo kn kb kc kr ke=true)
  (h1:PU g c σ kn (Q .next)) (h2:PU g c σ kb (Q .brk)) (h3:PU g c σ kc (Q .cont)) (h4:PV g c σ kr (fun v=>Q (.ret v))) (h5:PX g c σ ke Er):wpAny g.M c.A (exec (.If t a b pos) c.env) Q Er σ.s:=by
 refine wpAny_If (HA.ts c hc.down k t σ R _ _ h _ _ (fun σ' v R' X' hk=>?_) h5)
 cases v with
 | true=>exact HA.ex c hc.down own k a σ' R' _ _ _ _ _ hk Q Er (h1.of X') (h2.of X') (h3.of X') (h4.of X') (h5.of X')
 | false=>exact HA.ex c hc.down own k b σ' R' _ _ _ _ _ hk Q Er (h1.of X') (h2.of X') (h3.of X') (h4.of X') (h5.of X')
theorem Zj2 (HA:AllS g r n) (hc:CxOK g c (n + 1)) (R:Rel g c σ) {e:PySem.Expr} {pos:Pos} (hcall:call? e=true) (h:Zhc (cE k c.env.scope.names e) g.P r c.hd σ.h σ.nx σ.lo kn kb kc kr ke=true)
  (h1:PU g c σ kn (Q .next)) (h5:PX g c σ ke Er):wpAny g.M c.A (exec (.Expr e pos) c.env) Q Er σ.s:=by
 cases e with
 | Call f as ks p=>
  refine wpAny_Expr_any (HA.ev c hc.down k _ σ R _ _ h _ _ (fun σ' v rv R' X' vr hk=>h1 σ' R' X' hk) h5) ?_ rfl
  unfold interactive
  rw[hc.ek]; rfl
 | _=>exact Za hcall
theorem Zj3 (OK:POK g.P g.K g.tabs g.dn) (HA:AllS g r n) (hc:CxOK g c (n + 1)) (R:Rel g c σ) {e:PySem.Expr} {pos:Pos} (h:ZfR (cE k c.env.scope.names e) g.P r c.hd σ.h σ.nx σ.lo kn kb kc kr ke=true) (h5:PX g c σ ke Er) :
  wpAny g.M c.A (exec (.Raise (some e) none pos) c.env) Q Er σ.s:=by
 rw[arm_exec_Raise]
 show wpAny g.M c.A (do standAt pos; raiseStmt c.env (some (do let v ← eval e c.env; standAt pos; pure v)) none) Q Er σ.s
 refine wpAny_bind (wpAny_standAt ?_)
 unfold raiseStmt
 refine wpAny_bind (wpAny_bind (HA.ev c hc.down k e σ R _ _ h _ _ (fun σ1 v rv R1 X1 vr h1=>?_) h5))
 clear h
 refine wpAny_bind (wpAny_standAt (wpAny_pure (wpAny_bind (wpAny_pure ?_))))
 refine Zc h1 fun i hi h2=>Zc h2 fun p hp h3=>Zf h3 fun hb hk=>?_
 clear h1 h2 h3
 obtain rfl:=Zk hi
 obtain⟨rfl,_⟩:=vr
 obtain⟨ci,hci,hex⟩:=ZZ (show og (g.P.clss.get (cN p.1)) _=true from hb)
 obtain⟨sub,ty⟩:=(OK.cls _ ci hci).rz hex
 have ho:=Z9 hp
 obtain⟨oe,vs,m,kk,d,z,tb,own,cx⟩:ExcR g σ1 _ _ p.1 p.2.1 p.2.2:=R1.trk i _ ho
 have hg:=(R1.N _ m).1
 have X:=hc.X R1
 have L0:Looks g.M σ1.s.heap (typeOf (.ref (σ1.ρ (2 * i)))) (excV (cN p.1)):=by
  have:=(Looks.ld (M:=g.M) (part:=none) hg).andThen (f:=fun o=>pure o.cls) .now
  rw[kk] at this; exact this
 have L2:Looks g.M σ1.s.heap (isInstance (.ref (σ1.ρ (2 * i))) (.type "BaseException")) true:=L0.andThen (looks_subIn X sub)
 have L3:Looks g.M σ1.s.heap (typeOf (excV (cN p.1))) (.type "type"):=by
  rcases ty with ty | ty
  ·exact looks_typeIn X ty
  ·exact Looks.of_pure ty
 have L4:Looks g.M σ1.s.heap (isType (.ref (σ1.ρ (2 * i)))) false:=by
  refine(Looks.ld hg).andThen ?_
  rw[d]; exact .now
 have L1:Looks g.M σ1.s.heap (isExcClass (.ref (σ1.ρ (2 * i)))) false:=L4.andThen (by rw[if_neg Bool.false_ne_true]; exact .now)
 refine wpAny_bind (wpAny_holding (wpAny_bind (L1.here ?_)))
 rw[if_neg Bool.false_ne_true]
 refine wpAny_bind (L2.here ?_)
 rw[if_pos rfl]
 refine wpAny_pure ?_
 refine wpAny_bind (L4.here ?_)
 rw[if_neg Bool.false_ne_true]
 refine wpAny_bind (wpAny_bind (L0.here (wpAny_bind (L3.here ?_))))
 rw[if_pos (show (Value.type "type" == Value.type "type")=true from beq_self_eq_true _)]
 refine wpAny_pure (wpAny_bind (ZQ R1 ho fun σ2 R2 X2 qt=>?_))
 obtain⟨e1,e2,e3,e4⟩:=qt
 rw[← e1,← e2,← e3] at hk
 have ho2 : σ2.h.get i=some (.exc p.1 p.2.1 p.2.2):=by rw[e1]; exact ho
 have fin:ke i σ2.h σ2.nx σ2.lo=true→Er (.ref (σ1.ρ (2 * i))) σ2.s:=fun hk=>by
  rw[← e4]
  exact h5 σ2 i R2 (X1.trans X2) ⟨_,_,_,ho2⟩ hk
 have stay:(c.hd.hd=none∨c.hd.hd=some i)→ke i σ2.h σ2.nx σ2.lo=true→wpAny g.M c.A (raiseNew (.ref (σ1.ρ (2 * i))):Sem Flow) Q Er σ2.s:=fun q hk=>by
  unfold raiseNew
  refine wpAny_bind (wpAny_handled ?_)
  rw[hc.hn]
  rcases q with q | q
  ·rw[q]; exact wpAny_throw (fin hk)
  ·rw[q]
   have hh:=(R1.hh i q).2
   have fin:=fin hk
   rw[hh] at fin ⊢
   show wpAny _ _ (if (Value.ref c.he != Value.ref c.he)=true then _ else _) _ _ _
   rw[if_neg (by rw[bne_self_eq_false]; exact Bool.false_ne_true)]
   exact wpAny_throw fin
 unfold Zi9 at hk
 cases hd:c.hd.hd with
 | none=>
  rw[hd] at hk
  exact stay (.inl hd) hk
 | some j=>
  rw[hd] at hk
  have hk:(bif Nat.beq i j then ke i σ2.h σ2.nx σ2.lo else og (ZaJ σ2.h j) fun q=>bif Nat.blt q.1 nX&&Nat.blt p.1 nX then ke i (Mn.hp σ2.h i (.exc (p.1 + nX) p.2.1 p.2.2)) σ2.nx σ2.lo else false)=true:=hk
  cases hij:Nat.beq i j with
  | true=>
   rw[hij] at hk
   obtain rfl:=Yn hij
   exact stay (.inr hd) hk
  | false=>
   rw[hij] at hk
   refine Zc (show og (ZaJ σ2.h j) _=true from hk) fun q hq hk2=>Zf hk2 fun hb hk3=>?_
   clear hk hk2 fin stay
   obtain⟨b1,b2⟩:=Yb hb
   have b1:=Nat.blt_eq.mp b1
   have b2:=Nat.blt_eq.mp b2
   have hne:i≠j:=fun e=>by rw[e,Nat.beq_refl] at hij; cases hij
   have hoj:=Z9 hq
   obtain⟨oj,vj,mj,kj,dj,zj,tbj,ownj,cxj⟩:ExcR g σ2 _ _ q.1 q.2.1 q.2.2:=R2.trk j _ hoj
   obtain⟨oi,vi,mi,ki,di,zi,tbi,owni,cxi⟩:ExcR g σ2 _ _ p.1 p.2.1 p.2.2:=R2.trk i _ ho2
   have hh:=(R2.hh j hd).2
   have ui:=Zh ho2
   have nea:c.he≠σ2.ρ (2 * i):=fun e=>by
    rw[← hh] at e
    have:=R2.inj _ _ (Zh hoj) ui e
    omega
   rw[hh] at mj
   rw[← e4]
   have gi:=(R2.N _ mi).1
   have d₃:=Obj.data_mapFields di (·.setIfInBounds 2 (Value.ref c.he))
   refine Zfj (by rw[hc.hn,hd]; rfl) nea (R2.N _ mj).1 dj (cxj b1) gi di (Nat.lt_trans (by decide) zi) ?_
   obtain⟨F',N'⟩:=ZB R2 mi (Heap.SameBut.update σ2.s.heap (σ2.ρ (2 * i)) (Obj.mapFields (·.setIfInBounds 2 (Value.ref c.he)))) (Heap.get?_update_self _ gi (Obj.isFreed_of_fields d₃))
   have dd:(Obj.mapFields (·.setIfInBounds 2 (Value.ref c.he)) oi).dict=oi.dict:=by unfold Obj.mapFields; split <;> rfl
   obtain⟨R3,X3⟩:=R2.upd (tk:=σ2.s.toks) (k:=2 * i) ho2 ui (Zr i) (o2:=.exc (p.1 + nX) p.2.1 p.2.2) rfl mi F' N' (fun σ' er en Z=>by
    show ORa g σ' (σ'.ρ (2 * i)) (σ'.ρ (2 * i + 1)) _
    rw[er]
    refine⟨_,_,by rw[en]; exact Zu mi,(Obj.cls_mapFields _ _).trans (ki.trans (congrArg excV (show p.1 % nX=(p.1 + nX) % nX by rw[Nat.add_mod_right]))),d₃,by rw[Array.size_setIfInBounds]; exact zi,?_,?_,fun q=>absurd q (Nat.not_lt.mpr (Nat.le_add_left _ _))⟩
    ·cases ht:p.2.1 with
     | true=>
      rw[ht] at tbi
      obtain⟨T,q,r⟩:=tbi
      exact⟨T,(Array.getElem?_setIfInBounds_ne (by decide)).trans q,Z.tb T r⟩
     | false=>
      rw[ht] at tbi
      exact(Array.getElem?_setIfInBounds_ne (by decide)).trans tbi
    ·cases hf:p.2.2 with
     | nil=>rw[hf] at owni; exact dd.trans owni
     | cons a f=>
      rw[hf] at owni ho2
      refine⟨dd.trans owni.1,owni.2.mono0 Z fun x hm=>?_⟩
      rw[en]
      refine Zs hm fun e=>?_
      exact absurd (R2.inj _ _ (ZR ho2 rfl) ui e) (Nat.succ_ne_self _))
   have fin:=h5 _ i R3 ((X1.trans X2).trans X3) ⟨_,_,_,by show (Mn.hp σ2.h i _).get i = _; rw[Zm,if_pos rfl]⟩ hk3
   exact fin
end
section
variable {g:Gl} {r:Rec} {n k:Nat} {c:Cx} {σ : St} {Er:Value→Shared→Prop} {kn kb kc:KS} {kr:V→KS} {ke:Nat→KS}
theorem Zfx (HA:AllS g r n) (hc:CxOK g c (n + 1)) {v:V} {rv:Value}:∀ {ts:List PySem.Expr} {k:Nat} {σ : St} {kn:KS} {Q:Unit→Shared→Prop},Rel g c σ→VR g σ v rv→
  allF (cTs k c.env.scope.names ts) r v c.hd ke kn σ.h σ.nx σ.lo=true→PU g c σ kn (Q ())→PX g c σ ke Er→wpAny g.M c.A (assignAll rv (ts.map fun t=>assign t c.env)) Q Er σ.s:=fun {ts}=>by
 induction ts with
 | nil=>
  intro k σ kn Q R hv h hQ hE
  cases k with
  | zero=>exact Za h
  | succ k=>exact wpAny_pure (hQ σ R (.refl ..) h)
 | cons t ts ih=>
  intro k σ kn Q R hv h hQ hE
  cases k with
  | zero=>exact Za h
  | succ k=>
   have h:r.asg (cT k c.env.scope.names t) v c.hd σ.h σ.nx σ.lo (fun h nx lo=>allF (cTs k c.env.scope.names ts) r v c.hd ke kn h nx lo) ke=true:=h
   cases ts with
   | nil=>
    refine HA.asg c hc.down k t σ R v rv hv _ _ h _ _ (fun σ' R' X' hk=>?_) hE
    cases k with
    | zero=>exact Za hk
    | succ k=>exact hQ σ' R' X' hk
   | cons t2 ts=>
    show wpAny _ _ (do holding [rv] (assign t c.env rv); assignAll rv ((t2 :: ts).map fun t=>assign t c.env)) _ _ _
    refine wpAny_bind (wpAny_holding (HA.asg c hc.down k t σ R v rv hv _ _ h _ _ (fun σ' R' X' hk=>?_) hE))
    exact ih R' (hv.mono X' R) hk (hQ.of X') (hE.of X')
theorem Zj4 {env:Env} {l:List Arg} (h:(l.all fun y=>y.annotation.isNone)=true):annotationsOf l env = []:=by
 induction l with
 | nil=>rfl
 | cons a l ih=>
  obtain⟨nm,an,p⟩:=a
  obtain⟨h1,h2⟩:=Yb (List.all_cons.symm.trans h)
  cases an with
  | none=>exact ih h2
  | some _=>exact Za h1
theorem Zmk (OK:POK g.P g.K g.tabs g.dn) (HA:AllS g r n) (hc:CxOK g c (n + 1)) (R:Rel g c σ) {x:Str} {A:Arguments} {body:List Stmt} {ds:List PySem.Expr} {rt:Option PySem.Expr} {tp:List TypeParam} {scope:Scope} {ts:Option Scope} {bind:Str} {pos:Pos} {Q:Flow→Shared→Prop}
  (hb:(gdn x&&bind==x&&(c.env.scope.names.lookup x==some .local||c.env.scope.names.lookup x==some .cell)&&Za9 A scope&&ds.isEmpty&&rt.isNone&&tp.isEmpty&&ts.isNone&&(A.args.all fun y=>y.annotation.isNone))=true)
  (h:Zjb (enc x) (ZcM (enc x) (c.env.scope.names.lookup x)) (.f ⟨pos.line,pos.col,A.args.map fun x=>enc x.arg,[],[],ZC scope.names⟩ (cSs k scope.names body)) g.P r c.hd σ.h σ.nx σ.lo kn kb kc kr ke=true)
  (h1:PU g c σ kn (Q .next)) (h5:PX g c σ ke Er):wpAny g.M c.A (exec (.FunctionDef x A body ds rt tp scope ts bind pos) c.env) Q Er σ.s:=by
 simp only [Bool.and_eq_true,Bool.or_eq_true,beq_iff_eq,List.isEmpty_iff,Option.isNone_iff_eq_none] at hb
 obtain⟨⟨⟨⟨⟨⟨⟨⟨gx,rfl⟩,hk0⟩,ok⟩,rfl⟩,rfl⟩,rfl⟩,rfl⟩,ann⟩:=hb
 have LK:=Zca ok
 have g3:=Zdg gx
 refine Zc (show og (Zbr g.P pos.line pos.col) _=true from h) fun m' hm' h2=>Zf h2 fun hb hk=>?_
 clear h h2
 obtain⟨hb,b3⟩:=Yb hb
 obtain⟨b1,b2⟩:=Yb hb
 obtain⟨gd',en⟩:=(OK.dfs _ _).2 m' hm'
 have hname:bind=g.dn pos.line pos.col:=Zw g3.1 gd' ((Yn b3).symm.trans en.symm)
 have hAp:=Zbw LK.plain
 have hann:annTrees A none c.env = []:=by
  rw[hAp]
  show annotationsOf (A.args ++ [] ++ [] ++ [] ++ []) c.env ++ [] = []
  rw[List.append_nil,List.append_nil,List.append_nil,List.append_nil,List.append_nil]
  exact Zj4 ann
 have hdf:defaultsOf A c.env=([],[]):=by rw[hAp,LK.dfl]; rfl
 have hq:qualnameIn c.env bind bind=c.env.qual++bind:=by
  unfold qualnameIn
  rw[if_neg]
  show ¬ ((c.env.scope.names.lookup bind==some NameKind.globalExplicit)=true)
  rcases hk0 with e | e <;> rw[e] <;> decide
 rw[exec_def,hdf,hann,hq]
 refine wpAny_bind (wpAny_standAt (wpAny_bind (wpAny_holding ?_)))
 refine wpAny_bind (wpAny_pure (wpAny_bind (wpAny_holding (wpAny_pure (wpAny_holding (wpAny_bind (wpAny_pure ?_)))))))
 refine ZhC OK hc R (f:=.f ⟨pos.line,pos.col,A.args.map fun x=>enc x.arg,[],[],ZC scope.names⟩ (cSs k scope.names body)) (k:=k) (fb:=.stmts body) rfl rfl ⟨rfl,rfl⟩ rfl ok hname b1 b2 fun σ' y R' X' v e1 e2 e3=>?_
 have hasg:r.asg (cT 1 c.env.scope.names (.Name bind pos)) (.ref σ.nx) c.hd σ'.h σ'.nx σ'.lo kn ke=true:=by
  show r.asg (cond (gdn bind) (ZcM (enc bind) (c.env.scope.names.lookup bind)) bad) _ _ _ _ _ _ _=true
  rw[gx,e1,e2,e3]
  exact hk
 have z:=HA.asg c hc.down 1 (.Name bind pos) σ' R' (.ref σ.nx) (.ref y) v kn ke hasg (fun _ s'=>Q .next s') Er (fun σ2 R2 X2 hk=>h1 σ2 R2 (X'.trans X2) hk) (h5.of X')
 rw[PySem.assign_Name] at z
 have z2:=wpAny_bind (f:=fun _=>pure Flow.next) (wpAny_mono z (fun _ _ q=>wpAny_pure q) fun _ _ q=>q)
 rw[bind_assoc] at z2
 exact z2
end
section
variable {M:Model} {A:Around} {E:Value→Shared→Prop} {s:Shared} {env:Env}
theorem Zfy {n:Str} {pos:Pos} {m:Str→Option Value} {Q:Unit→Shared→Prop} (hl:env.kindOf n=some .local) (hn:s.heap.Ns env.locals m) (hk:env.scope.kind=.function)
  (h:∀ h' v,h'.Ns env.locals (fun y=>if y=n then v else m y)→Heap.SameBut env.locals s.heap h'→Q () { s with heap:=h',toks:=s.toks + 1 }) :
  wpAny M A (do bindName env n .none; unbindBehindTheSuite env n pos) Q E s:=by
 have hp:(env.scope.kind == .class||(env.scope.kind == .module&&env.locals != env.globals))=false:=by rw[hk]; rfl
 refine wpAny_bind (wpAny_bindName (wpAny_storeName_local hl hn (fun h₁ hn₁ hs₁=>?_) hp))
 unfold unbindBehindTheSuite
 refine wpAny_onRaise ?_
 unfold unbindName
 refine wpAny_bind (wpAny_point (wpAny_bind ?_))
 unfold deleteName
 simp only [hl,hp]
 rw[if_neg (by decide)]
 refine wpAny_bind (wpAny_nsDel_keeps hn₁ fun h₂ v hn₂ hs₂=>?_)
 simp only [if_true,Option.isSome_some,Bool.not_true,Bool.false_eq_true,if_false]
 refine wpAny_pure (wpAny_point (h h₂ v ?_ (hs₁.trans hs₂)))
 obtain⟨o,es,ep,a1,a2,a3,a4⟩:=hn₂
 exact⟨o,es,ep,a1,a2,a3,fun y=>(a4 y).trans (by by_cases q:y=n <;> simp [q])⟩
end
section
variable {g:Gl} {r:Rec} {n k:Nat} {c:Cx} {σ : St} {Er:Value→Shared→Prop} {kn kb kc:KS} {kr:V→KS} {ke:Nat→KS}
theorem ZhP {lo:Lo} {m:Str→Option Value} {x:Str} {w:Option Value} (hx:gd x=true) (l:LW g σ lo m):LW g σ (del lo (enc x)) (fun y=>if y=x then w else m y):=fun y u hy e=>by
 rw[Zim] at e
 by_cases h:y=x
 ·subst h; rw[if_pos rfl] at e; exact Ze e
 ·rw[if_neg (fun q=>h (Zw hy hx q))] at e
  show ∃ w',(if y=x then w else m y)=some w'∧_
  rw[if_neg h]; exact l y u hy e
theorem ZgQ (hc:CxOK g c n) (R:Rel g c σ) {x:Str} (hx:gd x=true) (hk:c.env.kindOf x=some .local) {pos:Pos} {A:Around} {Q:Unit→Shared→Prop}
  (hQ:∀ σ',Rel g c σ'→Ext g c σ σ'→σ'.h = σ.h→σ'.nx = σ.nx→σ'.lo=del σ.lo (enc x)→σ'.ρ = σ.ρ→Q () σ'.s):wpAny g.M A (do bindName c.env x .none; unbindBehindTheSuite c.env x pos) Q Er σ.s:=by
 rcases R.loc with⟨hL,l⟩ | ⟨hL,o,m',a,u,t,⟨es,ep,d,k,f⟩,l⟩
 ·refine Zfy hk (by rw[hL]; exact R.F.ns) hc.ek (fun h' v hn hs=>?_)
  rw[hL] at hn hs
  obtain⟨R',X'⟩:=R.store (tk:=σ.s.toks + 1) (lo':=del σ.lo (enc x)) hL (R.F.set hn hs) (R.N.set hs) fun σ' Z=>ZhP hx (l.mono0 Z)
  exact hQ _ R' X' rfl rfl rfl rfl
 ·refine Zfy hk ⟨o,es,ep,(R.N _ a).1,d,k,f⟩ hc.ek (fun h' v hn hs=>?_)
  obtain⟨o',es',ep',ho',d',k',f'⟩:=hn
  obtain⟨F',N'⟩:=ZB R a hs ho'
  obtain⟨R',X'⟩:=R.storeN (tk:=σ.s.toks + 1) (lo':=del σ.lo (enc x)) hL F' N' ⟨es',ep',d',k',f'⟩ (fun σ' Z=>ZhP hx (l.mono0 Z)) fun o2 h2=>by
   have:=Zn R.N a h2
   subst this
   exact ZaZ d
  exact hQ _ R' X' rfl rfl rfl rfl
theorem Zdm (R:Rel g c σ) {i:Nat} (x:IsXt σ i) {α : Type} {w:String} {A:Around} {env:Env} {Q : α→Shared→Prop} (hQ:∀ σ',Rel g c σ'→Ext g c σ σ'→Quiet σ σ'→Er (.ref (σ'.ρ (2 * i))) σ'.s):wpAny g.M A (passOn w (.ref (σ.ρ (2 * i))) env) Q Er σ.s:=by
 obtain⟨C,f,ho⟩:=x
 obtain⟨oe,vs,m,k,d,z,⟨T,e,tb⟩,own,_⟩:ExcR g σ _ _ C true f:=R.trk i _ ho
 refine wpAny_bind (wpAny_field (R.N _ m).1 d e ?_)
 rw[if_neg (show ¬ ((Value.ref T==Value.none)=true) from Bool.false_ne_true)]
 refine wpAny_bind (ZQ R ho fun σ' R' X' q=>wpAny_throw ?_)
 rw[← q.2.2.2]; exact hQ σ' R' X' q
noncomputable def Cx.held (c:Cx) (i:Nat) (e:Addr):Cx:={ c with A:=c.A.mark (some (.ref e)),hd:=hdOf c.hd i,he:=e }
theorem CxOK.held (hc:CxOK g c n) (i:Nat) (e:Addr):CxOK g (c.held i e) n:=
 ⟨hc.fr,hc.ff,hc.fk,hc.ek,hc.eg,hc.eb,hc.ef,hc.Kb,hc.Tb,hc.dep,hc.uni,rfl,hc.mkk,hc.ora⟩
theorem Rel.held (R:Rel g c σ) {i:Nat} (x:IsX σ i):Rel g (c.held i (σ.ρ (2 * i))) σ:=by
 obtain⟨C,t,f,ho⟩:=x
 exact⟨⟨R.nd,R.fr,R.inj,R.trk,R.cs,R.loc,R.tab,R.B,fun j hj=>by cases hj; exact⟨R.lt ho,rfl⟩⟩,R.F,R.N,R.gens,R.os⟩
theorem Rel.unheld {σ':St} {i:Nat} {e:Addr} (R0:Rel g c σ) (R:Rel g (c.held i e) σ') (X:Ext g (c.held i e) σ σ'):Rel g c σ'∧Ext g c σ σ':=
 ⟨⟨⟨R.nd,R.fr,R.inj,R.trk,R.cs,R.loc,R.tab,R.B,fun j hj=>⟨Nat.lt_of_lt_of_le (R0.hh j hj).1 X.nx,(X.ρ j (R0.hh j hj).1).trans (R0.hh j hj).2⟩⟩,R.F,R.N,R.gens,R.os⟩,⟨X.nx,X.ρ,X.pin,X.tb,X.m,X.turn⟩⟩
theorem PU.held {i:Nat} {e:Addr} {k:KS} {Q:Shared→Prop} (R0:Rel g c σ) (h:PU g c σ k Q):PU g (c.held i e) σ k Q:=fun σ' R X hk=>h σ' (R0.unheld R X).1 (R0.unheld R X).2 hk
theorem PV.held {i:Nat} {e:Addr} {k:V→KS} {Q:Value→Shared→Prop} (R0:Rel g c σ) (h:PV g c σ k Q):PV g (c.held i e) σ k Q:=fun σ' v rv R X vr hk=>h σ' v rv (R0.unheld R X).1 (R0.unheld R X).2 vr hk
theorem Zf6 {k:Nat} {sc:Sc} {ss:List Stmt} (h:ZaR (cSs k sc ss)=true):ss = []:=by
 cases k with
 | zero=>exact Za h
 | succ k=>cases ss with | nil=>rfl | cons _ _=>exact Za h
theorem Zj5 {k:Nat} {sc:Sc} {hs:List ExceptHandler} (h:ZaR (cHs k sc hs)=true):hs = []:=by
 cases k with
 | zero=>exact Za h
 | succ k=>
  cases hs with
  | nil=>rfl
  | cons hd r=>
   obtain⟨t,x,b,pos⟩:=hd
   cases t with
   | none=>exact Za h
   | some t=>
    have h:ZaR (cH1 (ZdE sc x) (isNm t&&!b.isEmpty) (cE k sc t) (cSs k sc b) (cHs k sc r))=true:=h
    generalize ZdE sc x=w at h
    generalize (isNm t&&!b.isEmpty)=q at h
    cases w <;> cases q <;> exact Za h
end
section
variable {g:Gl} {n:Nat} {c:Cx} {σ : St} {Er:Value→Shared→Prop} {kn kb kc:KS} {kr:V→KS} {ke:Nat→KS} {Q:Flow→Shared→Prop}
theorem ZeH {P:Prg} {e:Nat} {v:V} {k:Bool→Bool} {rv:Value} (h:Zdb P e v k=true) (vr:VR g σ v rv):∃ b ci cj,rv=excV b∧P.clss.get e=some ci∧P.clss.get b=some cj∧ci.exc=true∧cj.exc=true∧k (mem ci.mro b)=true:=by
 refine Zc h fun b hb h1=>Zc h1 fun ci hci h2=>Zc h2 fun cj hcj h3=>Zf h3 fun he hk=>?_
 obtain⟨e1,e2⟩:=Yb he
 refine⟨b,ci,cj,?_,hci,hcj,e1,e2,hk⟩
 have hb:(@Option.rec Nat (fun _=>Option Nat) (Zj (vBi v) fun b=>bif Nat.blt b 20 then some b else none) (fun b=>bif Nat.ble 20 b then some b else none) (vTop v))=some b:=hb
 cases q:vTop v with
 | some a=>
  rw[q] at hb
  obtain rfl:=Zbt q
  have hb:(bif Nat.ble 20 a then some a else none)=some b:=hb
  cases q2:Nat.ble 20 a with
  | false=>rw[q2] at hb; exact Ze hb
  | true=>
   rw[q2] at hb
   cases hb
   exact vr.1.trans (if_neg (Nat.not_lt.mpr (Nat.le_of_ble_eq_true q2))).symm
 | none=>
  rw[q] at hb
  refine Zi hb fun a ha hb2=>?_
  clear hb
  obtain rfl:=Zdd ha
  have hb:(bif Nat.blt a 20 then some a else none)=some b:=hb2
  clear hb2
  cases q2:Nat.blt a 20 with
  | false=>rw[q2] at hb; exact Ze hb
  | true=>
   rw[q2] at hb
   cases hb
   exact(show rv=biV _ from vr).trans (if_pos (Nat.blt_eq.mp q2)).symm
theorem Rel.tyX (R:Rel g c σ) {i C:Nat} {t:Bool} {f:Lo} (ho : σ.h.get i=some (.exc C t f)) {M:Model}:Looks M σ.s.heap (typeOf (.ref (σ.ρ (2 * i)))) (excV (cN C)):=by
 obtain⟨oe,vs,m,kk,d,z,tb,own,_⟩:ExcR g σ _ _ C t f:=R.trk i _ ho
 have:=(Looks.ld (M:=M) (part:=none) (R.N _ m).1).andThen (f:=fun o=>pure o.cls) .now
 rw[kk] at this; exact this
theorem Zj6 (HA:AllS g r n) (hc:CxOK g c n) (own:c.env=c.fenv) {k i:Nat} {b0:Stmt} {b:List Stmt} {pos:Pos} (R:Rel g c σ) (x:IsXt σ i)
  (h:r.ex (cSs k c.env.scope.names (b0 :: b)) (hdOf c.hd i) σ.h σ.nx σ.lo kn kb kc kr (fun j h nx lo=>Zz h j fun h=>ke j h nx lo)=true)
  (h1:PU g c σ kn (Q .next)) (h2:PU g c σ kb (Q .brk)) (h3:PU g c σ kc (Q .cont)) (h4:PV g c σ kr (fun v=>Q (.ret v))) (h5:PX g c σ ke Er) :
  codeAny g.M (c.A.mark (some (.ref (σ.ρ (2 * i))))) (.handlers (.ref (σ.ρ (2 * i))) [.ExceptHandler none none (b0 :: b) pos] c.env) (fun r s₂=>match r with
   | .ok f=>Q f s₂
   | .error x=>cameBackBy g.M c.A c.env Er x s₂) σ.s:=by
 obtain⟨C,f,ho⟩:=x
 refine codeAny_handlers_suite (ZQ R ho fun σ1 R1 X1 q=>?_)
 have ho1:IsXt σ1 i:=⟨C,f,by rw[q.1]; exact ho⟩
 obtain⟨q1,q2,q3,q4⟩:=q
 rw[← q4]
 refine HA.ex (c.held i (σ1.ρ (2 * i))) (hc.held i _) own k _ σ1 (R1.held ho1.x) _ _ _ _ _ (by rw[q1,q2,q3]; exact h) _ _ ((h1.of X1).held R1) ((h2.of X1).held R1) ((h3.of X1).held R1) ((h4.of X1).held R1) (fun σ2 j R2 X2 x2 hk=>?_)
 show notedBy g.M (c.held i (σ1.ρ (2 * i))).A c.env _ _ _
 rw[own]
 refine Zee (hc.held i (σ1.ρ (2 * i))) R2 x2 hk fun σ3 R3 X3 x3 hk e2 e3=>?_
 obtain⟨R3',X3'⟩:=R1.unheld R3 (X2.trans X3)
 refine ZdS R3' x3 fun σ4 R4 X4 q=>h5 σ4 j R4 ((X1.trans X3').trans X4) (q.isXt x3) ?_
 rw[q.1,q.2.1,q.2.2.1,e2,e3]; exact hk
theorem ZhQ (HA:AllS g r n) (hc:CxOK g c n) (own:c.env=c.fenv) {k i:Nat} {b0:Stmt} {b:List Stmt} {pos:Pos} {x:Str} (hx:gd x=true) (hk:c.env.kindOf x=some .local) (R:Rel g c σ) (xt:IsXt σ i)
  (h:r.ex (cSs k c.env.scope.names (b0 :: b)) (hdOf c.hd i) σ.h σ.nx (upd σ.lo (enc x) (.ref i)) (fun h nx lo=>kn h nx (del lo (enc x))) (fun h nx lo=>kb h nx (del lo (enc x))) (fun h nx lo=>kc h nx (del lo (enc x))) (fun v h nx lo=>kr v h nx (del lo (enc x))) (fun j h nx lo=>Zz h j fun h=>ke j h nx (del lo (enc x)))=true)
  (h1:PU g c σ kn (Q .next)) (h2:PU g c σ kb (Q .brk)) (h3:PU g c σ kc (Q .cont)) (h4:PV g c σ kr (fun v=>Q (.ret v))) (h5:PX g c σ ke Er) :
  codeAny g.M (c.A.mark (some (.ref (σ.ρ (2 * i))))) (.handlers (.ref (σ.ρ (2 * i))) [.ExceptHandler none (some x) (b0 :: b) pos] c.env) (fun r s₂=>match r with
   | .ok f=>wpAny g.M c.A (do bindName c.env x .none; unbindBehindTheSuite c.env x pos) (fun _ s₃=>Q f s₃) Er s₂
   | .error x=>cameBackBy g.M c.A c.env Er x s₂) σ.s:=by
 obtain⟨C,f,ho⟩:=xt
 refine codeAny_handlers_suite_as (ZQ R ho fun σ1 R1 X1 q=>?_)
 have ho1:IsXt σ1 i:=⟨C,f,by rw[q.1]; exact ho⟩
 obtain⟨q1,q2,q3,q4⟩:=q
 rw[← q4]
 have RH:=R1.held ho1.x
 refine Zfu (hc.held i (σ1.ρ (2 * i))) RH hx hk (v:=.ref i) ⟨rfl,R1.lt ho1.choose_spec.choose_spec⟩ fun σ2 R2 X2 e1 e2 e3=>?_
 -- behind the suite
 have goes:∀ {σ3:St} {Q':Shared→Prop} {A:Around} {E':Value→Shared→Prop},Rel g (c.held i (σ1.ρ (2 * i))) σ3→Ext g (c.held i (σ1.ρ (2 * i))) σ2 σ3→(∀ σ4,Rel g (c.held i (σ1.ρ (2 * i))) σ4→Ext g (c.held i (σ1.ρ (2 * i))) σ3 σ4→Rel g c σ4→Ext g c σ σ4→σ4.h = σ3.h→σ4.nx = σ3.nx→σ4.lo=del σ3.lo (enc x)→σ4.ρ = σ3.ρ→Q' σ4.s)→
   wpAny g.M A (do bindName c.env x .none; unbindBehindTheSuite c.env x pos) (fun _ s=>Q' s) E' σ3.s:=fun {σ3 Q' A E'} R3 X3 f=>ZgQ (hc.held i (σ1.ρ (2 * i))) R3 hx hk fun σ4 R4 X4 f1 f2 f3 f4=>by
  obtain⟨a,b⟩:=R1.unheld R4 ((X2.trans X3).trans X4)
  exact f σ4 R4 X4 a (X1.trans b) f1 f2 f3 f4
 refine HA.ex (c.held i (σ1.ρ (2 * i))) (hc.held i _) own k _ σ2 R2 _ _ _ _ _ (by rw[e1,e2,e3,q1,q2,q3]; exact h) _ _ (fun σ3 R3 X3 hk=>?_) (fun σ3 R3 X3 hk=>?_) (fun σ3 R3 X3 hk=>?_) (fun σ3 v rv R3 X3 vr hk=>?_) (fun σ3 j R3 X3 x3 hk=>?_)
 ·exact goes R3 X3 fun σ4 _ _ R4 X4 f1 f2 f3 _=>h1 σ4 R4 X4 (by rw[f1,f2,f3]; exact hk)
 ·exact goes R3 X3 fun σ4 _ _ R4 X4 f1 f2 f3 _=>h2 σ4 R4 X4 (by rw[f1,f2,f3]; exact hk)
 ·exact goes R3 X3 fun σ4 _ _ R4 X4 f1 f2 f3 _=>h3 σ4 R4 X4 (by rw[f1,f2,f3]; exact hk)
 ·exact goes R3 X3 fun σ4 _ Y4 R4 X4 f1 f2 f3 _=>h4 σ4 v rv R4 X4 (vr.mono Y4 R3) (by rw[f1,f2,f3]; exact hk)
 ·obtain⟨D,t,ff,hoj⟩:=x3
  have hk:=ZaM hoj hk
  have n1:=fun {Q':Unit→Shared→Prop} {E'} (f : _)=>Zbl (Er:=E') (hc.held i (σ1.ρ (2 * i))) R3 hoj (Q:=Q') f
  rw[own]
  refine n1 fun σ4 R4 X4 f1 f2 f3 f4=>?_
  have hoj4 : σ4.h.get j=some (.exc D true ff):=by rw[f1,Z7 hoj,if_pos rfl]
  rw[← f4,← own]
  refine goes R4 (X3.trans X4) fun σ5 R5 X5 R5c X5c g1 g2 g3 g4=>?_
  have hoj5:IsXt σ5 j:=⟨D,ff,by rw[g1]; exact hoj4⟩
  rw[← g4]
  refine Zdm R5 hoj5 fun σ6 R6 X6 q6=>?_
  have hoj6:IsXt σ6 j:=⟨D,ff,by rw[q6.1,g1]; exact hoj4⟩
  show notedBy g.M (c.held i (σ1.ρ (2 * i))).A c.env _ _ _
  rw[own]
  obtain⟨_,_,hoj6'⟩:=id hoj6
  refine Zbl (hc.held i (σ1.ρ (2 * i))) R6 hoj6' fun σ7 R7 X7 k1 k2 k3 k4=>?_
  have k1 : σ7.h = σ6.h:=k1
  obtain⟨R7c,X7c⟩:=R1.unheld R7 ((((X2.trans X3).trans X4).trans X5).trans (X6.trans X7))
  rw[← k4]
  refine ZdS R7c ⟨D,ff,by rw[k1,q6.1,g1]; exact hoj4⟩ fun σ8 R8 X8 q8=>h5 σ8 j R8 ((X1.trans X7c).trans X8) ⟨D,true,ff,by rw[q8.1,k1,q6.1,g1]; exact hoj4⟩ ?_
  rw[q8.1,q8.2.1,q8.2.2.1,k1,k2,k3,q6.1,q6.2.1,q6.2.2.1,g1,g2,g3,f1,f2,f3]
  exact hk
end
section
variable {g:Gl} {n:Nat} {c:Cx} {Er:Value→Shared→Prop} {kn kb kc:KS} {kr:V→KS} {ke:Nat→KS} {Q:Flow→Shared→Prop}
theorem ZiC {t:PySem.Expr} (h:isNm t=true):∃ y p,t=.Name y p:=by
 cases t <;> first | exact⟨_,_,rfl⟩ | exact Za h
theorem Zlg (OK:POK g.P g.K g.tabs g.dn) (HA:∀ m,m≤n→AllS g (rec g.P m) m) (own:c.env=c.fenv) {i:Nat}:∀ {hs:List ExceptHandler} {m:Nat},m≤n→CxOK g c m→∀ {k:Nat} {σ : St},Rel g c σ→IsXt σ i→
  (rec g.P m).hand i (cHs k c.env.scope.names hs) c.hd σ.h σ.nx σ.lo kn kb kc kr ke=true→PU g c σ kn (Q .next)→PU g c σ kb (Q .brk)→PU g c σ kc (Q .cont)→PV g c σ kr (fun v=>Q (.ret v))→PX g c σ ke Er→wpAny g.M c.A (handleBy (.ref (σ.ρ (2 * i))) c.env hs) Q Er σ.s:=fun {hs}=>by
 induction hs with
 | nil=>
  intro m hm hc k σ R x h h1 h2 h3 h4 h5
  have hk:ke i σ.h σ.nx σ.lo=true:=by
   cases m with
   | zero=>exact Za h
   | succ m=>cases k with | zero=>exact Za h | succ k=>exact h
  exact wpAny_handleBy_nil (Zdm R x fun σ' R' X' q=>h5 σ' i R' X' (q.isXt x) (by rw[q.1,q.2.1,q.2.2.1]; exact hk))
 | cons hdl rest ih=>
  intro m hm hc k σ R x h h1 h2 h3 h4 h5
  obtain⟨t,nm,b,pos⟩:=hdl
  cases m with
  | zero=>exact Za h
  | succ m=>
   cases k with
   | zero=>exact Za h
   | succ k=>
    cases t with
    | none=>exact Za h
    | some t=>
     have h:Zje g.P (rec g.P m) i (cH1 (ZdE c.env.scope.names nm) (isNm t&&!b.isEmpty) (cE k c.env.scope.names t) (cSs k c.env.scope.names b) (cHs k c.env.scope.names rest)) c.hd σ.h σ.nx σ.lo kn kb kc kr ke=true:=h
     cases hn:ZdE c.env.scope.names nm with
     | none=>rw[hn] at h; exact Za h
     | some mm=>
      rw[hn] at h
      cases hok:(isNm t&&!b.isEmpty) with
      | false=>rw[hok] at h; exact Za h
      | true=>
       rw[hok] at h
       obtain⟨o1,o2⟩:=Yb hok
       refine Zc (show og (ZaJ σ.h i) (fun p=>(rec g.P m).ev (cE k c.env.scope.names t) (hdOf c.hd i) σ.h σ.nx σ.lo (fun v h nx lo=>Zdb g.P (cN p.1) v fun t=>
        bif t then bif Nat.beq mm 0 then(rec g.P m).ex (cSs k c.env.scope.names b) (hdOf c.hd i) h nx lo kn kb kc kr (fun j h nx lo=>Zz h j fun h=>ke j h nx lo)
         else(rec g.P m).ex (cSs k c.env.scope.names b) (hdOf c.hd i) h nx (upd lo mm (.ref i)) (fun h nx lo=>kn h nx (del lo mm)) (fun h nx lo=>kb h nx (del lo mm)) (fun h nx lo=>kc h nx (del lo mm)) (fun v h nx lo=>kr v h nx (del lo mm)) (fun j h nx lo=>Zz h j fun h=>ke j h nx (del lo mm))
        else(rec g.P m).hand i (cHs k c.env.scope.names rest) c.hd h nx lo kn kb kc kr ke) (fun _ _ _ _=>false))=true from h) fun p hp h=>?_
       obtain⟨y,py,rfl⟩:=ZiC o1
       ·cases m with
        | zero=>exact Za h
        | succ m=>
         cases k with
         | zero=>exact Za h
         | succ k=>
          have hcm:CxOK g c (m + 1):=hc.down
          have ho:=Z9 hp
          have ce:=Z0 (g:=g) (r:=rec g.P m) (c:=c.held i (σ.ρ (2 * i))) (σ:=σ) (show evG g.P (rec g.P m) (cond (gdn y) (ZeS (enc y) (c.env.scope.names.lookup y)) bad) (hdOf c.hd i) σ.h σ.nx σ.lo _ _=true from h)
          obtain⟨v,rv,vr,hv,hev⟩:=ZfW (r:=rec g.P m) (c:=c.held i (σ.ρ (2 * i))) (pos:=py) OK (hcm.held i _) (R.held x.x) ce.1 rfl ce.2
          obtain⟨d,ci,cj,rfl,hci,hcj,e1,e2,hm'⟩:=ZeH hv vr
          have LK:=exm_one (M:=g.M) (hcm.X R) (R.tyX ho) (OK.exm _ d ci cj hci hcj e1 e2)
          refine wpAny_handleBy_cons (codeAny_handlers_test (hev _ _ _ (LK.here ?_))) nofun
          cases hb2:mem ci.mro d with
          | false=>
           rw[hb2] at hm'
           exact ih (Nat.le_of_succ_le hm) hcm R x hm' h1 h2 h3 h4 h5
          | true=>
           rw[hb2] at hm'
           have HAm:=HA (m + 1) (Nat.le_of_succ_le hm)
           cases b with
           | nil=>exact Za o2
           | cons b0 b=>
            cases nm with
            | none=>
             obtain rfl : 0=mm:=Option.some.inj hn
             exact Zj6 HAm hcm own R x hm' h1 h2 h3 h4 h5
            | some z=>
             have hn:(if (gd z&&c.env.scope.names.lookup z==some .local&&Nat.blt 0 (enc z))=true then some (enc z) else none)=some mm:=hn
             cases hz:(gd z&&c.env.scope.names.lookup z==some .local&&Nat.blt 0 (enc z)) with
             | false=>rw[hz,if_neg Bool.false_ne_true] at hn; exact Ze hn
             | true=>
              rw[hz,if_pos rfl] at hn
              obtain rfl:=Option.some.inj hn
              obtain⟨z1,z3⟩:=Yb hz
              obtain⟨z1,z2⟩:=Yb z1
              have z0:Nat.beq (enc z) 0=false:=by
               rw[← Bool.not_eq_true,Nat.beq_eq]
               exact Nat.ne_of_gt (Nat.blt_eq.mp z3)
              rw[z0] at hm'
              exact ZhQ HAm hcm own z1 (beq_iff_eq.mp z2) R x hm' h1 h2 h3 h4 h5
end
section
variable {g:Gl} {n k:Nat} {c:Cx} {σ : St} {Er:Value→Shared→Prop} {kn kb kc:KS} {kr:V→KS} {ke:Nat→KS} {Q:Flow→Shared→Prop}
theorem Zml (OK:POK g.P g.K g.tabs g.dn) (HA:∀ m,m≤n→AllS g (rec g.P m) m) (hc:CxOK g c (n + 1)) (own:c.env=c.fenv) (R:Rel g c σ) {b e f:List Stmt} {hs:List ExceptHandler} {pos:Pos} (hne:(hs.isEmpty&&f.isEmpty)=false)
  (h:Zjd (cSs k c.env.scope.names b) (cHs k c.env.scope.names hs) (cSs k c.env.scope.names e) (cSs k c.env.scope.names f) g.P (rec g.P n) c.hd σ.h σ.nx σ.lo kn kb kc kr ke=true)
  (h1:PU g c σ kn (Q .next)) (h2:PU g c σ kb (Q .brk)) (h3:PU g c σ kc (Q .cont)) (h4:PV g c σ kr (fun v=>Q (.ret v))) (h5:PX g c σ ke Er):wpAny g.M c.A (exec (.Try b hs e f pos) c.env) Q Er σ.s:=by
 have HAn:=HA n (Nat.le_refl _)
 have hcn:=hc.down
 have h0:(bif ZaR (cSs k c.env.scope.names f) then(rec g.P n).ex (cSs k c.env.scope.names b) c.hd σ.h σ.nx σ.lo (fun h nx lo=>(rec g.P n).ex (cSs k c.env.scope.names e) c.hd h nx lo kn kb kc kr ke) kb kc kr (fun i h nx lo=>Zz h i fun h=>(rec g.P n).hand i (cHs k c.env.scope.names hs) c.hd h nx lo kn kb kc kr ke)
  else bif ZaR (cHs k c.env.scope.names hs)&&ZaR (cSs k c.env.scope.names e) then(rec g.P n).ex (cSs k c.env.scope.names b) c.hd σ.h σ.nx σ.lo (fun h nx lo=>(rec g.P n).ex (cSs k c.env.scope.names f) c.hd h nx lo kn noK noK (fun _=>noK) (fun i h nx lo=>Zz h i fun h=>ke i h nx lo)) noK noK (fun _=>noK)
   (fun i h nx lo=>Zz h i fun h=>(rec g.P n).ex (cSs k c.env.scope.names f) (hdOf c.hd i) h nx lo (fun h nx lo=>og (ZaJ h i) fun p=>bif p.2.1 then ke i h nx lo else false) noK noK (fun _=>noK) (fun _=>noK)) else false)=true:=h
 clear h
 cases hf:ZaR (cSs k c.env.scope.names f) with
 | true=>
  rw[hf] at h0
  obtain rfl:=Zf6 hf
  cases hs with
  | nil=>exact Za hne.symm
  | cons hh hs=>
   refine wpAny_Try_except (HAn.ex c hcn own k b σ R _ _ _ _ _ h0 _ _ (fun σ' R' X' hk=>HAn.ex c hcn own k e σ' R' _ _ _ _ _ hk Q Er (h1.of X') (h2.of X') (h3.of X') (h4.of X') (h5.of X')) h2 h3 h4 (fun σ' i R' X' x hk=>?_))
   obtain⟨C,t,ff,ho⟩:=x
   have hk:=ZaM ho hk
   rw[own]
   refine Zbl hcn R' ho fun σ1 R1 X1 e1 e2 e3 e4=>?_
   have ho1 : σ1.h.get i=some (.exc C true ff):=by rw[e1,Z7 ho,if_pos rfl]
   rw[← e4]
   refine ZQ R1 ho1 fun σ2 R2 X2 q=>?_
   obtain⟨q1,q2,q3,q4⟩:=q
   have X:=X'.trans (X1.trans X2)
   rw[← q4,← own]
   exact Zlg OK HA own (Nat.le_refl _) hcn R2 ⟨C,ff,by rw[q1]; exact ho1⟩ (by rw[q1,q2,q3,e1,e2,e3]; exact hk) (h1.of X) (h2.of X) (h3.of X) (h4.of X) (h5.of X)
 | false=>
  rw[hf] at h0
  refine Zf h0 fun hb h=>?_
  clear h0
  obtain⟨b1,b2⟩:=Yb hb
  obtain rfl:=Zj5 b1
  obtain rfl:=Zf6 b2
  cases f with
  | nil=>exact Za hne.symm
  | cons f0 fs=>
   refine wpAny_Try_finally (HAn.ex c hcn own k b σ R _ _ _ _ _ h _ _ (fun σ' R' X' hk=>wpAny_execs_nil ?_) PU.no PU.no (fun _ _ _ _ _ _ h=>Za h) (fun σ' i R' X' x hk=>?_))
   ·refine HAn.ex c hcn own k _ σ' R' _ _ _ _ _ hk _ _ (h1.of X') PU.no PU.no (fun _ _ _ _ _ _ h=>Za h) (fun σ2 j R2 X2 x2 hk=>?_)
    have z:notedBy g.M c.A c.fenv (cameBackBy g.M c.A c.fenv Er) (.ref (σ2.ρ (2 * j))) σ2.s:=Zee hcn R2 x2 hk fun σ3 R3 X3 x3 hk e2 e3=>ZdS R3 x3 fun σ4 R4 X4 q=>h5 σ4 j R4 (X'.trans (X2.trans (X3.trans X4))) (q.isXt x3) (by rw[q.1,q.2.1,q.2.2.1,e2,e3]; exact hk)
    rw[← own] at z
    exact z
   ·obtain⟨C,t,ff,ho⟩:=x
    have hk:=ZaM ho hk
    rw[own]
    refine Zbl hcn R' ho fun σ1 R1 X1 e1 e2 e3 e4=>?_
    have ho1 : σ1.h.get i=some (.exc C true ff):=by rw[e1,Z7 ho,if_pos rfl]
    rw[← e4]
    refine⟨nofun,Zbl hcn R1 ho1 fun σ2 R2 X2 f1 f2 f3 f4=>?_⟩
    have f1 : σ2.h = σ1.h:=f1
    rw[← f4]
    refine ZQ R2 (by rw[f1]; exact ho1) fun σ3 R3 X3 q=>?_
    obtain⟨q1,q2,q3,q4⟩:=q
    have x3:IsXt σ3 i:=⟨C,ff,by rw[q1,f1]; exact ho1⟩
    rw[← q4,← own]
    have X:=X'.trans (X1.trans (X2.trans X3))
    refine HAn.ex (c.held i (σ3.ρ (2 * i))) (hcn.held i _) own k _ σ3 (R3.held x3.x) _ _ _ _ _ (by rw[q1,q2,q3,f1,f2,f3,e1,e2,e3]; exact hk) _ _ (fun σ4 R4 X4 hk=>?_) PU.no PU.no (fun _ _ _ _ _ _ h=>Za h) (fun _ _ _ _ _ h=>Za h)
    obtain⟨R4c,X4c⟩:=R3.unheld R4 X4
    rw[← X4.ρ i (R3.lt x3.choose_spec.choose_spec)]
    refine Zc hk fun p hp hk=>Zf hk fun hb hk=>?_
    have ho4:=Z9 hp
    rw[hb] at ho4
    have x4:IsXt σ4 i:=⟨_,_,ho4⟩
    exact Zdm R4c x4 fun σ5 R5 X5 q=>h5 σ5 i R5 (X.trans (X4c.trans X5)) (q.isXt x4) (by rw[q.1,q.2.1,q.2.2.1]; exact hk)
end
section
variable {g:Gl} {r:Rec} {n k:Nat} {c:Cx} {σ : St} {Q Er:Value→Shared→Prop} {ko:V→KS} {ke:Nat→KS}
theorem Zev {v:V} {i:Nat} (h:vUnk v=some i):v=.unk i:=by
 cases v <;> first | exact Ze h | exact congrArg V.unk (Option.some.inj h)
theorem VRs.take:∀ {vs:List V} {ws:List Value},VRs g σ vs ws→∀ b,VRs g σ (vs.take b) (ws.take b):=fun {vs}=>by
 induction vs with
 | nil=>intro ws h b; cases ws with | nil=>rw[List.take_nil,List.take_nil]; trivial | cons _ _=>exact h.elim
 | cons v vs ih=>intro ws h b; cases ws with
  | nil=>exact h.elim
  | cons w ws=>cases b with
   | zero=>trivial
   | succ b=>exact⟨h.1,ih h.2 b⟩
theorem VRs.drop:∀ {vs:List V} {ws:List Value},VRs g σ vs ws→∀ b,VRs g σ (vs.drop b) (ws.drop b):=fun {vs}=>by
 induction vs with
 | nil=>intro ws h b; cases ws with | nil=>rw[List.drop_nil,List.drop_nil]; trivial | cons _ _=>exact h.elim
 | cons v vs ih=>intro ws h b; cases ws with
  | nil=>exact h.elim
  | cons w ws=>cases b with
   | zero=>exact h
   | succ b=>exact ih h.2 b
theorem ZhR (its:List Value) (b:Nat):slicePick its.toArray none (some (Int.ofNat b)) none=(its.take b).toArray:=by
 rw[slicePick_plain]
 congr 1
 have nat:∀ m:Nat,clipAt its.toArray.size (Int.ofNat m)=min m its.length:=fun m=>by
  have:=clipAt_nat its.toArray.size m
  rwa [List.size_toArray] at this ⊢
 simp only [Option.elim,nat,List.drop_zero,Nat.sub_zero]
 rcases Nat.le_total b its.length with h | h
 ·rw[Nat.min_eq_left h]
 ·rw[Nat.min_eq_right h,List.take_of_length_le (Nat.le_refl _),List.take_of_length_le h]
theorem ZhS {A:Option PySem.Expr} (HA:AllS g r n) (hc:CxOK g c n) {b:Bool} (hb:A.isSome=b) (R:Rel g c σ) (h:optE b (A.elim nil (cE k c.env.scope.names)) r c.hd σ.h σ.nx σ.lo ko ke=true) (hQ:PV g c σ ko Q) (hE:PX g c σ ke Er) :
  wpAny g.M c.A (evalPart A c.env) Q Er σ.s:=by
 cases A with
 | none=>subst hb; exact wpAny_evalPart_none (hQ σ .none .none R (.refl ..) rfl h)
 | some e=>subst hb; exact wpAny_evalPart_some (HA.ev c hc k e σ R _ _ h _ _ hQ hE)
theorem Zj7 (HA:AllS g r n) (hc:CxOK g c (n + 1)) (R:Rel g c σ) {o:PySem.Expr} {lo hi:Option PySem.Expr} {p pos:Pos} (hn:isNm o=true)
  (h:Zd3 (cond lo.isSome (cond hi.isSome 3 1) (cond hi.isSome 2 0)) (cE k c.env.scope.names o) (lo.elim nil (cE k c.env.scope.names)) (hi.elim nil (cE k c.env.scope.names)) g.P r c.hd σ.h σ.nx σ.lo ko ke=true) (hQ:PV g c σ ko Q) (hE:PX g c σ ke Er) :
  wpAny g.M c.A (eval (.Subscript o (.Slice lo hi none p) pos) c.env) Q Er σ.s:=by
 refine wpAny_Subscript_list_slice ?_ (fun _ _=>by cases o <;> first | rfl | exact Za hn)
 refine HA.ev c hc.down k o σ R _ _ h _ _ (fun σ1 x rx R1 X1 v1 h1=>?_) hE
 refine ZhS (A:=lo) (b:=sel4 false true false true false (cond lo.isSome (cond hi.isSome 3 1) (cond hi.isSome 2 0))) HA hc.down (by cases lo <;> cases hi <;> rfl) R1 h1 (fun σ2 y ry R2 X2 v2 h2=>?_) (hE.of X1)
 refine ZhS (A:=hi) (b:=sel4 false false true true false (cond lo.isSome (cond hi.isSome 3 1) (cond hi.isSome 2 0))) HA hc.down (by cases lo <;> cases hi <;> rfl) R2 h2 (fun σ3 z rz R3 X3 v3 h3=>?_) (hE.of (X1.trans X2))
 have v1:=(v1.mono X2 R1).mono X3 R2
 have v2:=v2.mono X3 R2
 have X0:=(X1.trans X2).trans X3
 clear h h1 h2
 have fin:∀ (its:List Value) (vs:List V) (b:Nat),VRs g σ3 vs (its.take b)→vs.length≤1000000→ko (.ref σ3.nx) (hp σ3.h σ3.nx (.list vs)) (Nat.succ σ3.nx) σ3.lo=true→
   Q (.ref (σ3.s.heap.objs.size + 1)) { σ3.s with heap:=(σ3.s.heap.push { cls:=.type "slice",data:=.fields #[ry,rz,.none] }).push { cls:=.type "list",data:=.seq (slicePick its.toArray none (some (Int.ofNat b)) none) } }:=by
  intro its vs b vr hz hk
  obtain⟨R4,X4,p4⟩:=R3.alloc (tk:=σ3.s.toks) (R3.F.push { cls:=.type "slice",data:=.fields #[ry,rz,.none] }) (R3.N.push R3.F _) R3.top
  rw[ZhR]
  have:=Zhr (ko:=fun v h nx=>ko v h nx σ3.lo) (Q:=Q) (tk:=σ3.s.toks) R4 (R4.F.push (listOf (its.take b).toArray 0)) (R4.N.push R4.F _) R4.top hz (vr.mono X4 R3) hk (hQ.a (X0.trans X4))
  have e:(σ3.led ((σ3.s.heap.objs.size,{ cls:=.type "slice",data:=.fields #[ry,rz,.none] }) :: σ3.news) (σ3.s.heap.push { cls:=.type "slice",data:=.fields #[ry,rz,.none] }) σ3.s.toks).s.heap.objs.size = σ3.s.heap.objs.size + 1:=Heap.size_push ..
  rw[e] at this
  exact this
 refine Zc h3 fun j hj h4=>Zf h4 fun hy h5=>Zc h5 fun d hd h6=>Zc h6 fun u hu h7=>Zc h7 fun vs hvs h8=>Zf h8 fun hb hk=>?_
 clear h3 h4 h5 h6 h7 h8
 obtain rfl:=Zev hj
 obtain rfl:=Zao hy
 obtain rfl:=Zt hd
 obtain⟨tk,rfl⟩:=v3
 obtain rfl:ry=.none:=v2
 obtain⟨b1,b2⟩:=Yb hb
 have b1:=of_decide_eq_true b1
 obtain⟨a,items,rfl,il,hz,hvr⟩:=(hc.ora _ (ZaF hu)).sl rfl _ v1.1
 have vr:=hvr vs hvs σ3
 obtain⟨o',ho',cl',n',d'⟩:=il
 refine⟨a,items,none,some d,rfl,⟨o',R3.F.keep _ _ (R3.stays _ _ ho'),cl',n',d'⟩,Nat.le_trans hz (by decide),.none,.int d tk,?_⟩
 have:=fin items.toList vs d.toNat vr (Nat.le_trans (Nat.le_of_lt (Nat.blt_eq.mp b2)) (by decide)) hk
 rw[show some (Int.ofNat d.toNat)=some d from congrArg some (Int.toNat_of_nonneg b1)] at this
 exact this
end
section
variable {g:Gl} {r:Rec} {n k:Nat} {c:Cx} {σ : St} {Q Er:Value→Shared→Prop} {ko:V→KS} {ke:Nat→KS}
theorem ZhT {i:PySem.Expr} (h:slice? i=false) (o v:Value):subscripted i false o v=operate [o,v] (getItem o v):=by
 cases i <;> first | rfl | exact Za h.symm
theorem Zmm (HA:AllS g r n) (hc:CxOK g c (n + 1)) (R:Rel g c σ) {o i:PySem.Expr} {pos:Pos} (hs:slice? i=false)
  (h:Zi4 (cE k c.env.scope.names o) (cE k c.env.scope.names i) g.P r c.hd σ.h σ.nx σ.lo ko ke=true) (hQ:PV g c σ ko Q) (hE:PX g c σ ke Er):wpAny g.M c.A (eval (.Subscript o i pos) c.env) Q Er σ.s:=by
 refine Subscript_ (HA.ev c hc.down k o σ R _ _ h _ _ (fun σ1 x rx R1 X1 v1 h1=>?_) hE)
 refine HA.ev c hc.down k i σ1 R1 _ _ h1 _ _ (fun σ2 y ry R2 X2 v2 h2=>?_) (hE.of X1)
 have I:=Zle hc R2 (v1.mono X2 R1) v2 h2
 obtain⟨T,id,hT,hl⟩:=I.ty
 exact PyProof.Rows.tail_any hT hl (I.get fun σ3 v rv R3 X3 vr hk e1 e2 e3=>hQ σ3 v rv R3 ((X1.trans X2).trans X3) vr (by rw[e1,e2,e3]; exact hk)) (ZhT hs _ _)
end
section
variable {g:Gl} {r:Rec} {n k:Nat} {c:Cx} {σ : St} {Q Er:Value→Shared→Prop} {ko:V→KS} {ke:Nat→KS}
theorem ZlJ {prog:Program} {w:World} {o:Obj} {kvs:List (Str × Value)} (h:o.IsDictOf (PySem.strKind prog w) kvs) : ¬ Told o∧¬ Tb o:=by
 obtain⟨es,n,_,d,_⟩:=h
 exact ZaZ d
theorem Rel.loc_ne (R:Rel g c σ) {d:Addr} (h:∀ p ∈ σ.news,p.1 < d) (hL:d≠c.L):d≠c.env.locals:=by
 rcases R.loc with⟨e,_⟩ | ⟨_,o,m',a,_⟩
 ·rw[e]; exact hL
 ·exact Nat.ne_of_gt (h _ a)
theorem Rel.adopt (R:Rel g c σ) {σ₀:St} (X0:Ext g c σ₀ σ) {d:Addr} {o o':Obj} (p:Pin0 g σ d o) (h0:∀ x,¬ Pin0 g σ₀ d x) (hl:d≠c.env.locals) (ht : ¬ Told o) (hb : ¬ Tb o) {h':Heap} {tk:Nat} (hs:Heap.SameBut d σ.s.heap h') (ho:h'.get? d=some o') {m:O} (hm:two m=false)
  (f:∀ σ',(d,o') ∈ σ'.news→Ext0 g σ σ'→ORa g σ' d 0 m) :
  ∃ σ',Rel g c σ'∧Ext g c σ₀ σ'∧VR g σ' (.ref σ.nx) (.ref d)∧σ'.h=hp σ.h σ.nx m∧σ'.nx=Nat.succ σ.nx∧σ'.lo = σ.lo∧σ'.s = { σ.s with heap:=h',toks:=tk }:=by
 obtain⟨R2,Y⟩:=R.forget (tk:=tk) p hl ht hb hs.extBut
 have X2:=Y σ₀ X0 h0
 have Z2:Ext0 g σ (σ.led (σ.news.filter fun q=>q.1 != d) h' tk):=⟨Nat.le_refl _,fun _ _=>rfl,fun b x q t=>⟨List.mem_filter.mpr ⟨q.1,bne_iff_ne.mpr fun e=>ht (by have e:b=d:=e; subst e; exact Zn R.N p.1 q.1 ▸ t)⟩,q.2.1,q.2.2⟩,fun T ⟨b,q,t⟩=>⟨b,⟨List.mem_filter.mpr ⟨q.1,bne_iff_ne.mpr fun e=>hb (by have e:T=d:=e; subst e; exact Zn R.N p.1 q.1 ▸ t)⟩,q.2.1,q.2.2⟩,t⟩⟩
 have hd:=R.N _ p.1
 obtain⟨R3,X3,v⟩:=R2.newG (tk:=tk) (o:=m) (x:=d) (d:=0) (L:=[(d,o')]) R2.F (fun q hq=>by
  rcases List.mem_cons.mp hq with rfl | hq
  ·exact⟨ho,hd.2⟩
  ·exact R2.N q hq) (List.nodup_cons.mpr ⟨nofun,List.nodup_nil⟩) (fun q hq p hp=>by rw[List.mem_singleton.mp hq]; exact bne_iff_ne.mp (List.mem_filter.mp hp).2) (fun p hp=>bne_iff_ne.mp (List.mem_filter.mp hp).2) (fun t=>by rw[hm] at t; exact Za t) (fun σ' e0 e1 en Z=>by
   show ORa g σ' (σ'.ρ (2 * σ.nx)) (σ'.ρ (2 * σ.nx + 1)) m
   have e0 : σ'.ρ (2 * σ.nx)=d:=e0
   have e1 : σ'.ρ (2 * σ.nx + 1)=0:=e1
   rw[e0,e1]
   exact f σ' (by rw[en]; exact .head _) ⟨Nat.le_trans Z2.nx Z.nx,fun i h=>Z.ρ i h,fun a x q t=>Z.pin a x (Z2.pin a x q t) t,fun T t=>Z.tb T (Z2.tb T t)⟩)
 exact⟨_,R3,X2.trans X3,v,rfl,rfl,rfl,rfl⟩
theorem Zlh (HA:AllS g r n) (hc:CxOK g c (n + 1)) (R:Rel g c σ) {pos:Pos} (h:ko (.ref σ.nx) (hp σ.h σ.nx (.dict [])) (Nat.succ σ.nx) σ.lo=true) (hQ:PV g c σ ko Q):wpAny g.M c.A (eval (.Dict [] [] pos) c.env) Q Er σ.s:=by
 refine wpAny_Dict_empty ?_
 have hbig : σ.s.heap.objs.size≠sysModules:=by
  obtain⟨o,es,ep,ho,_⟩:=(hc.T R).g
  exact Nat.ne_of_gt (Nat.lt_of_le_of_lt (by decide) (Heap.lt_size (R.F.keep _ _ ho)))
 obtain⟨σ2,R2,X2,v,e1,e2,e3,e4⟩:=R.new1 (tk:=σ.s.toks) (o:=.dict []) (R.F.push _) (R.N.push R.F { cls:=.type "dict",data:=.dict #[] }) R.top rfl fun σ' m Z=>⟨_,[],m,⟨#[],0,⟨rfl,rfl,rfl⟩,rfl,(fun e h=>by simp at h),.nil,List.nodup_nil⟩,hbig,trivial⟩
 have z:=hQ σ2 _ _ R2 X2 v (by rw[e1,e2,e3]; exact h)
 rw[e4] at z
 exact z
end
section
variable {prog:Program} {w:World} {A:Around} {R:Result→Shared→Prop} {s:Shared}
theorem Zcd {elt target iter:PySem.Expr} {ifs:List PySem.Expr} {scope:Scope} {pos:Pos} {it acc:Value} {env:Env} (I:Nat→Shared→Prop)
  (turn:∀ n s,I n s→wpAny (model prog w) A (pyNext it) (fun r s₁=>match r with
   | none=>R (.ok .next) s₁
   | some v=>wpAny (model prog w) A (letOwnedTupleGo target it v) (fun _ s₁=>wpAny (model prog w) A (assign target env v) (fun _ s₂=>
     wpAny (model prog w) A (forIn ifs true fun c r=>if r=true then do let ok ← isTrue c env (eval c env); pure (ForInStep.yield ok) else pure (ForInStep.yield r)) (fun ok s₃=>
      if ok=true then wpAny (model prog w) A (eval elt env) (fun x s₄=>
       wpAny (model prog w) A (call (.builtin "list.append") [acc,x]) (fun _ s₅=>∃ m,m < n∧I m s₅) (notedBy (model prog w) A env fun e s'=>R (.error e) s') s₄) (notedBy (model prog w) A env fun e s'=>R (.error e) s') s₃
      else ∃ m,m < n∧I m s₃) (notedBy (model prog w) A env fun e s'=>R (.error e) s') s₂) (notedBy (model prog w) A env fun e s'=>R (.error e) s') s₁) (notedBy (model prog w) A env fun e s'=>R (.error e) s') s₁) (notedBy (model prog w) A env fun e s'=>R (.error e) s') s)
  (n:Nat) (h:I n s) :
  codeAny (model prog w) A (.compLoop (.ListComp elt [⟨target,iter,ifs,0⟩] scope pos) 0 it acc env) R s:=by
 refine codeAny_loop rfl I (fun n s hI=>?_) n h
 show wpAny _ A ((compTurn (.ListComp elt [⟨target,iter,ifs,0⟩] scope pos) 0 it acc env).onRaise (fun x=>do noteFrame x env; theTreesLotGoes x)) _ _ s
 refine wpAny_noted ?_
 rw[compTurn_list]
 refine wpAny_bind (wpAny_standAt (wpAny_bind (wpAny_mono (turn n s hI) (fun r s₁ h₁=>?_) fun _ _ h'=>h')))
 cases r with
 | none=>exact wpAny_pure h₁
 | some v=>
  refine wpAny_bind (wpAny_mono h₁ (fun _ s₁ h₁=>?_) fun _ _ h'=>h')
  refine wpAny_bind (wpAny_mono h₁ (fun _ s₂ h₂=>wpAny_bind (wpAny_mono h₂ (fun ok s₃ h₃=>?_) fun _ _ h'=>h')) fun _ _ h'=>h')
  cases ok with
  | false=>exact wpAny_pure ⟨rfl,h₃⟩
  | true=>
   exact wpAny_bind (wpAny_bind (wpAny_mono h₃ (fun x s₄ h₄=>wpAny_bind (wpAny_mono h₄ (fun _ s₅ h₅=>wpAny_pure (wpAny_pure ⟨rfl,h₅⟩)) fun _ _ h'=>h')) fun _ _ h'=>h'))
end
section
variable {g:Gl} {r:Rec} {n:Nat} {c:Cx} {σ : St} {Er:Value→Shared→Prop}
theorem ZgR {it:Addr} {v:V} {i:Nat} (R:Rel g c σ) (I:ItAt g σ it v i) {A:Around} {Q:Value→Shared→Prop} (h:Q (.ref it) σ.s):wpAny g.M A (pyIter (.ref it)) Q Er σ.s:=by
 cases I with
 | list l i o _ p hc hd=>exact wpAny_pyIter_listiter (l:=σ.ρ (2 * l)) (i:=i) ⟨o,(R.N _ p.1).1,hc,hd⟩ h
 | tup vs ta its n i o _ _ p hc hd=>exact wpAny_pyIter_tupleiter (t:=ta) (i:=i) ⟨o,(R.N _ p.1).1,hc,hd⟩ h
 | rng n i hi p=>exact wpAny_pyIter_rangeiter (R.N _ p.1).1 h
theorem Zmn (HA:AllS g r n) (hc:CxOK g c n):∀ {ifs:List PySem.Expr} {k:Nat} {σ : St} {kf:Bool→KS} {Q:Bool→Shared→Prop},Rel g c σ→
  ifsF (cEs k c.env.scope.names ifs) r c.hd (fun _ _ _ _=>false) kf σ.h σ.nx σ.lo=true→PB g c σ kf Q→
  wpAny g.M c.A (forIn ifs true fun d r=>if r=true then do let ok ← isTrue d c.env (eval d c.env); pure (ForInStep.yield ok) else pure (ForInStep.yield r)) Q Er σ.s:=fun {ifs}=>by
 have skip:∀ (ifs:List PySem.Expr) (s:Shared) (Q:Bool→Shared→Prop),Q false s→wpAny g.M c.A (forIn ifs false fun d r=>if r=true then do let ok ← isTrue d c.env (eval d c.env); pure (ForInStep.yield ok) else pure (ForInStep.yield r)) Q Er s:=by
  intro ifs
  induction ifs with
  | nil=>intro s Q h; rw[List.forIn_nil]; exact wpAny_pure h
  | cons d ifs ih=>
   intro s Q h
   rw[List.forIn_cons,if_neg Bool.false_ne_true]
   exact wpAny_bind (wpAny_pure (ih s Q h))
 induction ifs with
 | nil=>
  intro k σ kf Q R h hQ
  cases k with
  | zero=>exact Za h
  | succ k=>rw[List.forIn_nil]; exact wpAny_pure (hQ σ true R (.refl ..) h)
 | cons d ifs ih=>
  intro k σ kf Q R h hQ
  cases k with
  | zero=>exact Za h
  | succ k=>
   have h:ifsF (cond ((d :: ifs).any star?) bad (.b 5 0 (cE k c.env.scope.names d) (cEs k c.env.scope.names ifs))) r c.hd (fun _ _ _ _=>false) kf σ.h σ.nx σ.lo=true:=h
   cases hs:(d :: ifs).any star? with
   | true=>rw[hs] at h; exact Za h
   | false=>
    rw[hs] at h
    rw[List.forIn_cons,if_pos rfl]
    refine wpAny_bind (wpAny_bind (HA.ts c hc k d σ R _ _ (show r.tst (cE k c.env.scope.names d) c.hd σ.h σ.nx σ.lo (fun t h nx lo=>bif t then ifsF (cEs k c.env.scope.names ifs) r c.hd (fun _ _ _ _=>false) kf h nx lo else kf false h nx lo) (fun _ _ _ _=>false)=true from h) _ _ (fun σ' t R' X' hk=>wpAny_pure ?_) PX.no))
    cases t with
    | true=>exact ih R' hk (fun σ'' t R'' X''=>hQ σ'' t R'' (X'.trans X''))
    | false=>exact skip ifs _ _ (hQ σ' false R' X' hk)
structure CompOK (scope:Scope):Prop where
 kind:scope.kind=.function
 cell:∀ x ∈ scope.names,x.2≠.cell
 gd:∀ x ∈ scope.names,gd x.1=true
 nd:(scope.names.map (·.1)).Nodup
theorem ZhU {scope:Scope} (h:Zcr scope=true):CompOK scope:=by
 unfold Zcr at h
 simp only [Bool.and_eq_true,List.all_eq_true] at h
 obtain⟨⟨h1,h2⟩,h3⟩:=h
 exact⟨beq_iff_eq.mp h1,fun x hx=>bne_iff_ne.mp (h2 x hx).1,fun x hx=>(h2 x hx).2,ZcA h3⟩
theorem ZeI (hc:CxOK g c n) (scope:Scope):(relabel scope c.env).names=ZF c.env.scope.names scope.names:=by
 unfold relabel ZF
 refine List.map_congr_left fun x _=>?_
 obtain⟨nm,k⟩:=x
 show (if (k == .free&&c.env.scope.kind == .function&&c.env.kindOf nm==some .cell)=true then(nm,NameKind.cell) else(nm,k)) = _
 rw[hc.ek]
 rw[show (ScopeKind.function==ScopeKind.function)=true from rfl,Bool.and_true]
 rfl
noncomputable def Cx.comp (c:Cx) (scope:Scope) (cl:List (Str × Addr)) (C:Addr):Cx:={ c with env:=compEnvC scope cl C c.env,hd:=⟨Zan (ZC scope.names) c.hd.cs,c.hd.hd,c.hd.ora,c.hd.mkr⟩ }
theorem CxOK.comp (hc:CxOK g c n) {scope:Scope} (hk:scope.kind=.function) (cl:List (Str × Addr)) (C:Addr):CxOK g (c.comp scope cl C) n:=
 ⟨hc.fr,hc.ff,hc.fk,hk,hc.eg,hc.eb,hc.ef,hc.Kb,hc.Tb,hc.dep,hc.uni,hc.hn,hc.mkk,hc.ora⟩
theorem Rel.intoComp (R:Rel g c σ) {scope:Scope} (S:CompOK scope) {h':Heap} {C:Addr} {o:Obj} (F':Fr σ.g0 c.L h' σ.m) (N':News σ.g0 c.L h' ((C,o) :: σ.news)) (hf:∀ p ∈ σ.news,p.1 < C) (hn:Zb6 o fun _=>none) (tk:Nat) :
  ∃ σ',σ'.s = { σ.s with heap:=h',toks:=tk }∧σ'.h = σ.h∧σ'.nx = σ.nx∧σ'.lo = []∧σ'.m = σ.m∧σ'.g0 = σ.g0∧Rel g (c.comp scope (Zx c.env.cells scope.names []) C) σ'∧Ext0 g σ σ'∧(∀ a x,Pin0 g σ a x→Pin0 g σ' a x):=by
 have pin:∀ a x,Pin0 g σ a x→Pin0 g { σ with lo:=[],news:=(C,o) :: σ.news,s:={ σ.s with heap:=h',toks:=tk } } a x:=fun a x p=>⟨.tail _ p.1,p.2⟩
 have X:Ext0 g σ { σ with lo:=[],news:=(C,o) :: σ.news,s:={ σ.s with heap:=h',toks:=tk } }:=⟨Nat.le_refl _,fun _ _=>rfl,fun a x p _=>pin a x p,fun T ⟨x,p,t⟩=>⟨x,pin T x p,t⟩⟩
 have fr:=R.fresh hf
 refine⟨{ σ with lo:=[],news:=(C,o) :: σ.news,s:={ σ.s with heap:=h',toks:=tk } },rfl,rfl,rfl,rfl,rfl,rfl,⟨⟨ZbK R.nd hf,R.fr,R.inj,fun i x e=>(R.trk i x e).mono0 X (fun _ m=>.tail _ m) (fun _ _ m=>.tail _ m),fun x i hx hi=>?_,.inr ⟨(N' _ (.head _)).2.1,o,fun _=>none,.head _,fr.1,fr.2,hn,fun x v _ e=>Ze e⟩,⟨fun q hq=>?_,fun p hp=>⟨.tail _ (R.tab.2 p hp).1,(R.tab.2 p hp).2⟩⟩,R.B,R.hh⟩,F',N',R.gens,R.os⟩,X,pin⟩
 ·obtain⟨h1,h2⟩:=ZdO hi
  obtain⟨h3,h4⟩:=R.cs x i hx h2
  exact⟨h3,Zc7 h4 (.inl ((mem_filter S.gd hx).mp h1))⟩
 ·obtain⟨u,ps,b,ht,hc⟩:=R.tab.1 q hq
  exact⟨u,ps,.tail _ b,ht,fun pos cv e=>(hc pos cv e).mono0 X⟩
noncomputable def St.less (σ : St) (it:Addr):St:={ σ with news:=σ.news.filter fun q=>q.1 != it }
theorem Ext.less (σ : St) (it:Addr):Ext g c (σ.less it) σ:=⟨Nat.le_refl _,fun _ _=>rfl,fun a x p _ _=>⟨(List.mem_filter.mp p.1).1,p.2⟩,fun T ⟨x,p,t⟩=>⟨x,⟨(List.mem_filter.mp p.1).1,p.2⟩,t⟩,fun _=>rfl,.refl⟩
theorem Zj8 (σ : St) (it:Addr) (x:Obj) : ¬ Pin0 g (σ.less it) it x:=fun p=>absurd rfl (bne_iff_ne.mp (List.mem_filter.mp p.1).2)
theorem Rel.outOfComp (R:Rel g c σ) {scope:Scope} {cl:List (Str × Addr)} {C it:Addr} {oit:Obj} (pit:Pin0 g σ it oit) (tit : ¬ Told oit) (bit : ¬ Tb oit) (hitl:it≠c.env.locals) {σ' σf:St} (X0:Ext0 g σ σ') (pin:∀ a x,Pin0 g σ a x→Pin0 g σ' a x) (hCn:∀ x,(C,x) ∉ σ.news) (hne:C≠c.L) (hm : σ'.m = σ.m) (hg0 : σ'.g0 = σ.g0)
  (R':Rel g (c.comp scope cl C) σ') (Rf:Rel g (c.comp scope cl C) σf) (Xf:Ext g (c.comp scope cl C) (σ'.less it) σf) :
  ∃ σb,σb.s = σf.s∧σb.h = σf.h∧σb.nx = σf.nx∧σb.lo = σ.lo∧σb.ρ = σf.ρ∧Rel g c σb∧Ext0 g σ σb∧(∀ σ₀,Ext g c σ₀ σ→(∀ x,¬ Pin0 g σ₀ it x)→Ext g c σ₀ σb)∧(∃ o m,Pin0 g σb C o∧Zb6 o m):=by
 have hne:(c.comp scope cl C).env.locals≠(c.comp scope cl C).L:=hne
 have pinf:∀ a x,a≠it→¬ Tb x→Pin0 g σ a x→Pin0 g σf a x:=fun a x hn t p=>Xf.pin a x ⟨List.mem_filter.mpr ⟨(pin a x p).1,bne_iff_ne.mpr hn⟩,(pin a x p).2⟩ (fun e=>hCn x (by have e:a=C:=e; exact e ▸ p.1)) t
 have X1:Ext0 g σ σf:=⟨Nat.le_trans X0.nx Xf.nx,fun k h=>(Xf.ρ k (Nat.lt_of_lt_of_le h X0.nx)).trans (X0.ρ k h),fun a x p d=>pinf a x (fun e=>by subst e; exact tit (Zn R.N pit.1 p.1 ▸ d)) d.2.1 p,
  fun T ⟨x,p,t⟩=>Xf.tb T ⟨x,⟨List.mem_filter.mpr ⟨(pin T x p).1,bne_iff_ne.mpr fun e=>by have e:T=it:=e; subst e; exact bit (Zn R.N pit.1 p.1 ▸ t)⟩,(pin T x p).2⟩,t⟩⟩
 have hmf : σf.m = σ.m:=(Xf.m hne).trans hm
 have Y:Ext0 g σf { σf with lo:=σ.lo }:=⟨Nat.le_refl _,fun _ _=>rfl,fun a x p _=>p,fun _ t=>t⟩
 have XB:Ext0 g σ { σf with lo:=σ.lo }:=⟨X1.nx,X1.ρ,fun a x p d=>X1.pin a x p d,X1.tb⟩
 refine⟨{ σf with lo:=σ.lo },rfl,rfl,rfl,rfl,rfl,⟨⟨Rf.nd,Rf.fr,Rf.inj,fun i x e=>(Rf.trk i x e).mono0 Y (fun _ m=>m) (fun _ _ m=>m),R.cs.mono0 XB,?_,⟨fun q hq=>?_,Rf.tab.2⟩,Rf.B,Rf.hh⟩,Rf.F,Rf.N,Rf.gens,Rf.os⟩,XB,
  fun σ₀ Z hz=>⟨Nat.le_trans Z.nx XB.nx,fun k h=>(XB.ρ k (Nat.lt_of_lt_of_le h Z.nx)).trans (Z.ρ k h),fun a x p n t=>pinf a x (fun e=>by subst e; exact hz x p) t (Z.pin a x p n t),fun T t=>X1.tb T (Z.tb T t),fun n=>hmf.trans (Z.m n),Z.turn.trans (by rw[← hg0]; exact Xf.turn)⟩,?_⟩
 ·rcases R.loc with⟨e,l⟩ | ⟨e,o,mm,a,u,t,k,l⟩
  ·exact .inl ⟨e,fun x v hx e'=>let ⟨w,a,b⟩:=l.mono0 XB x v hx e'; ⟨w,(congrFun hmf x).trans a,b⟩⟩
  ·have nt : ¬ Tb o:=by obtain⟨es,ep,d,_⟩:=k; exact(ZaZ d).2
   have p:=pinf _ _ (Ne.symm hitl) nt ⟨a,u,t⟩
   exact .inr ⟨e,o,mm,p.1,p.2.1,p.2.2,k,l.mono0 XB⟩
 ·obtain⟨u,ps,b,ht,hc⟩:=Rf.tab.1 q hq
  exact⟨u,ps,b,ht,fun pos cv e=>(hc pos cv e).mono0 Y⟩
 ·rcases Rf.loc with⟨e,_⟩ | ⟨_,o,mm,a,u,t,k,_⟩
  ·exact absurd e hne
  ·exact⟨o,mm,⟨a,u,t⟩,k⟩
end
section
variable {g:Gl} {n:Nat} {c:Cx} {σ : St} {Er:Value→Shared→Prop}
theorem Zj9 (HA:∀ m,m≤n→AllS g (rec g.P m) m) (hc:CxOK g c n) {tg iter elt:PySem.Expr} {ifs:List PySem.Expr} {scope:Scope} {pos:Pos} {k1 k2 k3:Nat} {σ₀:St} {it:Addr} {v:V} (hit:∀ y,¬ Pin0 g σ₀ it y) {acc:Nat} (hacc:acc < σ₀.nx) {kn:KS} {R:Result→Shared→Prop}
  (hR:∀ σ',Rel g c σ'→Ext g c σ₀ σ'→kn σ'.h σ'.nx σ'.lo=true→R (.ok .next) σ'.s)
  (Rσ : Rel g c σ) (X0:Ext g c σ₀ σ) {i:Nat} (I:ItAt g σ it v i) (h:(rec g.P n).cloop (cT k1 c.env.scope.names tg) v i (cEs k2 c.env.scope.names ifs) (cE k3 c.env.scope.names elt) acc c.hd σ.h σ.nx σ.lo kn (fun _ _ _ _=>false)=true) :
  codeAny g.M c.A (.compLoop (.ListComp elt [⟨tg,iter,ifs,0⟩] scope pos) 0 (.ref it) (.ref (σ₀.ρ (2 * acc))) c.env) R σ.s:=by
 refine Zcd (fun m s=>m≤n∧∃ σ i,s = σ.s∧Rel g c σ∧Ext g c σ₀ σ∧ItAt g σ it v i∧(rec g.P m).cloop (cT k1 c.env.scope.names tg) v i (cEs k2 c.env.scope.names ifs) (cE k3 c.env.scope.names elt) acc c.hd σ.h σ.nx σ.lo kn (fun _ _ _ _=>false)=true) ?_ n ⟨Nat.le_refl _,σ,i,rfl,Rσ,X0,I,h⟩
 rintro m s ⟨hm,σ,i,rfl,Rσ,X0,I,h⟩
 cases m with
 | zero=>exact Za h
 | succ m=>
  have hm':m≤n:=Nat.le_of_succ_le hm
  have HAm:=HA m hm'
  have hcm:CxOK g c m:=hc.le hm'
  refine Zc (show og (Zas σ.h v i) _=true from h) fun xo hxo h=>?_
  have hh:xo=none→Zau c.A σ.s it:=fun e=>by subst e; exact Zf h fun b _=>.inl (hc.none b)
  refine ZhN Rσ I hxo hh (fun y hy σ' ry R' qt vy I' Y=>?_) (fun hy σ' R' qt Y=>?_)
  ·subst hy
   obtain⟨e1,e2,e3,_⟩:=qt
   have X':Ext g c σ₀ σ':=Y σ₀ X0 hit
   have h:(rec g.P m).asg (cT k1 c.env.scope.names tg) y c.hd σ'.h σ'.nx σ'.lo (fun h nx lo=>ifsF (cEs k2 c.env.scope.names ifs) (rec g.P m) c.hd (fun _ _ _ _=>false) (fun ok h nx lo=>
     bif ok then(rec g.P m).ev (cE k3 c.env.scope.names elt) c.hd h nx lo (fun y h nx lo=>og (Zg h acc) fun l=>bif Nat.blt l.length 900000 then(rec g.P m).cloop (cT k1 c.env.scope.names tg) v (Nat.succ i) (cEs k2 c.env.scope.names ifs) (cE k3 c.env.scope.names elt) acc c.hd (hp h acc (.list (l ++ [y]))) nx lo kn (fun _ _ _ _=>false) else false) (fun _ _ _ _=>false)
     else(rec g.P m).cloop (cT k1 c.env.scope.names tg) v (Nat.succ i) (cEs k2 c.env.scope.names ifs) (cE k3 c.env.scope.names elt) acc c.hd h nx lo kn (fun _ _ _ _=>false)) h nx lo) (fun _ _ _ _=>false)=true:=by rw[e1,e2,e3]; exact h
   refine ZdT R' I' ?_
   refine HAm.asg c hcm k1 _ σ' R' y ry vy _ _ h _ _ (fun σ2 R2 X2 hk=>?_) PX.no
   have X02:=X'.trans X2
   have I2:=I'.mono X2 R'
   refine Zmn HAm hcm R2 hk (fun σ3 ok R3 X3 hk=>?_)
   have X03:=X02.trans X3
   have I3:=I2.mono X3 R2
   cases ok with
   | false=>
    show (if (false:Bool)=true then _ else _)
    rw[if_neg Bool.false_ne_true]
    exact⟨m,Nat.lt_succ_self _,hm',σ3,i + 1,rfl,R3,X03,I3,hk⟩
   | true=>
    show (if (true:Bool)=true then _ else _)
    rw[if_pos rfl]
    refine HAm.ev c hcm k3 elt σ3 R3 _ _ hk _ _ (fun σ4 w rw' R4 X4 vw hk=>?_) PX.no
    refine Zc hk fun l hl hk2=>Zf hk2 fun hb hk3=>?_
    have X04:=X03.trans X4
    have I4:=I3.mono X4 R3
    rw[← X04.ρ acc hacc]
    refine Zfq R4 hl (Nat.blt_eq.mp hb) vw (fun σ5 R5 X5 e3 e1 e2=>?_) c.A
    exact⟨m,Nat.lt_succ_self _,hm',σ5,i + 1,rfl,R5,X04.trans X5,I4.mono X5 R4,by rw[e1,e2,e3]; exact hk3⟩
  ·subst hy
   obtain⟨e1,e2,e3,_⟩:=qt
   refine Zf h fun _ hk=>?_
   exact hR σ' R' (Y σ₀ X0 hit) (by rw[e1,e2,e3]; exact hk)
noncomputable def ZcX (g:Gl) (c:Cx) (σ : St) (ko:V→KS) (Q:Value→Shared→Prop) (Er:Value→Shared→Prop):Option (Value→Sem Unit)→Prop
 | none=>PV g c σ ko Q
 | some u=>∀ σ' v rv,Rel g c σ'→Ext g c σ σ'→VR g σ' v rv→ko v σ'.h σ'.nx σ'.lo=true→wpAny g.M c.A (u rv) (fun _ s''=>∃ σ'',s'' = σ''.s∧Rel g c σ''∧Ext g c σ' σ''∧∀ σ3,Rel g c σ3→Ext g c σ σ3→σ3.h = σ''.h→σ3.nx = σ''.nx→σ3.lo = σ''.lo→Q .none σ3.s) Er σ'.s
theorem ZgS (HA:∀ m,m≤n→AllS g (rec g.P m) m) (hc:CxOK g c n) (R:Rel g c σ) {tg iter elt:PySem.Expr} {ifs:List PySem.Expr} {scope:Scope} {pos:Pos} {k:Nat} (S:CompOK scope)
  {it:Addr} {v:V} {σ₀:St} (X0:Ext g c σ₀ σ) (hit:∀ y,¬ Pin0 g σ₀ it y) {ko:V→KS} {Q:Value→Shared→Prop} {use:Option (Value→Sem Unit)}
  (I:ItAt g σ it v 0) (h:(rec g.P n).cloop (cT k (ZF c.env.scope.names scope.names) tg) v 0 (cEs k (ZF c.env.scope.names scope.names) ifs) (cE k (ZF c.env.scope.names scope.names) elt) σ.nx ⟨Zan (ZC scope.names) c.hd.cs,c.hd.hd,c.hd.ora,c.hd.mkr⟩ (hp σ.h σ.nx (.list [])) (Nat.succ σ.nx) [] (fun h nx' _=>ko (.ref σ.nx) h nx' σ.lo) (fun _ _ _ _=>false)=true) (hQ:ZcX g c σ₀ ko Q Er use) :
  wpAny g.M c.A (newList []) (fun acc s₃=>wpAny g.M c.A (newFunctionEnv scope c.env.globals (Zx c.env.cells scope.names []) [] c.env.qual none .none (some c.env)) (fun cenv s₄=>
   codeAny g.M c.A (.compStart (.ListComp elt [⟨tg,iter,ifs,0⟩] scope pos) 0 (.ref it) acc { cenv with scope:=relabel scope c.env }) (compPost g.M c.A Er use Q acc cenv.locals) s₄) Er s₃) Er σ.s:=by
 refine newList_N R.F R.N (fun h3 F3 N3=>?_) (Nat.zero_le _)
 obtain⟨σ3,R3,X3,v3,e3h,e3n,e3l,e3s⟩:=R.new1 (tk:=σ.s.toks) (o:=.list []) F3 N3 R.top rfl fun σ' m Z=>⟨[],0,m,Nat.zero_le _,trivial⟩
 have e3s : σ3.s = { σ.s with heap:=h3 }:=e3s
 rw[show ({ σ.s with heap:=h3 }:Shared) = σ3.s from e3s.symm]
 generalize hacc : σ.s.heap.objs.size=ac at v3
 have v3ρ : σ3.ρ (2 * σ.nx)=ac:=by have:=v3.1; injection this with this; exact this.symm
 have I3:=I.mono X3 R
 have X03:=X0.trans X3
 refine wpAny_newFunctionEnv S.cell (fun y hy=>nomatch hy) (fun h4 hns hsb=>?_) S.kind
 obtain⟨o,es,ep,ho,hd1,hd2,hd3⟩:=hns
 have hok:Zb6 o fun _=>none:=⟨es,ep,hd1,hd2,fun x=>hd3 x⟩
 have fresh:=R3.top
 have hLs:c.L < σ3.s.heap.objs.size:=R3.F.ns.lt
 have kp:∀ b ob,σ3.s.heap.get? b=some ob→h4.get? b=some ob:=fun b ob e=>hsb.extBut b ob (Nat.ne_of_lt (Heap.lt_size e)) (Heap.get?_push_of_some _ e)
 have F4:Fr σ3.g0 c.L h4 σ3.m:=R3.F.keeps kp
 have N4:News σ3.g0 c.L h4 ((σ3.s.heap.objs.size,o) :: σ3.news):=fun q hq=>by
  rcases List.mem_cons.mp hq with rfl | hq
  ·exact⟨ho,Nat.ne_of_gt hLs,none_at_size R3.F⟩
  ·exact⟨kp _ _ (R3.N q hq).1,(R3.N q hq).2⟩
 obtain⟨σ4,e4s,e4h,e4n,e4l,e4m,e4g,R4,X4,pin4⟩:=R3.intoComp S F4 N4 fresh hok (σ3.s.toks + 0)
 show codeAny g.M c.A (.compStart (.ListComp elt [⟨tg,iter,ifs,0⟩] scope pos) 0 (.ref it) (.ref ac) (compEnvC scope (Zx c.env.cells scope.names []) σ3.s.heap.objs.size c.env)) (compPost g.M c.A Er use Q (.ref ac) σ3.s.heap.objs.size) { σ3.s with heap:=h4,toks:=σ3.s.toks + 0 }
 rw[← e4s]
 generalize hC : σ3.s.heap.objs.size=C at *
 have hCn:∀ x,(C,x) ∉ σ3.news:=fun x hx=>absurd (fresh _ hx) (Nat.lt_irrefl _)
 have hCL:C≠c.L:=Nat.ne_of_gt hLs
 have I4:ItAt g σ4 it v 0:=I3.mono0 X4 fun o p=>pin4 _ _ p
 have e4ρ : σ4.ρ (2 * σ.nx)=ac:=(X4.ρ _ (by rw[e3n]; exact Nat.lt_succ_self _)).trans v3ρ
 have hcC:CxOK g (c.comp scope (Zx c.env.cells scope.names []) C) n:=hc.comp S.kind _ _
 have nm:(c.comp scope (Zx c.env.cells scope.names []) C).env.scope.names=ZF c.env.scope.names scope.names:=ZeI hc scope
 obtain⟨oit,pit,iit⟩:=I3.pin
 obtain⟨tit,bit,dit⟩:=iit.no
 have hitl:it≠c.env.locals:=R3.pin_ne pit dit
 have post:∀ σf,Rel g (c.comp scope (Zx c.env.cells scope.names []) C) σf→Ext g (c.comp scope (Zx c.env.cells scope.names []) C) (σ4.less it) σf→ko (.ref σ.nx) σf.h σf.nx σ.lo=true→compPost g.M c.A Er use Q (.ref ac) C (.ok .next) σf.s:=by
  intro σf Rf Xf hk
  obtain⟨σb,b1,b2,b3,b4,b5,Rb,Xb,Zb,ob,mb,pb,nb⟩:=R3.outOfComp pit tit bit hitl X4 pin4 hCn hCL e4m e4g R4 Rf Xf
  have hbl:C≠c.env.locals:=R3.loc_ne fresh hCL
  have vb:VR g σb (.ref σ.nx) (.ref ac):=v3.mono0 Xb
  have X0b:=Zb σ₀ X03 hit
  have hkb:ko (.ref σ.nx) σb.h σb.nx σb.lo=true:=by rw[b2,b3,b4,e3l]; exact hk
  have nt : ¬ Told ob∧¬ Tb ob:=by obtain⟨es,ep,d,_⟩:=nb; exact ZaZ d
  have nC0:∀ x,¬ Pin0 g σ₀ C x:=fun x p=>by
   rcases Classical.em (Tb x) with t | t
   ·obtain⟨y,q,_⟩:=X03.tb C ⟨x,p,t⟩; exact hCn y q.1
   ·exact hCn x (X03.pin _ _ p hbl t).1
  cases use with
  | none=>
   refine⟨mb,?_,fun h' hs=>?_⟩
   ·obtain⟨es,ep,d1,d2,d3⟩:=nb
    rw[← b1]
    exact⟨ob,es,ep,(Rb.N _ pb.1).1,d1,d2,d3⟩
   ·rw[← b1] at hs ⊢
    obtain⟨R5,Y5⟩:=Rb.forget (tk:=σb.s.toks) pb hbl nt.1 nt.2 hs.extBut
    exact hQ _ _ _ R5 (Y5 σ₀ X0b nC0) (show VR g _ (.ref σ.nx) (.ref ac) from vb) hkb
  | some u=>
   show wpAny g.M c.A (u (.ref ac)) _ Er σf.s
   rw[← b1]
   refine wpAny_mono (hQ σb _ _ Rb X0b vb hkb) (fun _ s'' hq=>?_) (fun _ _ x=>x)
   obtain⟨σ6,rfl,R6,X6,hq⟩:=hq
   have p6:=X6.pin _ _ pb hbl nt.2
   refine⟨mb,?_,fun h' hs=>?_⟩
   ·obtain⟨es,ep,d1,d2,d3⟩:=nb
    exact⟨ob,es,ep,(R6.N _ p6.1).1,d1,d2,d3⟩
   ·obtain⟨R7,Y7⟩:=R6.forget (tk:=σ6.s.toks) p6 hbl nt.1 nt.2 hs.extBut
    exact hq _ R7 (Y7 σ₀ (X0b.trans X6) nC0) rfl rfl rfl
 have loop:codeAny g.M c.A (.compLoop (.ListComp elt [⟨tg,iter,ifs,0⟩] scope pos) 0 (.ref it) (.ref ac) (compEnvC scope (Zx c.env.cells scope.names []) C c.env)) (compPost g.M c.A Er use Q (.ref ac) C) σ4.s:=by
  have h4':(rec g.P n).cloop (cT k (c.comp scope (Zx c.env.cells scope.names []) C).env.scope.names tg) v 0 (cEs k (c.comp scope (Zx c.env.cells scope.names []) C).env.scope.names ifs) (cE k (c.comp scope (Zx c.env.cells scope.names []) C).env.scope.names elt) σ.nx (c.comp scope (Zx c.env.cells scope.names []) C).hd σ4.h σ4.nx σ4.lo (fun h nx' _=>ko (.ref σ.nx) h nx' σ.lo) (fun _ _ _ _=>false)=true:=by
   rw[nm,e4h,e4n,e4l,e3h,e3n]; exact h
  have:=Zj9 (c:=c.comp scope (Zx c.env.cells scope.names []) C) HA hcC (iter:=iter) (scope:=scope) (pos:=pos) (σ₀:=σ4.less it) (it:=it) (v:=v) (Zj8 σ4 it) (acc:=σ.nx) (by show σ.nx < σ4.nx; rw[e4n,e3n]; exact Nat.lt_succ_self _) (fun σ' R' X' hk=>post σ' R' X' hk) R4 (Ext.less σ4 it) I4 h4'
  have e:(σ4.less it).ρ (2 * σ.nx)=ac:=e4ρ
  rw[e] at this
  exact this
 exact codeAny_compStart_list loop (ZgR R4 I4 loop)
end
section
variable {g:Gl} {n:Nat} {c:Cx} {σ : St} {Er:Value→Shared→Prop} {kn kb kc:KS} {kr:V→KS} {ke:Nat→KS}
theorem Zef {gens:List Comprehension} {p:PySem.Expr × PySem.Expr × List PySem.Expr} (h:ZaD gens=some p):gens = [⟨p.1,p.2.1,p.2.2,0⟩]:=by
 match gens,h with
 | [],h=>exact Ze h
 | [⟨t,it,ifs,a⟩],h=>
  have h:(if a==0 then some (t,it,ifs) else none)=some p:=h
  cases e:a==0 with
  | true=>rw[e,if_pos rfl] at h; rw[← Option.some.inj h,beq_iff_eq.mp e]
  | false=>rw[e,if_neg Bool.false_ne_true] at h; exact Ze h
 | ⟨_,_,_,_⟩ :: _ :: _,h=>exact Ze h
theorem ZhV (HA:∀ m,m≤n→AllS g (rec g.P m) m) (hc:CxOK g c (n + 1)) (R:Rel g c σ) {elt:PySem.Expr} {gens:List Comprehension} {scope:Scope} {pos:Pos} {k:Nat} {ko:V→KS} {Q:Value→Shared→Prop} {use:Option (Value→Sem Unit)}
  (h:evG g.P (rec g.P n) (cE (k + 1) c.env.scope.names (.ListComp elt gens scope pos)) c.hd σ.h σ.nx σ.lo ko ke=true) (hE:PX g c σ ke Er) (hQ:ZcX g c σ ko Q Er use) :
  wpAny g.M c.A (comprehension (.ListComp elt gens scope pos) scope c.env (firstIterPos gens pos) (newList []) (firstAsync gens) (firstIter gens c.env) use) Q Er σ.s:=by
 have h:evG g.P (rec g.P n) (match ZaD gens with
   | some (t,it,ifs)=>cond (Zcr scope) (.q 0 0 (.f ⟨0,0,[],[],[],ZC scope.names⟩ (cE k (ZF c.env.scope.names scope.names) elt)) (cT k (ZF c.env.scope.names scope.names) t) (cE k c.env.scope.names it) (cEs k (ZF c.env.scope.names scope.names) ifs)) bad
   | none=>bad) c.hd σ.h σ.nx σ.lo ko ke=true:=h
 cases hp:ZaD gens with
 | none=>rw[hp] at h; exact Za h
 | some p=>
  rw[hp] at h
  obtain rfl:=Zef hp
  clear hp
  obtain⟨tg,it,ifs⟩:=p
  obtain⟨hS,h⟩:=Z0 (show evG g.P (rec g.P n) (cond (Zcr scope) (.q 0 0 (.f ⟨0,0,[],[],[],ZC scope.names⟩ (cE k (ZF c.env.scope.names scope.names) elt)) (cT k (ZF c.env.scope.names scope.names) tg) (cE k c.env.scope.names it) (cEs k (ZF c.env.scope.names scope.names) ifs)) bad) c.hd σ.h σ.nx σ.lo ko ke=true from h)
  have S:=ZhU hS
  refine Zf (show (bif Zbq c.hd.cs (ZC scope.names) then(rec g.P n).ev (cE k c.env.scope.names it) c.hd σ.h σ.nx σ.lo (fun v h nx lo=>
   (rec g.P n).cloop (cT k (ZF c.env.scope.names scope.names) tg) v 0 (cEs k (ZF c.env.scope.names scope.names) ifs) (cE k (ZF c.env.scope.names scope.names) elt) nx ⟨Zan (ZC scope.names) c.hd.cs,c.hd.hd,c.hd.ora,c.hd.mkr⟩ (hp h nx (.list [])) (Nat.succ nx) [] (fun h nx' _=>ko (.ref nx) h nx' lo) (fun _ _ _ _=>false)) ke else false)=true from h) fun b2 h=>?_
  have HAn:=HA n (Nat.le_refl _)
  cases n with
  | zero=>exact Za h
  | succ n=>
   refine wpAny_comprehension_free (cl:=Zx c.env.cells scope.names []) rfl (fun x=>Zbn (r:=rec g.P n) h c.env x) (Zcm fun x hx=>?_) S.kind (fun x hx hl=>?_) ?_
   ·obtain⟨i,hi⟩:=Zeu b2 ((mem_filter S.gd (S.gd _ hx)).mpr hx)
    rw[(R.cs x i (S.gd _ hx) hi).2]; rfl
   ·exact Zab S.nd (show (x.1,NameKind.local) ∈ scope.names by rw[← hl]; exact hx)
   refine HAn.ev c hc.down k it σ R _ _ h _ _ (fun σ1 v rv R1 X1 vr hk=>?_) hE
   have hQ1:ZcX g c σ1 ko Q Er use:=by
    cases use with
    | none=>exact PV.of X1 hQ
    | some u=>exact fun σ' v rv R' X' vr hk=>wpAny_mono (hQ σ' v rv R' (X1.trans X') vr hk) (fun _ s'' ⟨σ'',e1,R2,X2,hq⟩=>⟨σ'',e1,R2,X2,fun σ3 R3 X3=>hq σ3 R3 (X1.trans X3)⟩) (fun _ _ x=>x)
   have hx:∃ xo,Zas σ1.h v 0=some xo:=by
    refine Zc (show og (Zas (hp σ1.h σ1.nx (.list [])) v 0) _=true from hk) fun xo hxo _=>⟨xo,?_⟩
    cases v with
    | ref i=>
     have e:Zg (hp σ1.h σ1.nx (.list [])) i=Zg σ1.h i:=by
      unfold Zg onO
      rw[Zm,if_neg (Nat.ne_of_lt vr.2)]
     have hxo:(@Option.rec (List V) (fun _=>Option (Option V)) none (fun l=>some l[0]?) (Zg (hp σ1.h σ1.nx (.list [])) i))=some xo:=hxo
     rw[e] at hxo
     exact hxo
    | _=>exact hxo
   obtain⟨xo,hxo⟩:=hx
   refine Zfw R1 vr hxo c.A fun σ2 ita R2 X2 qt I2 fresh=>?_
   exact ZgS HA hc.down R2 S X2 fresh I2 (by rw[qt.1,qt.2.1,qt.2.2.1]; exact hk) hQ1
theorem Zka (HA:∀ m,m≤n→AllS g (rec g.P m) m) (hc:CxOK g c (n + 1)) (R:Rel g c σ) {elt:PySem.Expr} {gens:List Comprehension} {scope:Scope} {pos:Pos} {k:Nat} {ko:V→KS} {Q:Value→Shared→Prop}
  (h:evG g.P (rec g.P n) (cE (k + 1) c.env.scope.names (.ListComp elt gens scope pos)) c.hd σ.h σ.nx σ.lo ko ke=true) (hQ:PV g c σ ko Q) (hE:PX g c σ ke Er) :
  wpAny g.M c.A (eval (.ListComp elt gens scope pos) c.env) Q Er σ.s:=by
 rw[arm_eval_ListComp]
 exact ZhV HA hc R h hE hQ
theorem ZgT {r:Rec} {k:Nat} {ko:V→KS} {h:H} {nx:Nat} {lo:Lo} {hd:Hd} {P:Prg} {sc:Sc} (ts:List PySem.Expr) (e:PySem.Expr) (he:evG P r (cE k sc e) hd h nx lo ko ke=true) (line:Nat) (env:Env):∃ b,swapsWithSole ts e line env=pure b∧(b=true→∃ x px elt gens scope p,ts = [.Name x px]∧e=.ListComp elt gens scope p):=by
 cases ts with
 | nil=>exact⟨false,rfl,nofun⟩
 | cons t ts=>
  cases ts with
  | cons _ _=>exact⟨false,rfl,nofun⟩
  | nil=>
   cases e <;> first
    | exact⟨false,rfl,nofun⟩
    | (cases k <;> exact Za he)
    | (cases t <;> first
     | exact⟨false,rfl,nofun⟩
     | exact⟨_,rfl,fun _=>⟨_,_,_,_,_,_,rfl,rfl⟩⟩)
theorem Zeg (elt:PySem.Expr) (gens:List Comprehension) (scope:Scope) (p:Pos) (env:Env) (use:Value→Sem Unit):evalThenUse (.ListComp elt gens scope p) env use=(do let _ ← comprehension (.ListComp elt gens scope p) scope env (firstIterPos gens p) (newList []) (firstAsync gens) (firstIter gens env) (some use); pure ()):=rfl
end
theorem ZcD {α β : Type} {f : α→Option β}:∀ {l:List α},(∃ x ∈ l,f x=none)→(l.filterMap f).length < l.length
 | [],⟨_,h,_⟩=>by cases h
 | a :: l,⟨x,h,e⟩=>by
  rw[List.filterMap_cons]
  rcases List.mem_cons.mp h with rfl | h
  ·rw[e]
   exact Nat.lt_succ_of_le (List.length_filterMap_le ..)
  ·have:=ZcD ⟨x,h,e⟩
   split
   ·rw[List.length_cons]; omega
   ·rw[List.length_cons,List.length_cons]; omega
set_option tactic.hygienic true in
theorem ZeJ {env:Env} {ts:List PySem.Expr} {e:PySem.Expr} (h:Zbg env.scope.names ts e=true):swappedStores ts e env=pure none:=by
 have tt:∀ (ts:List PySem.Expr) (k1:Nat) (p1:Pos) (vs:List PySem.Expr) (k2:Nat) (p2:Pos),Zbg env.scope.names [.Tuple ts k1 p1] (.Tuple vs k2 p2)=true→swappedStores [.Tuple ts k1 p1] (.Tuple vs k2 p2) env=pure none:=by
  intro ts k1 p1 vs k2 p2 h
  unfold swappedStores
  dsimp only
  split
  ·rfl
  ·split
   ·rfl
   ·split
    ·rfl
    ·next hn=>
     split
     ·rfl
     ·next hf=>
      exfalso
      have h:(!(ts.all (ZfS env.scope.names))||vs.all (foldedForSure 8))=true:=h
      rw[Bool.or_eq_true,Bool.not_eq_true'] at h
      rcases h with h | h
      ·obtain⟨t,ht,h⟩:=List.all_eq_false.mp h
       apply hn
       rw[Bool.or_eq_true]
       left
       refine bne_iff_ne.mpr (Nat.ne_of_lt (ZcD ⟨t,ht,?_⟩))
       cases t <;> first
        | rfl
        | (
          rename_i id pos
          have h : ¬ ((env.scope.names.lookup id==some .local)=true):=h
          show (if (env.kindOf id==some .local&&_)=true then some id else none)=none
          have h2:(env.kindOf id==some .local)=false:=by rw[← Bool.not_eq_true]; exact h
          rw[h2]; rfl)
      ·exact hf h
 cases ts with
 | nil=>unfold swappedStores; rfl
 | cons t ts=>
  cases ts with
  | cons _ _=>cases t <;> (unfold swappedStores; rfl)
  | nil=>
   cases t <;> first
    | (unfold swappedStores; rfl)
    | (cases e <;> first
      | (exact tt _ _ _ _ _ _ h)
      | (unfold swappedStores; rfl)
      | cases h)
    | cases h
section
variable {g:Gl} {n:Nat} {c:Cx} {Er:Value→Shared→Prop}
end
section
variable {g:Gl} {n k:Nat} {c:Cx} {σ : St} {Er:Value→Shared→Prop}
theorem s_ev (OK:POK g.P g.K g.tabs g.dn) (HA:∀ m,m≤n→AllS g (rec g.P m) m):EvS g (rec g.P (n + 1)) (n + 1):=by
 intro c hc k e σ R ko ke h Q Er hQ hE
 have h:evG g.P (rec g.P n) (cE k c.env.scope.names e) c.hd σ.h σ.nx σ.lo ko ke=true:=h
 have HAn:=HA n (Nat.le_refl _)
 cases k with
 | zero=>exact Za h
 | succ k=>
  cases e with
  | Constant cc i p=>exact ZjF R h hQ
  | Name x p=>exact ZkN OK hc R h hQ
  | BoolOp op vs p=>
   obtain⟨h2,h⟩:=Z0 (show evG g.P (rec g.P n) (cond (Nat.ble 2 vs.length) (Zbs k c.env.scope.names op vs) bad) c.hd σ.h σ.nx σ.lo ko ke=true from h)
   exact ZkO OK HAn hc R h hQ hE (Nat.le_of_ble_eq_true h2)
  | BinOp l op r p=>exact Zl8 HAn hc R h hQ hE
  | UnaryOp op x p=>
   cases op with
   | Not=>exact Zl1 OK HAn hc R h hQ hE
   | USub=>
    have h:evG g.P (rec g.P n) (match const? x with | some (.int i)=>E.c (.int (-i)) | _=>bad) c.hd σ.h σ.nx σ.lo ko ke=true:=h
    cases x with
    | Constant cc kk pp=>
     cases cc with
     | int i=>
      refine PyProof.Rows.lit_neg _ fun v tk hv=>?_
      have T:=R.tok tk
      have e:∃ t,v=.int (-i) t:=by
       have:=hv σ.s.heap
       cases this with
       | int _ t=>exact⟨t,rfl⟩
      exact hQ _ (.int (-i)) _ T.1 T.2 e h
     | _=>exact Za h
    | _=>exact Za h
   | _=>exact Za h
  | IfExp t a b p=>exact Zl2 HAn hc R h hQ hE
  | Compare l ops rs p=>
   match ops,rs,h with
   | [op],[rr],h=>
    have h:evG g.P (rec g.P n) (cond (behindInMarks op rr) bad (.b 3 (cCmp op) (cE k c.env.scope.names l) (cE k c.env.scope.names rr))) c.hd σ.h σ.nx σ.lo ko ke=true:=h
    cases hm:behindInMarks op rr with
    | true=>rw[hm] at h; exact Za h
    | false=>rw[hm] at h; exact Zl6 OK HAn hc R hm h hQ hE
   | [],_,h=>exact Za h
   | [_],[],h=>exact Za h
   | [_],_ :: _ :: _,h=>exact Za h
   | _ :: _ :: _,_,h=>exact Za h
  | Attribute o x p=>
   obtain⟨h1,h⟩:=Z0 (show evG g.P (rec g.P n) (cond (gd x&&ZD o) (.u 1 (enc x) (cE k c.env.scope.names o)) bad) c.hd σ.h σ.nx σ.lo ko ke=true from h)
   exact Zk0 OK HAn hc R h1 h hQ hE
  | Call f as ks p=>
   obtain⟨h1,h⟩:=Z0 (show evG g.P (rec g.P n) (cond (Ze1 as ks) (match attr? f with
    | some (o,x,ap)=>cond (gd x&&ZD o&&ap.endLine==p.line&&Nat.blt (as.length + ks.length) 28) (.t 2 (enc x) (cE k c.env.scope.names o) (cEs k c.env.scope.names as) (cKw k c.env.scope.names ks)) bad
    | none=>.t 1 0 (cE k c.env.scope.names f) (cEs k c.env.scope.names as) (cKw k c.env.scope.names ks)) bad) c.hd σ.h σ.nx σ.lo ko ke=true from h)
   cases hf:attr? f with
   | none=>rw[hf] at h; exact ZkQ OK HAn hc R hf h (Yb h1).2 hQ hE
   | some q=>
    rw[hf] at h
    cases f with
    | Attribute o x ap=>
     obtain rfl:=Option.some.inj hf
     obtain⟨h2,h⟩:=Z0 (show evG g.P (rec g.P n) (cond (gd x&&ZD o&&ap.endLine==p.line&&Nat.blt (as.length + ks.length) 28) (.t 2 (enc x) (cE k c.env.scope.names o) (cEs k c.env.scope.names as) (cKw k c.env.scope.names ks)) bad) c.hd σ.h σ.nx σ.lo ko ke=true from h)
     exact ZjZ OK HAn hc R h2 h1 h hQ hE
    | _=>exact Ze hf
  | Subscript o i p=>
   have h:evG g.P (rec g.P n) (cond (slice? i) (match sl? i with
    | some (lo,hi)=>cond (isNm o) (.t 3 (cond lo.isSome (cond hi.isSome 3 1) (cond hi.isSome 2 0)) (cE k c.env.scope.names o) (lo.elim nil (cE k c.env.scope.names)) (hi.elim nil (cE k c.env.scope.names))) bad
    | none=>bad) (.b 4 0 (cE k c.env.scope.names o) (cE k c.env.scope.names i))) c.hd σ.h σ.nx σ.lo ko ke=true:=h
   cases hs:slice? i with
   | true=>
    rw[hs] at h
    cases i with
    | Slice lo hi st sp=>
     cases st with
     | some _=>exact Za h
     | none=>
      obtain⟨h1,h⟩:=Z0 (show evG g.P (rec g.P n) (cond (isNm o) (.t 3 (cond lo.isSome (cond hi.isSome 3 1) (cond hi.isSome 2 0)) (cE k c.env.scope.names o) (lo.elim nil (cE k c.env.scope.names)) (hi.elim nil (cE k c.env.scope.names))) bad) c.hd σ.h σ.nx σ.lo ko ke=true from h)
      exact Zj7 HAn hc R h1 (show Zd3 _ _ _ _ g.P (rec g.P n) c.hd σ.h σ.nx σ.lo ko ke=true from h) hQ hE
    | _=>exact Za hs
   | false=>rw[hs] at h; exact Zmm HAn hc R hs h hQ hE
  | List es p=>exact ZkR HAn hc R h hQ hE
  | Tuple es kd p=>exact Zl3 HAn hc R h hQ hE
  | Dict ks vs p=>
   obtain⟨h1,h⟩:=Z0 (show evG g.P (rec g.P n) (cond (ks.isEmpty&&vs.isEmpty) (.u 4 0 nil) bad) c.hd σ.h σ.nx σ.lo ko ke=true from h)
   obtain⟨h1,h2⟩:=Yb h1
   obtain rfl:=List.isEmpty_iff.mp h1
   obtain rfl:=List.isEmpty_iff.mp h2
   exact Zlh HAn hc R h hQ
  | ListComp elt gens scope p=>exact Zka HA hc R h hQ hE
  | Lambda a body scope p=>exact Zmb OK hc R h hQ
  | _=>exact Za h
end
section
variable {g:Gl} {n k:Nat} {c:Cx} {σ : St} {Er:Value→Shared→Prop} {kn kb kc:KS} {kr:V→KS} {ke:Nat→KS}
theorem ZiD (HA:∀ m,m≤n→AllS g (rec g.P m) m) (hc:CxOK g c (n + 1)) (R:Rel g c σ) {ts:List PySem.Expr} {v:PySem.Expr} {pos:Pos} {Q:Flow→Shared→Prop} (hs:Zbg c.env.scope.names ts v=true) (hst:ts.any star? = false)
  (h:Zja (cTs k c.env.scope.names ts) (cE k c.env.scope.names v) g.P (rec g.P n) c.hd σ.h σ.nx σ.lo kn kb kc kr ke=true) (h1:PU g c σ kn (Q .next)) (h5:PX g c σ ke Er):wpAny g.M c.A (exec (.Assign ts v pos) c.env) Q Er σ.s:=by
 obtain⟨i1,i2,i3⟩:=ZbU (env:=c.env) hst
 have HAn:=HA n (Nat.le_refl _)
 cases n with
 | zero=>exact Za h
 | succ n=>
  have h:evG g.P (rec g.P n) (cE k c.env.scope.names v) c.hd σ.h σ.nx σ.lo (fun v h nx lo=>allF (cTs k c.env.scope.names ts) (rec g.P (n + 1)) v c.hd ke kn h nx lo) ke=true:=h
  obtain⟨b,hb,hbt⟩:=ZgT ts v h pos.line c.env
  cases b with
  | false=>
   refine wpAny_Assign_stores (HAn.ev c hc.down k v σ R _ _ h _ _ (fun σ1 w rw_ R1 X1 vr hk=>?_) h5) hb (ZeJ hs)
   rw[i3]
   exact Zfx HAn hc R1 vr hk (h1.of X1) (h5.of X1)
  | true=>
   obtain⟨x,px,elt,gens,scope,p,rfl,rfl⟩:=hbt rfl
   rw[exec_Assign_arm]
   refine wpAny_bind (wpAny_standAt ?_)
   rw[hb]
   refine wpAny_bind (wpAny_pure ?_)
   rw[if_pos rfl]
   cases k with
   | zero=>exact Za h
   | succ k=>
    have HA':∀ m,m≤n→AllS g (rec g.P m) m:=fun m hm=>HA m (Nat.le_succ_of_le hm)
    rw[Zeg]
    have hU:ZcX g c σ (fun v h nx lo=>allF (cTs (k + 1) c.env.scope.names [.Name x px]) (rec g.P (n + 1)) v c.hd ke kn h nx lo) (fun _ s'=>Q .next s') Er (some fun v=>assignAll v ((assignEach [.Name x px] c.env).map (·.2))):=by
     intro σ1 w rw_ R1 X1 vr hk
     show wpAny g.M c.A (assignAll rw_ ((assignEach [.Name x px] c.env).map (·.2))) _ Er σ1.s
     rw[i3]
     refine Zfx HAn hc R1 vr hk (fun σ2 R2 X2 hk=>?_) (h5.of X1)
     exact⟨σ2,rfl,R2,X2,fun σ3 R3 X3 e1 e2 e3=>h1 σ3 R3 X3 (by rw[e1,e2,e3]; exact hk)⟩
    exact wpAny_bind (wpAny_bind (wpAny_mono (ZhV HA' hc.down R h h5 hU) (fun _ s' hq=>wpAny_pure (wpAny_pure hq)) fun _ _ x=>x))
theorem ZbV {r:Rec} {b:Bool} {e:E} (h:exG g.P r (cond b e bad) c.hd σ.h σ.nx σ.lo kn kb kc kr ke=true):b=true∧exG g.P r e c.hd σ.h σ.nx σ.lo kn kb kc kr ke=true:=by
 cases b with
 | true=>exact⟨rfl,h⟩
 | false=>exact Za h
theorem Zmo (OK:POK g.P g.K g.tabs g.dn) (HA:∀ m,m≤n→AllS g (rec g.P m) m):ExS1 g (rec g.P (n + 1)) (n + 1):=by
 intro c hc own k st σ R kn kb kc kr ke h Q Er h1 h2 h3 h4 h5
 have h:exG g.P (rec g.P n) (cS k c.env.scope.names st) c.hd σ.h σ.nx σ.lo kn kb kc kr ke=true:=h
 have HAn:=HA n (Nat.le_refl _)
 cases k with
 | zero=>exact Za h
 | succ k=>
  cases st with
  | Expr e p=>
   obtain⟨hcall,h⟩:=ZbV (show exG g.P (rec g.P n) (cond (call? e) (.u 6 0 (cE k c.env.scope.names e)) bad) c.hd σ.h σ.nx σ.lo kn kb kc kr ke=true from h)
   exact Zj2 (kb:=kb) (kc:=kc) (kr:=kr) HAn hc R hcall h h1 h5
  | Pass p=>exact wpAny_Pass (h1 σ R (.refl ..) h)
  | Break p=>exact wpAny_Break (h2 σ R (.refl ..) h)
  | Continue p=>exact wpAny_Continue (h3 σ R (.refl ..) h)
  | Return e p=>
   cases e with
   | none=>exact wpAny_Return_none (h4 σ .none .none R (.refl ..) rfl h)
   | some e=>exact wpAny_Return_some (HAn.ev c hc.down k e σ R _ _ h _ _ h4 h5)
  | Assign ts e p=>
   obtain⟨hb,h⟩:=ZbV (show exG g.P (rec g.P n) (cond (Zbg c.env.scope.names ts e&&!ts.any star?) (.b 9 0 (cTs k c.env.scope.names ts) (cE k c.env.scope.names e)) bad) c.hd σ.h σ.nx σ.lo kn kb kc kr ke=true from h)
   obtain⟨b1,b2⟩:=Yb hb
   exact ZiD (kb:=kb) (kc:=kc) (kr:=kr) HA hc R b1 ((Bool.not_eq_true' _).mp b2) h h1 h5
  | If t a b p=>exact s_if HAn hc own R h h1 h2 h3 h4 h5
  | For t it a e p=>
   obtain⟨he,h⟩:=ZbV (show exG g.P (rec g.P n) (cond e.isEmpty (.t 7 0 (cT k c.env.scope.names t) (cE k c.env.scope.names it) (cSs k c.env.scope.names a)) bad) c.hd σ.h σ.nx σ.lo kn kb kc kr ke=true from h)
   obtain rfl:=List.isEmpty_iff.mp he
   exact Zmj (kb:=kb) (kc:=kc) HA hc own R h h1 h4 h5
  | Raise e cs p=>
   cases e with
   | none=>exact Za h
   | some e=>
    cases cs with
    | some _=>exact Za h
    | none=>exact Zj3 (kn:=kn) (kb:=kb) (kc:=kc) (kr:=kr) OK HAn hc R h h5
  | Try b hs e f p=>
   have h:exG g.P (rec g.P n) (cond (hs.isEmpty&&f.isEmpty) bad (.q 1 0 (cSs k c.env.scope.names b) (cHs k c.env.scope.names hs) (cSs k c.env.scope.names e) (cSs k c.env.scope.names f))) c.hd σ.h σ.nx σ.lo kn kb kc kr ke=true:=h
   cases hne:(hs.isEmpty&&f.isEmpty) with
   | true=>rw[hne] at h; exact Za h
   | false=>rw[hne] at h; exact Zml OK HA hc own R hne h h1 h2 h3 h4 h5
  | AugAssign t op e p=>
   cases t with
   | Attribute o x tp=>
    obtain⟨hb,h⟩:=ZbV (show exG g.P (rec g.P n) (cond (gd x&&ZD o) (.t 8 (cOp op) (cE k c.env.scope.names o) (.k 1 (enc x)) (cE k c.env.scope.names e)) bad) c.hd σ.h σ.nx σ.lo kn kb kc kr ke=true from h)
    exact Za h
   | _=>exact Za h
  | Assert t e p=>
   cases e with
   | some _=>exact Za h
   | none=>
    have h:(rec g.P n).tst (cE k c.env.scope.names t) c.hd σ.h σ.nx σ.lo (fun t h nx lo=>bif t then(rec g.P n).ex nil c.hd h nx lo kn kb kc kr ke else(rec g.P n).ex bad c.hd h nx lo kn kb kc kr ke) ke=true:=h
    rw[arm_exec_Assert]
    refine wpAny_bind (wpAny_standAt (wpAny_bind (HAn.ts c hc.down k t σ R _ _ h _ _ (fun σ' v R' X' hk=>?_) h5)))
    cases n with
    | zero=>cases v <;> exact Za hk
    | succ n=>
     cases v with
     | false=>exact Za hk
     | true=>exact wpAny_pure (h1 σ' R' X' hk)
  | FunctionDef x a body ds rt tp scope ts bind pos=>
   obtain⟨hb,h⟩:=ZbV (show exG g.P (rec g.P n) (cond (gdn x&&bind==x&&(c.env.scope.names.lookup x==some .local||c.env.scope.names.lookup x==some .cell)&&Za9 a scope&&ds.isEmpty&&rt.isNone&&tp.isEmpty&&ts.isNone&&(a.args.all fun y=>y.annotation.isNone))
    (.b 10 (enc x) (ZcM (enc x) (c.env.scope.names.lookup x)) (.f ⟨pos.line,pos.col,a.args.map fun x=>enc x.arg,[],[],ZC scope.names⟩ (cSs k scope.names body))) bad) c.hd σ.h σ.nx σ.lo kn kb kc kr ke=true from h)
   exact Zmk (kb:=kb) (kc:=kc) (kr:=kr) OK HAn hc R hb h h1 h5
  | _=>exact Za h
end
noncomputable def isSp (e:E):Bool:=@E.rec (fun _=>Bool) (fun _ _=>false) (fun _=>false) (fun t _ _ _=>Nat.beq t 0) (fun t _ _ _ _ _=>Nat.ble t 1) (fun t _ _ _ _ _ _ _=>Nat.beq t 0) (fun _ _ _ _ _ _ _ _ _ _=>false) (fun _ _ _=>false) e
theorem ZU {b:Bool} {e:E} (h:isSp e=false):isSp (cond b e bad)=false:=by
 cases b with
 | true=>exact h
 | false=>rfl
theorem Z3 {P:Prg} {r:Rec} {e:E} {hd:Hd} {h:H} {nx:Nat} {lo:Lo} {ko:Bool→KS} {ke:Nat→KS} (hs:isSp e=false) (q:tstG P r e hd h nx lo ko ke=true):ZaT e P r hd h nx lo ko ke=true:=by
 cases e with
 | k t n=>cases t with
  | zero=>exact Za q
  | succ t=>exact q
 | c v=>exact q
 | u t n a=>cases t with
  | zero=>exact Za hs.symm
  | succ t=>exact q
 | b t n x y=>match t,hs,q with
  | 0,hs,q=>exact Za hs.symm
  | 1,hs,q=>exact Za hs.symm
  | t + 2,hs,q=>exact q
 | t t n x y z=>cases t with
  | zero=>exact Za hs.symm
  | succ t=>exact q
 | q t n w x y z=>exact q
 | f p b=>exact q
section
variable {g:Gl} {n k:Nat} {c:Cx} {σ : St}
theorem Zkb {r:Rec} {b:Bool} {e:E} {ko:Bool→KS} {ke:Nat→KS} (h:tstG g.P r (cond b e bad) c.hd σ.h σ.nx σ.lo ko ke=true):b=true∧tstG g.P r e c.hd σ.h σ.nx σ.lo ko ke=true:=by
 cases b with
 | true=>exact⟨rfl,h⟩
 | false=>exact Za h
theorem s_ts (OK:POK g.P g.K g.tabs g.dn) (HAn:AllS g (rec g.P n) n):TsS g (rec g.P (n + 1)) (n + 1):=by
 intro c hc k e σ R ko ke h Q Er hQ hE
 have h:tstG g.P (rec g.P n) (cE k c.env.scope.names e) c.hd σ.h σ.nx σ.lo ko ke=true:=h
 cases k with
 | zero=>exact Za h
 | succ k=>
  cases e with
  | BoolOp op vs p=>
   obtain⟨h2,h⟩:=Zkb (show tstG g.P (rec g.P n) (cond (Nat.ble 2 vs.length) (Zbs k c.env.scope.names op vs) bad) c.hd σ.h σ.nx σ.lo ko ke=true from h)
   exact Zhm HAn hc R h hQ hE (Nat.le_of_ble_eq_true h2)
  | UnaryOp op x p=>
   cases op with
   | Not=>exact Ziq HAn hc R h hQ hE
   | USub=>
    refine ZL OK HAn hc R rfl (k:=k + 1) (Z3 ?_ h) hQ hE
    show isSp (match const? x with | some (.int i)=>E.c (.int (-i)) | _=>bad)=false
    split <;> rfl
   | _=>exact Za h
  | IfExp t a b p=>exact ZjH HAn hc R h hQ hE
  | Compare l ops rs p=>
   match ops,rs,h with
   | [op],[rr],h=>
    refine Zip OK HAn hc R (k:=k + 1) (Z3 ?_ h) hQ hE
    show isSp (cond (behindInMarks op rr) bad _)=false
    cases behindInMarks op rr <;> rfl
   | [],_,h=>exact Za h
   | [_],[],h=>exact Za h
   | [_],_ :: _ :: _,h=>exact Za h
   | _ :: _ :: _,_,h=>exact Za h
  | Constant cc i p=>
   refine ZL OK HAn hc R rfl (k:=k + 1) (Z3 ?_ h) hQ hE
   cases cc with
   | str s=>exact ZU rfl
   | _=>rfl
  | Name x p=>
   refine ZL OK HAn hc R rfl (k:=k + 1) (Z3 (ZU ?_) h) hQ hE
   cases c.env.scope.names.lookup x with
   | none=>rfl
   | some q=>cases q <;> rfl
  | BinOp l op r p=>exact ZL OK HAn hc R rfl (k:=k + 1) (Z3 rfl h) hQ hE
  | Attribute o x p=>exact ZL OK HAn hc R rfl (k:=k + 1) (Z3 (ZU rfl) h) hQ hE
  | Call f as ks p=>
   refine ZL OK HAn hc R rfl (k:=k + 1) (Z3 (ZU ?_) h) hQ hE
   cases attr? f with
   | none=>rfl
   | some q=>exact ZU rfl
  | Subscript o i p=>
   refine ZL OK HAn hc R rfl (k:=k + 1) (Z3 ?_ h) hQ hE
   show isSp (cond (slice? i) (match sl? i with
    | some (lo,hi)=>cond (isNm o) _ bad
    | none=>bad) _)=false
   cases slice? i with
   | false=>rfl
   | true=>
    cases sl? i with
    | none=>rfl
    | some q=>exact ZU rfl
  | List es p=>exact ZL OK HAn hc R rfl (k:=k + 1) (Z3 rfl h) hQ hE
  | Tuple es kd p=>exact ZL OK HAn hc R rfl (k:=k + 1) (Z3 rfl h) hQ hE
  | Dict ks vs p=>exact ZL OK HAn hc R rfl (k:=k + 1) (Z3 (ZU rfl) h) hQ hE
  | ListComp elt gens scope p=>
   refine ZL OK HAn hc R rfl (k:=k + 1) (Z3 ?_ h) hQ hE
   show isSp (match ZaD gens with
    | some (t,it,ifs)=>_
    | none=>bad)=false
   cases ZaD gens with
   | none=>rfl
   | some q=>exact ZU rfl
  | Lambda a body scope p=>exact ZL OK HAn hc R rfl (k:=k + 1) (Z3 (ZU rfl) h) hQ hE
  | _=>exact Za h
end
theorem Zmp {g:Gl} (OK:POK g.P g.K g.tabs g.dn) (hU:∀ v,g.unk 0 v):∀ n m,m≤n→AllS g (rec g.P m) m:=by
 intro n
 induction n with
 | zero=>
  intro m hm
  obtain rfl:=Nat.le_zero.mp hm
  exact⟨fun c hc k e σ R ko ke h=>Za h,fun c hc k e σ R ko ke h=>Za h,fun c hc own k ss σ R kn kb kc kr ke h=>Za h,fun c hc own k ss σ R kn kb kc kr ke h=>Za h,
   fun c hc σ R f rf as ras kw rkw ko ke _ _ _ h=>Za h,fun c hc σ R a m as ras kw rkw ko ke _ _ _ h=>Za h,fun c hc k t σ R v rv _ kc ke h=>Za h⟩
 | succ n ih=>
  intro m hm
  rcases Nat.lt_or_ge m (n + 1) with q | q
  ·exact ih m (Nat.le_of_lt_succ q)
  ·obtain rfl:=Nat.le_antisymm hm q
   have HAn:=ih n (Nat.le_refl _)
   exact⟨s_ev OK ih,s_ts OK HAn,Zj1 HAn,Zmo OK ih,Zmf OK hU HAn,Zla OK hU HAn,Zmh OK HAn⟩
end Mn
end
section
set_option tactic.hygienic false
namespace Mn
open PySem PySem.W PyProof.Rows PySem.Calls PySem.Spec
noncomputable section
noncomputable def BT.toL {α : Type}:BT α→Nat→Nat→List (Nat × α)
 | .nil,_,_=>[]
 | .node v l r,a,b=>(match v with | some x=>[(b,x)] | none=>[])++(l.toL (2 * a) (a + b)++r.toL (2 * a) (2 * a + b))
theorem BT.mem_toL {α : Type}:∀ (t:BT α) (a b i:Nat) (v : α),t.get i=some v→(a * i + b,v) ∈ t.toL a b:=by
 intro t
 induction t with
 | nil=>intro a b i v h; cases h
 | node w l r ihl ihr=>
  intro a b i v h
  rw[BT.get_node] at h
  unfold BT.toL
  by_cases h0:i=0
  ·rw[if_pos h0] at h
   subst h; subst h0
   simp
  ·rw[if_neg h0] at h
   by_cases h1:i % 2=1
   ·rw[if_pos h1] at h
    have:=ihl (2 * a) (a + b) _ _ h
    rw[show 2 * a * (i / 2) + (a + b)=a * i + b by
     have e:i=2 * (i / 2) + 1:=by omega
     generalize i / 2=k at e
     subst e
     rw[Nat.mul_add,Nat.mul_one,Nat.mul_comm 2 a,Nat.mul_assoc]; omega] at this
    exact List.mem_append_right _ (List.mem_append_left _ this)
   ·rw[if_neg h1] at h
    have:=ihr (2 * a) (2 * a + b) _ _ h
    rw[show 2 * a * (i / 2 - 1) + (2 * a + b)=a * i + b by
     have e:i=2 * (i / 2 - 1) + 2:=by omega
     generalize i / 2 - 1=k at e
     subst e
     rw[Nat.mul_add,Nat.mul_comm 2 a,Nat.mul_assoc]; omega] at this
    exact List.mem_append_right _ (List.mem_append_right _ this)
theorem BT.toL_of {α : Type} {t:BT α} {i:Nat} {v : α} (h:t.get i=some v):(i,v) ∈ t.toL 1 0:=by
 have:=t.mem_toL 1 0 i v h
 rwa [Nat.one_mul,Nat.add_zero] at this
theorem ZX {α : Type}:∀ (l:List (Nat × α)) (n:Nat) (v : α),look l n=some v→(n,v) ∈ l:=by
 intro l n v
 induction l with
 | nil=>intro h; cases h
 | cons p l ih=>
  intro h
  have e:look (p :: l) n=cond (Nat.beq p.1 n) (some p.2) (look l n):=brec _ _ _
  rw[e,ZE] at h
  split at h
  ·next q=>cases h; obtain⟨a,b⟩:=p; dsimp only at q ⊢; subst q; exact List.mem_cons_self
  ·exact List.mem_cons_of_mem _ (ih h)
noncomputable def decN:Nat→Nat→List Nat→List Nat
 | 0,_,acc=>acc
 | k + 1,n,acc=>match Nat.beq n 0 with
  | true=>acc
  | false=>decN k (n / 256) (n % 256 :: acc)
noncomputable def decS (n:Nat):Str:=⟨⟨decN 60 n []⟩⟩
noncomputable def Zbd (n:Nat):Bool:=Nat.beq (enc (decS n)) n&&gd (decS n)
theorem Zdn {n:Nat} {x:Str} (h:Zbd n=true) (hx:gd x=true) (e:enc x=n):x=decS n:=by
 unfold Zbd at h
 rw[Bool.and_eq_true] at h
 exact Zw hx h.2 (by rw[e]; exact(Nat.beq_eq.mp h.1).symm)
noncomputable def ZaV:V→Option (Nat × Int)
 | .none=>some (0,0)
 | .bool b=>some (1,bif b then 1 else 0)
 | .int i=>some (2,i)
 | .str n=>some (3,n)
 | .top n=>some (4,n)
 | .bi n=>some (5,n)
 | .unk n=>some (6,n)
 | .other=>some (7,0)
 | _=>none
noncomputable def decV (x:Nat × Int):V:=match x.1 with
 | 0=>.none
 | 1=>.bool (decide (x.2=1))
 | 2=>.int x.2
 | 3=>.str x.2.toNat
 | 4=>.top x.2.toNat
 | 5=>.bi x.2.toNat
 | 6=>.unk x.2.toNat
 | _=>.other
theorem Zf7 {v:V} {x:Nat × Int} (h:ZaV v=some x):v=decV x:=by
 cases v with
 | bool b=>cases Option.some.inj h; cases b <;> rfl
 | tup _=>exact Ze h
 | sint _=>exact Ze h
 | sv _=>exact Ze h
 | ref _=>exact Ze h
 | rng _=>exact Ze h
 | fr _ _ _=>exact Ze h
 | _=>cases Option.some.inj h; rfl
noncomputable def Zq (v w:V):Bool:=match ZaV v with
 | some x=>(match ZaV w with
  | some y=>Nat.beq x.1 y.1&&decide (x.2=y.2)
  | none=>false)
 | none=>false
theorem ZaG {v w:V} (h:Zq v w=true):v=w:=by
 unfold Zq at h
 cases e1:ZaV v with
 | none=>rw[e1] at h; exact Za h
 | some x=>
  cases e2:ZaV w with
  | none=>rw[e1,e2] at h; exact Za h
  | some y=>
   rw[e1,e2] at h
   obtain⟨h1,h2⟩:=Yb h
   have h1:=Nat.beq_eq.mp h1
   have h2:=of_decide_eq_true h2
   rw[Zf7 e1,Zf7 e2,show x=y from Prod.ext h1 h2]
noncomputable def Za0:Value→V
 | .none=>.none
 | .bool b=>.bool b
 | .int i _=>.int i
 | .str x _=>bif gd x then .str (enc x) else .other
 | _=>.other
noncomputable def vrC (v:V) (rv:Value):Bool:=Zq (Za0 rv) v&&!Zq .other v
theorem ZhW {v:V} {rv:Value} (h:vrC v rv=true) (g:Gl) (σ : St):VR g σ v rv:=by
 obtain⟨h1,h2⟩:=Yb h
 have e:=ZaG h1
 subst e
 cases rv with
 | none=>exact rfl
 | bool b=>exact rfl
 | int i t=>exact⟨t,rfl⟩
 | str x t=>
  cases hx:gd x with
  | true=>show VR g σ (bif gd x then .str (enc x) else .other) _; rw[hx]; exact⟨x,t,rfl,hx,rfl⟩
  | false=>exact Za (by rw[show Za0 (.str x t)=.other from(congrArg (fun b=>bif b then V.str (enc x) else V.other) hx)] at h2; exact h2)
 | _=>exact Za h2
end
noncomputable section
noncomputable def ZgU (K:Frag) (p:Nat) (n:String):Option Nat:=match recIn K p n with
 | some (.ref f :: _)=>some f
 | _=>none
theorem ZiE {K:Frag} {p:Nat} {n:String} {f:Nat} (h:ZgU K p n=some f):∃ rest,recIn K p n=some (.ref f :: rest):=by
 unfold ZgU at h
 cases e:recIn K p n with
 | none=>rw[e] at h; exact Ze h
 | some l=>
  rw[e] at h
  cases l with
  | nil=>exact Ze h
  | cons v rest=>
   cases v with
   | ref a=>obtain rfl:=Option.some.inj h; exact⟨rest,rfl⟩
   | _=>exact Ze h
noncomputable def ZgV (K:Frag) (f:Nat):Bool:=isFn K (.ref f)&&(K.lookup f).isSome&&specialIn K (.ref f) "__get__" == some (some (.builtin "function.__get__"))&&takesIn K (.ref f)==some false
theorem ZiF {K:Frag} {f:Nat} (h:ZgV K f=true):FnAt K f:=by
 simp only [ZgV,Bool.and_eq_true,beq_iff_eq] at h
 obtain⟨⟨⟨h1,h2⟩,h3⟩,h4⟩:=h
 exact⟨h1,Option.isSome_iff_exists.mp h2,h3,h4⟩
noncomputable def ZcY (K:Frag) (C:Value) (x:Str):Option Nat:=match findIn K C x with
 | some (some (.ref p))=>some p
 | _=>none
theorem ZdU {K:Frag} {C:Value} {x:Str} {p:Nat} (h:ZcY K C x=some p):findIn K C x=some (some (.ref p)):=by
 unfold ZcY at h
 cases e:findIn K C x with
 | none=>rw[e] at h; exact Ze h
 | some o=>
  rw[e] at h
  cases o with
  | none=>exact Ze h
  | some v=>
   cases v with
   | ref a=>obtain rfl:=Option.some.inj h; rfl
   | _=>exact Ze h
noncomputable def Zeh (K:Frag) (C:Value) (x:Str):Option Value:=match findIn K C x with
 | some o=>o
 | none=>none
theorem ZgW {K:Frag} {C:Value} {x:Str} {v:Value} (h:Zeh K C x=some v):findIn K C x=some (some v):=by
 unfold Zeh at h
 cases e:findIn K C x with
 | none=>rw[e] at h; exact Ze h
 | some o=>rw[e] at h; exact congrArg some h
noncomputable def prB (K:Frag) (x:Str) (f:Nat) (k get:String) (t:Bool) (p:Nat):Bool:=
 ZgU K p k==some f&&specialIn K (.ref p) "__get__" == some (some (.builtin get))&&takesIn K (.ref p)==some t&&!copiedNames.contains x
theorem ZhX {K:Frag} {x:Str} {f:Nat} {k get:String} {t:Bool} {p:Nat} (h:prB K x f k get t p=true):(∃ rest,recIn K p k=some (.ref f :: rest))∧specialIn K (.ref p) "__get__" = some (some (.builtin get))∧takesIn K (.ref p)=some t∧copiedNames.contains x=false:=by
 simp only [prB,Bool.and_eq_true,Bool.not_eq_true',beq_iff_eq] at h
 obtain⟨⟨⟨h1,h2⟩,h3⟩,h4⟩:=h
 exact⟨ZiE h1,h2,h3,h4⟩
noncomputable def Zjk (rv:Value):Option CFound→Bool
 | some (.val u)=>u==rv
 | _=>false
noncomputable def valB (K:Frag) (C:Value) (x:Str) (v:V) (rv:Value):Bool:=
 vrC v rv&&specialIn K rv "__get__" == some none&&takesIn K rv==some false&&handedIn rv&&!copiedNames.contains x&&(match C with
  | .ref c=>readsIn K c (.type "type")&&Zjk rv (findCls K C (.type "type") x)
  | _=>true)
theorem ZiG {rv:Value} {o:Option CFound} (h:Zjk rv o=true):o=some (.val rv):=by
 cases o with
 | none=>exact Za h
 | some q=>
  cases q with
  | val u=>exact congrArg (fun u=>some (CFound.val u)) (eq_of_beq h)
  | _=>exact Za h
noncomputable def ZgX (K:Frag) (C:Value) (x:Str):CA→Bool
 | .no=>findIn K C x==some none
 | .oi=>findIn K C x==some (some (.builtin "object.__init__"))
 | .fn f=>findIn K C x==some (some (.ref f))&&ZgV K f&&!copiedNames.contains x
 | .val v=>(Zeh K C x).any (valB K C x v)
 | .pr f=>(ZcY K C x).any (prB K x f "property" "property.__get__" true)
 | .st f=>(ZcY K C x).any (fun p=>prB K x f "staticmethod" "staticmethod.__get__" false p&&(K.lookup f).isSome)
theorem ZiH {K:Frag} {C:Value} {x:Str} {ca:CA} (h:ZgX K C x ca=true):Zct K C x ca:=by
 cases ca with
 | no=>exact eq_of_beq h
 | oi=>exact eq_of_beq h
 | fn f=>
  simp only [ZgX,Bool.and_eq_true,Bool.not_eq_true',beq_iff_eq] at h
  obtain⟨⟨h1,h2⟩,h3⟩:=h
  exact⟨h1,ZiF h2,h3⟩
 | val v=>
  obtain⟨rv,e,h⟩:=(Option.any_eq_true _ _).mp h
  simp only [valB,Bool.and_eq_true,Bool.not_eq_true',beq_iff_eq] at h
  obtain⟨⟨⟨⟨⟨h1,h2⟩,h3⟩,h4⟩,h5⟩,h6⟩:=h
  refine⟨rv,ZgW e,h2,h3,h4,h5,fun g σ=>ZhW h1 g σ,fun c hc=>?_⟩
  subst hc
  obtain⟨a,b⟩:=Yb h6
  exact⟨a,ZiG b⟩
 | pr f=>
  obtain⟨p,e,h⟩:=(Option.any_eq_true _ _).mp h
  obtain⟨⟨rest,h1⟩,h2,h3,h4⟩:=ZhX h
  exact⟨p,rest,ZdU e,h1,h2,h3,h4⟩
 | st f=>
  obtain⟨p,e,h⟩:=(Option.any_eq_true _ _).mp h
  obtain⟨h,h5⟩:=Yb h
  obtain⟨⟨rest,h1⟩,h2,h3,h4⟩:=ZhX h
  exact⟨p,rest,ZdU e,h1,h2,h3,h4,Option.isSome_iff_exists.mp h5⟩
end
noncomputable section
theorem impB {a b:Bool} (h:(!a||b)=true) (e:a=true):b=true:=by subst e; exact h
noncomputable def Zmq:Value→Bool
 | .type n=>(Manifest.find? n).elim "type" (·.metatype) == "type"
 | _=>false
noncomputable def rzB (K:Frag) (v:Value):Bool:=subIn K v (.type "BaseException")==some true&&(typeIn K v==some (.type "type")||Zmq v)
theorem Zli {K:Frag} {v:Value} (h:rzB K v=true):subIn K v (.type "BaseException")=some true∧(typeIn K v=some (.type "type")∨typeOf v=pure (.type "type")):=by
 obtain⟨h1,h2⟩:=Yb h
 refine⟨eq_of_beq h1,?_⟩
 rcases Bool.or_eq_true_iff.mp h2 with h2 | h2
 ·exact .inl (eq_of_beq h2)
 ·cases v with
  | type n=>exact .inr (congrArg (fun s=>(pure (Value.type s):Sem Value)) (eq_of_beq h2))
  | _=>exact Za h2
noncomputable def x2B (ci:ClsI):Bool:=Nat.beq ci.xk 1||Nat.beq ci.xk 2
noncomputable def usB (ci:ClsI):Bool:=ci.ok||Nat.beq ci.xk 2
noncomputable def clsL (K:Frag) (C:Nat) (ci:ClsI):List Bool:=
 [!ci.ok||(makesIn K C&&(plainOver K C&&(subIn K (.ref C) (.type "module")==some false&&Zb8 K C "str"))),
  !usB ci||((!ci.ok||plainGet K C "")&&((!Nat.beq ci.xk 2||Ze8 K C)&&(hasDictIn K C&&findIn K (.ref C) "__setattr__" == some (some (.builtin "object.__setattr__"))))),
  !(ci.ok||Nat.ble 1 ci.xk)||keepIn K (.ref C),
  !ci.cmp||ZdJ K C,
  !(ci.ok||x2B ci)||Nat.ble 20 C,
  !Nat.beq ci.xk 1||findIn K (.ref C) "__init__" == some (some (.builtin "Exception.__init__")),
  !x2B ci||excD K C,
  !ci.exc||rzB K (excV C),
  ci.attrs.all fun a=>Zbd a.1&&ZgX K (excV C) (decS a.1) a.2]
noncomputable def clsB (K:Frag) (p:Nat × ClsI):Bool:=(clsL K p.1 p.2).all id
theorem Zkc {K:Frag} {C:Nat} {ci:ClsI} (h:clsB K (C,ci)=true):ClsOK K C ci:=by
 have h:=List.all_eq_true.mp (show (clsL K C ci).all id=true from h)
 have a1:=fun e=>impB (h _ (.head _)) e
 have a2:=fun e=>impB (h _ (.tail _ (.head _))) e
 have a3:=fun e=>impB (h _ (.tail _ (.tail _ (.head _)))) e
 have a4:=fun e=>impB (h _ (.tail _ (.tail _ (.tail _ (.head _))))) e
 have a5:=fun e=>impB (h _ (.tail _ (.tail _ (.tail _ (.tail _ (.head _)))))) e
 have a6:=fun e=>impB (h _ (.tail _ (.tail _ (.tail _ (.tail _ (.tail _ (.head _))))))) e
 have a7:=fun e=>impB (h _ (.tail _ (.tail _ (.tail _ (.tail _ (.tail _ (.tail _ (.head _)))))))) e
 have a8:=fun e=>impB (h _ (.tail _ (.tail _ (.tail _ (.tail _ (.tail _ (.tail _ (.tail _ (.head _))))))))) e
 have a9:=h _ (.tail _ (.tail _ (.tail _ (.tail _ (.tail _ (.tail _ (.tail _ (.tail _ (.head _)))))))))
 clear h
 have b1:=fun e=>Yb (a1 e)
 have b2:=fun e=>Yb (b1 e).2
 have b3:=fun e=>Yb (b2 e).2
 have us:ci.ok=true∨ci.xk=2→usB ci=true:=fun e=>Bool.or_eq_true_iff.mpr (e.imp id fun e=>Nat.beq_eq.mpr e)
 have xs:ci.xk=1∨ci.xk=2→x2B ci=true:=fun e=>Bool.or_eq_true_iff.mpr (e.imp Nat.beq_eq.mpr Nat.beq_eq.mpr)
 have c1:=fun e=>Yb (a2 (us e))
 have c2:=fun e=>Yb (c1 e).2
 have c3:=fun e=>Yb (c2 e).2
 exact⟨fun e=>(b1 e).1,fun e=>impB (c1 (.inl e)).1 e,fun e=>impB (c2 (.inr e)).1 (Nat.beq_eq.mpr e),fun e=>(c3 e).1,fun e=>eq_of_beq (c3 e).2,fun e=>(b2 e).1,a3,fun e=>eq_of_beq (b3 e).1,fun e=>(b3 e).2,a4,
  fun e=>Nat.le_of_ble_eq_true (a5 (Bool.or_eq_true_iff.mpr (e.imp id xs))),fun e=>eq_of_beq (a6 (Nat.beq_eq.mpr e)),fun e=>a7 (xs e),fun e=>Zli (a8 e),fun x ca hx e=>by
   obtain⟨q1,q2⟩:=Yb (List.all_eq_true.mp a9 _ (ZX _ _ _ e))
   rw[Zdn q1 hx rfl]
   exact ZiH q2⟩
end
end Mn
end
section
set_option tactic.hygienic true
namespace Mn
open PySem PySem.W PyProof.Rows PySem.Calls PySem.Spec
noncomputable section
theorem Zjl {α : Type} {b:Bool} {x:Option α} {y : α} (h:cond b x none=some y):b=true∧x=some y:=by
 cases b with
 | true=>exact⟨rfl,h⟩
 | false=>exact Ze h
noncomputable def ZeT (K:Frag) (p:Nat × V):Bool:=Zbd p.1&&match p.2 with
 | .top a=>nsIn K mainGlobals (decS p.1)==some (some (.ref a))&&(K.lookup a).isSome
 | .bi n=>nsIn K mainGlobals (decS p.1)==some none&&bootBuiltins (decS p.1)==some (biV n)&&!(decS p.1==("__name__" : Str))
 | _=>false
theorem ZiI {K:Frag} {x:Str} {v:V} (hx:gd x=true) (h:ZeT K (enc x,v)=true) :
  (∃ a o,v=.top a∧nsIn K mainGlobals x=some (some (.ref a))∧K.lookup a=some o)∨(∃ n,v=.bi n∧nsIn K mainGlobals x=some none∧bootBuiltins x=some (biV n)∧x≠"__name__"):=by
 unfold ZeT at h
 rw[Bool.and_eq_true] at h
 rw[← Zdn h.1 hx rfl] at h
 obtain⟨_,h⟩:=h
 dsimp only at h
 split at h
 ·simp only [Bool.and_eq_true,beq_iff_eq] at h
  obtain⟨o,ho⟩:=Option.isSome_iff_exists.mp h.2
  exact .inl ⟨_,o,rfl,h.1,ho⟩
 ·simp only [Bool.and_eq_true,beq_iff_eq,Bool.not_eq_true',beq_eq_false_iff_ne] at h
  exact .inr ⟨_,rfl,h.1.1,h.1.2,h.2⟩
 ·exact Za h
noncomputable def dflV (rv:Value):V:=bif Zq .other (Za0 rv) then .unk 0 else Za0 rv
theorem Zkd {rv:Value} (hr:handedIn rv=true) (g:Gl) (σ : St) (hU:∀ v,g.unk 0 v):VR g σ (dflV rv) rv:=by
 unfold dflV
 cases e:Zq .other (Za0 rv) with
 | true=>exact⟨hU _,hr⟩
 | false=>exact ZhW (by
   show (Zq (Za0 rv) (Za0 rv)&&!Zq .other (Za0 rv))=true
   rw[e,Bool.not_false,Bool.and_true]
   have:∀ v:V,ZaV v≠none→Zq v v=true:=fun v h=>by
    unfold Zq
    cases q:ZaV v with
    | none=>exact absurd q h
    | some x=>exact Bool.and_eq_true_iff.mpr ⟨Nat.beq_refl _,decide_eq_true rfl⟩
   refine this _ ?_
   cases rv with
   | str x t=>show ZaV (bif gd x then .str (enc x) else .other)≠none; cases gd x <;> exact nofun
   | _=>exact nofun) g σ
theorem ZiJ {l:List Value} (hr:l.all handedIn=true) (g:Gl) (σ : St) (hU:∀ v,g.unk 0 v):VRs g σ (l.map dflV) l:=by
 induction l with
 | nil=>exact True.intro
 | cons v l ih=>rw[List.all_cons,Bool.and_eq_true] at hr; exact⟨Zkd hr.1 g σ hU,ih hr.2⟩
noncomputable def dflB (K:Frag) (v:Value):Option (List V):=match v with
 | .none=>some []
 | .ref T=>(match K.lookup T with
  | some o=>(match o.data with
   | .seq its _=>cond (its.toList.all handedIn) (some (its.toList.map dflV)) none
   | _=>none)
  | none=>none)
 | _=>none
theorem Zke {K:Frag} {dV:Value} {d:List V} (h:dflB K dV=some d) :
  (dV=.none∧d = [])∨∃ T tc td its tn ts,dV=.ref T∧K.lookup T=some ⟨tc,td,.seq its tn,ts⟩∧∀ g σ,(∀ v,g.unk 0 v)→VRs g σ d its.toList:=by
 cases dV with
 | none=>exact .inl ⟨rfl,(Option.some.inj h).symm⟩
 | ref T=>
  have h:(match K.lookup T with
   | some o=>(match o.data with
    | .seq its _=>cond (its.toList.all handedIn) (some (its.toList.map dflV)) none
    | _=>none)
   | none=>none)=some d:=h
  cases e:K.lookup T with
  | none=>rw[e] at h; exact Ze h
  | some o=>
   rw[e] at h
   obtain⟨tc,td,dt,ts⟩:=o
   cases dt with
   | seq its tn=>
    obtain⟨a,b⟩:=Zjl h
    obtain rfl:=Option.some.inj b
    exact .inr ⟨_,_,_,_,_,_,rfl,e,fun g σ hU=>ZiJ a g σ hU⟩
   | _=>exact Ze h
 | _=>exact Ze h
noncomputable def ZM:List Nat→Bool
 | []=>true
 | x :: l=>!mem l x&&ZM l
theorem ZcE {l:List Nat} {n:Nat} (h:n ∈ l):mem l n=true:=by
 induction l with
 | nil=>cases h
 | cons k l ih=>
  rw[mem_cons]
  split
  ·rfl
  ·next e=>
   rcases List.mem_cons.mp h with rfl | h
   ·exact absurd rfl e
   ·exact ih h
theorem Zak:∀ {l:List Nat},ZM l=true→l.Nodup
 | [],_=>List.nodup_nil
 | x :: l,h=>by
  unfold ZM at h
  rw[Bool.and_eq_true,Bool.not_eq_true'] at h
  refine List.nodup_cons.mpr ⟨fun m=>?_,Zak h.2⟩
  rw[ZcE m] at h
  exact Bool.noConfusion h.1
theorem Za1 {l:List Str} (h:ZM (l.map enc)=true):l.Nodup:=by
 have:=Zak h
 unfold List.Nodup at this ⊢
 rw[List.pairwise_map] at this
 exact this.imp fun h e=>h (congrArg enc e)
theorem ZaB (x:Str):∀ (names:List (Str × NameKind)) (n m:Nat) (acc acc':List (Str × Addr)),(acc.lookup x).isSome=(acc'.lookup x).isSome→
  ((cellsFrom n names acc).lookup x).isSome=((cellsFrom m names acc').lookup x).isSome
 | [],_,_,_,_,h=>h
 | (y,k) :: r,n,m,acc,acc',h=>by
  unfold cellsFrom
  split
  ·refine ZaB x r _ _ _ _ ?_
   rw[List.lookup_cons,List.lookup_cons]
   split
   ·rfl
   ·exact h
  ·exact ZaB x r _ _ _ _ h
noncomputable def ZhY (K:Frag) (tabs:List (Addr × Addr × Str)) (qual:Str):Value→Bool
 | .ref cc=>tabs.any fun q=>q.1==cc&&codeHdIn K cc q.2.1&&q.2.2==qual ++ ".<locals>."
 | _=>false
theorem ZhZ {K:Frag} {tabs:List (Addr × Addr × Str)} {qual:Str} {cdv:Value} (q:ZhY K tabs qual cdv=true):∃ cc Q,cdv=.ref cc∧(cc,Q,qual ++ ".<locals>.") ∈ tabs∧codeHdIn K cc Q=true:=by
 cases cdv with
 | ref c0=>
  obtain⟨⟨c,Q,s⟩,m,q⟩:=List.any_eq_true.mp q
  obtain⟨q,q3⟩:=Yb q
  obtain⟨q1,q2⟩:=Yb q
  obtain rfl:=eq_of_beq q1
  obtain rfl:=eq_of_beq q3
  exact⟨_,_,rfl,m,q2⟩
 | _=>exact Za q
noncomputable def nilB {α : Type}:List α→Bool
 | []=>true
 | _=>false
theorem Zkf {α : Type} {x:List α} (h:nilB x=true):x = []:=by cases x; rfl; exact Za h
noncomputable def Zkg (k:Option NameKind) (c:Bool):Bool:=k==some .local||(k==some .cell&&c)
noncomputable def ZcZ (a b c:Bool):Bool:=a&&(b&&c)
theorem and3 {a b c:Bool} (h:ZcZ a b c=true):a=true∧b=true∧c=true:=let ⟨x,y⟩:=Yb h; ⟨x,Yb y⟩
noncomputable def Zh0 (K:Frag) (mks:List Nat) (tabs:List (Addr × Addr × Str)) (a:Nat) (fd:FuncData):List Bool:=
 [ZcZ (codeIn K fd.code fd.qualname) (fd.params.args.all fun x=>gd x.arg) (fd.scope.kind == .function),
  ZcZ (!fd.scope.isCoroutine) (!fd.scope.isGenerator) (fd.scope.names.all fun x=>gd x.1),
  ZcZ (ZM ((cellsFrom 0 fd.scope.names []).map fun p=>enc p.1)) (ZM (fd.params.args.map fun x=>enc x.arg)) (ZM (fd.scope.names.map fun p=>enc p.1)),
  ZcZ (Nat.beq fd.globals mainGlobals) (Nat.beq fd.builtins builtinsNs) (Zbh fd.params),
  ZcZ (nilB fd.closure) (fd.kwdefaults == .none) (!mem mks a||ZhY K tabs fd.qualname fd.code),
  fd.params.args.all fun x=>Zkg (fd.scope.names.lookup x.arg) ((cellsFrom 0 fd.scope.names []).lookup x.arg).isSome]
theorem Zmr {nm qual:Str} {A:Arguments} {body:List Stmt} {scope:Scope} {gl bi:Addr} {cl:List (Str × Addr)} {dV kV doc pm cdv ct:Value} {an:Option Addr}
  (h1:gl=mainGlobals) (h2:bi=builtinsNs) (h8:cl = []) (h9:kV=.none) :
  (⟨nm,qual,A,.stmts body,scope,gl,cl,dV,kV,doc,pm,an,cdv,ct,bi⟩:FuncData)=fnOf nm qual A body scope dV .none doc pm an cdv ct:=by
 subst h1; subst h2; subst h8; subst h9; rfl
noncomputable def fnD (K:Frag) (mks:List Nat) (tabs:List (Addr × Addr × Str)) (a:Nat) (fd:FuncData):Option E:=match fd.body with
 | .stmts body=>cond ((Zh0 K mks tabs a fd).all id) ((dflB K fd.defaults).map fun d=>.f ⟨0,0,fd.params.args.map fun x=>enc x.arg,d,ZG fd.scope.names,ZC fd.scope.names⟩ (cSs F fd.scope.names body)) none
 | _=>none
noncomputable def fnE (K:Frag) (mks:List Nat) (tabs:List (Addr × Addr × Str)) (a:Nat):Option E:=match K.lookup a with
 | some o=>(match o.data with
  | .func fd=>fnD K mks tabs a fd
  | _=>none)
 | none=>none
theorem Zh1 {P:Prg} {K:Frag} {tabs:List (Addr × Addr × Str)} {a:Nat} {f:E} (h:fnE K P.mks tabs a=some f):FnOK P K tabs a f:=by
 unfold fnE at h
 cases e:K.lookup a with
 | none=>rw[e] at h; exact Ze h
 | some o=>
 rw[e] at h
 obtain⟨oc,od,dt,osl⟩:=o
 dsimp only at h
 cases dt with
 | func fd=>
  obtain⟨nm,qual,A,bd,scope,gl,cl,dV,kV,doc,pm,an,cdv,ct,bi⟩:=fd
  unfold fnD at h
  dsimp only at h
  cases bd with
  | stmts body=>
   obtain⟨c,h⟩:=Zjl h
   obtain⟨d,hd,rfl⟩:=Option.map_eq_some_iff.mp h
   unfold Zh0 at c
   dsimp only at c
   have c:=List.all_eq_true.mp c
   obtain⟨c3,c4,c5⟩:=and3 (c _ (.head _))
   obtain⟨c6,c7,c9⟩:=and3 (c _ (.tail _ (.head _)))
   obtain⟨c8,c10,c11⟩:=and3 (c _ (.tail _ (.tail _ (.head _))))
   obtain⟨q1,q2,q3⟩:=and3 (c _ (.tail _ (.tail _ (.tail _ (.head _)))))
   obtain⟨q4,q5,c12⟩:=and3 (c _ (.tail _ (.tail _ (.tail _ (.tail _ (.head _))))))
   have c13:=c _ (.tail _ (.tail _ (.tail _ (.tail _ (.tail _ (.head _))))))
   clear c
   have e:K.lookup a=some ⟨oc,od,.func (fnOf nm qual A body scope dV .none doc pm an cdv ct),osl⟩:=e.trans (congrArg (fun f=>some (Obj.mk oc od (.func f) osl)) (Zmr (Nat.beq_eq.mp q1) (Nat.beq_eq.mp q2) (Zkf q4) (eq_of_beq q5)))
   refine .mk oc od osl nm qual A body scope dV doc pm an cdv ct _ F e c3 rfl rfl rfl q3 (List.all_eq_true.mp c4) (eq_of_beq c5) ((Bool.not_eq_true' _).mp c6) ((Bool.not_eq_true' _).mp c7) (Zke hd)
    (Za1 (by rw[List.map_map]; exact c8)) (List.all_eq_true.mp c9) (Za1 (by rw[List.map_map]; exact c10)) (Za1 (by rw[List.map_map]; exact c11)) (fun hm=>ZhZ (impB c12 hm)) (fun n x hx=>?_)
   have q:=List.all_eq_true.mp c13 x hx
   rcases Bool.or_eq_true_iff.mp q with q | q
   ·exact .inl (eq_of_beq q)
   ·obtain⟨q1,q2⟩:=Yb q
    exact .inr ⟨eq_of_beq q1,by rw[ZaB x.arg scope.names n 0 [] [] rfl]; exact q2⟩
  | _=>exact Ze h
 | _=>exact Ze h
end
noncomputable section
noncomputable def beqN (l:List Nat):List Nat→Bool:=@List.rec Nat (fun _=>List Nat→Bool) (fun k=>k.isEmpty) (fun x _ ih k=>@List.rec Nat (fun _=>Bool) false (fun y k _=>Nat.beq x y&&ih k) k) l
theorem Zad:∀ {l k:List Nat},beqN l k=true→l=k
 | [],[],_=>rfl
 | [],_ :: _,h=>Za h
 | _ :: _,[],h=>Za h
 | x :: l,y :: k,h=>by
  obtain⟨a,b⟩:=Yb (show (Nat.beq x y&&beqN l k)=true from h)
  rw[Yn a,Zad b]
noncomputable def beqP (p q:FP):Bool:=Nat.beq p.line q.line&&(Nat.beq p.col q.col&&(beqN p.ps q.ps&&(p.d.isEmpty&&(q.d.isEmpty&&(beqN p.cs q.cs&&beqN p.fr q.fr)))))
theorem Zkh {p q:FP} (h:beqP p q=true):p=q:=by
 obtain⟨h1,h⟩:=Yb h
 obtain⟨h2,h⟩:=Yb h
 obtain⟨h3,h⟩:=Yb h
 obtain⟨h4,h⟩:=Yb h
 obtain⟨h5,h⟩:=Yb h
 obtain⟨h6,h7⟩:=Yb h
 obtain⟨a,b,c,d,e,g⟩:=p
 obtain⟨a',b',c',d',e',g'⟩:=q
 obtain rfl:a=a':=Yn h1
 obtain rfl:b=b':=Yn h2
 obtain rfl:c=c':=Zad h3
 obtain rfl:d = []:=List.isEmpty_iff.mp h4
 obtain rfl:d' = []:=List.isEmpty_iff.mp h5
 obtain rfl:e=e':=Zad h6
 obtain rfl:g=g':=Zad h7
 rfl
noncomputable def beqE (a:E):E→Bool:=@E.rec (fun _=>E→Bool)
 (fun t n b=>@E.rec (fun _=>Bool) (fun t' n'=>Nat.beq t t'&&Nat.beq n n') (fun _=>false) (fun _ _ _ _=>false) (fun _ _ _ _ _ _=>false) (fun _ _ _ _ _ _ _ _=>false) (fun _ _ _ _ _ _ _ _ _ _=>false) (fun _ _ _=>false) b)
 (fun v b=>@E.rec (fun _=>Bool) (fun _ _=>false) (fun v'=>Zq v v') (fun _ _ _ _=>false) (fun _ _ _ _ _ _=>false) (fun _ _ _ _ _ _ _ _=>false) (fun _ _ _ _ _ _ _ _ _ _=>false) (fun _ _ _=>false) b)
 (fun t n _ ih b=>@E.rec (fun _=>Bool) (fun _ _=>false) (fun _=>false) (fun t' n' x _=>Nat.beq t t'&&(Nat.beq n n'&&ih x)) (fun _ _ _ _ _ _=>false) (fun _ _ _ _ _ _ _ _=>false) (fun _ _ _ _ _ _ _ _ _ _=>false) (fun _ _ _=>false) b)
 (fun t n _ _ ih1 ih2 b=>@E.rec (fun _=>Bool) (fun _ _=>false) (fun _=>false) (fun _ _ _ _=>false) (fun t' n' x y _ _=>Nat.beq t t'&&(Nat.beq n n'&&(ih1 x&&ih2 y))) (fun _ _ _ _ _ _ _ _=>false) (fun _ _ _ _ _ _ _ _ _ _=>false) (fun _ _ _=>false) b)
 (fun t n _ _ _ ih1 ih2 ih3 b=>@E.rec (fun _=>Bool) (fun _ _=>false) (fun _=>false) (fun _ _ _ _=>false) (fun _ _ _ _ _ _=>false) (fun t' n' x y z _ _ _=>Nat.beq t t'&&(Nat.beq n n'&&(ih1 x&&(ih2 y&&ih3 z)))) (fun _ _ _ _ _ _ _ _ _ _=>false) (fun _ _ _=>false) b)
 (fun t n _ _ _ _ ih1 ih2 ih3 ih4 b=>@E.rec (fun _=>Bool) (fun _ _=>false) (fun _=>false) (fun _ _ _ _=>false) (fun _ _ _ _ _ _=>false) (fun _ _ _ _ _ _ _ _=>false) (fun t' n' w x y z _ _ _ _=>Nat.beq t t'&&(Nat.beq n n'&&(ih1 w&&(ih2 x&&(ih3 y&&ih4 z))))) (fun _ _ _=>false) b)
 (fun p _ ih b=>@E.rec (fun _=>Bool) (fun _ _=>false) (fun _=>false) (fun _ _ _ _=>false) (fun _ _ _ _ _ _=>false) (fun _ _ _ _ _ _ _ _=>false) (fun _ _ _ _ _ _ _ _ _ _=>false) (fun p' x _=>beqP p p'&&ih x) b) a
theorem Zf8 {a:E}:∀ {b:E},beqE a b=true→a=b:=by
 induction a with
 | k t n=>
  intro b h
  cases b with
  | k t' n'=>
   obtain⟨h1,h2⟩:=Yb (show (Nat.beq t t'&&Nat.beq n n')=true from h)
   rw[Yn h1,Yn h2]
  | _=>exact Za h
 | c v=>
  intro b h
  cases b with
  | c v'=>rw[ZaG (show Zq v v'=true from h)]
  | _=>exact Za h
 | u t n x ih=>
  intro b h
  cases b with
  | u t' n' x'=>
   obtain⟨h1,h⟩:=Yb (show (Nat.beq t t'&&(Nat.beq n n'&&beqE x x'))=true from h)
   obtain⟨h2,h3⟩:=Yb h
   rw[Yn h1,Yn h2,ih h3]
  | _=>exact Za h
 | b t n x y ih1 ih2=>
  intro b h
  cases b with
  | b t' n' x' y'=>
   obtain⟨h1,h⟩:=Yb (show (Nat.beq t t'&&(Nat.beq n n'&&(beqE x x'&&beqE y y')))=true from h)
   obtain⟨h2,h⟩:=Yb h
   obtain⟨h3,h4⟩:=Yb h
   rw[Yn h1,Yn h2,ih1 h3,ih2 h4]
  | _=>exact Za h
 | t t n x y z ih1 ih2 ih3=>
  intro b h
  cases b with
  | t t' n' x' y' z'=>
   obtain⟨h1,h⟩:=Yb (show (Nat.beq t t'&&(Nat.beq n n'&&(beqE x x'&&(beqE y y'&&beqE z z'))))=true from h)
   obtain⟨h2,h⟩:=Yb h
   obtain⟨h3,h⟩:=Yb h
   obtain⟨h4,h5⟩:=Yb h
   rw[Yn h1,Yn h2,ih1 h3,ih2 h4,ih3 h5]
  | _=>exact Za h
 | q t n w x y z ih1 ih2 ih3 ih4=>
  intro b h
  cases b with
  | q t' n' w' x' y' z'=>
   obtain⟨h1,h⟩:=Yb (show (Nat.beq t t'&&(Nat.beq n n'&&(beqE w w'&&(beqE x x'&&(beqE y y'&&beqE z z')))))=true from h)
   obtain⟨h2,h⟩:=Yb h
   obtain⟨h3,h⟩:=Yb h
   obtain⟨h4,h⟩:=Yb h
   obtain⟨h5,h6⟩:=Yb h
   rw[Yn h1,Yn h2,ih1 h3,ih2 h4,ih3 h5,ih4 h6]
  | _=>exact Za h
 | f p x ih=>
  intro b h
  cases b with
  | f p' x'=>
   obtain⟨h1,h2⟩:=Yb (show (beqP p p'&&beqE x x')=true from h)
   rw[Zkh h1,ih h2]
  | _=>exact Za h
noncomputable def Zjm (e:E):E:=@E.rec (fun _=>E) (fun t n=>.k t n) (fun v=>.c v) (fun t n a _=>bif Nat.beq t 30 then a else .u t n a) (fun t n x y _ _=>.b t n x y) (fun t n x y z _ _ _=>.t t n x y z) (fun t n w x y z _ _ _ _=>.q t n w x y z) (fun p b _=>.f p b) e
noncomputable def isBi (v:Option V) (n:Nat):Bool:=og v fun v=>og (vBi v) fun m=>Nat.beq m n
theorem Zf9 {v:Option V} {n:Nat} (h:isBi v n=true):v=some (.bi n):=by
 obtain⟨w,e,h1⟩:=ZZ (show og v (fun v=>og (vBi v) fun m=>Nat.beq m n)=true from h)
 obtain⟨m,hm,h2⟩:=ZZ h1
 rw[e,Zdd hm,Yn h2]
noncomputable def ZgY (P:Prg) (e:E):Bool:=@E.rec (fun _=>Bool) (fun _ _=>true) (fun _=>true) (fun t n a _=>bif Nat.beq t 30 then bif Nat.beq n 1 then beqE a Zfc&&(isBi (look P.globs ZdL) 3&&isBi (look P.globs ZdM) 1) else true else true) (fun _ _ _ _ _ _=>true) (fun _ _ _ _ _ _ _ _=>true) (fun _ _ _ _ _ _ _ _ _ _=>true) (fun _ _ _=>true) e
theorem ZiK {P:Prg} {n:Nat} {f:E} (h:ZgY P (.u 30 n f)=true):LeafT P n f:=⟨fun e=>by
 subst e
 obtain⟨h1,h2⟩:=Yb (show (beqE f Zfc&&(isBi (look P.globs ZdL) 3&&isBi (look P.globs ZdM) 1))=true from h)
 obtain⟨h2,h3⟩:=Yb h2
 exact⟨Zf8 h1,Zf9 h2,Zf9 h3⟩⟩
end
noncomputable section
noncomputable def dnOf (P:Prg) (l c:Nat):Str:=(Zbr P l c).elim "<lambda>" decS
theorem Zh2:∀ (ds:List (Nat × Nat × Nat)) (l c n:Nat),@List.rec (Nat × Nat × Nat) (fun _=>Option Nat) none (fun p _ ih=>bif Nat.beq p.1 l&&Nat.beq p.2.1 c then some p.2.2 else ih) ds=some n→∃ p ∈ ds,p.2.2=n:=by
 intro ds l c n
 induction ds with
 | nil=>exact fun h=>Ze h
 | cons p ds ih=>
  intro h
  have h:cond (Nat.beq p.1 l&&Nat.beq p.2.1 c) (some p.2.2) (@List.rec (Nat × Nat × Nat) (fun _=>Option Nat) none (fun p _ ih=>bif Nat.beq p.1 l&&Nat.beq p.2.1 c then some p.2.2 else ih) ds)=some n:=h
  cases e:(Nat.beq p.1 l&&Nat.beq p.2.1 c) with
  | true=>rw[e] at h; exact⟨p,.head _,Option.some.inj h⟩
  | false=>rw[e] at h; obtain⟨q,m,e⟩:=ih h; exact⟨q,.tail _ m,e⟩
theorem Zga {α : Type} {f : α→Nat}:∀ {l:List α},(l.map f).Nodup→∀ a ∈ l,∀ b ∈ l,f a=f b→a=b
 | [],_,_,h,_,_,_=>nomatch h
 | x :: l,h,a,ha,b,hb,e=>by
  have h:=List.nodup_cons.mp h
  rcases List.mem_cons.mp ha with a1 | a1 <;> rcases List.mem_cons.mp hb with b1 | b1
  ·exact a1.trans b1.symm
  ·subst a1; exact absurd (e ▸ List.mem_map_of_mem b1) h.1
  ·subst b1; exact absurd (e ▸ List.mem_map_of_mem a1) h.1
  ·exact Zga h.2 a a1 b b1 e
noncomputable def exmB (K:Frag) (l:List (Nat × ClsI)):Bool:=l.all fun p=>!p.2.exc||l.all fun q=>!q.2.exc||exmOne K (excV p.1) (excV q.1)==some (mem p.2.mro q.1)
theorem Zlj {P:Prg} {K:Frag} {tabs:List (Addr × Addr × Str)} {fl:List (Nat × E)} {cl:List (Nat × ClsI)} (hf:P.fns.toL 1 0=fl) (hc:P.clss.toL 1 0=cl) (hg:P.globs.all (ZeT K)=true) (hcl:cl.all (clsB K)=true)
  (hfn:fl.map (fun p=>fnE K P.mks tabs p.1)=fl.map fun p=>some (Zjm p.2)) (hl:fl.all (fun p=>ZgY P p.2)=true) (hx:exmB K cl=true) (hd:P.defs.all (fun p=>Zbd p.2.2)=true) (ht:ZM (tabs.map fun q=>q.2.1)=true):POK P K tabs (dnOf P):=by
 rw[List.all_eq_true] at hg hcl hd
 refine⟨fun x v hx e=>ZiI hx (hg _ (ZX _ _ _ e)),fun C ci e=>Zkc (hcl _ (hc ▸ BT.toL_of e)),fun a f e=>?_,fun a t n f e ht=>?_,fun a b ci cj e1 e2 x1 x2=>?_,fun l c=>⟨fun e=>?_,fun n e=>?_⟩,Zga (Zak ht)⟩
 ·have q:=List.map_inj_left.mp hfn (a,f) (hf ▸ BT.toL_of e)
  cases f with
  | f p b=>exact .inr (Zh1 q)
  | _=>exact .inl rfl
 ·subst ht
  have q:=List.map_inj_left.mp hfn (a,.u 30 n f) (hf ▸ BT.toL_of e)
  exact⟨Zh1 q,ZiK (List.all_eq_true.mp hl (a,.u 30 n f) (hf ▸ BT.toL_of e))⟩
 ·have h1:=impB (List.all_eq_true.mp hx _ (hc ▸ BT.toL_of e1)) x1
  exact eq_of_beq (impB (List.all_eq_true.mp h1 _ (hc ▸ BT.toL_of e2)) x2)
 ·unfold dnOf; rw[e]; rfl
 ·obtain⟨p,m,q⟩:=Zh2 P.defs l c n e
  have:=hd p m
  rw[q] at this
  obtain⟨n1,n2⟩:=Yb this
  unfold dnOf; rw[e]
  exact⟨n2,Nat.beq_eq.mp n1⟩
end
end Mn
end
section
set_option tactic.hygienic true
namespace Mn
open PySem PySem.W PyProof.Rows PySem.Calls PySem.Spec
noncomputable section
noncomputable def ZI (tabs:List (Addr × Addr × Str)):List (Addr × Addr):=tabs.map fun q=>(q.1,q.2.1)
noncomputable def ZgZ (prog:Program) (w:World) (K:Frag) (P:Prg) (loose:List Str) (mean:ExcName→Option Value) (mg mb:Str→Option Value) (s₁:Shared) (tabs:List (Addr × Addr × Str)) (unk:Nat→Value→Prop) (sv:Nat→Str) (sint:Nat→Int) (gh:Nat→List V) (abs:Nat→Obj→Prop) (pm:Nat→Nat→Int) (pk:Nat→List Nat) (cap:Nat) (fz:List (Addr × Obj)) (gd0:List (Nat × Int)):Gl:=
 { prog,w,K,P,p:=topProg,loose,mean,mg,mb,base:=ghostOf s₁.heap (ZI tabs),tabs,unk,sv,sint,gens:=s₁.gens,os:=s₁.os,gh,abs,pm,pk,cap,fz,gd:=gd0,dn:=dnOf P }
noncomputable def Zo (env:Env) (L:Addr) (cs:Cs) (ora:List (Nat × Nat × Int × V)):Cx:={ env,fenv:=env,A:=callerA.deeper env,L,outer:=[],hd:=⟨cs,none,ora,true⟩,he:=0 }
section
variable {prog:Program} {w:World} {K:Frag} {P:Prg} {p:Program} {loose lo':List Str} {mean:ExcName→Option Value} {mg mb:Str→Option Value} {s₁:Shared} {tabs:List (Addr × Addr × Str)} {unk:Nat→Value→Prop} {sv:Nat→Str} {sint:Nat→Int} {gh:Nat→List V} {abs:Nat→Obj→Prop} {pm':Nat→Nat→Int} {pk:Nat→List Nat} {cap:Nat}
 {name:Str} {x:Str} {an:Option PySem.Expr} {body:List Stmt} {scope:Scope} {pm doc script:Value} {a:Addr} {o:Obj} {cc Q:Addr}
theorem Zms {params:Arguments} (hK:K.In s₁.heap) (hnoT:noTabs K=true) (T:Top p loose mean mg mb s₁.heap) (hl:lo'=loose++(recsOf p).map (·.name)++(litsOf p).map (·.1)++(clssOf p loose).map (·.name))
  (ho:s₁.heap.get? a=some o) (hd:o.data=.func (Calls.docDef name params body scope pm (.ref cc) doc)) (hcd:s₁.heap.CodeRec (.ref cc) name)
  (hbind:bindArgs (Calls.docDef name params body scope pm (.ref cc) doc) ⟨[script],[]⟩=pure [(x,script)]) (hgx:gd x=true) (hx:scope.names.lookup x=some .local)
  (hgn:∀ y ∈ scope.names,gd y.1=true) (hndn:(scope.names.map (·.1)).Nodup)
  (hnd:((cellsFrom 0 scope.names []).map (·.1)).Nodup) (hco:scope.isCoroutine=false) (hgen:scope.isGenerator=false) (hk:scope.kind=.function)
  (htab:∀ q ∈ tabs,s₁.heap.get? q.2.1=some (tabObj #[])) (hcode:∀ q ∈ tabs,codeHdIn K q.1 q.2.1=true) (htn:(tabs.map (·.2.1)).Nodup) (hown:(cc,Q,name ++ ".<locals>.") ∈ tabs)
  (hu:unk 1 script) (hh:handedIn script=true) {cw:ClaimW} {cl:Str→Option Addr} {args:List WData} (hr:∀ a x,cw.raises a x=false) (hg:s₁.gens = #[])
  (good:∀ h,∃ v d as,(Except.ok (Flow.ret (.bool true)):Result)=.ok (.ret v)∧(∀ cls,cw.raises args cls=false)∧ReadsW cw.records cl h v d as∧cw.post args d args=true∧(cw.unshared=true→as.Nodup∧∀ a ∈ as,(ghostOf s₁.heap (ZI tabs)).get? a=none))
  {k:H→Nat→Cs→Bool} (hrun:ZbH [] (ZG scope.names) .nil 0 [] k=true)
  (h:∀ env L cs σ,env.scope=scope→env.frame=some L→env.globals=mainGlobals→env.builtins=builtinsNs→env.code=.ref cc→env.qual=name ++ ".<locals>."→(callerA.deeper env).frames=some [env]→env.locals=L→
   CodeHd (ghostOf s₁.heap (ZI tabs)) cc Q→Top topProg lo' mean mg mb (ghostOf s₁.heap (ZI tabs))→K.In (ghostOf s₁.heap (ZI tabs))→
   Rel (ZgZ prog w K P lo' mean mg mb s₁ tabs unk sv sint gh abs pm' pk cap [] []) (Zo env L cs []) σ→k σ.h σ.nx cs=true→σ.lo = [(enc x,.unk 1)]→
   wpAny (model prog w) (callerA.deeper env) (execs body env) (fun f s'=>f=.ret (.bool true)∧∃ g' c' σ',Rel g' c' σ'∧g'.base=ghostOf s₁.heap (ZI tabs)∧g'.tabs=tabs∧g'.gens=s₁.gens∧g'.os=s₁.os∧s' = σ'.s) (fun _ _=>False) σ.s) :
  codeAny (model prog w) callerA (.call (.ref a) ⟨[script],[]⟩) (GoodWG cw cl mean args s₁) s₁:=by
 have hT:TabsAt (ZI tabs) s₁.heap:=fun q hq=>by
  obtain⟨q',hq',rfl⟩:=List.mem_map.mp hq
  exact⟨codeHd_of_K hK (hcode q' hq'),htab q' hq'⟩
 refine kn_post hT hr ?_
 refine call_cellsN (by decide) ho hd T.nolimit hcd hbind (fun y hy=>by
  rw[List.mem_singleton] at hy; subst hy; exact .inl hx) hnd (fun h₁ tk cells F N X=>?_) hco hgen hk
 have F':=ghost_fr hT F
 have N':=ghost_news hT F N
 have l0:=ghost_lt hT F
 have T':=ghost_top hT T
 rw[← hl] at T'
 have K':=ghost_K hT hK hnoT
 have BG:Below callerA (ghostOf s₁.heap (ZI tabs)) [] (ghostOf s₁.heap (ZI tabs)):=below_caller _
 generalize henv:envOfC name scope s₁.heap.objs.size a (.ref cc)=env at F F' X ⊢
 have ekind:∀ y,env.kindOf y=scope.names.lookup y:=fun y=>by rw[← henv]; rfl
 have eloc:env.locals=s₁.heap.objs.size:=by rw[← henv]; rfl
 have eframe:env.frame=some s₁.heap.objs.size:=by rw[← henv]; rfl
 have escope:env.scope=scope:=by rw[← henv]; rfl
 have ecells:env.cells=cellsFrom (s₁.heap.objs.size + 1) scope.names []:=by rw[← henv]; rfl
 let g:Gl:=ZgZ prog w K P lo' mean mg mb s₁ tabs unk sv sint gh abs pm' pk cap [] []
 let σ0:St:={ h:=.nil,nx:=0,lo:=[(enc x,.unk 1)],ρ:=fun _=>0,m:=bindL env.kindOf [(x,script)] fun _=>none,news:=tabNews (ZI tabs),s:={ s₁ with heap:=h₁,toks:=tk },g0:=ghostOf s₁.heap (ZI tabs) }
 have nouse:∀ i,¬ Use σ0.h i:=fun i h=>by unfold Use at h; exact h
 have hmm:∀ y,(bindL env.kindOf [(x,script)] fun _=>none) y=if y=x then some script else none:=fun y=>by
  unfold bindL bindL
  rw[ekind,hx,if_pos rfl]
 have R0:Rel g (Zo env s₁.heap.objs.size [] []) σ0:=by
  refine⟨⟨?_,fun _ _=>rfl,fun i j h=>(nouse i h).elim,(fun i o h=>Ze h),(fun y i _ e=>Ze e),.inl ⟨eloc,fun y v hy e=>?_⟩,⟨fun q hq=>?_,fun p hp=>absurd hp List.not_mem_nil⟩,⟨_,BG⟩,fun j e=>Ze e⟩,F',fun q hq=>N' q (List.mem_append_right _ hq),rfl,rfl⟩
  ·show ((tabNews (ZI tabs)).map (·.1)).Nodup
   have e:(tabNews (ZI tabs)).map (·.1)=tabs.map (·.2.1):=by unfold tabNews ZI; rw[List.map_map,List.map_map]; rfl
   rw[e]; exact htn
  ·show ∃ w,(bindL env.kindOf [(x,script)] fun _=>none) y=some w∧VR g σ0 v w
   rw[hmm]
   have e':look [(enc x,V.unk 1)] (enc y)=if enc x=enc y then some (.unk 1) else none:=(brec (Nat.beq (enc x) (enc y)) _ _).trans (ZE _ _ _ _)
   have e:look [(enc x,V.unk 1)] (enc y)=some v:=e
   rw[e'] at e
   by_cases q:enc x=enc y
   ·rw[if_pos q] at e
    obtain rfl:=Option.some.inj e
    rw[if_pos (Zw hy hgx q.symm)]
    exact⟨_,rfl,hu,hh⟩
   ·rw[if_neg q] at e; exact Ze e
  ·exact⟨fun i h=>(nouse i h).elim,#[],List.mem_map.mpr ⟨(q.1,q.2.1),List.mem_map_of_mem (f:=fun q:Addr × Addr × Str=>(q.1,q.2.1)) hq,rfl⟩,trivial,fun pos cv e=>Ze e⟩
 obtain⟨σ₁,cs',R1,X1,hlo1,hm1,hs1,hk1,hcs1,hg1⟩:=Zf3 (c':=Zo env s₁.heap.objs.size [] []) (cm:=bindC env.kindOf [(x,script)] fun _=>none) (bs:=[]) (base:=tabNews (ZI tabs)) scope.names (s₁.heap.objs.size + 1) [] cells cells [] [] σ0 k hgn R0 (fun y hy=>by
   have h3:=Zab hndn hy
   have e:(bindC env.kindOf [(x,script)] fun _=>none) y=none:=by
    unfold bindC bindC
    rw[ekind,hx]
    rfl
   rw[e]; rfl) hrun (fun y i _ e=>Ze e) (by rw[← ekind] at *; exact X) (by simp) .nil (fun q hq=>Nat.lt_succ_of_lt (l0 q hq)) rfl N'
 have R2:Rel g (Zo env s₁.heap.objs.size cs' []) σ₁:=⟨⟨R1.nd,R1.fr,R1.inj,R1.trk,fun y i hy e=>by
  have:=hcs1 y i hy e
  rw[show (Zo env s₁.heap.objs.size cs' []).env.cells=cellsFrom (s₁.heap.objs.size + 1) scope.names [] from ecells]
  exact this,R1.loc,R1.tab,R1.B,fun j e=>Ze e⟩,R1.F,R1.N,R1.gens,R1.os⟩
 have hcodeL:CodeHd (ghostOf s₁.heap (ZI tabs)) cc Q:=codeHd_of_K K' (hcode _ hown)
 have:=h env s₁.heap.objs.size cs' σ₁ escope eframe (by rw[← henv]; rfl) (by rw[← henv]; rfl) (by rw[← henv]; rfl) (by rw[← henv]; rfl) (Around.frames_deeper BG.stack) eloc hcodeL T' K' R2 hk1 hlo1
 rw[hs1] at this
 refine wpAny_mono this (fun f s' hf=>?_) fun _ _ q=>q.elim
 obtain⟨rfl,g',c',σ',R',e1,e2,e3,e4,rfl⟩:=hf
 refine⟨⟨.inl (good _),fun b o e=>R'.F.keep _ _ (R'.stays _ _ (by rw[e1]; exact e)),R'.os.trans e4,R'.gens.trans (e3.trans hg)⟩,?_⟩
 have key:∀ l:List (Addr × Addr × Str),(∀ q ∈ l,q ∈ g'.tabs)→GrownAll (ZI l) σ'.s.heap:=by
  intro l
  induction l with
  | nil=>exact fun _=>trivial
  | cons q l ih=>
   intro hq
   obtain⟨_,ps,hm,_⟩:=R'.tab.1 q (hq q (.head _))
   exact⟨⟨ps,(R'.N _ hm).1⟩,ih fun q' h'=>hq q' (.tail _ h')⟩
 exact key tabs fun q hq=>by rw[e2]; exact hq
end
end
noncomputable section
noncomputable def ZeU (v:V):Bool:=@V.rec (fun _=>Bool) (fun _=>Unit) true (fun _=>true) (fun _=>true) (fun _=>true) (fun _=>true) (fun _=>true) (fun _=>true) (fun _ _=>true) (fun _=>true) (fun _=>true) (fun _=>false) (fun _=>true) true (fun _ _ _ _=>true) () (fun _ _ _ _=>()) v
noncomputable def insB (h:H) (a:Nat):Bool:=og (ZbE h a) fun _=>true
structure SmP where
 dr:Nat
 gx:List V
 px:Nat→Lo
 gy:List V
 fz:List Nat
 gn:Nat × Lo
noncomputable def dctB (q:SmP) (p:Nat × Lo):Bool:=Nat.beq p.1 q.gn.1&&(ZbG p.2 q.gn.2&&p.2.all fun x=>Zy x.2)
noncomputable def frB (q:SmP) (h:H) (k:Nat) (ks:List Nat) (ws:List V) (ih:List V→Bool) (v:V):Bool:=
 @Option.rec Nat (fun _=>Bool) (og (vFr v) fun p=>Nat.beq p.1 k&&(beqN p.2.1 ks&&(bif Nat.beq k 2 then Nat.beq q.gn.1 2&&(q.gn.2.isEmpty&&(ws.isEmpty&&p.2.2.isEmpty)) else ih p.2.2)))
  (fun a=>mem q.fz a&&(bif Nat.beq k 0 then ks.isEmpty&&og (Zg h a) ih
   else bif Nat.beq k 2 then ks.isEmpty&&(ws.isEmpty&&og (ZaK h a) (dctB q))
   else og (ZbE h a) fun p=>Nat.beq (p.1 + 3) k&&(beqN (p.2.map (·.1)) ks&&(ZM (p.2.map (·.1))&&(p.2.all (fun x=>Zbd x.1)&&ih (p.2.map (·.2))))))) (vRef v)
noncomputable def vsB (q:SmP) (num:V→Nat→Bool) (f:List (Nat × Nat)) (h:H) (nx2:Nat) (w:V):V→Bool:=
 @V.rec (fun _=>V→Bool) (fun _=>List V→Bool) ZS (fun b v=>Zq v (.bool b)) (fun i v=>Zq v (.int i)) (fun k v=>num v k) (fun n v=>Zq v (.str n)) (fun k v=>og (vSv v) fun j=>Nat.beq j k)
  (fun k v=>bif Nat.beq k 0 then ZeU v else og (vUnk v) fun j=>Nat.beq j k) (fun _ ih v=>og (vTup v) fun vs=>ih vs) (fun b v=>Nat.blt b nx2&&og (vRef v) fun a=>og (look f b) fun a'=>Nat.beq a a')
  (fun a v=>Zq v (.top a)) (fun n v=>Zq v (.bi n)) (fun _ _=>false) (fun v=>othV v||og (vRef v) fun a=>!mem (f.map (·.2)) a&&(!mem q.fz a&&insB h a)) (fun k ks ws ih v=>frB q h k ks ws ih v)
  (fun vs=>vs.isEmpty) (fun _ _ ih ihs vs=>@List.rec V (fun _=>Bool) false (fun v vs _=>ih v&&ihs vs) vs) w
noncomputable def vssB (q:SmP) (num:V→Nat→Bool) (f:List (Nat × Nat)) (h:H) (nx2:Nat) (ws:List V):List V→Bool:=@List.rec V (fun _=>List V→Bool) (fun vs=>vs.isEmpty) (fun w _ ih vs=>@List.rec V (fun _=>Bool) false (fun v vs _=>vsB q num f h nx2 w v&&ih vs) vs) ws
noncomputable def lowB (q:SmP) (num:V→Nat→Bool) (f:List (Nat × Nat)) (h:H) (nx2:Nat) (l l2:Lo):Bool:=l2.all fun p=>og (look l p.1) fun v=>vsB q num f h nx2 p.2 v
noncomputable def loB (q:SmP) (num:V→Nat→Bool) (f:List (Nat × Nat)) (h:H) (nx2:Nat) (l l2:Lo):Bool:=(l.all fun p=>hasK l2 p.1)&&lowB q num f h nx2 l l2
noncomputable def losB (q:SmP) (num:V→Nat→Bool) (f:List (Nat × Nat)) (h:H) (nx2:Nat) (l2:Lo):Lo→Bool:=@List.rec (Nat × V) (fun _=>Lo→Bool) (fun l=>l.isEmpty) (fun z _ ih l=>@List.rec (Nat × V) (fun _=>Bool) false (fun p l _=>Nat.beq p.1 z.1&&(vsB q num f h nx2 z.2 p.2&&ih l)) l) l2
theorem ZbD {o:O} {p:Nat × List V} (h:ZY o=some p):o=.elist p.1 p.2:=by
 cases o <;> first | exact Ze h | (cases h; rfl)
theorem Zh3 {o:O} {k:Nat} (h:oAbs o=some k):o=.abs k:=by
 cases o <;> first | exact Ze h | (cases h; rfl)
noncomputable def Zmt (v:V):Bool:=og (Z8 v) fun _=>true
noncomputable def flS (v:V):Bool:=Zb7 v||Zmt v
noncomputable def plC (n:Nat):V→Bool:=@Nat.rec (fun _=>V→Bool) flS (fun _ ih v=>flS v||(og (vTup v) fun vs=>vs.all ih)||og (vFr v) fun p=>(Nat.beq p.1 0&&(p.2.1.isEmpty&&p.2.2.all ih))||((Nat.beq p.1 1||Nat.beq p.1 2)&&p.2.2.all Zy)) n
noncomputable def cl (h:H) (fz:List Nat) (n:Nat):V→V:=@Nat.rec (fun _=>V→V) (fun v=>v) (fun _ ih v=>
 @Option.rec Nat (fun _=>V) (@Option.rec (List V) (fun _=>V) (@Option.rec (Nat × List Nat × List V) (fun _=>V) v (fun p=>bif Nat.beq p.1 0 then .fr 0 p.2.1 (p.2.2.map ih) else v) (vFr v)) (fun vs=>.tup (vs.map ih)) (vTup v))
  (fun a=>bif mem fz a then @Option.rec (List V) (fun _=>V) (@Option.rec (Nat × Lo) (fun _=>V) v (fun p=>.fr p.1 (p.2.map (·.1)) (p.2.map (·.2))) (ZaK h a)) (fun l=>.fr 0 [] (l.map ih)) (Zg h a) else v) (vRef v)) n
noncomputable def beqS (v w:V):Bool:=Zq v w||og (Z8 v) fun i=>og (Z8 w) fun j=>Nat.beq i j
noncomputable def beqL (e:V→V→Bool) (vs:List V):List V→Bool:=@List.rec V (fun _=>List V→Bool) (fun ws=>ws.isEmpty) (fun v _ ih ws=>@List.rec V (fun _=>Bool) false (fun w ws _=>e v w&&ih ws) ws) vs
noncomputable def beqV (n:Nat):V→V→Bool:=@Nat.rec (fun _=>V→V→Bool) beqS (fun _ ih v w=>beqS v w||(og (vTup v) fun a=>og (vTup w) fun b=>beqL ih a b)||og (vFr v) fun a=>og (vFr w) fun b=>Nat.beq a.1 b.1&&(beqN a.2.1 b.2.1&&beqL ih a.2.2 b.2.2)) n
noncomputable def ZeV (l:Lo):Lo→Bool:=@List.rec (Nat × V) (fun _=>Lo→Bool) (fun k=>k.isEmpty) (fun p _ ih k=>@List.rec (Nat × V) (fun _=>Bool) false (fun q k _=>Nat.beq p.1 q.1&&(Zq p.2 q.2&&ih k)) k) l
theorem Zei {v w:V} (h:beqS v w=true):v=w:=by
 rcases Bool.or_eq_true_iff.mp h with h | h
 ·exact ZaG h
 ·obtain⟨i,hi,h⟩:=ZZ h
  obtain⟨j,hj,h⟩:=ZZ h
  rw[ZT hi,ZT hj,Yn h]
theorem Zc0 {e:V→V→Bool} (he:∀ {v w},e v w=true→v=w):∀ {vs ws:List V},beqL e vs ws=true→vs=ws
 | [],_,h=>(List.isEmpty_iff.mp h).symm
 | _ :: _,[],h=>Za h
 | v :: vs,w :: ws,h=>by
  obtain⟨a,b⟩:=Yb (show (e v w&&beqL e vs ws)=true from h)
  rw[he a,Zc0 he b]
theorem Zce {v:V} {p:Nat × List Nat × List V} (h:vFr v=some p):v=.fr p.1 p.2.1 p.2.2:=by
 cases v <;> first | exact Ze h | (cases h; rfl)
theorem Zki:∀ (n:Nat) {v w:V},beqV n v w=true→v=w:=fun n=>by
 induction n with
 | zero=>intro v w h; exact Zei h
 | succ n ih=>
  intro v w h
  rcases Bool.or_eq_true_iff.mp (show ((beqS v w||(og (vTup v) fun a=>og (vTup w) fun b=>beqL (beqV n) a b))||og (vFr v) fun a=>og (vFr w) fun b=>Nat.beq a.1 b.1&&(beqN a.2.1 b.2.1&&beqL (beqV n) a.2.2 b.2.2))=true from h) with h | h
  ·rcases Bool.or_eq_true_iff.mp h with h | h
   ·exact Zei h
   ·refine Zc h fun a ha h=>Zc h fun b hb h=>?_
    rw[ZP ha,ZP hb,Zc0 (fun q=>ih q) h]
  ·refine Zc h fun a ha h=>Zc h fun b hb h=>?_
   obtain⟨h1,h⟩:=Yb h
   obtain⟨h2,h3⟩:=Yb h
   rw[Zce ha,Zce hb,Yn h1,Zad h2,Zc0 (fun q=>ih q) h3]
theorem Zfz:∀ {vs ws:Lo},ZeV vs ws=true→vs=ws
 | [],_,h=>(List.isEmpty_iff.mp h).symm
 | _ :: _,[],h=>Za h
 | v :: vs,w :: ws,h=>by
  obtain⟨a,b⟩:=Yb (show (Nat.beq v.1 w.1&&(Zq v.2 w.2&&ZeV vs ws))=true from h)
  obtain⟨b,c⟩:=Yb b
  rw[Zfz c,show v=w from Prod.ext (Yn a) (ZaG b)]
noncomputable def othB (q:SmP) (f:List (Nat × Nat)) (h:H) (v:V):Bool:=othV v||og (vRef v) fun a=>!mem (f.map (·.2)) a&&(!mem q.fz a&&insB h a)
noncomputable def oDct (o:O):Option (Nat × Lo):=@Option.rec Lo (fun _=>Option (Nat × Lo)) (@Option.rec Lo (fun _=>Option (Nat × Lo)) none (fun l=>some (2,l)) (Zg7 o)) (fun l=>some (1,l)) (ZeK o)
noncomputable def optB (w:Option V) (v:Option V) (q:V→V→Bool):Bool:=@Option.rec V (fun _=>Bool) true (fun w=>og v fun v=>q w v) w
noncomputable def osB (q:SmP) (num:V→Nat→Bool) (f:List (Nat × Nat)) (h:H) (nx2:Nat) (o o2:O):Bool:=@O.rec (fun _=>Bool)
 (fun c l2=>og (Zgj o) fun p=>Nat.beq p.1 c&&(Nat.ble p.2.length l2.length&&loB q num f h nx2 p.2 l2))
 (fun c t l2=>og (oExc o) fun p=>Nat.beq p.1 c&&((p.2.1==t)&&((p.2.2.isEmpty==l2.isEmpty)&&(Nat.ble p.2.2.length l2.length&&loB q num f h nx2 p.2.2 l2))))
 (fun ys=>og (ZcJ o) fun xs=>vssB q num f h nx2 ys xs)
 (fun pk ys=>bif Nat.beq pk 0 then ys.isEmpty && @Option.rec (List V) (fun _=>Bool) (og (ZY o) fun _=>true) (fun xs=>Nat.ble xs.length 1000) (ZcJ o)
  else bif Nat.beq pk 1 then false
  else bif Nat.beq pk 2 then ys.isEmpty&&og (ZY o) fun p=>Nat.beq p.1 2&&(beqL (beqV 5) (p.2.map (cl h q.fz 5)) q.gx&&q.gx.all (plC 5))
  else Nat.beq pk 3&&(ys.isEmpty&&og (ZY o) fun p=>Nat.beq p.1 3&&(vssB q num f h nx2 q.gy p.2&&q.gy.all ZN)))
 (fun es=>og (ZeK o) fun es'=>losB q num f h nx2 es es')
 (fun w=>og (Zgk o) fun v=>optB w v (vsB q num f h nx2))
 (fun e2 cl2=>og (Zgl o) fun p=>beqE p.1 e2&&cl2.all fun q=>Nat.blt q.2 nx2&&og (look p.2 q.1) fun a=>og (look f q.2) fun b=>Nat.beq a b)
 (fun k=>og (oAbs o) fun j=>Nat.beq j k)
 (fun k es=>es.isEmpty&&og (ZcK o) fun p=>Nat.beq p.1 k&&ZeV p.2 (q.px k))
 (fun es=>es.isEmpty&&og (oDct o) (dctB q)) o2
noncomputable def simB (q:SmP) (num:V→Nat→Bool) (f:List (Nat × Nat)) (h:H) (lo:Lo) (cs:Cs) (h2:H) (nx2:Nat) (lo2:Lo):Bool:=
 (ZM (f.map (·.2))&&q.fz.all fun a=>!mem (f.map (·.2)) a&&og (h.get a) fun _=>true)&&((cs.all fun p=>Nat.blt p.2 nx2&&og (look f p.2) fun a=>Nat.beq a p.2)&&(lowB q num f h nx2 lo lo2 &&
 (h2.toL 1 0).all fun p=>Nat.blt p.1 nx2&&og (look f p.1) fun a=>og (h.get a) fun o=>osB q num f h nx2 o p.2))
theorem ZiL {f:List (Nat × Nat)}:∀ {i j a:Nat},(f.map (·.2)).Nodup→look f i=some a→look f j=some a→i=j:=by
 intro i j a nd h1 h2
 have m1:=ZX _ _ _ h1
 have m2:=ZX _ _ _ h2
 clear h1 h2
 induction f with
 | nil=>cases m1
 | cons p f ih=>
  obtain⟨n1,n2⟩:=List.nodup_cons.mp nd
  rcases List.mem_cons.mp m1 with e1 | m1
  ·rcases List.mem_cons.mp m2 with e2 | m2
   ·exact congrArg Prod.fst (e1.trans e2.symm)
   ·exact absurd (List.mem_map_of_mem (f:=(·.2)) m2) (by rw[← e1] at n1; exact n1)
  ·rcases List.mem_cons.mp m2 with e2 | m2
   ·exact absurd (List.mem_map_of_mem (f:=(·.2)) m1) (by rw[← e2] at n1; exact n1)
   ·exact ih n2 m1 m2
noncomputable def ren (f:List (Nat × Nat)) (σ : St) (k:Nat):Addr:=σ.ρ (2 * (look f (k / 2)).getD 0 + k % 2)
theorem Zcf {f:List (Nat × Nat)} {σ : St} {i a:Nat} (h:look f i=some a):ren f σ (2 * i) = σ.ρ (2 * a):=by
 unfold ren
 rw[Zr,Nat.mul_mod_right,h]; rfl
theorem ZiM {f:List (Nat × Nat)} {σ : St} {i a:Nat} (h:look f i=some a):ren f σ (2 * i + 1) = σ.ρ (2 * a + 1):=by
 unfold ren
 rw[Zaj,Nat.mul_add_mod,h]; rfl
noncomputable def insV (g:Gl) (v:V):V:=@V.rec (fun _=>V) (fun _=>List V) .none (fun b=>.bool b) (fun i=>.int i) (fun k=>.int (g.sint k)) (fun n=>.str n) (fun k=>.sv k) (fun k=>.unk k) (fun _ ih=>.tup ih) (fun a=>.ref a) (fun a=>.top a) (fun n=>.bi n) (fun n=>.rng n) .other
 (fun k ks vs ih=>bif Nat.beq k 2 then .fr 1 ((gdUp g (ks.zip vs)).map (·.1)) ((gdUp g (ks.zip vs)).map fun p=>.int p.2) else .fr k ks ih) [] (fun _ _ a b=>a :: b) v
theorem Zdo (g:Gl) (vs:List V):insV g (.tup vs)=.tup (vs.map (insV g)):=congrArg V.tup (by
 induction vs with
 | nil=>rfl
 | cons v vs ih=>exact congrArg (insV g v :: ·) ih)
theorem ZbW (g:Gl) (k:Nat) (ks:List Nat) (vs:List V):insV g (.fr k ks vs)=bif Nat.beq k 2 then .fr 1 ((gdUp g (ks.zip vs)).map (·.1)) ((gdUp g (ks.zip vs)).map fun p=>.int p.2) else .fr k ks (vs.map (insV g)):=by
 have:∀ vs:List V,@V.rec_1 (fun _=>V) (fun _=>List V) .none (fun b=>.bool b) (fun i=>.int i) (fun k=>.int (g.sint k)) (fun n=>.str n) (fun k=>.sv k) (fun k=>.unk k) (fun _ ih=>.tup ih) (fun a=>.ref a) (fun a=>.top a) (fun n=>.bi n) (fun n=>.rng n) .other
   (fun k ks vs ih=>bif Nat.beq k 2 then .fr 1 ((gdUp g (ks.zip vs)).map (·.1)) ((gdUp g (ks.zip vs)).map fun p=>.int p.2) else .fr k ks ih) [] (fun _ _ a b=>a :: b) vs=vs.map (insV g):=fun vs=>by
  induction vs with
  | nil=>rfl
  | cons v vs ih=>exact congrArg (insV g v :: ·) ih
 rw[← this vs]
 rfl
noncomputable def frzA (σ : St) (as:List Nat):List Addr:=as.flatMap fun a=>@Option.rec O (fun _=>List Addr) [] (fun o=>bif two o then[σ.ρ (2 * a),σ.ρ (2 * a + 1)] else[σ.ρ (2 * a)]) (σ.h.get a)
noncomputable def Zar (σ : St) (as:List Nat):List (Addr × Obj):=σ.news.filter fun p=>(frzA σ as).contains p.1
theorem Zej {σ : St} {as:List Nat} {x:Addr} (h:x ∈ frzA σ as):∃ k,Use σ.h k∧σ.ρ k=x∧k / 2 ∈ as:=by
 obtain⟨a,ha,h⟩:=List.mem_flatMap.mp h
 cases e : σ.h.get a with
 | none=>rw[e] at h; cases h
 | some o=>
  rw[e] at h
  have h:x ∈ (bif two o then[σ.ρ (2 * a),σ.ρ (2 * a + 1)] else[σ.ρ (2 * a)]):=h
  cases t:two o with
  | false=>rw[t] at h; exact⟨2 * a,Zh e,(List.mem_singleton.mp h).symm,by rw[Zr]; exact ha⟩
  | true=>
   rw[t] at h
   rcases List.mem_cons.mp h with h | h
   ·exact⟨2 * a,Zh e,h.symm,by rw[Zr]; exact ha⟩
   ·exact⟨2 * a + 1,ZR e t,(List.mem_singleton.mp h).symm,by rw[Zaj]; exact ha⟩
theorem ZaC {σ : St} {as:List Nat} {a:Nat} {o:O} {ob:Obj} (ha:a ∈ as) (e : σ.h.get a=some o) (m:(σ.ρ (2 * a),ob) ∈ σ.news):(σ.ρ (2 * a),ob) ∈ Zar σ as:=
 List.mem_filter.mpr ⟨m,List.contains_iff_mem.mpr (List.mem_flatMap.mpr ⟨a,ha,by rw[e]; show _ ∈ (bif two o then[σ.ρ (2 * a),σ.ρ (2 * a + 1)] else[σ.ρ (2 * a)]); cases two o <;> exact .head _⟩)⟩
theorem ZiN {σ : St} {as:List Nat} {a:Nat} {o:O} {ob:Obj} (ha:a ∈ as) (e : σ.h.get a=some o) (t:two o=true) (m:(σ.ρ (2 * a + 1),ob) ∈ σ.news):(σ.ρ (2 * a + 1),ob) ∈ Zar σ as:=
 List.mem_filter.mpr ⟨m,List.contains_iff_mem.mpr (List.mem_flatMap.mpr ⟨a,ha,by rw[e]; show _ ∈ (bif two o then[σ.ρ (2 * a),σ.ρ (2 * a + 1)] else[σ.ρ (2 * a)]); rw[t]; exact .tail _ (.head _)⟩)⟩
structure GlSame (q:SmP) (σ : St) (g g':Gl):Prop where
 pk:g'.pk=g.pk
 pm:∀ k n,g'.pm k n = @Option.rec V (fun _=>Int) (g.pm k n) (fun v=>(vInt v).getD 0) (look (q.px k) n)
 gh:g'.gh 0=g.gh 0++q.gx.map (insV g)
 gy:g'.gh 1=g.gh 1++q.gy
 fz:g'.fz=g.fz++Zar σ q.fz
 gd:g'.gd=bif Nat.beq q.gn.1 1 then q.gn.2.map (evP g) else gdUp g q.gn.2
 gl:g'.gd.length≤1000
 cap:g.cap + 1000≤g'.cap∧g'.cap≤900000
 s50:g'.sint 50=g.sint 50 + q.dr∧g'.sint 50≤60
 prog:g'.prog=g.prog
 w:g'.w=g.w
 K:g'.K=g.K
 unk:g'.unk=g.unk
 sv:g'.sv=g.sv
 abs:g'.abs=g.abs
 dn:g'.dn=g.dn
 tabs:g'.tabs=g.tabs
 base:g'.base=g.base
 gens:g'.gens=g.gens
 os:g'.os=g.os
section
variable {g g':Gl} {c:Cx} {σ : St} {q:SmP} {num:V→Nat→Bool} {f:List (Nat × Nat)} {h2:H} {nx2:Nat} {lo2:Lo}
noncomputable def reSt (f:List (Nat × Nat)) (h2:H) (nx2:Nat) (lo2:Lo) (σ : St):St:={ σ with h:=h2,nx:=nx2,lo:=lo2,ρ:=ren f σ }
structure SimH (q:SmP) (num:V→Nat→Bool) (f:List (Nat × Nat)) (h h2:H) (nx2:Nat):Prop where
 fz:∀ a ∈ q.fz,mem (f.map (·.2)) a=false∧∃ o,h.get a=some o
 nd:(f.map (·.2)).Nodup
 obj:∀ i o2,h2.get i=some o2→i < nx2∧∃ a o,look f i=some a∧h.get a=some o∧osB q num f h nx2 o o2=true
theorem Zkj {h:H} {o o2:O} (qq:osB q num f h nx2 o o2=true) (t:two o2=true):two o=true:=by
 cases o2 with
 | inst cl l2=>
  refine Zc qq fun p hp _=>?_
  rw[Zb4 hp]; rfl
 | exc cl tt l2=>
  refine Zc qq fun p hp q=>?_
  rw[Zcs hp]
  obtain⟨_,q⟩:=Yb q
  obtain⟨_,q⟩:=Yb q
  obtain⟨q,_⟩:=Yb q
  show (!p.2.2.isEmpty)=true
  rw[eq_of_beq q]; exact t
 | _=>exact Za t
theorem SimH.use (S:SimH q num f σ.h h2 nx2) {k:Nat} (u:Use h2 k):∃ a,look f (k / 2)=some a∧Use σ.h (2 * a + k % 2):=by
 obtain⟨o2,e,hk⟩:=ZaP u
 obtain⟨_,a,o,h1,h3,h4⟩:=S.obj _ _ e
 refine⟨a,h1,?_⟩
 rcases hk with hk | ⟨hk,t⟩
 ·rw[show k % 2=0 by rw[hk]; exact Nat.mul_mod_right 2 _]; exact Zh h3
 ·rw[show k % 2=1 by rw[hk]; exact Nat.mul_add_mod 2 _ 1]; exact ZR h3 (Zkj h4 t)
theorem SimH.unt (S:SimH q num f σ.h h2 nx2) {a:Addr} (u:Unt σ a):Unt (reSt f h2 nx2 lo2 σ) a:=fun k hk e=>by
 obtain⟨b,h1,h3⟩:=S.use hk
 refine u _ h3 ?_
 have:ren f σ k=a:=e
 unfold ren at this
 rw[h1] at this
 exact this
theorem Zjn (G:GlSame q σ g g') {a:Addr} (h:a ∈ g'.TA):a ∈ g.TA∨a ∈ frzA σ q.fz:=by
 unfold Gl.TA at h ⊢
 rw[G.tabs,G.fz,List.map_append] at h
 rcases List.mem_append.mp h with h | h
 ·exact .inl (List.mem_append_left _ h)
 ·rcases List.mem_append.mp h with h | h
  ·exact .inl (List.mem_append_right _ h)
  ·obtain⟨p,hp,rfl⟩:=List.mem_map.mp h
   exact .inr (List.contains_iff_mem.mp (List.mem_filter.mp hp).2)
theorem SimH.pin (S:SimH q num f σ.h h2 nx2) (G:GlSame q σ g g') {a:Addr} {o:Obj} (p:Pin0 g σ a o):Pin0 g' (reSt f h2 nx2 lo2 σ) a o:=
 ⟨p.1,S.unt p.2.1,fun hm=>by
  rcases Zjn G hm with h | h
  ·exact p.2.2 h
  ·obtain⟨k,u,e,_⟩:=Zej h
   exact p.2.1 k u e⟩
theorem SimH.free (S:SimH q num f σ.h h2 nx2) (R:Rel g c σ) {k:Nat} (u:Use σ.h k) (hm:mem (f.map (·.2)) (k / 2)=false):Unt (reSt f h2 nx2 lo2 σ) (σ.ρ k):=fun j hj e=>by
 obtain⟨b,h1,h3⟩:=S.use hj
 have e:ren f σ j = σ.ρ k:=e
 unfold ren at e
 rw[h1] at e
 have:=R.inj _ _ h3 u e
 have hb:k / 2=b:=by
  have e2 : 2 * b + j % 2=k:=this
  omega
 have m:=ZcE (List.mem_map_of_mem (f:=(·.2)) (ZX _ _ _ h1))
 have m:mem (f.map (·.2)) b=true:=m
 rw[← hb,hm] at m
 exact Za m
theorem ZaH (G:GlSame q σ g g') {p:Addr × Obj} (h:p ∈ g.fz):p ∈ g'.fz:=by rw[G.fz]; exact List.mem_append_left _ h
theorem ZbX (G:GlSame q σ g g') {p:Addr × Obj} (h:p ∈ Zar σ q.fz):p ∈ g'.fz:=by rw[G.fz]; exact List.mem_append_right _ h
theorem FrO.mono (G:GlSame q σ g g') {a:Addr} {ks:List Nat} {its:List Value} {o:Obj}:∀ {k:Nat},k≠2→FrO g a ks its o k→FrO g' a ks its o k
 | 0,_,h=>h
 | 1,_,h=>by obtain⟨z,kvs,d,e,k⟩:=h; exact⟨z,kvs,by rw[G.prog,G.w]; exact d,e,k⟩
 | 2,n,_=>absurd rfl n
 | k + 3,_,h=>by obtain⟨d,es,n,e,m,r⟩:=h; exact⟨d,es,n,e,ZaH G m,r⟩
theorem ZiO {v:V} {rv:Value} (h:ZeU v=true) (vr:VR g σ v rv):handedIn rv=true:=by
 cases v with
 | unk k=>exact vr.2
 | bi n=>exact Za h
 | none=>obtain rfl:rv=.none:=vr; rfl
 | bool b=>obtain rfl:rv=.bool b:=vr; rfl
 | int i=>obtain⟨t,rfl⟩:=vr; rfl
 | sint k=>obtain⟨t,rfl⟩:=vr; rfl
 | str n=>obtain⟨x,t,rfl,_⟩:=vr; rfl
 | sv k=>obtain⟨t,rfl⟩:=vr; rfl
 | tup vs=>obtain⟨a,_,_,rfl,_⟩:=vr; rfl
 | ref i=>obtain⟨rfl,_⟩:=vr; rfl
 | top a=>obtain⟨rfl,_⟩:=vr; rfl
 | rng n=>obtain⟨a,_,rfl,_⟩:=vr; rfl
 | other=>obtain⟨a,_,rfl,_⟩:=vr; rfl
 | fr k ks vs=>obtain⟨a,o,its,rfl,_⟩:=vr; rfl
theorem Zh4 {v:V} (h:othV v=true):v=.other:=by
 cases v <;> first | rfl | exact Za h
theorem VR.oth (S:SimH q num f σ.h h2 nx2) (G:GlSame q σ g g') (R:Rel g c σ) {v:V} {rv:Value} (h:othB q f σ.h v=true) (vr:VR g σ v rv):VR g' (reSt f h2 nx2 lo2 σ) .other rv:=by
 rcases Bool.or_eq_true_iff.mp h with h | h
 ·obtain rfl:=Zh4 h
  obtain⟨a,o,e,p,q⟩:=vr
  exact⟨a,o,e,S.pin G p,q⟩
 ·refine Zc h fun a ha h=>?_
  obtain rfl:=Zk ha
  obtain⟨hm,hi⟩:=Yb h
  obtain⟨hz,hi⟩:=Yb hi
  refine Zc hi fun p hp _=>?_
  have hg:=ZaU hp
  obtain⟨m1,_⟩:=R.trk a _ hg
  have ua:Use σ.h (2 * a):=Zh hg
  refine⟨_,_,vr.1,⟨m1,S.free R ua (by rw[Zr]; exact Bool.not_eq_true' _ |>.mp hm),fun h=>?_⟩,⟨_,rfl⟩,nofun,fun ⟨ts,d,_⟩=>nomatch d⟩
  rcases Zjn G h with h | h
  ·exact(R.ta h).1 _ ua rfl
  ·obtain⟨k,u,e,hk⟩:=Zej h
   have:=R.inj _ _ u ua e
   rw[this,Zr] at hk
   rw[ZcE hk] at hz
   exact Za hz
noncomputable def ZaW (g g':Gl) (num:V→Nat→Bool):Prop:=∀ v k,num v k=true→∀ σ w,VR g σ v w→∃ t,w=.int (g'.sint k) t
theorem VR.plain {v:V} {rv:Value} {x:Nat × Int} (G:GlSame q σ g g') (S:SimH q num f σ.h h2 nx2) (h:ZaV v=some x) (vr:VR g σ v rv):VR g' (reSt f h2 nx2 lo2 σ) v rv:=by
 cases v with
 | top a=>exact⟨vr.1,by rw[G.K]; exact vr.2⟩
 | unk k=>exact⟨by rw[G.unk]; exact vr.1,vr.2⟩
 | other=>obtain⟨a,o,e,p,q⟩:=vr; exact⟨a,o,e,S.pin G p,q⟩
 | tup _=>exact Ze h
 | sint _=>exact Ze h
 | sv _=>exact Ze h
 | ref _=>exact Ze h
 | rng _=>exact Ze h
 | fr _ _ _=>exact Ze h
 | _=>exact vr
theorem Zc9 {α : Type}:∀ {l:List (Nat × α)} {p:Nat × α},(l.map (·.1)).Nodup→p ∈ l→look l p.1=some p.2
 | q :: l,p,nd,h=>by
  obtain⟨n1,n2⟩:=List.nodup_cons.mp nd
  rw[Zp]
  rcases List.mem_cons.mp h with rfl | h
  ·exact if_pos rfl
  ·rw[if_neg fun e:q.1=p.1=>n1 (show q.1 ∈ l.map (·.1) by rw[e]; exact List.mem_map_of_mem (f:=(·.1)) h)]
   exact Zc9 n2 h
theorem Zkk {l:Lo} {es:List DictEntry} (hn:ZM (l.map (·.1))=true) (hg:(l.all fun x=>Zbd x.1)=true) (lr:LR g σ l (ZA es)):∃ its,VRs g σ (l.map (·.2)) its∧∀ x,gd x=true→ZA es x=look ((l.map (·.1)).zip its) (enc x):=by
 refine⟨l.map fun p=>(ZA es (decS p.1)).getD .none,?_,fun x hx=>?_⟩
 ·have key:∀ k:Lo,(∀ p ∈ k,p ∈ l)→VRs g σ (k.map (·.2)) (k.map fun p=>(ZA es (decS p.1)).getD .none):=fun k=>by
   induction k with
   | nil=>exact fun _=>trivial
   | cons p k ih=>
    intro h
    refine⟨?_,ih fun p hp=>h p (.tail _ hp)⟩
    have hp:=h p (.head _)
    have nb:=List.all_eq_true.mp hg p hp
    obtain⟨n1,n2⟩:=Yb nb
    have q:=lr (decS p.1) n2
    rw[Yn n1,Zc9 (Zak hn) hp] at q
    obtain⟨w,e,vr⟩:=q
    show VR g σ p.2 ((ZA es (decS p.1)).getD .none)
    rw[e]; exact vr
  exact key l fun _ h=>h
 ·rw[show (l.map (·.1)).zip (l.map fun p=>(ZA es (decS p.1)).getD .none)=l.map fun p=>(p.1,(ZA es (decS p.1)).getD .none) from List.zip_map' ..]
  have q:=lr x hx
  have key:∀ k:Lo,(∀ p ∈ k,Zbd p.1=true)→look (k.map fun p=>(p.1,(ZA es (decS p.1)).getD Value.none)) (enc x)=(look k (enc x)).map fun _=>(ZA es x).getD .none:=fun k=>by
   induction k with
   | nil=>exact fun _=>rfl
   | cons p k ih=>
    intro h
    rw[List.map_cons,Zp,Zp]
    by_cases e:p.1=enc x
    ·rw[if_pos e,if_pos e,← Zdn (h p (.head _)) hx e.symm]; rfl
    ·rw[if_neg e,if_neg e]; exact ih fun p hp=>h p (.tail _ hp)
  rw[key l fun p hp=>List.all_eq_true.mp hg p hp]
  cases e:look l (enc x) with
  | none=>rw[e] at q; exact q
  | some v=>rw[e] at q; obtain⟨w,e,_⟩:=q; rw[e]; rfl
theorem Zh5 {es:Lo} {kvs:List (Str × Value)} (G:GlSame q σ g g') {t:Nat} {a:Addr} {o:Obj} (D:DctR g σ t es a o kvs) (h:dctB q (t,es)=true):GdR g'.gd kvs:=by
 obtain⟨h1,h⟩:=Yb h
 obtain⟨h2,h3⟩:=Yb h
 have h1:t=q.gn.1:=Yn h1
 obtain⟨e,_⟩:=ZfX (g:=g) h2
 have hn:∀ p ∈ es,Zy p.2=true:=fun p hp=>List.all_eq_true.mp h3 p hp
 rw[G.gd,← h1]
 rcases D.alt with rfl | rfl
 ·show GdR (q.gn.2.map (evP g)) kvs
  rw[← e]
  exact .of_SR hn (D.one rfl)
 ·show GdR (gdUp g q.gn.2) kvs
  rw[ZcR,← e,← ZcR]
  exact(D.two rfl).1
theorem Zlk (S:SimH q num f σ.h h2 nx2) (G:GlSame q σ g g') (R:Rel g c σ) {k:Nat} {ks:List Nat} {ws:List V} {F:List V→Bool} (ih:∀ {vs:List V} {rvs:List Value},F vs=true→VRs g σ vs rvs→VRs g' (reSt f h2 nx2 lo2 σ) ws rvs)
  {v:V} {rv:Value} (h:frB q σ.h k ks ws F v=true) (vr:VR g σ v rv):VR g' (reSt f h2 nx2 lo2 σ) (.fr k ks ws) rv:=by
 unfold frB at h
 cases qv:vRef v with
 | none=>
  rw[qv] at h
  refine Zc (show og (vFr v) _=true from h) fun p hp j1=>?_
  clear h
  obtain⟨k',ks',vs⟩:=p
  obtain rfl:=Zce hp
  obtain⟨i1,j2⟩:=Yb j1
  obtain⟨i2,j3⟩:=Yb j2
  clear j1 j2 hp qv
  obtain rfl:k'=k:=Yn i1
  obtain rfl:ks'=ks:=Zad i2
  clear i1 i2
  obtain⟨a,o,its,e,m,fo,vr⟩:=vr
  dsimp only at j3 fo vr
  cases q2:Nat.beq k' 2 with
  | true=>
   rw[q2] at j3
   obtain rfl:=Yn q2
   obtain⟨g1,j4⟩:=Yb (show (Nat.beq q.gn.1 2&&(q.gn.2.isEmpty&&(ws.isEmpty&&vs.isEmpty)))=true from j3)
   obtain⟨g2,j5⟩:=Yb j4
   obtain⟨g3,g4⟩:=Yb j5
   have e2:=List.isEmpty_iff.mp g3
   subst e2
   obtain⟨z,z2,e4,e5,kvs,d,r⟩:=fo
   refine⟨a,o,[],e,ZaH G m,⟨z,G.gl,e4,rfl,kvs,by rw[G.prog,G.w]; exact d,?_⟩,trivial⟩
   rw[G.gd,Yn g1,List.isEmpty_iff.mp g2]
   exact r
  | false=>
   rw[q2] at j3
   exact⟨a,o,its,e,ZaH G m,fo.mono G (Zfh q2),ih j3 vr⟩
 | some a=>
  rw[qv] at h
  obtain rfl:=Zk qv
  obtain⟨hm,j1⟩:=Yb (show (mem q.fz a&&_)=true from h)
  clear h
  have hm:=Zec hm
  cases q0:Nat.beq k 0 with
  | true=>
   rw[q0] at j1
   obtain rfl:=Yn q0
   obtain⟨i1,j2⟩:=Yb j1
   refine Zc j2 fun xs hx j3=>?_
   obtain⟨its,n,m,z,vs⟩:=R.list hx
   exact⟨_,_,its,vr.1,ZbX G (ZaC hm (ZH hx) m),⟨List.isEmpty_iff.mp i1,n,rfl⟩,ih j3 vs⟩
  | false=>
   rw[q0] at j1
   cases q2:Nat.beq k 2 with
   | true=>
    rw[q2] at j1
    obtain rfl:=Yn q2
    obtain⟨i1,j2⟩:=Yb j1
    obtain⟨i2,j3⟩:=Yb j2
    have e2:=List.isEmpty_iff.mp i2
    subst e2
    refine Zc j3 fun p hp j4=>?_
    obtain⟨t,es⟩:=p
    obtain⟨ob,e,_,o,kvs,D⟩:=ZcS R hp
    exact⟨_,_,[],vr.1,ZbX G (ZaC hm e D.m),⟨D.z,G.gl,List.isEmpty_iff.mp i1,rfl,kvs,by rw[G.prog,G.w]; exact D.d,Zh5 G D j4⟩,trivial⟩
   | false=>
    rw[q2] at j1
    refine Zc j1 fun p hp j2=>?_
    obtain⟨i1,j3⟩:=Yb j2
    obtain⟨i2,j4⟩:=Yb j3
    obtain⟨i3,j5⟩:=Yb j4
    obtain⟨i4,i5⟩:=Yb j5
    clear j1 j2 j3 j4 j5
    obtain rfl:=Yn i1
    obtain rfl:=Zad i2
    have e:=ZaU hp
    obtain⟨m,es,n,md,kk,ln,lr⟩:=R.trk a _ e
    obtain⟨its,vs,lk⟩:=Zkk i3 i4 lr
    exact⟨_,_,its,vr.1,ZbX G (ZaC hm e m),⟨_,es,n,rfl,ZbX G (ZiN hm e rfl md),kk,by rw[List.length_map]; exact ln,lk⟩,ih i5 vs⟩
theorem Za2 (G:GlSame q σ g g') (S:SimH q num f σ.h h2 nx2) {v w:V} {rv:Value} (h:Zq v w=true) (vr:VR g σ v rv):VR g' (reSt f h2 nx2 lo2 σ) w rv:=by
 have e:=ZaG h
 subst e
 unfold Zq at h
 cases e:ZaV v with
 | none=>rw[e] at h; exact Za h
 | some x=>exact vr.plain G S e
theorem ZdV (S:SimH q num f σ.h h2 nx2) (G:GlSame q σ g g') (N:ZaW g g' num) (hU:∀ v,g.unk 0 v) (R:Rel g c σ) (w:V):∀ {v:V} {rv:Value},vsB q num f σ.h nx2 w v=true→VR g σ v rv→VR g' (reSt f h2 nx2 lo2 σ) w rv:=
 @V.rec (fun w=>∀ {v:V} {rv:Value},vsB q num f σ.h nx2 w v=true→VR g σ v rv→VR g' (reSt f h2 nx2 lo2 σ) w rv)
  (fun ws=>∀ {vs:List V} {rvs:List Value},@V.rec_1 (fun _=>V→Bool) (fun _=>List V→Bool) ZS (fun b v=>Zq v (.bool b)) (fun i v=>Zq v (.int i)) (fun k v=>num v k) (fun n v=>Zq v (.str n)) (fun k v=>og (vSv v) fun j=>Nat.beq j k)
  (fun k v=>bif Nat.beq k 0 then ZeU v else og (vUnk v) fun j=>Nat.beq j k) (fun _ ih v=>og (vTup v) fun vs=>ih vs) (fun b v=>Nat.blt b nx2&&og (vRef v) fun a=>og (look f b) fun a'=>Nat.beq a a')
  (fun a v=>Zq v (.top a)) (fun n v=>Zq v (.bi n)) (fun _ _=>false) (fun v=>othV v||og (vRef v) fun a=>!mem (f.map (·.2)) a&&(!mem q.fz a&&insB σ.h a)) (fun k ks ws ih v=>frB q σ.h k ks ws ih v)
  (fun vs=>vs.isEmpty) (fun _ _ ih ihs vs=>@List.rec V (fun _=>Bool) false (fun v vs _=>ih v&&ihs vs) vs) ws vs=true→VRs g σ vs rvs→VRs g' (reSt f h2 nx2 lo2 σ) ws rvs)
  (fun {v rv} h vr=>by obtain rfl:=Zao h; exact vr)
  (fun b {v rv} h vr=>Za2 G S h vr) (fun i {v rv} h vr=>Za2 G S h vr) (fun k {v rv} h vr=>N v k h σ rv vr) (fun n {v rv} h vr=>Za2 G S h vr)
  (fun k {v rv} h vr=>by
   refine Zc h fun j hj e=>?_
   obtain rfl:=Zdc hj
   obtain rfl:=Yn e
   obtain⟨t,e⟩:=vr
   exact⟨t,by rw[G.sv]; exact e⟩)
  (fun k {v rv} h vr=>by
   have h:(bif Nat.beq k 0 then ZeU v else og (vUnk v) fun j=>Nat.beq j k)=true:=h
   cases hk:Nat.beq k 0 with
   | true=>
    rw[hk] at h
    obtain rfl:=Yn hk
    exact⟨by rw[G.unk]; exact hU _,ZiO h vr⟩
   | false=>
    rw[hk] at h
    refine Zc h fun j hj e=>?_
    obtain rfl:=Zev hj
    obtain rfl:=Yn e
    exact⟨by rw[G.unk]; exact vr.1,vr.2⟩)
  (fun ws ih {v rv} h vr=>by
   refine Zc h fun vs hvs h=>?_
   obtain rfl:=ZP hvs
   obtain⟨a,its,n,e,p,q⟩:=vr
   exact⟨a,its,n,e,S.pin G p,ih h q⟩)
  (fun b {v rv} h vr=>by
   obtain⟨hb,h⟩:=Yb h
   refine Zc h fun a ha h=>Zc h fun a' hl e=>?_
   obtain rfl:=Zk ha
   obtain rfl:=Yn e
   exact⟨vr.1.trans (congrArg Value.ref (Zcf hl).symm),Nat.blt_eq.mp hb⟩)
  (fun a {v rv} h vr=>Za2 G S h vr) (fun n {v rv} h vr=>Za2 G S h vr) (fun n {v rv} h vr=>Za h)
  (fun {v rv} h vr=>VR.oth S G R h vr)
  (fun k ks ws ih {v rv} h vr=>Zlk S G R (fun {vs rvs}=>ih) h vr)
  (fun {vs rvs} h vr=>by
   obtain rfl:=List.isEmpty_iff.mp h
   cases rvs with
   | nil=>trivial
   | cons _ _=>exact vr.elim)
  (fun w ws ih ihs {vs rvs} h vr=>by
   cases vs with
   | nil=>exact Za h
   | cons v vs=>
    cases rvs with
    | nil=>exact vr.elim
    | cons rv rvs=>
     obtain⟨h1,h2⟩:=Yb h
     exact⟨ih h1 vr.1,ihs h2 vr.2⟩) w
theorem Zek (S:SimH q num f σ.h h2 nx2) (G:GlSame q σ g g') (N:ZaW g g' num) (hU:∀ v,g.unk 0 v) (R:Rel g c σ):∀ {ws vs:List V} {rvs:List Value},vssB q num f σ.h nx2 ws vs=true→VRs g σ vs rvs→VRs g' (reSt f h2 nx2 lo2 σ) ws rvs∧ws.length=vs.length
 | [],vs,rvs,h,vr=>by
  obtain rfl:=List.isEmpty_iff.mp h
  cases rvs with
  | nil=>exact⟨trivial,rfl⟩
  | cons _ _=>exact vr.elim
 | w :: ws,[],rvs,h,vr=>Za h
 | w :: ws,v :: vs,[],h,vr=>vr.elim
 | w :: ws,v :: vs,rv :: rvs,h,vr=>by
  obtain⟨h1,h2⟩:=Yb (show (vsB q num f σ.h nx2 w v&&vssB q num f σ.h nx2 ws vs)=true from h)
  obtain⟨a,b⟩:=Zek S G N hU R h2 vr.2
  exact⟨⟨ZdV S G N hU R w h1 vr.1,a⟩,congrArg Nat.succ b⟩
theorem Zgb (S:SimH q num f σ.h h2 nx2) (G:GlSame q σ g g') (N:ZaW g g' num) (hU:∀ v,g.unk 0 v) (R:Rel g c σ) {l l2:Lo} {m:Str→Option Value} (h:lowB q num f σ.h nx2 l l2=true) (x:LW g σ l m):LW g' (reSt f h2 nx2 lo2 σ) l2 m:=fun y w hy e=>by
 refine Zc (List.all_eq_true.mp h _ (ZX _ _ _ e)) fun v hv h=>?_
 obtain⟨rv,e1,vr⟩:=x y v hy hv
 exact⟨rv,e1,ZdV S G N hU R w h vr⟩
theorem Zll (S:SimH q num f σ.h h2 nx2) (G:GlSame q σ g g') (N:ZaW g g' num) (hU:∀ v,g.unk 0 v) (R:Rel g c σ) {l l2:Lo} {m:Str→Option Value} (h:loB q num f σ.h nx2 l l2=true) (x:LR g σ l m):LR g' (reSt f h2 nx2 lo2 σ) l2 m:=fun y hy=>by
 obtain⟨ha,hb⟩:=Yb h
 cases e:look l2 (enc y) with
 | some w=>exact Zgb S G N hU R hb x.lw y w hy e
 | none=>
  have q:=x y hy
  cases e1:look l (enc y) with
  | none=>rw[e1] at q; exact q
  | some v=>
   have:=List.all_eq_true.mp ha _ (ZX _ _ _ e1)
   rw[ZbI,e] at this
   exact Za this
theorem Zgc (S:SimH q num f σ.h h2 nx2) (G:GlSame q σ g g') (N:ZaW g g' num) (hU:∀ v,g.unk 0 v) (R:Rel g c σ):∀ {l2 l:Lo} {r:List (Str × Value)},losB q num f σ.h nx2 l2 l=true→SR g σ l r→SR g' (reSt f h2 nx2 lo2 σ) l2 r
 | [],l,r,h,x=>by
  obtain rfl:=List.isEmpty_iff.mp h
  cases r with
  | nil=>trivial
  | cons _ _=>exact x.elim
 | z :: l2,[],r,h,x=>Za h
 | z :: l2,p :: l,[],h,x=>x.elim
 | z :: l2,p :: l,y :: r,h,x=>by
  obtain⟨h1,h⟩:=Yb (show (Nat.beq p.1 z.1&&(vsB q num f σ.h nx2 z.2 p.2&&losB q num f σ.h nx2 l2 l))=true from h)
  obtain⟨h2,h3⟩:=Yb h
  exact⟨x.1,x.2.1.trans (Yn h1),ZdV S G N hU R _ h2 x.2.2.1,Zgc S G N hU R h3 x.2.2.2⟩
theorem ZaQ {F:V→V}:∀ {vs:List V} {ws:List Value},VRs g σ vs ws→(∀ v ∈ vs,∀ w,VR g σ v w→VR g' (reSt f h2 nx2 lo2 σ) (F v) w)→VRs g' (reSt f h2 nx2 lo2 σ) (vs.map F) ws
 | [],[],_,_=>trivial
 | [],_ :: _,x,_=>x.elim
 | _ :: _,[],x,_=>x.elim
 | v :: vs,w :: ws,x,h=>⟨h v (.head _) w x.1,ZaQ x.2 fun v hv=>h v (.tail _ hv)⟩
theorem Zkl {v:V} {w:Value} (h:Zy v=true) (x:VR g σ v w):VR g' (reSt f h2 nx2 lo2 σ) (insV g v) w:=by
 cases v <;> first | exact x | exact Za h
theorem Zgd:∀ {es:Lo} {kvs:List (Str × Value)},SR g σ es kvs→ZbJ (es.map (·.1)) kvs∧VRs g σ (es.map (·.2)) (kvs.map (·.2))
 | [],[],_=>⟨trivial,trivial⟩
 | [],_ :: _,x=>x.elim
 | _ :: _,[],x=>x.elim
 | p :: es,q :: kvs,x=>let ⟨a,b⟩:=Zgd x.2.2.2; ⟨⟨x.1,x.2.1,a⟩,x.2.2.1,b⟩
theorem Zel {σ':St} {g':Gl}:∀ {l:List (Nat × Int)} {kvs:List (Str × Value)},GdR l kvs→ZbJ (l.map (·.1)) kvs∧VRs g' σ' (l.map fun p=>.int p.2) (kvs.map (·.2))
 | [],[],_=>⟨trivial,trivial⟩
 | [],_ :: _,x=>x.elim
 | _ :: _,[],x=>x.elim
 | p :: es,q :: kvs,x=>let ⟨a,b⟩:=Zel x.2.2.2; ⟨⟨x.1,x.2.1,a⟩,x.2.2.1,b⟩
theorem Zh6:∀ (es:Lo),(es.map (·.1)).zip (es.map (·.2))=es
 | []=>rfl
 | p :: es=>by rw[List.map_cons,List.map_cons,List.zip_cons_cons,Zh6 es]
theorem ZdW {n k:Nat} {ks:List Nat} {vs:List V} (h:plC n (.fr k ks vs)=true):∃ m,n=m + 1∧((k=0∧ks = []∧vs.all (plC m)=true)∨((k=1∨k=2)∧vs.all Zy=true)):=by
 cases n with
 | zero=>exact Za h
 | succ n=>
  refine⟨n,rfl,?_⟩
  have h:((Nat.beq k 0&&(ks.isEmpty&&vs.all (plC n)))||((Nat.beq k 1||Nat.beq k 2)&&vs.all Zy))=true:=h
  rcases Bool.or_eq_true_iff.mp h with h | h
  ·obtain⟨a,h⟩:=Yb h
   obtain⟨b,h⟩:=Yb h
   exact .inl ⟨Yn a,List.isEmpty_iff.mp b,h⟩
  ·obtain⟨a,h⟩:=Yb h
   refine .inr ⟨?_,h⟩
   rcases Bool.or_eq_true_iff.mp a with a | a
   ·exact .inl (Yn a)
   ·exact .inr (Yn a)
theorem Zge {n:Nat} {vs:List V} (h:plC n (.tup vs)=true):∃ m,n=m + 1∧vs.all (plC m)=true:=by
 cases n with
 | zero=>exact Za h
 | succ n=>
  have h:((false||vs.all (plC n))||false)=true:=h
  exact⟨n,rfl,by rwa [Bool.or_false,Bool.false_or] at h⟩
theorem Zdp:∀ {vs:List V} {ws:List Value},vs.all Zy=true→VRs g σ vs ws→VRs g' (reSt f h2 nx2 lo2 σ) (vs.map (insV g)) ws
 | [],[],_,_=>trivial
 | [],_ :: _,_,x=>x.elim
 | _ :: _,[],_,x=>x.elim
 | v :: vs,w :: ws,h,x=>by
  obtain⟨a,b⟩:=Yb (List.all_cons.symm.trans h)
  exact⟨Zkl a x.1,Zdp b x.2⟩
theorem ZfA (S:SimH q num f σ.h h2 nx2) (G:GlSame q σ g g'):∀ (m:Nat) {v:V} {w:Value},VR g σ v w→plC m v=true→VR g' (reSt f h2 nx2 lo2 σ) (insV g v) w:=fun m=>by
 have flat:∀ {m:Nat} {v:V} {w:Value},vTup v=none→vFr v=none→VR g σ v w→plC m v=true→VR g' (reSt f h2 nx2 lo2 σ) (insV g v) w:=fun {m v w} e2 e3 x h=>by
  have h:flS v=true:=by
   cases m with
   | zero=>exact h
   | succ m=>
    have h:((flS v||og (vTup v) fun vs=>vs.all (plC m))||og (vFr v) fun p=>(Nat.beq p.1 0&&(p.2.1.isEmpty&&p.2.2.all (plC m)))||((Nat.beq p.1 1||Nat.beq p.1 2)&&p.2.2.all Zy))=true:=h
    rw[e2,e3] at h
    have h:((flS v||false)||false)=true:=h
    rwa [Bool.or_false,Bool.or_false] at h
  cases v <;> first | exact x | exact Za h
 induction m with
 | zero=>intro v w x h; cases v <;> first | exact x | exact Za h
 | succ m ihm=>
  intro v w x h
  cases v with
  | tup vs=>
   obtain⟨_,e,h⟩:=Zge h
   cases e
   obtain⟨a,its,i,e,p,r⟩:=x
   rw[Zdo]
   exact⟨a,its,i,e,S.pin G p,ZaQ r fun v hv w x=>ihm x (List.all_eq_true.mp h v hv)⟩
  | fr k ks vs=>
   obtain⟨_,e,hh⟩:=ZdW h
   clear h
   cases e
   obtain⟨a,o,its,e,mm,fo,vr⟩:=x
   rw[ZbW]
   rcases hh with⟨rfl,rfl,hh⟩ | ⟨e3,hn⟩
   ·exact⟨a,o,its,e,ZaH G mm,fo.mono G (by decide),ZaQ vr fun v hv w x=>ihm x (List.all_eq_true.mp hh v hv)⟩
   ·rcases e3 with rfl | rfl
    ·exact⟨a,o,its,e,ZaH G mm,fo.mono G (by decide),Zdp hn vr⟩
    ·obtain⟨z,z2,rfl,rfl,kvs,d,r⟩:=fo
     obtain rfl:vs = []:=by cases vs with | nil=>rfl | cons _ _=>exact vr.elim
     obtain⟨k1,k2⟩:=Zel (g':=g') (σ':=reSt f h2 nx2 lo2 σ) r
     show VR g' _ (.fr 1 (g.gd.map (·.1)) (g.gd.map fun p=>.int p.2)) w
     exact⟨a,o,kvs.map (·.2),e,ZaH G mm,⟨z,kvs,by rw[G.prog,G.w]; exact d,rfl,k1⟩,k2⟩
  | _=>exact flat rfl rfl x h
theorem Zmu (S:SimH q num f σ.h h2 nx2) (G:GlSame q σ g g') (R:Rel g c σ):∀ (n:Nat) {m:Nat} {v:V} {w:Value},VR g σ v w→plC m (cl σ.h q.fz n v)=true→VR g' (reSt f h2 nx2 lo2 σ) (insV g (cl σ.h q.fz n v)) w:=fun n=>by
 induction n with
 | zero=>intro m v w x h; exact ZfA S G m x h
 | succ n ih=>
  intro m v w x h
  cases v with
  | ref a=>
   have e:cl σ.h q.fz (n + 1) (.ref a)=bif mem q.fz a then @Option.rec (List V) (fun _=>V) (@Option.rec (Nat × Lo) (fun _=>V) (.ref a) (fun p=>.fr p.1 (p.2.map (·.1)) (p.2.map (·.2))) (ZaK σ.h a)) (fun l=>.fr 0 [] (l.map (cl σ.h q.fz n))) (Zg σ.h a) else .ref a:=rfl
   have dead:∀ {P:Prop},plC m (.ref a)=true→P:=fun {P} h=>by cases m <;> exact Za h
   rw[e] at h ⊢
   cases hm:mem q.fz a with
   | false=>rw[hm] at h; exact dead h
   | true=>
    rw[hm] at h
    have hm:=Zec hm
    cases hl:Zg σ.h a with
    | some l=>
     rw[hl] at h
     obtain⟨m',rfl,hh⟩:=ZdW (show plC m (.fr 0 [] (l.map (cl σ.h q.fz n)))=true from h)
     obtain⟨its,k,mm,z,vr⟩:=R.list hl
     show VR g' _ (insV g (.fr 0 [] (l.map (cl σ.h q.fz n)))) w
     rw[ZbW]
     rcases hh with⟨_,_,hh⟩ | ⟨e5,_⟩
     ·rw[List.map_map]
      exact⟨_,_,its,x.1,ZbX G (ZaC hm (ZH hl) mm),⟨rfl,k,rfl⟩,ZaQ vr fun v hv w x=>ih x (List.all_eq_true.mp hh _ (List.mem_map_of_mem hv))⟩
     ·rcases e5 with e5 | e5 <;> cases e5
    | none=>
     rw[hl] at h
     cases hd:ZaK σ.h a with
     | none=>rw[hd] at h; exact dead h
     | some p=>
      rw[hd] at h
      obtain⟨t,es⟩:=p
      obtain⟨m',rfl,hh⟩:=ZdW (show plC m (.fr t (es.map (·.1)) (es.map (·.2)))=true from h)
      obtain⟨ob,e,_,o,kvs,D⟩:=ZcS R hd
      have hf:=ZbX G (ZaC hm e D.m)
      show VR g' _ (insV g (.fr t (es.map (·.1)) (es.map (·.2)))) w
      rw[ZbW]
      have hn:(es.map (·.2)).all Zy=true:=by
       rcases hh with⟨e5,_⟩ | ⟨_,hh⟩
       ·rcases D.alt with rfl | rfl <;> cases e5
       ·exact hh
      rcases D.alt with rfl | rfl
      ·obtain⟨k1,k2⟩:=Zgd (D.one rfl)
       exact⟨_,_,kvs.map (·.2),x.1,hf,⟨D.z,kvs,by rw[G.prog,G.w]; exact D.d,rfl,k1⟩,Zdp hn k2⟩
      ·obtain⟨k1,k2⟩:=Zel (g':=g') (σ':=reSt f h2 nx2 lo2 σ) (D.two rfl).1
       rw[Zh6]
       exact⟨_,_,kvs.map (·.2),x.1,hf,⟨D.z,kvs,by rw[G.prog,G.w]; exact D.d,rfl,k1⟩,k2⟩
  | tup vs=>
   obtain⟨m',rfl,hh⟩:=Zge (show plC m (.tup (vs.map (cl σ.h q.fz n)))=true from h)
   obtain⟨a,its,i,e,p,r⟩:=x
   show VR g' _ (insV g (.tup (vs.map (cl σ.h q.fz n)))) w
   rw[Zdo,List.map_map]
   exact⟨a,its,i,e,S.pin G p,ZaQ r fun v hv w x=>ih x (List.all_eq_true.mp hh _ (List.mem_map_of_mem hv))⟩
  | fr k ks vs=>
   cases k with
   | zero=>
    obtain⟨m',rfl,hh⟩:=ZdW (show plC m (.fr 0 ks (vs.map (cl σ.h q.fz n)))=true from h)
    obtain⟨a,o,its,e,mm,fo,vr⟩:=x
    show VR g' _ (insV g (.fr 0 ks (vs.map (cl σ.h q.fz n)))) w
    rw[ZbW]
    rcases hh with⟨_,_,hh⟩ | ⟨e5,_⟩
    ·rw[List.map_map]
     exact⟨a,o,its,e,ZaH G mm,fo.mono G (by decide),ZaQ vr fun v hv w x=>ih x (List.all_eq_true.mp hh _ (List.mem_map_of_mem hv))⟩
    ·rcases e5 with e5 | e5 <;> cases e5
   | succ k=>exact ZfA S G m x h
  | _=>exact ZfA S G m x h
theorem Zem (S:SimH q num f σ.h h2 nx2) (G:GlSame q σ g g') (v:V):∀ {w:Value},ZN v=true→VR g σ v w→VR g' (reSt f h2 nx2 lo2 σ) v w:=
 @V.rec (fun v=>∀ {w:Value},ZN v=true→VR g σ v w→VR g' (reSt f h2 nx2 lo2 σ) v w)
  (fun vs=>∀ {ws:List Value},@V.rec_1 (fun _=>Bool) (fun _=>Bool) true (fun _=>true) (fun _=>true) (fun _=>false) (fun _=>true) (fun _=>false) (fun k=>Nat.beq k 0) (fun _ ih=>ih) (fun _=>false) (fun _=>false) (fun _=>false) (fun _=>false) false
   (fun k _ _ ih=>!Nat.beq k 2&&ih) true (fun _ _ a b=>a&&b) vs=true→VRs g σ vs ws→VRs g' (reSt f h2 nx2 lo2 σ) vs ws)
  (fun _ x=>x) (fun _ _ _ x=>x) (fun _ _ _ x=>x) (fun _ _ h _=>Za h) (fun _ _ _ x=>x) (fun _ _ h _=>Za h) (fun _ _ _ x=>⟨by rw[G.unk]; exact x.1,x.2⟩)
  (fun _ ih _ h x=>by obtain⟨a,its,n,e,p,q⟩:=x; exact⟨a,its,n,e,S.pin G p,ih h q⟩)
  (fun _ _ h _=>Za h) (fun _ _ h _=>Za h) (fun _ _ h _=>Za h) (fun _ _ h _=>Za h) (fun h _=>Za h)
  (fun k ks vs ih _ h x=>by
   obtain⟨h1,h2⟩:=Yb h
   obtain⟨a,o,its,e,m,fo,q⟩:=x
   exact⟨a,o,its,e,ZaH G m,fo.mono G (fun e=>by rw[e] at h1; exact Za h1),ih h2 q⟩)
  (fun _ x=>by rename_i ws _; cases ws with | nil=>trivial | cons _ _=>exact x.elim)
  (fun v vs ih ihs _ h x=>by
   rename_i ws
   cases ws with
   | nil=>exact x.elim
   | cons w ws=>
    obtain⟨h1,h2⟩:=Yb h
    exact⟨ih h1 x.1,ihs h2 x.2⟩) v
theorem Zdq (S:SimH q num f σ.h h2 nx2) (G:GlSame q σ g g'):∀ {vs:List V} {ws:List Value},(∀ v ∈ vs,ZN v=true)→VRs g σ vs ws→VRs g' (reSt f h2 nx2 lo2 σ) vs ws
 | [],[],_,_=>trivial
 | [],_ :: _,_,x=>x.elim
 | _ :: _,[],_,x=>x.elim
 | v :: vs,w :: ws,h,x=>⟨Zem S G v (h v (.head _)) x.1,Zdq S G (fun v hv=>h v (.tail _ hv)) x.2⟩
theorem Zew {vs:List V} (h:∀ v ∈ vs,ZN v=true):ZN (.tup vs)=true:=by
 induction vs with
 | nil=>rfl
 | cons v vs ih=>exact Bool.and_eq_true_iff.mpr ⟨h v (.head _),ih fun v hv=>h v (.tail _ hv)⟩
theorem Zdr {k:Nat} {ks:List Nat} {vs:List V} (hk:k≠2) (h:∀ v ∈ vs,ZN v=true):ZN (.fr k ks vs)=true:=
 Bool.and_eq_true_iff.mpr ⟨by
  cases q:Nat.beq k 2 with
  | false=>rfl
  | true=>exact absurd (Yn q) hk,Zew (vs:=vs) h⟩
theorem Zex {v:V} (h:Zy v=true):og (vInt (insV g v)) (fun _=>true)=true∧ZN (insV g v)=true:=by
 cases v <;> first | exact⟨rfl,rfl⟩ | exact Za h
theorem Zgf {v:V} (h:flS v=true):Zb7 (insV g v)=true∧ZN (insV g v)=true:=by
 cases v <;> first | exact⟨rfl,rfl⟩ | exact Za h
theorem Zgg:∀ (n:Nat) {v:V},plC n v=true→plN n (insV g v)=true∧ZN (insV g v)=true:=fun n=>by
 induction n with
 | zero=>intro v h; exact Zgf h
 | succ n ih=>
  intro v h
  have fl:flS v=true→plN (n + 1) (insV g v)=true∧ZN (insV g v)=true:=fun h=>by
   obtain⟨a,b⟩:=Zgf (g:=g) h
   refine⟨?_,b⟩
   show ((Zb7 (insV g v)||_)||_)=true
   rw[a]; rfl
  rcases Bool.or_eq_true_iff.mp (show ((flS v||og (vTup v) fun vs=>vs.all (plC n))||og (vFr v) fun p=>(Nat.beq p.1 0&&(p.2.1.isEmpty&&p.2.2.all (plC n)))||((Nat.beq p.1 1||Nat.beq p.1 2)&&p.2.2.all Zy))=true from h) with h | h
  ·rcases Bool.or_eq_true_iff.mp h with h | h
   ·exact fl h
   ·refine Zc h fun vs hv h=>?_
    obtain rfl:=ZP hv
    rw[Zdo]
    have h:=List.all_eq_true.mp h
    refine⟨?_,Zew fun v hv=>?_⟩
    ·show ((false||(vs.map (insV g)).all (plN n))||false)=true
     rw[Bool.or_false,Bool.false_or,List.all_eq_true]
     intro v hv
     obtain⟨u,hu,rfl⟩:=List.mem_map.mp hv
     exact(ih (h u hu)).1
    ·obtain⟨u,hu,rfl⟩:=List.mem_map.mp hv
     exact(ih (h u hu)).2
  ·refine Zc h fun p hp h=>?_
   obtain⟨k,ks,vs⟩:=p
   obtain rfl:=Zce hp
   rw[ZbW]
   rcases Bool.or_eq_true_iff.mp h with h | h
   ·obtain⟨a,h⟩:=Yb h
    obtain⟨b,h⟩:=Yb h
    obtain rfl:k=0:=Yn a
    have h:=List.all_eq_true.mp h
    refine⟨?_,Zdr nofun fun v hv=>?_⟩
    ·show ((false||false)||((true&&(vs.map (insV g)).all (plN n))||_))=true
     rw[Bool.true_and,List.all_eq_true.mpr fun v hv=>?_]
     ·rfl
     ·obtain⟨u,hu,rfl⟩:=List.mem_map.mp hv
      exact(ih (h u hu)).1
    ·obtain⟨u,hu,rfl⟩:=List.mem_map.mp hv
     exact(ih (h u hu)).2
   ·obtain⟨a,h⟩:=Yb h
    have h:=List.all_eq_true.mp h
    rcases Bool.or_eq_true_iff.mp a with a | a
    ·obtain rfl:k=1:=Yn a
     refine⟨?_,Zdr nofun fun v hv=>?_⟩
     ·show ((false||false)||(false||(true&&(vs.map (insV g)).all fun v=>og (vInt v) fun _=>true)))=true
      rw[Bool.true_and,List.all_eq_true.mpr fun v hv=>?_]
      ·rfl
      ·obtain⟨u,hu,rfl⟩:=List.mem_map.mp hv
       exact(Zex (h u hu)).1
     ·obtain⟨u,hu,rfl⟩:=List.mem_map.mp hv
      exact(Zex (h u hu)).2
    ·obtain rfl:k=2:=Yn a
     refine⟨?_,Zdr nofun fun v hv=>?_⟩
     ·show ((false||false)||(false||(true&&((gdUp g (ks.zip vs)).map fun p=>V.int p.2).all fun v=>og (vInt v) fun _=>true)))=true
      rw[Bool.true_and,List.all_eq_true.mpr fun v hv=>?_]
      ·rfl
      ·obtain⟨u,hu,rfl⟩:=List.mem_map.mp hv; rfl
     ·obtain⟨u,hu,rfl⟩:=List.mem_map.mp hv; rfl
theorem CodeN.re (S:SimH q num f σ.h h2 nx2) (G:GlSame q σ g g') {cd:Value} {q:Str} (x:CodeN g σ cd q):CodeN g' (reSt f h2 nx2 lo2 σ) cd q:=
 let ⟨a,o,vs,t,e,p,d,r⟩:=x; ⟨a,o,vs,t,e,S.pin G p,d,r⟩
theorem OwnR.re (S:SimH q num f σ.h h2 nx2) (G:GlSame q σ g g') (N:ZaW g g' num) (hU:∀ v,g.unk 0 v) (R:Rel g c σ) {d:Addr} {l l2:Lo} (h:loB q num f σ.h nx2 l l2=true) (hl:Nat.ble l.length l2.length=true) (x:OwnR g σ d l):OwnR g' (reSt f h2 nx2 lo2 σ) d l2:=
 let ⟨es,n,b,k,z,r⟩:=x; ⟨es,n,b,k,Nat.le_trans z (Nat.le_of_ble_eq_true hl),Zll S G N hU R h r⟩
theorem Zlm (S:SimH q num f σ.h h2 nx2) (G:GlSame q σ g g') (N:ZaW g g' num) (hU:∀ v,g.unk 0 v) (R:Rel g c σ) {i a:Nat} {o o2:O} (hf:look f i=some a) (ho : σ.h.get a=some o) (h:osB q num f σ.h nx2 o o2=true):OR g' (reSt f h2 nx2 lo2 σ) i o2:=by
 have t:=R.trk a o ho
 show ORa g' _ (ren f σ (2 * i)) (ren f σ (2 * i + 1)) o2
 rw[Zcf hf,ZiM hf]
 have t:ORa g σ (σ.ρ (2 * a)) (σ.ρ (2 * a + 1)) o:=t
 cases o2 with
 | inst cl l2=>
  refine Zc h fun p hp h=>?_
  obtain rfl:=Zb4 hp
  obtain⟨h1,h⟩:=Yb h
  obtain⟨h3,h4⟩:=Yb h
  obtain rfl:=Yn h1
  exact⟨t.1,t.2.re S G N hU R h4 h3⟩
 | exc cl tt l2=>
  refine Zc h fun p hp h=>?_
  obtain rfl:=Zcs hp
  obtain⟨h1,h⟩:=Yb h
  obtain⟨h3,h⟩:=Yb h
  obtain⟨h4,h⟩:=Yb h
  obtain⟨h5,h6⟩:=Yb h
  obtain rfl:=Yn h1
  obtain rfl:=eq_of_beq h3
  obtain⟨o,vs,m,k,e,z,tb,own,cx⟩:=t
  refine⟨o,vs,m,k,e,z,?_,?_,cx⟩
  ·cases h8:p.2.1 with
   | false=>rw[h8] at tb; exact tb
   | true=>
    rw[h8] at tb
    obtain⟨T,e1,oo,e2,e3⟩:=tb
    exact⟨T,e1,oo,S.pin G e2,e3⟩
  ·rw[← eq_of_beq h4]
   cases h8:p.2.2.isEmpty with
   | true=>rw[h8] at own; exact own
   | false=>rw[h8] at own; exact⟨own.1,own.2.re S G N hU R h6 h5⟩
 | list ys=>
  refine Zc h fun xs hx h=>?_
  obtain rfl:=Zb5 hx
  obtain⟨its,n,m1,len,vr⟩:=t
  obtain⟨a1,a2⟩:=Zek (lo2:=lo2) S G N hU R h vr
  exact⟨its,n,m1,by rw[a2]; exact len,a1⟩
 | elist pk ys=>
  have h:(bif Nat.beq pk 0 then ys.isEmpty && @Option.rec (List V) (fun _=>Bool) (og (ZY o) fun _=>true) (fun xs=>Nat.ble xs.length 1000) (ZcJ o)
   else bif Nat.beq pk 1 then false
   else bif Nat.beq pk 2 then ys.isEmpty&&og (ZY o) fun p=>Nat.beq p.1 2&&(beqL (beqV 5) (p.2.map (cl σ.h q.fz 5)) q.gx&&q.gx.all (plC 5))
   else Nat.beq pk 3&&(ys.isEmpty&&og (ZY o) fun p=>Nat.beq p.1 3&&(vssB q num f σ.h nx2 q.gy p.2&&q.gy.all ZN)))=true:=h
  cases h0:Nat.beq pk 0 with
  | true=>
   rw[h0] at h
   obtain rfl:=Yn h0
   obtain⟨h1,h⟩:=Yb h
   obtain rfl:=List.isEmpty_iff.mp h1
   cases hl:ZcJ o with
   | some xs=>
    rw[hl] at h
    obtain rfl:=Zb5 hl
    obtain⟨its,n,m1,len,vr⟩:=t
    exact⟨its,[],n,by rw[List.append_nil]; exact m1,trivial,⟨by rw[← vr.length]; exact Nat.le_trans (Nat.le_of_ble_eq_true h) (Nat.le_trans (Nat.le_add_left _ _) G.cap.1),G.cap.2,Nat.zero_le _⟩,trivial⟩
   | none=>
    rw[hl] at h
    obtain⟨p,hp,_⟩:=ZZ (show og (ZY o) (fun _=>true)=true from h)
    obtain rfl:=ZbD hp
    obtain⟨pre,its,n,m1,b,l,vr⟩:=t
    exact⟨pre++its,[],n,by rw[List.append_nil]; exact m1,trivial,⟨by rw[List.length_append,← vr.length]; exact Nat.le_trans (Nat.add_le_add l.1 l.2.2) G.cap.1,G.cap.2,Nat.zero_le _⟩,trivial⟩
  | false=>
   rw[h0] at h
   cases h1:Nat.beq pk 1 with
   | true=>
    rw[h1] at h
    exact Za h
   | false=>
    have h:(bif Nat.beq pk 1 then _ else bif Nat.beq pk 2 then ys.isEmpty&&og (ZY o) fun p=>Nat.beq p.1 2&&(beqL (beqV 5) (p.2.map (cl σ.h q.fz 5)) q.gx&&q.gx.all (plC 5))
     else Nat.beq pk 3&&(ys.isEmpty&&og (ZY o) fun p=>Nat.beq p.1 3&&(vssB q num f σ.h nx2 q.gy p.2&&q.gy.all ZN)))=true:=h
    rw[h1] at h
    cases h2:Nat.beq pk 2 with
    | true=>
     have h:(bif Nat.beq pk 2 then ys.isEmpty&&og (ZY o) fun p=>Nat.beq p.1 2&&(beqL (beqV 5) (p.2.map (cl σ.h q.fz 5)) q.gx&&q.gx.all (plC 5)) else _)=true:=h
     rw[h2] at h
     obtain⟨a2,h⟩:=Yb h
     obtain⟨p,hp,h⟩:=ZZ h
     obtain⟨a3,h⟩:=Yb h
     obtain⟨a4,a5⟩:=Yb h
     obtain rfl:=Yn h2
     obtain rfl:=List.isEmpty_iff.mp a2
     obtain rfl:=ZbD hp
     rw[Yn a3] at t
     obtain⟨pre,its,n,m1,⟨b1,b2⟩,l,vr⟩:=t
     have b1:VRs g σ (g.gh 0) pre:=b1
     have a4:=Zc0 (fun q=>Zki 5 q) a4
     have a5:=List.all_eq_true.mp a5
     refine⟨pre++its,[],n,by rw[List.append_nil]; exact m1,⟨?_,?_⟩,⟨by rw[List.length_append,← vr.length]; exact Nat.le_trans (Nat.add_le_add l.1 l.2.2) G.cap.1,G.cap.2,Nat.zero_le _⟩,trivial⟩
     ·show VRs g' _ (g'.gh 0) (pre++its)
      rw[G.gh,← a4,List.map_map]
      exact(Zdq S G (fun v hv=>(b2 v hv).1) b1).append (ZaQ vr fun v hv w x=>Zmu S G R 5 x (a5 _ (a4 ▸ List.mem_map_of_mem hv)))
     ·show ∀ v ∈ g'.gh 0,ZN v=true∧(0=0→plN 5 v=true)
      rw[G.gh]
      intro v hv
      rcases List.mem_append.mp hv with hv | hv
      ·exact b2 v hv
      ·obtain⟨w,hw,rfl⟩:=List.mem_map.mp hv
       exact⟨(Zgg 5 (a5 w hw)).2,fun _=>(Zgg 5 (a5 w hw)).1⟩
    | false=>
     have h:(bif Nat.beq pk 2 then _ else Nat.beq pk 3&&(ys.isEmpty&&og (ZY o) fun p=>Nat.beq p.1 3&&(vssB q num f σ.h nx2 q.gy p.2&&q.gy.all ZN)))=true:=h
     rw[h2] at h
     obtain⟨a1,h⟩:=Yb h
     obtain⟨a2,h⟩:=Yb h
     obtain⟨p,hp,h⟩:=ZZ h
     obtain⟨a3,h⟩:=Yb h
     obtain⟨a4,a5⟩:=Yb h
     obtain rfl:=Yn a1
     obtain rfl:=List.isEmpty_iff.mp a2
     obtain rfl:=ZbD hp
     rw[Yn a3] at t
     obtain⟨pre,its,n,m1,⟨b1,b2⟩,l,vr⟩:=t
     have b1:VRs g σ (g.gh 1) pre:=b1
     refine⟨pre++its,[],n,by rw[List.append_nil]; exact m1,⟨?_,?_⟩,⟨by rw[List.length_append,← vr.length]; exact Nat.le_trans (Nat.add_le_add l.1 l.2.2) G.cap.1,G.cap.2,Nat.zero_le _⟩,trivial⟩
     ·show VRs g' _ (g'.gh 1) (pre++its)
      rw[G.gy]
      exact(Zdq S G (fun v hv=>(b2 v hv).1) b1).append (Zek (lo2:=lo2) S G N hU R a4 vr).1
     ·show ∀ v ∈ g'.gh 1,ZN v=true∧(1=0→plN 5 v=true)
      rw[G.gy]
      intro v hv
      rcases List.mem_append.mp hv with hv | hv
      ·exact b2 v hv
      ·exact⟨List.all_eq_true.mp a5 v hv,fun e=>absurd e (by decide)⟩
 | pmap k es=>
  have h:(es.isEmpty&&og (ZcK o) fun p=>Nat.beq p.1 k&&ZeV p.2 (q.px k))=true:=h
  obtain⟨a1,h⟩:=Yb h
  obtain rfl:=List.isEmpty_iff.mp a1
  obtain⟨p,hp,h⟩:=ZZ h
  obtain⟨a2,a3⟩:=Yb h
  obtain rfl:=Zcc hp
  obtain rfl:=Yn a2
  obtain⟨o,kvs,m,d,z,i,r⟩:=t
  refine⟨o,kvs,m,by rw[G.prog,G.w]; exact d,z,fun x w e=>by rw[G.pk]; exact i x w e,fun x hx=>⟨nofun,fun _=>?_⟩⟩
  obtain⟨r1,r2⟩:=r x hx
  rw[G.pm,← Zfz a3]
  cases e:look p.2 (enc x) with
  | none=>exact r2 e
  | some v=>rw[r1 v e]; rfl
 | gdict es=>
  obtain⟨a1,h⟩:=Yb (show (es.isEmpty&&og (oDct o) (dctB q))=true from h)
  obtain rfl:=List.isEmpty_iff.mp a1
  refine Zc h fun p hp h=>?_
  obtain⟨tt,es⟩:=p
  have hd:ZaK σ.h a=some (tt,es):=by
   unfold ZaK Zag ZaO onO
   rw[ho]
   exact hp
  obtain⟨_,_,_,o,kvs,D⟩:=ZcS R hd
  exact⟨o,kvs,D.m,by rw[G.prog,G.w]; exact D.d,D.z,⟨nofun,G.gl⟩,Zh5 G D h⟩
 | dict es=>
  refine Zc h fun xs hx h=>?_
  obtain rfl:=ZdF hx
  obtain⟨o,kvs,m,d,z,r⟩:=t
  exact⟨o,kvs,m,by rw[G.prog,G.w]; exact d,z,Zgc S G N hU R h r⟩
 | cell w=>
  refine Zc h fun v hv h=>?_
  obtain rfl:=ZdG hv
  obtain⟨o,rw_,m1,d,ov⟩:=t
  refine⟨o,rw_,m1,d,?_⟩
  cases w with
  | none=>trivial
  | some w=>
   refine Zc (show og v (fun v=>vsB q num f σ.h nx2 w v)=true from h) fun v' hv h=>?_
   subst hv
   obtain⟨x,e,vr⟩:=ov
   exact⟨x,e,ZdV S G N hU R w h vr⟩
 | clos e2 cl2=>
  refine Zc h fun p hp h=>?_
  obtain rfl:=ZdH hp
  obtain⟨h1,h3⟩:=Yb h
  obtain rfl:=Zf8 h1
  obtain⟨name,qual,A,fb,scope,clos,doc,pm,c',ctv,q,k,e,hps,hpd,ok,m,cd,r⟩:=t
  refine .mk name qual A fb scope clos doc pm c' ctv q k e hps hpd ok m (cd.re S G) fun x j hx ej=>?_
  obtain⟨hb,this⟩:=Yb (List.all_eq_true.mp h3 _ (ZX _ _ _ ej))
  refine Zc this fun a' l1 this=>Zc this fun b' l2 this=>?_
  obtain rfl:=Yn this
  exact⟨Nat.blt_eq.mp hb,by rw[(r x a' hx l1).2]; exact congrArg some (Zcf l2).symm⟩
 | abs k=>
  refine Zc h fun j hj e=>?_
  obtain rfl:=Zh3 hj
  obtain rfl:=Yn e
  obtain⟨o,m,q⟩:=t
  exact⟨o,m,by rw[G.abs]; exact q⟩
theorem Za3 {cs:Cs} {h:H} {lo:Lo} (x:simB q num f h lo cs h2 nx2 lo2=true):SimH q num f h h2 nx2:=by
 obtain⟨h1,x⟩:=Yb x
 obtain⟨_,x⟩:=Yb x
 obtain⟨_,h4⟩:=Yb x
 obtain⟨h1,hz⟩:=Yb h1
 refine⟨fun a ha=>?_,Zak h1,fun i o2 e=>?_⟩
 ·obtain⟨a1,a2⟩:=Yb (List.all_eq_true.mp hz a ha)
  exact⟨Bool.not_eq_true' _ |>.mp a1,Zc a2 fun o ho _=>⟨o,ho⟩⟩
 obtain⟨hb,this⟩:=Yb (List.all_eq_true.mp h4 _ (BT.toL_of e))
 refine⟨Nat.blt_eq.mp hb,?_⟩
 exact Zc this fun a ha this=>Zc this fun o ho this=>⟨a,o,ha,ho,this⟩
theorem Rel.canon (R:Rel g c σ) (G:GlSame q σ g g') (N:ZaW g g' num) (hU:∀ v,g.unk 0 v) (hown:c.env.locals=c.L) {hd':Hd} (hcs:hd'.cs=c.hd.cs) (hhd:hd'.hd=none) (h:simB q num f σ.h σ.lo c.hd.cs h2 nx2 lo2=true):Rel g' { c with hd:=hd' } (reSt f h2 nx2 lo2 σ):=by
 have S:=Za3 h
 obtain⟨_,h⟩:=Yb h
 obtain⟨h2',h⟩:=Yb h
 obtain⟨h3,_⟩:=Yb h
 refine⟨⟨R.nd,fun i hi=>?_,fun i j hi hj e=>?_,fun i o2 e=>?_,fun x i hx e=>?_,.inl ⟨hown,?_⟩,⟨fun q hq=>?_,fun p hp=>?_⟩,?_,fun j hj=>?_⟩,R.F,R.N,R.gens.trans G.gens.symm,R.os.trans G.os.symm⟩
 ·cases e:(reSt f h2 nx2 lo2 σ).h.get i with
  | none=>rfl
  | some o=>exact absurd (S.obj i o e).1 (Nat.not_lt_of_le hi)
 ·obtain⟨a,l1,u1⟩:=S.use hi
  obtain⟨b,l2,u2⟩:=S.use hj
  have e:ren f σ i=ren f σ j:=e
  unfold ren at e
  rw[l1,l2] at e
  have q:=R.inj _ _ u1 u2 e
  have q0 : 2 * a + i % 2=2 * b + j % 2:=q
  have q1:a=b:=by omega
  subst q1
  have:=ZiL S.nd l1 l2
  omega
 ·obtain⟨_,a,o,l1,ho,hs⟩:=S.obj i o2 e
  exact Zlm S G N hU R l1 ho hs
 ·have e:look c.hd.cs (enc x)=some i:=by rw[← hcs]; exact e
  obtain⟨hb,q⟩:=Yb (List.all_eq_true.mp h2' _ (ZX _ _ _ e))
  refine⟨Nat.blt_eq.mp hb,Zc q fun a hl q=>?_⟩
  obtain rfl:=Yn q
  rw[show (reSt f h2 nx2 lo2 σ).ρ (2 * a) = σ.ρ (2 * a) from Zcf hl]
  exact(R.cs x a hx e).2
 ·rcases R.loc with⟨_,lr⟩ | ⟨e,_⟩
  ·exact Zgb S G N hU R h3 lr
  ·exact absurd hown e
 ·rw[G.tabs] at hq
  obtain⟨u,ps,m,t,cv⟩:=R.tab.1 q hq
  exact⟨S.unt u,ps,m,t,fun pos v e=>by rw[G.dn]; exact(cv pos v e).re S G⟩
 ·rw[G.tabs]
  rw[G.fz] at hp
  rcases List.mem_append.mp hp with hp | hp
  ·exact⟨(R.tab.2 p hp).1,S.unt (R.tab.2 p hp).2.1,(R.tab.2 p hp).2.2⟩
  ·obtain⟨m1,m2⟩:=List.mem_filter.mp hp
   obtain⟨k,u,e,hk⟩:=Zej (List.contains_iff_mem.mp m2)
   refine⟨m1,e ▸ S.free R u (S.fz _ hk).1,fun q hq e2=>?_⟩
   exact(R.tab.1 q hq).1 k u (e.trans e2.symm)
 ·rw[G.base]; exact R.B
 ·rw[hhd] at hj; exact Ze hj
end
end
end Mn
end
section
open PySem PySem.W PyProof.Rows
namespace Mn
noncomputable def stAt:List Stmt→List Nat→Stmt
 | ss,[i]=>ss.getD i default
 | ss,i :: r=>match ss.getD i default with
  | .ClassDef _ _ _ b ..=>stAt b r
  | .FunctionDef _ _ b ..=>stAt b r
  | s=>s
 | _,[]=>default
noncomputable def fPar:Stmt→Arguments
 | .FunctionDef _ a ..=>a
 | _=>default
noncomputable def fBod:Stmt→List Stmt
 | .FunctionDef _ _ b ..=>b
 | _=>[]
noncomputable def fSco:Stmt→Scope
 | .FunctionDef _ _ _ _ _ _ s ..=>s
 | _=>default
noncomputable abbrev qs (s:String):Str:=Str.ofString s
noncomputable def vS (s:String) (t:Nat):Value:=.str (qs s) t
noncomputable def vI (n:Nat):Value:=.int (Int.ofNat n) 0
noncomputable def vR (a:Nat):Value:=.ref a
noncomputable def fo (p:Program) (path:List Nat) (name qual:Str) (globals:Nat) (cl:List (Str × Nat)) (df doc pm cd ct:Value):FuncData:=
 ⟨name,qual,fPar (stAt p.main.body path),.stmts (fBod (stAt p.main.body path)),fSco (stAt p.main.body path),globals,cl,df,.none,doc,pm,none,cd,ct,0⟩
noncomputable def fg (p:Program) (path:List Nat) (name qual:Str) (globals:Nat) (cl:List (Str × Nat)) (df kd doc pm:Value) (an:Option Nat) (cd ct:Value) (bi:Nat):FuncData:=
 ⟨name,qual,fPar (stAt p.main.body path),.stmts (fBod (stAt p.main.body path)),fSco (stAt p.main.body path),globals,cl,df,kd,doc,pm,an,cd,ct,bi⟩
noncomputable def en (P:Params) (x:String) (t:Nat) (v:Value):DictEntry:=⟨PyData.keyHash P (qs x),.str (qs x) t,v⟩
noncomputable def oT (l:List Value):Obj:=⟨.type "tuple",none,.seq l.toArray 0,#[]⟩
noncomputable def oP (l:List Value):Obj:=⟨.none,none,.fields l.toArray,#[]⟩
noncomputable def oX (c:String) (l:List Value):Obj:=⟨.type c,none,.fields l.toArray,#[]⟩
noncomputable def oD (l:List DictEntry) (n:Nat):Obj:=⟨.type "dict",none,.dict l.toArray n,#[]⟩
noncomputable def oF (p:Program) (c:Value) (path:List Nat) (name qual:String) (globals:Nat) (df doc pm cd:Value):Obj:=⟨c,none,.func (fo p path (qs name) (qs qual) globals [] df doc pm cd .none),#[]⟩
noncomputable def oC (a t:Nat) (name qual:String) (line argc flags nv:Nat) (opt:Bool) (f13 f14 f15:Value):Obj:=
 oX "code" [vS name t,vS qual (t + 1),vS "/claim/cut.py" (t + 2),vI line,vI argc,vI 0,vI 0,vI flags,vR a,.bool opt,vI 181,vR (a + 1),.none,f13,f14,f15,vI (t + 3 + nv),vI line,vS "/claim/cut.py" (t + 4 + nv)]
noncomputable def vars (t:Nat):List String→List Value
 | []=>[]
 | x :: l=>vS x t :: vars (t + 1) l
noncomputable def fn7 (p:Program) (a t:Nat) (path:List Nat) (name qual:String) (line argc flags:Nat) (vs:List String) (df pm:Value):List Obj:=
 [oT [],oP [],oT (vars (t + 3) vs),oT [],oF p .none path name qual 0 .none .none .none .none,
  oC a t name qual line argc flags vs.length true (vR (a + 2)) (vR (a + 3)) (vR (a + 4)),oF p (.type "function") path name qual 3 df .none pm (vR (a + 5))]
noncomputable def cb4 (a t:Nat) (name qual:String) (line:Nat) (tb:List Value) (ns:Nat) (pm:Value):List Obj:=
 [oT [],oP tb,oC a t name qual line 0 0 0 false .none .none .none,⟨.type "frame",none,.plain,#[some (vR (a + 2)),some (vR 3),some (vR ns),none,some pm,none,some (vR 0)]⟩]
noncomputable def oK (name:String) (bases mro:List Value) (ns:Nat) (qual:String) (subs:List Value) (sl:List (Option Value)):Obj:=
 ⟨.type "type",none,.cls (ClassData.mk (qs name) bases mro ns (qs qual) true [] subs false none false),sl.toArray⟩
noncomputable def evn:List Obj→List Obj
 | x :: _ :: r=>x :: evn r
 | l=>l
noncomputable def odd:List Obj→List Obj
 | _ :: y :: r=>y :: odd r
 | _=>[]
noncomputable def ofL:Nat→List Obj→PySem.W.BT
 | 0,_=>.nil
 | n + 1,l=>match l with
  | []=>.nil
  | x :: r=>.node x (ofL n (evn r)) (ofL n (odd r))
noncomputable def sets (t:PySem.W.BT):List (Nat × Obj)→PySem.W.BT
 | []=>t
 | (i,o) :: l=>sets (t.ins i o) l
noncomputable def ZbY:Life:={ registered:=[],finalised:=[],alive:=[],known:=0,ids:=[],orphanDicts:=[],counting:=false,cnt:=#[],zero:=[],soft:=0,below:=false,collecting:=false,loading:=false,debug:=0,thresholds:=[2000,10,10],woke:=false,asked:=0,gcEnabled:=true,old:=[],middle:=[],young:=0,intoMiddle:=false }
end Mn
end
section
set_option maxHeartbeats 0
open PySem PySem.W PyProof.Rows
namespace Mn
noncomputable section
noncomputable abbrev PR:Program:=PySem.Challenge.pw_jg0043_06
noncomputable def env9:Env:={ scope:=PR.main.scope,locals:=mainNs,globals:=mainNs,cells:=[],code:=(vR 13),frame:=some 14 }
noncomputable def bod:List Stmt:=behindTheImports PR
noncomputable def cod9:Code:=.body bod env9
noncomputable def q9:Pos:=⟨0,0,0,0⟩
noncomputable def B9:List Frame:=[topFrame q9]
noncomputable def ZV:Drawn:=⟨0,0,0,0⟩
noncomputable def os9 (P:Params):List Obj:=
 [PySem.W.boot_o_0 P,PySem.W.boot_o_1 P,⟨.none,none,(.dict #[en P "type.__subclasses__.Exception.0" 212 (vI 31),en P "type.__subclasses__.Exception.n" 213 (vI 2),en P "type.__subclasses__.Exception.1" 1175 (vI 777)] 3),#[]⟩,oD [en P "__name__" 165 (vS "law_jg0043_06" 1451),en P "__doc__" 166 .none,en P "__package__" 167 .none,en P "__loader__" 168 (.builtin "__main__.__loader__#opaque"),en P "__spec__" 169 .none,en P "__annotations__" 170 (vR 6),en P "__builtins__" 171 (vR 4),en P "__file__" 173 (vS "/claim/cut.py" 172),en P "__cached__" 174 .none,en P "_wall" 193 (vR 21),en P "TransactionError" 215 (vR 31),en P "TransactionFailedError" 231 (vR 44),en P "DoomedTransaction" 247 (vR 56),en P "TransientError" 263 (vR 68),en P "NoTransaction" 279 (vR 80),en P "AlreadyInTransaction" 295 (vR 92),en P "WeakSet" 374 (vR 153),en P "Status" 406 (vR 167),en P "_NoSynchronizers" 445 (vR 191),en P "Transaction" 828 (vR 499),en P "rm_key" 835 (vR 510),en P "_holds" 844 (vR 517),en P "Savepoint" 894 (vR 549),en P "AbortSavepoint" 932 (vR 577),en P "NoRollbackSavepoint" 968 (vR 605),en P "_new_transaction" 979 (vR 616),en P "TransactionManager" 1145 (vR 756),en P "Refusal" 1178 (vR 777),en P "Passing" 1205 (vR 797),en P "Party" 1250 (vR 824),en P "PlainManager" 1341 (vR 895),en P "Manager" 1372 (vR 921),en P "ManagerSavepoint" 1410 (vR 947),en P "Synchronizer" 1450 (vR 982),en P "_law_names" 1458 (vR 991),en P "_law_last" 1463 (vR 992),en P "_law_read" 1473 (vR 999),en P "_law_told" 1482 (vR 1006),en P "law" 1488 (vR 1011)] 39,PySem.W.boot_o_4 P,PySem.W.boot_o_5 P,PySem.W.boot_o_6 P,PySem.W.boot_o_7 P,PySem.W.boot_o_8 P,PySem.W.boot_o_9 P,PySem.W.boot_o_10 P] ++
 cb4 11 182 "<module>" "<module>" 1 [(vI 1),(vI 0),(vR 20),(vI 5),(vI 0),(vR 27),(vI 7),(vI 0),(vR 40),(vI 9),(vI 0),(vR 52),(vI 11),(vI 0),(vR 64),(vI 13),(vI 0),(vR 76),(vI 15),(vI 0),(vR 88),(vI 18),(vI 0),(vR 100),(vI 48),(vI 0),(vR 163),(vI 54),(vI 0),(vR 177),(vI 59),(vI 0),(vR 201),(vI 330),(vI 0),(vR 509),(vI 333),(vI 0),(vR 516),(vI 338),(vI 0),(vR 523),(vI 358),(vI 0),(vR 559),(vI 366),(vI 0),(vR 587),(vI 374),(vI 0),(vR 615),(vI 377),(vI 0),(vR 622),(vI 449),(vI 0),(vR 766),(vI 454),(vI 0),(vR 786),(vI 459),(vI 0),(vR 805),(vI 476),(vI 0),(vR 834),(vI 516),(vI 0),(vR 903),(vI 524),(vI 0),(vR 929),(vI 532),(vI 0),(vR 957),(vI 543),(vI 0),(vR 990),(vI 546),(vI 0),(vR 998),(vI 554),(vI 0),(vR 1005),(vI 567),(vI 0),(vR 1010)] 3 (vS "__main__" 164) ++
 fn7 PR 15 187 [0] "_wall" "_wall" 1 1 3 ["k"] .none (vS "__main__" 164) ++
 [oT [(.type "Exception")],oX "builtin_function_or_method" [(.builtin "type.__prepare__"),(.type "type")],oD [en P "__module__" 203 (vS "transaction.interfaces" 194),en P "__qualname__" 205 (vS "TransactionError" 204),en P "__firstlineno__" 207 (.int (5) 206),en P "__static_attributes__" 208 (vR 29)] 4] ++
 cb4 25 198 "TransactionError" "TransactionError" 5 [] 24 (vS "transaction.interfaces" 194) ++
 [oT [],oD [en P "__module__" 203 (vS "transaction.interfaces" 194),en P "__firstlineno__" 207 (.int (5) 206),en P "__static_attributes__" 208 (vR 29),en P "__weakref__" 210 (vR 32),en P "__doc__" 211 .none] 3,oK "TransactionError" [(.type "Exception")] [(vR 31),(.type "Exception"),(.type "BaseException"),(.type "object")] 30 "TransactionError" [(vR 44),(vR 56),(vR 68),(vR 80),(vR 92)] [(some (vR 22)),none,(some (vS "TransactionError" 196)),(some (vS "TransactionError" 204)),(some (.builtin "Exception.__new__")),(some (.bool true))],oX "getset_descriptor" [(vS "__weakref__" 209),(vR 31),(.builtin "ExceptionGroup.__weakref__"),.none],oX "super" [(vR 31),(vR 31),(vR 31)],oX "builtin_function_or_method" [(.builtin "object.__init_subclass__"),(vR 31)],oT [(vR 31)],oX "builtin_function_or_method" [(.builtin "type.__prepare__"),(.type "type")],oD [en P "__module__" 223 (vS "transaction.interfaces" 194),en P "__qualname__" 225 (vS "TransactionFailedError" 224),en P "__firstlineno__" 227 (.int (7) 226),en P "__static_attributes__" 228 (vR 42)] 4] ++
 cb4 38 218 "TransactionFailedError" "TransactionFailedError" 7 [] 37 (vS "transaction.interfaces" 194) ++
 [oT [],oD [en P "__module__" 223 (vS "transaction.interfaces" 194),en P "__firstlineno__" 227 (.int (7) 226),en P "__static_attributes__" 228 (vR 42),en P "__doc__" 229 .none] 2,oK "TransactionFailedError" [(vR 31)] [(vR 44),(vR 31),(.type "Exception"),(.type "BaseException"),(.type "object")] 43 "TransactionFailedError" [] [(some (vR 35)),none,(some (vS "TransactionFailedError" 216)),(some (vS "TransactionFailedError" 224)),(some (.builtin "Exception.__new__")),(some (.bool true))],oX "super" [(vR 44),(vR 44),(vR 44)],oX "builtin_function_or_method" [(.builtin "object.__init_subclass__"),(vR 44)],oT [(vR 31)],oX "builtin_function_or_method" [(.builtin "type.__prepare__"),(.type "type")],oD [en P "__module__" 239 (vS "transaction.interfaces" 194),en P "__qualname__" 241 (vS "DoomedTransaction" 240),en P "__firstlineno__" 243 (.int (9) 242),en P "__static_attributes__" 244 (vR 54)] 4] ++
 cb4 50 234 "DoomedTransaction" "DoomedTransaction" 9 [] 49 (vS "transaction.interfaces" 194) ++
 [oT [],oD [en P "__module__" 239 (vS "transaction.interfaces" 194),en P "__firstlineno__" 243 (.int (9) 242),en P "__static_attributes__" 244 (vR 54),en P "__doc__" 245 .none] 2,oK "DoomedTransaction" [(vR 31)] [(vR 56),(vR 31),(.type "Exception"),(.type "BaseException"),(.type "object")] 55 "DoomedTransaction" [] [(some (vR 47)),none,(some (vS "DoomedTransaction" 232)),(some (vS "DoomedTransaction" 240)),(some (.builtin "Exception.__new__")),(some (.bool true))],oX "super" [(vR 56),(vR 56),(vR 56)],oX "builtin_function_or_method" [(.builtin "object.__init_subclass__"),(vR 56)],oT [(vR 31)],oX "builtin_function_or_method" [(.builtin "type.__prepare__"),(.type "type")],oD [en P "__module__" 255 (vS "transaction.interfaces" 194),en P "__qualname__" 257 (vS "TransientError" 256),en P "__firstlineno__" 259 (.int (11) 258),en P "__static_attributes__" 260 (vR 66)] 4] ++
 cb4 62 250 "TransientError" "TransientError" 11 [] 61 (vS "transaction.interfaces" 194) ++
 [oT [],oD [en P "__module__" 255 (vS "transaction.interfaces" 194),en P "__firstlineno__" 259 (.int (11) 258),en P "__static_attributes__" 260 (vR 66),en P "__doc__" 261 .none] 2,oK "TransientError" [(vR 31)] [(vR 68),(vR 31),(.type "Exception"),(.type "BaseException"),(.type "object")] 67 "TransientError" [(vR 797)] [(some (vR 59)),none,(some (vS "TransientError" 248)),(some (vS "TransientError" 256)),(some (.builtin "Exception.__new__")),(some (.bool true))],oX "super" [(vR 68),(vR 68),(vR 68)],oX "builtin_function_or_method" [(.builtin "object.__init_subclass__"),(vR 68)],oT [(vR 31)],oX "builtin_function_or_method" [(.builtin "type.__prepare__"),(.type "type")],oD [en P "__module__" 271 (vS "transaction.interfaces" 194),en P "__qualname__" 273 (vS "NoTransaction" 272),en P "__firstlineno__" 275 (.int (13) 274),en P "__static_attributes__" 276 (vR 78)] 4] ++
 cb4 74 266 "NoTransaction" "NoTransaction" 13 [] 73 (vS "transaction.interfaces" 194) ++
 [oT [],oD [en P "__module__" 271 (vS "transaction.interfaces" 194),en P "__firstlineno__" 275 (.int (13) 274),en P "__static_attributes__" 276 (vR 78),en P "__doc__" 277 .none] 2,oK "NoTransaction" [(vR 31)] [(vR 80),(vR 31),(.type "Exception"),(.type "BaseException"),(.type "object")] 79 "NoTransaction" [] [(some (vR 71)),none,(some (vS "NoTransaction" 264)),(some (vS "NoTransaction" 272)),(some (.builtin "Exception.__new__")),(some (.bool true))],oX "super" [(vR 80),(vR 80),(vR 80)],oX "builtin_function_or_method" [(.builtin "object.__init_subclass__"),(vR 80)],oT [(vR 31)],oX "builtin_function_or_method" [(.builtin "type.__prepare__"),(.type "type")],oD [en P "__module__" 287 (vS "transaction.interfaces" 194),en P "__qualname__" 289 (vS "AlreadyInTransaction" 288),en P "__firstlineno__" 291 (.int (15) 290),en P "__static_attributes__" 292 (vR 90)] 4] ++
 cb4 86 282 "AlreadyInTransaction" "AlreadyInTransaction" 15 [] 85 (vS "transaction.interfaces" 194) ++
 [oT [],oD [en P "__module__" 287 (vS "transaction.interfaces" 194),en P "__firstlineno__" 291 (.int (15) 290),en P "__static_attributes__" 292 (vR 90),en P "__doc__" 293 .none] 2,oK "AlreadyInTransaction" [(vR 31)] [(vR 92),(vR 31),(.type "Exception"),(.type "BaseException"),(.type "object")] 91 "AlreadyInTransaction" [] [(some (vR 83)),none,(some (vS "AlreadyInTransaction" 280)),(some (vS "AlreadyInTransaction" 288)),(some (.builtin "Exception.__new__")),(some (.bool true))],oX "super" [(vR 92),(vR 92),(vR 92)],oX "builtin_function_or_method" [(.builtin "object.__init_subclass__"),(vR 92)],oT [],oX "builtin_function_or_method" [(.builtin "type.__prepare__"),(.type "type")],oD [en P "__module__" 305 (vS "transaction.weakset" 296),en P "__qualname__" 307 (vS "WeakSet" 306),en P "__firstlineno__" 309 (.int (18) 308),en P "__init__" 316 (vR 108),en P "__len__" 323 (vR 115),en P "__contains__" 332 (vR 122),en P "add" 341 (vR 129),en P "remove" 349 (vR 136),en P "clear" 356 (vR 143),en P "map" 365 (vR 150),en P "__static_attributes__" 367 (vR 151)] 11] ++
 cb4 98 300 "WeakSet" "WeakSet" 18 [(vI 20),(vI 4),(vR 107),(vI 23),(vI 4),(vR 114),(vI 26),(vI 4),(vR 121),(vI 32),(vI 4),(vR 128),(vI 38),(vI 4),(vR 135),(vI 41),(vI 4),(vR 142),(vI 44),(vI 4),(vR 149)] 97 (vS "transaction.weakset" 296) ++
 fn7 PR 102 310 [9,0] "__init__" "WeakSet.__init__" 20 1 3 ["self"] .none (vS "transaction.weakset" 296) ++
 fn7 PR 109 317 [9,1] "__len__" "WeakSet.__len__" 23 1 3 ["self"] .none (vS "transaction.weakset" 296) ++
 fn7 PR 116 324 [9,2] "__contains__" "WeakSet.__contains__" 26 2 3 ["self","obj","one"] .none (vS "transaction.weakset" 296) ++
 fn7 PR 123 333 [9,3] "add" "WeakSet.add" 32 2 3 ["self","obj","one"] .none (vS "transaction.weakset" 296) ++
 fn7 PR 130 342 [9,4] "remove" "WeakSet.remove" 38 2 3 ["self","obj"] .none (vS "transaction.weakset" 296) ++
 fn7 PR 137 350 [9,5] "clear" "WeakSet.clear" 41 1 3 ["self"] .none (vS "transaction.weakset" 296) ++
 fn7 PR 144 357 [9,6] "map" "WeakSet.map" 44 2 3 ["self","f","elt"] .none (vS "transaction.weakset" 296) ++
 [oT [(vS "data" 366)],oD [en P "__module__" 305 (vS "transaction.weakset" 296),en P "__firstlineno__" 309 (.int (18) 308),en P "__init__" 316 (vR 108),en P "__len__" 323 (vR 115),en P "__contains__" 332 (vR 122),en P "add" 341 (vR 129),en P "remove" 349 (vR 136),en P "clear" 356 (vR 143),en P "map" 365 (vR 150),en P "__static_attributes__" 367 (vR 151),en P "__dict__" 369 (vR 154),en P "__weakref__" 371 (vR 155),en P "__doc__" 372 .none] 4,oK "WeakSet" [(.type "object")] [(vR 153),(.type "object")] 152 "WeakSet" [] [none,none,(some (vS "WeakSet" 298)),(some (vS "WeakSet" 306)),(some (.builtin "object.__new__")),(some (.bool true))],oX "getset_descriptor" [(vS "__dict__" 368),(vR 153),(.builtin "function.__dict__"),(.builtin "function.__dict__#set")],oX "getset_descriptor" [(vS "__weakref__" 370),(vR 153),(.builtin "ExceptionGroup.__weakref__"),.none],oX "super" [(vR 153),(vR 153),(vR 153)],oX "builtin_function_or_method" [(.builtin "object.__init_subclass__"),(vR 153)],oT [],oX "builtin_function_or_method" [(.builtin "type.__prepare__"),(.type "type")],oD [en P "__module__" 384 (vS "transaction._transaction" 375),en P "__qualname__" 386 (vS "Status" 385),en P "__firstlineno__" 388 (.int (48) 387),en P "ACTIVE" 390 (vS "Active" 389),en P "COMMITTING" 392 (vS "Committing" 391),en P "COMMITTED" 394 (vS "Committed" 393),en P "DOOMED" 396 (vS "Doomed" 395),en P "COMMITFAILED" 398 (vS "Commit failed" 397),en P "__static_attributes__" 399 (vR 165)] 9] ++
 cb4 161 379 "Status" "Status" 48 [] 160 (vS "transaction._transaction" 375) ++
 [oT [],oD [en P "__module__" 384 (vS "transaction._transaction" 375),en P "__firstlineno__" 388 (.int (48) 387),en P "ACTIVE" 390 (vS "Active" 389),en P "COMMITTING" 392 (vS "Committing" 391),en P "COMMITTED" 394 (vS "Committed" 393),en P "DOOMED" 396 (vS "Doomed" 395),en P "COMMITFAILED" 398 (vS "Commit failed" 397),en P "__static_attributes__" 399 (vR 165),en P "__dict__" 401 (vR 168),en P "__weakref__" 403 (vR 169),en P "__doc__" 404 .none] 4,oK "Status" [(.type "object")] [(vR 167),(.type "object")] 166 "Status" [] [none,none,(some (vS "Status" 377)),(some (vS "Status" 385)),(some (.builtin "object.__new__")),(some (.bool true))],oX "getset_descriptor" [(vS "__dict__" 400),(vR 167),(.builtin "function.__dict__"),(.builtin "function.__dict__#set")],oX "getset_descriptor" [(vS "__weakref__" 402),(vR 167),(.builtin "ExceptionGroup.__weakref__"),.none],oX "super" [(vR 167),(vR 167),(vR 167)],oX "builtin_function_or_method" [(.builtin "object.__init_subclass__"),(vR 167)],oT [],oX "builtin_function_or_method" [(.builtin "type.__prepare__"),(.type "type")],oD [en P "__module__" 414 (vS "transaction._transaction" 375),en P "__qualname__" 416 (vS "_NoSynchronizers" 415),en P "__firstlineno__" 418 (.int (54) 417),en P "map" 437 (vR 187),en P "__static_attributes__" 438 (vR 189)] 5] ++
 cb4 175 409 "_NoSynchronizers" "_NoSynchronizers" 54 [(vI 57),(vI 4),(vR 184)] 174 (vS "transaction._transaction" 375) ++
 [oT [],oP [],oT [(vS "_f" 422)],oT [],oF PR .none [12,0] "map" "_NoSynchronizers.map" 0 .none .none .none .none,oX "code" [(vS "map" 419),(vS "_NoSynchronizers.map" 420),(vS "/claim/cut.py" 421),(vI 56),(vI 1),(vI 0),(vI 0),(vI 3),(vR 179),(.bool true),(vI 181),(vR 180),.none,(vR 181),(vR 182),(vR 183),(vI 423),(vI 56),(vS "/claim/cut.py" 424)],⟨(.type "function"),none,(.func (fg PR [12,0] (qs "map") (qs "_NoSynchronizers.map") 3 [] .none .none .none (vS "transaction._transaction" 375) (some 188) (vR 184) .none 0)),#[]⟩,oD [en P "__module__" 426 (vS "transaction._transaction" 375),en P "__name__" 429 (vS "map" 428),en P "__qualname__" 432 (vS "_NoSynchronizers.map" 431),en P "__doc__" 434 .none,en P "__annotations__" 436 (vR 188)] 5,⟨(.type "staticmethod"),(some 186),(.fields #[(vR 185),(.bool false)]),#[]⟩,oD [] 0,oT [],oD [en P "__module__" 414 (vS "transaction._transaction" 375),en P "__firstlineno__" 418 (.int (54) 417),en P "map" 437 (vR 187),en P "__static_attributes__" 438 (vR 189),en P "__dict__" 440 (vR 192),en P "__weakref__" 442 (vR 193),en P "__doc__" 443 .none] 4,oK "_NoSynchronizers" [(.type "object")] [(vR 191),(.type "object")] 190 "_NoSynchronizers" [] [none,none,(some (vS "_NoSynchronizers" 407)),(some (vS "_NoSynchronizers" 415)),(some (.builtin "object.__new__")),(some (.bool true))],oX "getset_descriptor" [(vS "__dict__" 439),(vR 191),(.builtin "function.__dict__"),(.builtin "function.__dict__#set")],oX "getset_descriptor" [(vS "__weakref__" 441),(vR 191),(.builtin "ExceptionGroup.__weakref__"),.none],oX "super" [(vR 191),(vR 191),(vR 191)],oX "builtin_function_or_method" [(.builtin "object.__init_subclass__"),(vR 191)],oT [],oX "builtin_function_or_method" [(.builtin "type.__prepare__"),(.type "type")],oD [en P "__module__" 453 (vS "transaction._transaction" 375),en P "__qualname__" 455 (vS "Transaction" 454),en P "__firstlineno__" 457 (.int (59) 456),en P "_savepoint_index" 459 (.int (0) 458),en P "_savepoint2index" 460 .none,en P "_user" 462 (vS "" 461),en P "_description" 464 (vS "" 463),en P "_data" 465 .none,en P "__init__" 474 (vR 210),en P "user" 482 (vR 218),en P "set_user" 490 (vR 225),en P "description" 498 (vR 233),en P "set_description" 506 (vR 240),en P "isDoomed" 513 (vR 247),en P "doom" 520 (vR 254),en P "_prior_operation_failed" 527 (vR 261),en P "join" 538 (vR 268),en P "_unjoin" 546 (vR 275),en P "savepoint" 556 (vR 283),en P "_remove_and_invalidate_after" 564 (vR 290),en P "_invalidate_all_savepoints" 573 (vR 297),en P "commit" 582 (vR 304),en P "_saveAndGetCommitishError" 589 (vR 311),en P "_saveAndRaiseCommitishError" 597 (vR 318),en P "getBeforeCommitHooks" 604 (vR 325),en P "addBeforeCommitHook" 614 (vR 334),en P "_callBeforeCommitHooks" 621 (vR 341),en P "getAfterCommitHooks" 628 (vR 348),en P "addAfterCommitHook" 638 (vR 357),en P "_callAfterCommitHooks" 646 (vR 365),en P "_call_hooks" 661 (vR 374),en P "getBeforeAbortHooks" 668 (vR 381),en P "addBeforeAbortHook" 678 (vR 390),en P "_callBeforeAbortHooks" 685 (vR 397),en P "getAfterAbortHooks" 692 (vR 404),en P "addAfterAbortHook" 702 (vR 413),en P "_callAfterAbortHooks" 709 (vR 420),en P "_commitResources" 720 (vR 427),en P "_cleanup" 729 (vR 434),en P "_free_manager" 736 (vR 441),en P "_free" 743 (vR 448),en P "data" 754 (vR 455),en P "set_data" 760 (vR 460),en P "abort" 771 (vR 467),en P "note" 779 (vR 474),en P "setUser" 789 (vR 482),en P "setExtendedInfo" 798 (vR 489),en P "isRetryableError" 806 (vR 496),en P "__static_attributes__" 821 (vR 497)] 49] ++
 cb4 199 448 "Transaction" "Transaction" 59 [(vI 66),(vI 4),(vR 209),(vI 83),(vI 4),(vR 216),(vI 86),(vI 4),(vR 224),(vI 90),(vI 4),(vR 231),(vI 93),(vI 4),(vR 239),(vI 96),(vI 4),(vR 246),(vI 99),(vI 4),(vR 253),(vI 102),(vI 4),(vR 260),(vI 106),(vI 4),(vR 267),(vI 117),(vI 4),(vR 274),(vI 120),(vI 4),(vR 282),(vI 134),(vI 4),(vR 289),(vI 137),(vI 4),(vR 296),(vI 142),(vI 4),(vR 303),(vI 164),(vI 4),(vR 310),(vI 168),(vI 4),(vR 317),(vI 172),(vI 4),(vR 324),(vI 175),(vI 4),(vR 333),(vI 178),(vI 4),(vR 340),(vI 181),(vI 4),(vR 347),(vI 184),(vI 4),(vR 356),(vI 187),(vI 4),(vR 364),(vI 190),(vI 4),(vR 373),(vI 209),(vI 4),(vR 380),(vI 212),(vI 4),(vR 389),(vI 215),(vI 4),(vR 396),(vI 218),(vI 4),(vR 403),(vI 221),(vI 4),(vR 412),(vI 224),(vI 4),(vR 419),(vI 227),(vI 4),(vR 426),(vI 247),(vI 4),(vR 433),(vI 260),(vI 4),(vR 440),(vI 267),(vI 4),(vR 447),(vI 280),(vI 4),(vR 454),(vI 289),(vI 4),(vR 459),(vI 295),(vI 4),(vR 466),(vI 319),(vI 4),(vR 473),(vI 322),(vI 4),(vR 481),(vI 325),(vI 4),(vR 488),(vI 328),(vI 4),(vR 495)] 198 (vS "transaction._transaction" 375) ++
 [oT [.none,.none]] ++
 fn7 PR 204 466 [13,5] "__init__" "Transaction.__init__" 66 3 3 ["self","synchronizers","manager"] (vR 203) (vS "transaction._transaction" 375) ++
 fn7 PR 211 475 [13,6] "user" "Transaction.user" 82 1 3 ["self"] .none (vS "transaction._transaction" 375) ++
 [oX "property" [(vR 217),.none,.none,.none,(vS "user" 482),(.bool false)]] ++
 fn7 PR 219 483 [13,7] "set_user" "Transaction.set_user" 86 2 3 ["self","v"] .none (vS "transaction._transaction" 375) ++
 fn7 PR 226 491 [13,8] "description" "Transaction.description" 89 1 3 ["self"] .none (vS "transaction._transaction" 375) ++
 [oX "property" [(vR 232),.none,.none,.none,(vS "description" 498),(.bool false)]] ++
 fn7 PR 234 499 [13,9] "set_description" "Transaction.set_description" 93 2 3 ["self","v"] .none (vS "transaction._transaction" 375) ++
 fn7 PR 241 507 [13,10] "isDoomed" "Transaction.isDoomed" 96 1 3 ["self"] .none (vS "transaction._transaction" 375) ++
 fn7 PR 248 514 [13,11] "doom" "Transaction.doom" 99 1 3 ["self"] .none (vS "transaction._transaction" 375) ++
 fn7 PR 255 521 [13,12] "_prior_operation_failed" "Transaction._prior_operation_failed" 102 1 3 ["self"] .none (vS "transaction._transaction" 375) ++
 fn7 PR 262 528 [13,13] "join" "Transaction.join" 106 2 3 ["self","resource","datamanager_savepoint","transaction_savepoint","_index"] .none (vS "transaction._transaction" 375) ++
 fn7 PR 269 539 [13,14] "_unjoin" "Transaction._unjoin" 117 2 3 ["self","resource"] .none (vS "transaction._transaction" 375) ++
 [oT [(.bool false)]] ++
 fn7 PR 277 547 [13,15] "savepoint" "Transaction.savepoint" 120 2 3 ["self","optimistic","savepoint","v"] (vR 276) (vS "transaction._transaction" 375) ++
 fn7 PR 284 557 [13,16] "_remove_and_invalidate_after" "Transaction._remove_and_invalidate_after" 134 2 3 ["self","savepoint"] .none (vS "transaction._transaction" 375) ++
 fn7 PR 291 565 [13,17] "_invalidate_all_savepoints" "Transaction._invalidate_all_savepoints" 137 1 3 ["self","savepoint","_index"] .none (vS "transaction._transaction" 375) ++
 [oT [],oP [],oT [(vS "self" 577),(vS "v" 578)],oT [(vS "self" 579)],oF PR .none [13,18] "commit" "Transaction.commit" 0 .none .none .none .none,oX "code" [(vS "commit" 574),(vS "Transaction.commit" 575),(vS "/claim/cut.py" 576),(vI 142),(vI 1),(vI 0),(vI 0),(vI 3),(vR 298),(.bool true),(vI 181),(vR 299),.none,(vR 300),(vR 301),(vR 302),(vI 580),(vI 142),(vS "/claim/cut.py" 581)],oF PR (.type "function") [13,18] "commit" "Transaction.commit" 3 .none .none (vS "transaction._transaction" 375) (vR 303)] ++
 fn7 PR 305 583 [13,19] "_saveAndGetCommitishError" "Transaction._saveAndGetCommitishError" 164 1 3 ["self"] .none (vS "transaction._transaction" 375) ++
 fn7 PR 312 590 [13,20] "_saveAndRaiseCommitishError" "Transaction._saveAndRaiseCommitishError" 168 2 3 ["self","v"] .none (vS "transaction._transaction" 375) ++
 fn7 PR 319 598 [13,21] "getBeforeCommitHooks" "Transaction.getBeforeCommitHooks" 172 1 3 ["self"] .none (vS "transaction._transaction" 375) ++
 [oT [],oT [(vR 326),.none]] ++
 fn7 PR 328 605 [13,22] "addBeforeCommitHook" "Transaction.addBeforeCommitHook" 175 4 3 ["self","hook","args","kws"] (vR 327) (vS "transaction._transaction" 375) ++
 fn7 PR 335 615 [13,23] "_callBeforeCommitHooks" "Transaction._callBeforeCommitHooks" 178 1 3 ["self"] .none (vS "transaction._transaction" 375) ++
 fn7 PR 342 622 [13,24] "getAfterCommitHooks" "Transaction.getAfterCommitHooks" 181 1 3 ["self"] .none (vS "transaction._transaction" 375) ++
 [oT [],oT [(vR 349),.none]] ++
 fn7 PR 351 629 [13,25] "addAfterCommitHook" "Transaction.addAfterCommitHook" 184 4 3 ["self","hook","args","kws"] (vR 350) (vS "transaction._transaction" 375) ++
 [oT [(.bool true)]] ++
 fn7 PR 359 639 [13,26] "_callAfterCommitHooks" "Transaction._callAfterCommitHooks" 187 2 3 ["self","status"] (vR 358) (vS "transaction._transaction" 375) ++
 [oT [],oT [(.bool true),(.bool false),(vR 366)]] ++
 fn7 PR 368 647 [13,27] "_call_hooks" "Transaction._call_hooks" 190 5 3 ["self","hooks","exc","clean","prefix_args","hook","args","kws","rm"] (vR 367) (vS "transaction._transaction" 375) ++
 fn7 PR 375 662 [13,28] "getBeforeAbortHooks" "Transaction.getBeforeAbortHooks" 209 1 3 ["self"] .none (vS "transaction._transaction" 375) ++
 [oT [],oT [(vR 382),.none]] ++
 fn7 PR 384 669 [13,29] "addBeforeAbortHook" "Transaction.addBeforeAbortHook" 212 4 3 ["self","hook","args","kws"] (vR 383) (vS "transaction._transaction" 375) ++
 fn7 PR 391 679 [13,30] "_callBeforeAbortHooks" "Transaction._callBeforeAbortHooks" 215 1 3 ["self"] .none (vS "transaction._transaction" 375) ++
 fn7 PR 398 686 [13,31] "getAfterAbortHooks" "Transaction.getAfterAbortHooks" 218 1 3 ["self"] .none (vS "transaction._transaction" 375) ++
 [oT [],oT [(vR 405),.none]] ++
 fn7 PR 407 693 [13,32] "addAfterAbortHook" "Transaction.addAfterAbortHook" 221 4 3 ["self","hook","args","kws"] (vR 406) (vS "transaction._transaction" 375) ++
 fn7 PR 414 703 [13,33] "_callAfterAbortHooks" "Transaction._callAfterAbortHooks" 224 1 3 ["self"] .none (vS "transaction._transaction" 375) ++
 [oT [],oP [],oT [(vS "self" 713),(vS "L" 714),(vS "rm" 715),(vS "v" 716)],oT [(vS "self" 717)],oF PR .none [13,34] "_commitResources" "Transaction._commitResources" 0 .none .none .none .none,oX "code" [(vS "_commitResources" 710),(vS "Transaction._commitResources" 711),(vS "/claim/cut.py" 712),(vI 227),(vI 1),(vI 0),(vI 0),(vI 3),(vR 421),(.bool true),(vI 181),(vR 422),.none,(vR 423),(vR 424),(vR 425),(vI 718),(vI 227),(vS "/claim/cut.py" 719)],oF PR (.type "function") [13,34] "_commitResources" "Transaction._commitResources" 3 .none .none (vS "transaction._transaction" 375) (vR 426)] ++
 fn7 PR 428 721 [13,35] "_cleanup" "Transaction._cleanup" 247 2 3 ["self","L","rm"] .none (vS "transaction._transaction" 375) ++
 fn7 PR 435 730 [13,36] "_free_manager" "Transaction._free_manager" 260 1 3 ["self"] .none (vS "transaction._transaction" 375) ++
 fn7 PR 442 737 [13,37] "_free" "Transaction._free" 267 1 3 ["self"] .none (vS "transaction._transaction" 375) ++
 fn7 PR 449 744 [13,38] "data" "Transaction.data" 280 2 3 ["self","ob","data","one","ob_data"] .none (vS "transaction._transaction" 375) ++
 [oT [],oP [],oF PR .none [13,39] "set_data" "Transaction.set_data" 0 .none .none .none .none,oX "code" [(vS "set_data" 755),(vS "Transaction.set_data" 756),(vS "/claim/cut.py" 757),(vI 289),(vI 3),(vI 0),(vI 0),(vI 3),(vR 456),(.bool true),(vI 181),(vR 457),.none,.none,.none,(vR 458),(vI 758),(vI 289),(vS "/claim/cut.py" 759)],oF PR (.type "function") [13,39] "set_data" "Transaction.set_data" 3 .none .none (vS "transaction._transaction" 375) (vR 459),oT [],oP [],oT [(vS "self" 764),(vS "v" 765),(vS "exc" 766),(vS "rm" 767)],oT [(vS "self" 768)],oF PR .none [13,40] "abort" "Transaction.abort" 0 .none .none .none .none,oX "code" [(vS "abort" 761),(vS "Transaction.abort" 762),(vS "/claim/cut.py" 763),(vI 295),(vI 1),(vI 0),(vI 0),(vI 3),(vR 461),(.bool true),(vI 181),(vR 462),.none,(vR 463),(vR 464),(vR 465),(vI 769),(vI 295),(vS "/claim/cut.py" 770)],oF PR (.type "function") [13,40] "abort" "Transaction.abort" 3 .none .none (vS "transaction._transaction" 375) (vR 466)] ++
 fn7 PR 468 772 [13,41] "note" "Transaction.note" 319 2 3 ["self","text"] .none (vS "transaction._transaction" 375) ++
 [oT [(vS "/" 780)]] ++
 fn7 PR 476 781 [13,42] "setUser" "Transaction.setUser" 322 3 3 ["self","user_name","path"] (vR 475) (vS "transaction._transaction" 375) ++
 fn7 PR 483 790 [13,43] "setExtendedInfo" "Transaction.setExtendedInfo" 325 3 3 ["self","name","value"] .none (vS "transaction._transaction" 375) ++
 fn7 PR 490 799 [13,44] "isRetryableError" "Transaction.isRetryableError" 328 2 3 ["self","error"] .none (vS "transaction._transaction" 375) ++
 [oT [(vS "_adapters" 807),(vS "_after_abort" 808),(vS "_after_commit" 809),(vS "_before_abort" 810),(vS "_before_commit" 811),(vS "_data" 812),(vS "_failure_traceback" 813),(vS "_manager" 814),(vS "_resources" 815),(vS "_savepoint2index" 816),(vS "_synchronizers" 817),(vS "_voted" 818),(vS "extension" 819),(vS "status" 820)],oD [en P "__module__" 453 (vS "transaction._transaction" 375),en P "__firstlineno__" 457 (.int (59) 456),en P "_savepoint_index" 459 (.int (0) 458),en P "_savepoint2index" 460 .none,en P "_user" 462 (vS "" 461),en P "_description" 464 (vS "" 463),en P "_data" 465 .none,en P "__init__" 474 (vR 210),en P "user" 482 (vR 218),en P "set_user" 490 (vR 225),en P "description" 498 (vR 233),en P "set_description" 506 (vR 240),en P "isDoomed" 513 (vR 247),en P "doom" 520 (vR 254),en P "_prior_operation_failed" 527 (vR 261),en P "join" 538 (vR 268),en P "_unjoin" 546 (vR 275),en P "savepoint" 556 (vR 283),en P "_remove_and_invalidate_after" 564 (vR 290),en P "_invalidate_all_savepoints" 573 (vR 297),en P "commit" 582 (vR 304),en P "_saveAndGetCommitishError" 589 (vR 311),en P "_saveAndRaiseCommitishError" 597 (vR 318),en P "getBeforeCommitHooks" 604 (vR 325),en P "addBeforeCommitHook" 614 (vR 334),en P "_callBeforeCommitHooks" 621 (vR 341),en P "getAfterCommitHooks" 628 (vR 348),en P "addAfterCommitHook" 638 (vR 357),en P "_callAfterCommitHooks" 646 (vR 365),en P "_call_hooks" 661 (vR 374),en P "getBeforeAbortHooks" 668 (vR 381),en P "addBeforeAbortHook" 678 (vR 390),en P "_callBeforeAbortHooks" 685 (vR 397),en P "getAfterAbortHooks" 692 (vR 404),en P "addAfterAbortHook" 702 (vR 413),en P "_callAfterAbortHooks" 709 (vR 420),en P "_commitResources" 720 (vR 427),en P "_cleanup" 729 (vR 434),en P "_free_manager" 736 (vR 441),en P "_free" 743 (vR 448),en P "data" 754 (vR 455),en P "set_data" 760 (vR 460),en P "abort" 771 (vR 467),en P "note" 779 (vR 474),en P "setUser" 789 (vR 482),en P "setExtendedInfo" 798 (vR 489),en P "isRetryableError" 806 (vR 496),en P "__static_attributes__" 821 (vR 497),en P "__dict__" 823 (vR 500),en P "__weakref__" 825 (vR 501),en P "__doc__" 826 .none] 4,oK "Transaction" [(.type "object")] [(vR 499),(.type "object")] 498 "Transaction" [] [none,none,(some (vS "Transaction" 446)),(some (vS "Transaction" 454)),(some (.builtin "object.__new__")),(some (.bool true))],oX "getset_descriptor" [(vS "__dict__" 822),(vR 499),(.builtin "function.__dict__"),(.builtin "function.__dict__#set")],oX "getset_descriptor" [(vS "__weakref__" 824),(vR 499),(.builtin "ExceptionGroup.__weakref__"),.none],oX "super" [(vR 499),(vR 499),(vR 499)],oX "builtin_function_or_method" [(.builtin "object.__init_subclass__"),(vR 499)]] ++
 fn7 PR 504 829 [14] "rm_key" "rm_key" 330 1 3 ["rm"] .none (vS "transaction._transaction" 375) ++
 fn7 PR 511 836 [15] "_holds" "_holds" 333 2 3 ["rows","rm","one"] .none (vS "transaction._transaction" 375) ++
 [oT [],oX "builtin_function_or_method" [(.builtin "type.__prepare__"),(.type "type")],oD [en P "__module__" 852 (vS "transaction._transaction" 375),en P "__qualname__" 854 (vS "Savepoint" 853),en P "__firstlineno__" 856 (.int (338) 855),en P "__init__" 869 (vR 531),en P "valid" 877 (vR 539),en P "rollback" 884 (vR 546),en P "__static_attributes__" 887 (vR 547)] 7] ++
 cb4 521 847 "Savepoint" "Savepoint" 338 [(vI 340),(vI 4),(vR 530),(vI 353),(vI 4),(vR 537),(vI 356),(vI 4),(vR 545)] 520 (vS "transaction._transaction" 375) ++
 fn7 PR 525 857 [16,0] "__init__" "Savepoint.__init__" 340 4 3 ["self","transaction","optimistic","resources","savepoints","datamanager","savepoint"] .none (vS "transaction._transaction" 375) ++
 fn7 PR 532 870 [16,1] "valid" "Savepoint.valid" 352 1 3 ["self"] .none (vS "transaction._transaction" 375) ++
 [oX "property" [(vR 538),.none,.none,.none,(vS "valid" 877),(.bool false)]] ++
 fn7 PR 540 878 [16,2] "rollback" "Savepoint.rollback" 356 1 3 ["self"] .none (vS "transaction._transaction" 375) ++
 [oT [(vS "_savepoints" 885),(vS "transaction" 886)],oD [en P "__module__" 852 (vS "transaction._transaction" 375),en P "__firstlineno__" 856 (.int (338) 855),en P "__init__" 869 (vR 531),en P "valid" 877 (vR 539),en P "rollback" 884 (vR 546),en P "__static_attributes__" 887 (vR 547),en P "__dict__" 889 (vR 550),en P "__weakref__" 891 (vR 551),en P "__doc__" 892 .none] 4,oK "Savepoint" [(.type "object")] [(vR 549),(.type "object")] 548 "Savepoint" [] [none,none,(some (vS "Savepoint" 845)),(some (vS "Savepoint" 853)),(some (.builtin "object.__new__")),(some (.bool true))],oX "getset_descriptor" [(vS "__dict__" 888),(vR 549),(.builtin "function.__dict__"),(.builtin "function.__dict__#set")],oX "getset_descriptor" [(vS "__weakref__" 890),(vR 549),(.builtin "ExceptionGroup.__weakref__"),.none],oX "super" [(vR 549),(vR 549),(vR 549)],oX "builtin_function_or_method" [(.builtin "object.__init_subclass__"),(vR 549)],oT [],oX "builtin_function_or_method" [(.builtin "type.__prepare__"),(.type "type")],oD [en P "__module__" 902 (vS "transaction._transaction" 375),en P "__qualname__" 904 (vS "AbortSavepoint" 903),en P "__firstlineno__" 906 (.int (358) 905),en P "__init__" 915 (vR 567),en P "rollback" 922 (vR 574),en P "__static_attributes__" 925 (vR 575)] 6] ++
 cb4 557 897 "AbortSavepoint" "AbortSavepoint" 358 [(vI 360),(vI 4),(vR 566),(vI 364),(vI 4),(vR 573)] 556 (vS "transaction._transaction" 375) ++
 fn7 PR 561 907 [17,0] "__init__" "AbortSavepoint.__init__" 360 3 3 ["self","datamanager","transaction"] .none (vS "transaction._transaction" 375) ++
 fn7 PR 568 916 [17,1] "rollback" "AbortSavepoint.rollback" 364 1 3 ["self"] .none (vS "transaction._transaction" 375) ++
 [oT [(vS "datamanager" 923),(vS "transaction" 924)],oD [en P "__module__" 902 (vS "transaction._transaction" 375),en P "__firstlineno__" 906 (.int (358) 905),en P "__init__" 915 (vR 567),en P "rollback" 922 (vR 574),en P "__static_attributes__" 925 (vR 575),en P "__dict__" 927 (vR 578),en P "__weakref__" 929 (vR 579),en P "__doc__" 930 .none] 4,oK "AbortSavepoint" [(.type "object")] [(vR 577),(.type "object")] 576 "AbortSavepoint" [] [none,none,(some (vS "AbortSavepoint" 895)),(some (vS "AbortSavepoint" 903)),(some (.builtin "object.__new__")),(some (.bool true))],oX "getset_descriptor" [(vS "__dict__" 926),(vR 577),(.builtin "function.__dict__"),(.builtin "function.__dict__#set")],oX "getset_descriptor" [(vS "__weakref__" 928),(vR 577),(.builtin "ExceptionGroup.__weakref__"),.none],oX "super" [(vR 577),(vR 577),(vR 577)],oX "builtin_function_or_method" [(.builtin "object.__init_subclass__"),(vR 577)],oT [],oX "builtin_function_or_method" [(.builtin "type.__prepare__"),(.type "type")],oD [en P "__module__" 940 (vS "transaction._transaction" 375),en P "__qualname__" 942 (vS "NoRollbackSavepoint" 941),en P "__firstlineno__" 944 (.int (366) 943),en P "__init__" 952 (vR 595),en P "rollback" 959 (vR 602),en P "__static_attributes__" 961 (vR 603)] 6] ++
 cb4 585 935 "NoRollbackSavepoint" "NoRollbackSavepoint" 366 [(vI 368),(vI 4),(vR 594),(vI 371),(vI 4),(vR 601)] 584 (vS "transaction._transaction" 375) ++
 fn7 PR 589 945 [18,0] "__init__" "NoRollbackSavepoint.__init__" 368 2 3 ["self","datamanager"] .none (vS "transaction._transaction" 375) ++
 fn7 PR 596 953 [18,1] "rollback" "NoRollbackSavepoint.rollback" 371 1 3 ["self"] .none (vS "transaction._transaction" 375) ++
 [oT [(vS "datamanager" 960)],oD [en P "__module__" 940 (vS "transaction._transaction" 375),en P "__firstlineno__" 944 (.int (366) 943),en P "__init__" 952 (vR 595),en P "rollback" 959 (vR 602),en P "__static_attributes__" 961 (vR 603),en P "__dict__" 963 (vR 606),en P "__weakref__" 965 (vR 607),en P "__doc__" 966 .none] 4,oK "NoRollbackSavepoint" [(.type "object")] [(vR 605),(.type "object")] 604 "NoRollbackSavepoint" [] [none,none,(some (vS "NoRollbackSavepoint" 933)),(some (vS "NoRollbackSavepoint" 941)),(some (.builtin "object.__new__")),(some (.bool true))],oX "getset_descriptor" [(vS "__dict__" 962),(vR 605),(.builtin "function.__dict__"),(.builtin "function.__dict__#set")],oX "getset_descriptor" [(vS "__weakref__" 964),(vR 605),(.builtin "ExceptionGroup.__weakref__"),.none],oX "super" [(vR 605),(vR 605),(vR 605)],oX "builtin_function_or_method" [(.builtin "object.__init_subclass__"),(vR 605)],oT [],oP [],oT [(vS "txn" 974),(vS "synchs" 975)],oT [(vS "txn" 976)],oF PR .none [20] "_new_transaction" "_new_transaction" 0 .none .none .none .none,oX "code" [(vS "_new_transaction" 971),(vS "_new_transaction" 972),(vS "/claim/cut.py" 973),(vI 374),(vI 2),(vI 0),(vI 0),(vI 3),(vR 610),(.bool true),(vI 181),(vR 611),.none,(vR 612),(vR 613),(vR 614),(vI 977),(vI 374),(vS "/claim/cut.py" 978)],oF PR (.type "function") [20] "_new_transaction" "_new_transaction" 3 .none .none (vS "transaction._manager" 969) (vR 615),oT [],oX "builtin_function_or_method" [(.builtin "type.__prepare__"),(.type "type")],oD [en P "__module__" 987 (vS "transaction._manager" 969),en P "__qualname__" 989 (vS "TransactionManager" 988),en P "__firstlineno__" 991 (.int (377) 990),en P "__init__" 999 (vR 631),en P "begin" 1007 (vR 638),en P "enter" 1014 (vR 645),en P "get" 1021 (vR 652),en P "free" 1029 (vR 659),en P "registerSynch" 1037 (vR 666),en P "unregisterSynch" 1045 (vR 673),en P "clearSynchs" 1052 (vR 680),en P "registeredSynchs" 1059 (vR 687),en P "isDoomed" 1066 (vR 694),en P "doom" 1073 (vR 701),en P "commit" 1080 (vR 708),en P "abort" 1087 (vR 715),en P "leave" 1095 (vR 722),en P "savepoint" 1103 (vR 730),en P "attempts" 1112 (vR 738),en P "_retryable" 1120 (vR 745),en P "run" 1134 (vR 753),en P "__static_attributes__" 1138 (vR 754)] 22] ++
 cb4 620 982 "TransactionManager" "TransactionManager" 377 [(vI 379),(vI 4),(vR 630),(vI 384),(vI 4),(vR 637),(vI 393),(vI 4),(vR 644),(vI 396),(vI 4),(vR 651),(vI 403),(vI 4),(vR 658),(vI 408),(vI 4),(vR 665),(vI 413),(vI 4),(vR 672),(vI 416),(vI 4),(vR 679),(vI 419),(vI 4),(vR 686),(vI 422),(vI 4),(vR 693),(vI 425),(vI 4),(vR 700),(vI 428),(vI 4),(vR 707),(vI 431),(vI 4),(vR 714),(vI 434),(vI 4),(vR 721),(vI 437),(vI 4),(vR 729),(vI 440),(vI 4),(vR 737),(vI 443),(vI 4),(vR 744),(vI 446),(vI 4),(vR 752)] 619 (vS "transaction._manager" 969) ++
 [oT [(.bool false)]] ++
 fn7 PR 625 992 [21,0] "__init__" "TransactionManager.__init__" 379 2 3 ["self","explicit"] (vR 624) (vS "transaction._manager" 969) ++
 fn7 PR 632 1000 [21,1] "begin" "TransactionManager.begin" 384 1 3 ["self","txn"] .none (vS "transaction._manager" 969) ++
 fn7 PR 639 1008 [21,2] "enter" "TransactionManager.enter" 393 1 3 ["self"] .none (vS "transaction._manager" 969) ++
 fn7 PR 646 1015 [21,3] "get" "TransactionManager.get" 396 1 3 ["self"] .none (vS "transaction._manager" 969) ++
 fn7 PR 653 1022 [21,4] "free" "TransactionManager.free" 403 2 3 ["self","txn"] .none (vS "transaction._manager" 969) ++
 fn7 PR 660 1030 [21,5] "registerSynch" "TransactionManager.registerSynch" 408 2 3 ["self","synch"] .none (vS "transaction._manager" 969) ++
 fn7 PR 667 1038 [21,6] "unregisterSynch" "TransactionManager.unregisterSynch" 413 2 3 ["self","synch"] .none (vS "transaction._manager" 969) ++
 fn7 PR 674 1046 [21,7] "clearSynchs" "TransactionManager.clearSynchs" 416 1 3 ["self"] .none (vS "transaction._manager" 969) ++
 fn7 PR 681 1053 [21,8] "registeredSynchs" "TransactionManager.registeredSynchs" 419 1 3 ["self"] .none (vS "transaction._manager" 969) ++
 fn7 PR 688 1060 [21,9] "isDoomed" "TransactionManager.isDoomed" 422 1 3 ["self"] .none (vS "transaction._manager" 969) ++
 fn7 PR 695 1067 [21,10] "doom" "TransactionManager.doom" 425 1 3 ["self"] .none (vS "transaction._manager" 969) ++
 fn7 PR 702 1074 [21,11] "commit" "TransactionManager.commit" 428 1 3 ["self"] .none (vS "transaction._manager" 969) ++
 fn7 PR 709 1081 [21,12] "abort" "TransactionManager.abort" 431 1 3 ["self"] .none (vS "transaction._manager" 969) ++
 fn7 PR 716 1088 [21,13] "leave" "TransactionManager.leave" 434 2 3 ["self","v"] .none (vS "transaction._manager" 969) ++
 [oT [(.bool false)]] ++
 fn7 PR 724 1096 [21,14] "savepoint" "TransactionManager.savepoint" 437 2 3 ["self","optimistic"] (vR 723) (vS "transaction._manager" 969) ++
 [oT [(.int (3) 1104)]] ++
 fn7 PR 732 1105 [21,15] "attempts" "TransactionManager.attempts" 440 2 3 ["self","number"] (vR 731) (vS "transaction._manager" 969) ++
 fn7 PR 739 1113 [21,16] "_retryable" "TransactionManager._retryable" 443 2 3 ["self","error"] .none (vS "transaction._manager" 969) ++
 [oT [.none,(.int (3) 1121),(vS "" 1122),(vS "" 1123)]] ++
 fn7 PR 747 1124 [21,17] "run" "TransactionManager.run" 446 5 3 ["self","func","tries","name","doc"] (vR 746) (vS "transaction._manager" 969) ++
 [oT [(vS "_synchs" 1135),(vS "_txn" 1136),(vS "explicit" 1137)],oD [en P "__module__" 987 (vS "transaction._manager" 969),en P "__firstlineno__" 991 (.int (377) 990),en P "__init__" 999 (vR 631),en P "begin" 1007 (vR 638),en P "enter" 1014 (vR 645),en P "get" 1021 (vR 652),en P "free" 1029 (vR 659),en P "registerSynch" 1037 (vR 666),en P "unregisterSynch" 1045 (vR 673),en P "clearSynchs" 1052 (vR 680),en P "registeredSynchs" 1059 (vR 687),en P "isDoomed" 1066 (vR 694),en P "doom" 1073 (vR 701),en P "commit" 1080 (vR 708),en P "abort" 1087 (vR 715),en P "leave" 1095 (vR 722),en P "savepoint" 1103 (vR 730),en P "attempts" 1112 (vR 738),en P "_retryable" 1120 (vR 745),en P "run" 1134 (vR 753),en P "__static_attributes__" 1138 (vR 754),en P "__dict__" 1140 (vR 757),en P "__weakref__" 1142 (vR 758),en P "__doc__" 1143 .none] 4,oK "TransactionManager" [(.type "object")] [(vR 756),(.type "object")] 755 "TransactionManager" [] [none,none,(some (vS "TransactionManager" 980)),(some (vS "TransactionManager" 988)),(some (.builtin "object.__new__")),(some (.bool true))],oX "getset_descriptor" [(vS "__dict__" 1139),(vR 756),(.builtin "function.__dict__"),(.builtin "function.__dict__#set")],oX "getset_descriptor" [(vS "__weakref__" 1141),(vR 756),(.builtin "ExceptionGroup.__weakref__"),.none],oX "super" [(vR 756),(vR 756),(vR 756)],oX "builtin_function_or_method" [(.builtin "object.__init_subclass__"),(vR 756)],oT [(.type "Exception")],oX "builtin_function_or_method" [(.builtin "type.__prepare__"),(.type "type")],oD [en P "__module__" 1155 (vS "transaction.handed" 1146),en P "__qualname__" 1157 (vS "Refusal" 1156),en P "__firstlineno__" 1159 (.int (449) 1158),en P "__init__" 1168 (vR 774),en P "__static_attributes__" 1171 (vR 775)] 5] ++
 cb4 764 1150 "Refusal" "Refusal" 449 [(vI 451),(vI 4),(vR 773)] 763 (vS "transaction.handed" 1146) ++
 fn7 PR 768 1160 [23,0] "__init__" "Refusal.__init__" 451 3 3 ["self","who","what"] .none (vS "transaction.handed" 1146) ++
 [oT [(vS "what" 1169),(vS "who" 1170)],oD [en P "__module__" 1155 (vS "transaction.handed" 1146),en P "__firstlineno__" 1159 (.int (449) 1158),en P "__init__" 1168 (vR 774),en P "__static_attributes__" 1171 (vR 775),en P "__weakref__" 1173 (vR 778),en P "__doc__" 1174 .none] 3,oK "Refusal" [(.type "Exception")] [(vR 777),(.type "Exception"),(.type "BaseException"),(.type "object")] 776 "Refusal" [] [(some (vR 761)),none,(some (vS "Refusal" 1148)),(some (vS "Refusal" 1156)),(some (.builtin "Exception.__new__")),(some (.bool true))],oX "getset_descriptor" [(vS "__weakref__" 1172),(vR 777),(.builtin "ExceptionGroup.__weakref__"),.none],oX "super" [(vR 777),(vR 777),(vR 777)],oX "builtin_function_or_method" [(.builtin "object.__init_subclass__"),(vR 777)],oT [(vR 68)],oX "builtin_function_or_method" [(.builtin "type.__prepare__"),(.type "type")],oD [en P "__module__" 1186 (vS "transaction.handed" 1146),en P "__qualname__" 1188 (vS "Passing" 1187),en P "__firstlineno__" 1190 (.int (454) 1189),en P "__init__" 1199 (vR 794),en P "__static_attributes__" 1202 (vR 795)] 5] ++
 cb4 784 1181 "Passing" "Passing" 454 [(vI 456),(vI 4),(vR 793)] 783 (vS "transaction.handed" 1146) ++
 fn7 PR 788 1191 [24,0] "__init__" "Passing.__init__" 456 3 3 ["self","who","what"] .none (vS "transaction.handed" 1146) ++
 [oT [(vS "what" 1200),(vS "who" 1201)],oD [en P "__module__" 1186 (vS "transaction.handed" 1146),en P "__firstlineno__" 1190 (.int (454) 1189),en P "__init__" 1199 (vR 794),en P "__static_attributes__" 1202 (vR 795),en P "__doc__" 1203 .none] 2,oK "Passing" [(vR 68)] [(vR 797),(vR 68),(vR 31),(.type "Exception"),(.type "BaseException"),(.type "object")] 796 "Passing" [] [(some (vR 781)),none,(some (vS "Passing" 1179)),(some (vS "Passing" 1187)),(some (.builtin "Exception.__new__")),(some (.bool true))],oX "super" [(vR 797),(vR 797),(vR 797)],oX "builtin_function_or_method" [(.builtin "object.__init_subclass__"),(vR 797)],oT [],oX "builtin_function_or_method" [(.builtin "type.__prepare__"),(.type "type")],oD [en P "__module__" 1213 (vS "transaction.handed" 1146),en P "__qualname__" 1215 (vS "Party" 1214),en P "__firstlineno__" 1217 (.int (459) 1216),en P "__init__" 1228 (vR 814),en P "step" 1238 (vR 821),en P "__static_attributes__" 1243 (vR 822)] 6] ++
 cb4 803 1208 "Party" "Party" 459 [(vI 461),(vI 4),(vR 813),(vI 467),(vI 4),(vR 820)] 802 (vS "transaction.handed" 1146) ++
 [oT [.none]] ++
 fn7 PR 808 1218 [25,0] "__init__" "Party.__init__" 461 5 3 ["self","who","plan","log","deed"] (vR 807) (vS "transaction.handed" 1146) ++
 fn7 PR 815 1229 [25,1] "step" "Party.step" 467 3 3 ["self","what","transaction","kind"] .none (vS "transaction.handed" 1146) ++
 [oT [(vS "deed" 1239),(vS "log" 1240),(vS "plan" 1241),(vS "who" 1242)],oD [en P "__module__" 1213 (vS "transaction.handed" 1146),en P "__firstlineno__" 1217 (.int (459) 1216),en P "__init__" 1228 (vR 814),en P "step" 1238 (vR 821),en P "__static_attributes__" 1243 (vR 822),en P "__dict__" 1245 (vR 825),en P "__weakref__" 1247 (vR 826),en P "__doc__" 1248 .none] 4,oK "Party" [(.type "object")] [(vR 824),(.type "object")] 823 "Party" [(vR 895),(vR 982)] [none,none,(some (vS "Party" 1206)),(some (vS "Party" 1214)),(some (.builtin "object.__new__")),(some (.bool true))],oX "getset_descriptor" [(vS "__dict__" 1244),(vR 824),(.builtin "function.__dict__"),(.builtin "function.__dict__#set")],oX "getset_descriptor" [(vS "__weakref__" 1246),(vR 824),(.builtin "ExceptionGroup.__weakref__"),.none],oX "super" [(vR 824),(vR 824),(vR 824)],oX "builtin_function_or_method" [(.builtin "object.__init_subclass__"),(vR 824)],oT [(vR 824)],oX "builtin_function_or_method" [(.builtin "type.__prepare__"),(.type "type")],oD [en P "__module__" 1258 (vS "transaction.handed" 1146),en P "__qualname__" 1260 (vS "PlainManager" 1259),en P "__firstlineno__" 1262 (.int (476) 1261),en P "__init__" 1274 (vR 843),en P "sortKey" 1281 (vR 850),en P "abort" 1289 (vR 857),en P "tpc_begin" 1297 (vR 864),en P "commit" 1305 (vR 871),en P "tpc_vote" 1313 (vR 878),en P "tpc_finish" 1321 (vR 885),en P "tpc_abort" 1329 (vR 892),en P "__static_attributes__" 1338 (vR 893)] 12] ++
 cb4 832 1253 "PlainManager" "PlainManager" 476 [(vI 478),(vI 4),(vR 842),(vI 488),(vI 4),(vR 849),(vI 491),(vI 4),(vR 856),(vI 496),(vI 4),(vR 863),(vI 499),(vI 4),(vR 870),(vI 503),(vI 4),(vR 877),(vI 506),(vI 4),(vR 884),(vI 512),(vI 4),(vR 891)] 831 (vS "transaction.handed" 1146) ++
 [oT [.none]] ++
 fn7 PR 837 1263 [26,0] "__init__" "PlainManager.__init__" 478 6 3 ["self","who","key","plan","log","deed"] (vR 836) (vS "transaction.handed" 1146) ++
 fn7 PR 844 1275 [26,1] "sortKey" "PlainManager.sortKey" 488 1 3 ["self"] .none (vS "transaction.handed" 1146) ++
 fn7 PR 851 1282 [26,2] "abort" "PlainManager.abort" 491 2 3 ["self","transaction"] .none (vS "transaction.handed" 1146) ++
 fn7 PR 858 1290 [26,3] "tpc_begin" "PlainManager.tpc_begin" 496 2 3 ["self","transaction"] .none (vS "transaction.handed" 1146) ++
 fn7 PR 865 1298 [26,4] "commit" "PlainManager.commit" 499 2 3 ["self","transaction"] .none (vS "transaction.handed" 1146) ++
 fn7 PR 872 1306 [26,5] "tpc_vote" "PlainManager.tpc_vote" 503 2 3 ["self","transaction"] .none (vS "transaction.handed" 1146) ++
 fn7 PR 879 1314 [26,6] "tpc_finish" "PlainManager.tpc_finish" 506 2 3 ["self","transaction"] .none (vS "transaction.handed" 1146) ++
 fn7 PR 886 1322 [26,7] "tpc_abort" "PlainManager.tpc_abort" 512 2 3 ["self","transaction"] .none (vS "transaction.handed" 1146) ++
 [oT [(vS "deed" 1330),(vS "kept" 1331),(vS "key" 1332),(vS "log" 1333),(vS "plan" 1334),(vS "ready" 1335),(vS "value" 1336),(vS "who" 1337)],oD [en P "__module__" 1258 (vS "transaction.handed" 1146),en P "__firstlineno__" 1262 (.int (476) 1261),en P "__init__" 1274 (vR 843),en P "sortKey" 1281 (vR 850),en P "abort" 1289 (vR 857),en P "tpc_begin" 1297 (vR 864),en P "commit" 1305 (vR 871),en P "tpc_vote" 1313 (vR 878),en P "tpc_finish" 1321 (vR 885),en P "tpc_abort" 1329 (vR 892),en P "__static_attributes__" 1338 (vR 893),en P "__doc__" 1339 .none] 2,oK "PlainManager" [(vR 824)] [(vR 895),(vR 824),(.type "object")] 894 "PlainManager" [(vR 921)] [(some (vR 829)),none,(some (vS "PlainManager" 1251)),(some (vS "PlainManager" 1259)),(some (.builtin "object.__new__")),(some (.bool true))],oX "super" [(vR 895),(vR 895),(vR 895)],oX "builtin_function_or_method" [(.builtin "object.__init_subclass__"),(vR 895)],oT [(vR 895)],oX "builtin_function_or_method" [(.builtin "type.__prepare__"),(.type "type")],oD [en P "__module__" 1349 (vS "transaction.handed" 1146),en P "__qualname__" 1351 (vS "Manager" 1350),en P "__firstlineno__" 1353 (.int (516) 1352),en P "savepoint" 1360 (vR 911),en P "should_retry" 1368 (vR 918),en P "__static_attributes__" 1369 (vR 919)] 6] ++
 cb4 901 1344 "Manager" "Manager" 516 [(vI 518),(vI 4),(vR 910),(vI 522),(vI 4),(vR 917)] 900 (vS "transaction.handed" 1146) ++
 fn7 PR 905 1354 [27,0] "savepoint" "Manager.savepoint" 518 1 3 ["self"] .none (vS "transaction.handed" 1146) ++
 fn7 PR 912 1361 [27,1] "should_retry" "Manager.should_retry" 522 2 3 ["self","error"] .none (vS "transaction.handed" 1146) ++
 [oT [],oD [en P "__module__" 1349 (vS "transaction.handed" 1146),en P "__firstlineno__" 1353 (.int (516) 1352),en P "savepoint" 1360 (vR 911),en P "should_retry" 1368 (vR 918),en P "__static_attributes__" 1369 (vR 919),en P "__doc__" 1370 .none] 2,oK "Manager" [(vR 895)] [(vR 921),(vR 895),(vR 824),(.type "object")] 920 "Manager" [] [(some (vR 898)),none,(some (vS "Manager" 1342)),(some (vS "Manager" 1350)),(some (.builtin "object.__new__")),(some (.bool true))],oX "super" [(vR 921),(vR 921),(vR 921)],oX "builtin_function_or_method" [(.builtin "object.__init_subclass__"),(vR 921)],oT [],oX "builtin_function_or_method" [(.builtin "type.__prepare__"),(.type "type")],oD [en P "__module__" 1380 (vS "transaction.handed" 1146),en P "__qualname__" 1382 (vS "ManagerSavepoint" 1381),en P "__firstlineno__" 1384 (.int (524) 1383),en P "__init__" 1393 (vR 937),en P "rollback" 1400 (vR 944),en P "__static_attributes__" 1403 (vR 945)] 6] ++
 cb4 927 1375 "ManagerSavepoint" "ManagerSavepoint" 524 [(vI 526),(vI 4),(vR 936),(vI 530),(vI 4),(vR 943)] 926 (vS "transaction.handed" 1146) ++
 fn7 PR 931 1385 [28,0] "__init__" "ManagerSavepoint.__init__" 526 3 3 ["self","manager","value"] .none (vS "transaction.handed" 1146) ++
 fn7 PR 938 1394 [28,1] "rollback" "ManagerSavepoint.rollback" 530 1 3 ["self"] .none (vS "transaction.handed" 1146) ++
 [oT [(vS "manager" 1401),(vS "value" 1402)],oD [en P "__module__" 1380 (vS "transaction.handed" 1146),en P "__firstlineno__" 1384 (.int (524) 1383),en P "__init__" 1393 (vR 937),en P "rollback" 1400 (vR 944),en P "__static_attributes__" 1403 (vR 945),en P "__dict__" 1405 (vR 948),en P "__weakref__" 1407 (vR 949),en P "__doc__" 1408 .none] 4,oK "ManagerSavepoint" [(.type "object")] [(vR 947),(.type "object")] 946 "ManagerSavepoint" [] [none,none,(some (vS "ManagerSavepoint" 1373)),(some (vS "ManagerSavepoint" 1381)),(some (.builtin "object.__new__")),(some (.bool true))],oX "getset_descriptor" [(vS "__dict__" 1404),(vR 947),(.builtin "function.__dict__"),(.builtin "function.__dict__#set")],oX "getset_descriptor" [(vS "__weakref__" 1406),(vR 947),(.builtin "ExceptionGroup.__weakref__"),.none],oX "super" [(vR 947),(vR 947),(vR 947)],oX "builtin_function_or_method" [(.builtin "object.__init_subclass__"),(vR 947)],oT [(vR 824)],oX "builtin_function_or_method" [(.builtin "type.__prepare__"),(.type "type")],oD [en P "__module__" 1418 (vS "transaction.handed" 1146),en P "__qualname__" 1420 (vS "Synchronizer" 1419),en P "__firstlineno__" 1422 (.int (532) 1421),en P "newTransaction" 1430 (vR 965),en P "beforeCompletion" 1438 (vR 972),en P "afterCompletion" 1446 (vR 979),en P "__static_attributes__" 1447 (vR 980)] 7] ++
 cb4 955 1413 "Synchronizer" "Synchronizer" 532 [(vI 534),(vI 4),(vR 964),(vI 537),(vI 4),(vR 971),(vI 540),(vI 4),(vR 978)] 954 (vS "transaction.handed" 1146) ++
 fn7 PR 959 1423 [29,0] "newTransaction" "Synchronizer.newTransaction" 534 2 3 ["self","transaction"] .none (vS "transaction.handed" 1146) ++
 fn7 PR 966 1431 [29,1] "beforeCompletion" "Synchronizer.beforeCompletion" 537 2 3 ["self","transaction"] .none (vS "transaction.handed" 1146) ++
 fn7 PR 973 1439 [29,2] "afterCompletion" "Synchronizer.afterCompletion" 540 2 3 ["self","transaction"] .none (vS "transaction.handed" 1146) ++
 [oT [],oD [en P "__module__" 1418 (vS "transaction.handed" 1146),en P "__firstlineno__" 1422 (.int (532) 1421),en P "newTransaction" 1430 (vR 965),en P "beforeCompletion" 1438 (vR 972),en P "afterCompletion" 1446 (vR 979),en P "__static_attributes__" 1447 (vR 980),en P "__doc__" 1448 .none] 2,oK "Synchronizer" [(vR 824)] [(vR 982),(vR 824),(.type "object")] 981 "Synchronizer" [] [(some (vR 952)),none,(some (vS "Synchronizer" 1411)),(some (vS "Synchronizer" 1419)),(some (.builtin "object.__new__")),(some (.bool true))],oX "super" [(vR 982),(vR 982),(vR 982)],oX "builtin_function_or_method" [(.builtin "object.__init_subclass__"),(vR 982)]] ++
 fn7 PR 985 1453 [31] "_law_names" "_law_names" 543 0 3 [] .none (vS "law_jg0043_06" 1451) ++
 [⟨(.type "list"),none,(.seq #[(.int (0) 1459),(.int (5) 1460),(.int (24) 1461),(.int (4) 1462)] 0),#[]⟩] ++
 fn7 PR 993 1464 [33] "_law_read" "_law_read" 546 2 3 ["given","owners","found","owner"] .none (vS "law_jg0043_06" 1451) ++
 fn7 PR 1000 1474 [34] "_law_told" "_law_told" 554 2 3 ["boundary","what","error"] .none (vS "law_jg0043_06" 1451) ++
 [oT [],oP [],oF PR .none [35] "law" "law" 0 .none .none .none .none,oX "code" [(vS "law" 1483),(vS "law" 1484),(vS "/claim/cut.py" 1485),(vI 567),(vI 1),(vI 0),(vI 0),(vI 3),(vR 1007),(.bool true),(vI 181),(vR 1008),.none,.none,.none,(vR 1009),(vI 1486),(vI 567),(vS "/claim/cut.py" 1487)],oF PR (.type "function") [35] "law" "law" 3 .none .none (vS "law_jg0043_06" 1451) (vR 1010)]
noncomputable def t0 (P:Params):PySem.W.BT:=sets (ofL 12 ((os9 P).take 15)) [(2,PySem.W.boot_o_2 P),(3,PySem.W.boot_o_3 P),(12,oP [])]
noncomputable def s0 (w:World) (os:OsState):SharedT:=⟨t0 w.params,15,ZbY,#[],ZV,187,os⟩
noncomputable def t1 (P:Params):PySem.W.BT:=sets (ofL 12 ((os9 P).take 196)) [(2,⟨.none,none,(.dict #[en P "type.__subclasses__.Exception.0" 212 (vI 31),en P "type.__subclasses__.Exception.n" 213 (vI 1)] 2),#[]⟩),(3,oD [en P "__name__" 165 (vS "transaction._transaction" 375),en P "__doc__" 166 .none,en P "__package__" 167 .none,en P "__loader__" 168 (.builtin "__main__.__loader__#opaque"),en P "__spec__" 169 .none,en P "__annotations__" 170 (vR 6),en P "__builtins__" 171 (vR 4),en P "__file__" 173 (vS "/claim/cut.py" 172),en P "__cached__" 174 .none,en P "_wall" 193 (vR 21),en P "TransactionError" 215 (vR 31),en P "TransactionFailedError" 231 (vR 44),en P "DoomedTransaction" 247 (vR 56),en P "TransientError" 263 (vR 68),en P "NoTransaction" 279 (vR 80),en P "AlreadyInTransaction" 295 (vR 92),en P "WeakSet" 374 (vR 153),en P "Status" 406 (vR 167),en P "_NoSynchronizers" 445 (vR 191)] 19),(12,oP [(vI 1),(vI 0),(vR 20),(vI 5),(vI 0),(vR 27),(vI 7),(vI 0),(vR 40),(vI 9),(vI 0),(vR 52),(vI 11),(vI 0),(vR 64),(vI 13),(vI 0),(vR 76),(vI 15),(vI 0),(vR 88),(vI 18),(vI 0),(vR 100),(vI 48),(vI 0),(vR 163),(vI 54),(vI 0),(vR 177)]),(68,oK "TransientError" [(vR 31)] [(vR 68),(vR 31),(.type "Exception"),(.type "BaseException"),(.type "object")] 67 "TransientError" [] [(some (vR 59)),none,(some (vS "TransientError" 248)),(some (vS "TransientError" 256)),(some (.builtin "Exception.__new__")),(some (.bool true))])]
noncomputable def s1 (w:World) (os:OsState):SharedT:=⟨t1 w.params,196,ZbY,#[],ZV,446,os⟩
noncomputable def t2 (P:Params):PySem.W.BT:=sets (ofL 12 ((os9 P).take 617)) [(2,⟨.none,none,(.dict #[en P "type.__subclasses__.Exception.0" 212 (vI 31),en P "type.__subclasses__.Exception.n" 213 (vI 1)] 2),#[]⟩),(3,oD [en P "__name__" 165 (vS "transaction._manager" 969),en P "__doc__" 166 .none,en P "__package__" 167 .none,en P "__loader__" 168 (.builtin "__main__.__loader__#opaque"),en P "__spec__" 169 .none,en P "__annotations__" 170 (vR 6),en P "__builtins__" 171 (vR 4),en P "__file__" 173 (vS "/claim/cut.py" 172),en P "__cached__" 174 .none,en P "_wall" 193 (vR 21),en P "TransactionError" 215 (vR 31),en P "TransactionFailedError" 231 (vR 44),en P "DoomedTransaction" 247 (vR 56),en P "TransientError" 263 (vR 68),en P "NoTransaction" 279 (vR 80),en P "AlreadyInTransaction" 295 (vR 92),en P "WeakSet" 374 (vR 153),en P "Status" 406 (vR 167),en P "_NoSynchronizers" 445 (vR 191),en P "Transaction" 828 (vR 499),en P "rm_key" 835 (vR 510),en P "_holds" 844 (vR 517),en P "Savepoint" 894 (vR 549),en P "AbortSavepoint" 932 (vR 577),en P "NoRollbackSavepoint" 968 (vR 605),en P "_new_transaction" 979 (vR 616)] 26),(12,oP [(vI 1),(vI 0),(vR 20),(vI 5),(vI 0),(vR 27),(vI 7),(vI 0),(vR 40),(vI 9),(vI 0),(vR 52),(vI 11),(vI 0),(vR 64),(vI 13),(vI 0),(vR 76),(vI 15),(vI 0),(vR 88),(vI 18),(vI 0),(vR 100),(vI 48),(vI 0),(vR 163),(vI 54),(vI 0),(vR 177),(vI 59),(vI 0),(vR 201),(vI 330),(vI 0),(vR 509),(vI 333),(vI 0),(vR 516),(vI 338),(vI 0),(vR 523),(vI 358),(vI 0),(vR 559),(vI 366),(vI 0),(vR 587),(vI 374),(vI 0),(vR 615)]),(68,oK "TransientError" [(vR 31)] [(vR 68),(vR 31),(.type "Exception"),(.type "BaseException"),(.type "object")] 67 "TransientError" [] [(some (vR 59)),none,(some (vS "TransientError" 248)),(some (vS "TransientError" 256)),(some (.builtin "Exception.__new__")),(some (.bool true))])]
noncomputable def s2 (w:World) (os:OsState):SharedT:=⟨t2 w.params,617,ZbY,#[],ZV,980,os⟩
noncomputable def t3 (P:Params):PySem.W.BT:=sets (ofL 12 ((os9 P).take 1007)) [(3,oD [en P "__name__" 165 (vS "law_jg0043_06" 1451),en P "__doc__" 166 .none,en P "__package__" 167 .none,en P "__loader__" 168 (.builtin "__main__.__loader__#opaque"),en P "__spec__" 169 .none,en P "__annotations__" 170 (vR 6),en P "__builtins__" 171 (vR 4),en P "__file__" 173 (vS "/claim/cut.py" 172),en P "__cached__" 174 .none,en P "_wall" 193 (vR 21),en P "TransactionError" 215 (vR 31),en P "TransactionFailedError" 231 (vR 44),en P "DoomedTransaction" 247 (vR 56),en P "TransientError" 263 (vR 68),en P "NoTransaction" 279 (vR 80),en P "AlreadyInTransaction" 295 (vR 92),en P "WeakSet" 374 (vR 153),en P "Status" 406 (vR 167),en P "_NoSynchronizers" 445 (vR 191),en P "Transaction" 828 (vR 499),en P "rm_key" 835 (vR 510),en P "_holds" 844 (vR 517),en P "Savepoint" 894 (vR 549),en P "AbortSavepoint" 932 (vR 577),en P "NoRollbackSavepoint" 968 (vR 605),en P "_new_transaction" 979 (vR 616),en P "TransactionManager" 1145 (vR 756),en P "Refusal" 1178 (vR 777),en P "Passing" 1205 (vR 797),en P "Party" 1250 (vR 824),en P "PlainManager" 1341 (vR 895),en P "Manager" 1372 (vR 921),en P "ManagerSavepoint" 1410 (vR 947),en P "Synchronizer" 1450 (vR 982),en P "_law_names" 1458 (vR 991),en P "_law_last" 1463 (vR 992),en P "_law_read" 1473 (vR 999),en P "_law_told" 1482 (vR 1006)] 38),(12,oP [(vI 1),(vI 0),(vR 20),(vI 5),(vI 0),(vR 27),(vI 7),(vI 0),(vR 40),(vI 9),(vI 0),(vR 52),(vI 11),(vI 0),(vR 64),(vI 13),(vI 0),(vR 76),(vI 15),(vI 0),(vR 88),(vI 18),(vI 0),(vR 100),(vI 48),(vI 0),(vR 163),(vI 54),(vI 0),(vR 177),(vI 59),(vI 0),(vR 201),(vI 330),(vI 0),(vR 509),(vI 333),(vI 0),(vR 516),(vI 338),(vI 0),(vR 523),(vI 358),(vI 0),(vR 559),(vI 366),(vI 0),(vR 587),(vI 374),(vI 0),(vR 615),(vI 377),(vI 0),(vR 622),(vI 449),(vI 0),(vR 766),(vI 454),(vI 0),(vR 786),(vI 459),(vI 0),(vR 805),(vI 476),(vI 0),(vR 834),(vI 516),(vI 0),(vR 903),(vI 524),(vI 0),(vR 929),(vI 532),(vI 0),(vR 957),(vI 543),(vI 0),(vR 990),(vI 546),(vI 0),(vR 998),(vI 554),(vI 0),(vR 1005)])]
noncomputable def s3 (w:World) (os:OsState):SharedT:=⟨t3 w.params,1007,ZbY,#[],ZV,1483,os⟩
noncomputable def t4 (P:Params):PySem.W.BT:=sets (ofL 12 ((os9 P).take 1012)) []
noncomputable def s4 (w:World) (os:OsState):SharedT:=⟨t4 w.params,1012,ZbY,#[],ZV,1489,os⟩
noncomputable def kr9:List (Nat × Nat):=[(2,2),(15,1),(17,2),(20,3),(29,4),(35,1),(42,3),(47,1),(54,3),(59,1),(66,3),(71,1),(78,3),(83,1),(90,3),(102,1),(104,2),(107,3),(111,2),(114,3),(118,2),(121,3),(125,2),(128,3),(132,2),(135,3),(139,2),(142,3),(146,2),(149,7),(165,5),(179,1),(181,2),(184,10),(203,2),(206,2),(209,3),(213,2),(216,4),(221,2),(224,3),(228,2),(231,4),(236,2),(239,3),(243,2),(246,3),(250,2),(253,3),(257,2),(260,3),(264,2),(267,3),(271,2),(274,4),(279,2),(282,3),(286,2),(289,3),(293,2),(296,3),(300,2),(303,3),(307,2),(310,3),(314,2),(317,3),(321,2),(324,5),(330,2),(333,3),(337,2),(340,3),(344,2),(347,5),(353,2),(356,4),(361,2),(364,5),(370,2),(373,3),(377,2),(380,5),(386,2),(389,3),(393,2),(396,3),(400,2),(403,5),(409,2),(412,3),(416,2),(419,3),(423,2),(426,3),(430,2),(433,3),(437,2),(440,3),(444,2),(447,3),(451,2),(454,3),(459,3),(463,2),(466,3),(470,2),(473,4),(478,2),(481,3),(485,2),(488,3),(492,2),(495,7),(504,1),(506,2),(509,3),(513,2),(516,2),(525,1),(527,2),(530,3),(534,2),(537,4),(542,2),(545,7),(561,1),(563,2),(566,3),(570,2),(573,7),(589,1),(591,2),(594,3),(598,2),(601,7),(610,1),(612,2),(615,2),(624,2),(627,2),(630,3),(634,2),(637,3),(641,2),(644,3),(648,2),(651,3),(655,2),(658,3),(662,2),(665,3),(669,2),(672,3),(676,2),(679,3),(683,2),(686,3),(690,2),(693,3),(697,2),(700,3),(704,2),(707,3),(711,2),(714,3),(718,2),(721,4),(726,2),(729,4),(734,2),(737,3),(741,2),(744,4),(749,2),(752,7),(761,1),(768,1),(770,2),(773,6),(781,1),(788,1),(790,2),(793,5),(807,2),(810,2),(813,3),(817,2),(820,7),(829,1),(836,2),(839,2),(842,3),(846,2),(849,3),(853,2),(856,3),(860,2),(863,3),(867,2),(870,3),(874,2),(877,3),(881,2),(884,3),(888,2),(891,5),(898,1),(905,1),(907,2),(910,3),(914,2),(917,5),(931,1),(933,2),(936,3),(940,2),(943,7),(952,1),(959,1),(961,2),(964,3),(968,2),(971,3),(975,2),(978,5),(985,1),(987,2),(990,4),(995,2),(998,3),(1002,2),(1005,3),(1010,2)]
end
end Mn
end
section
set_option maxHeartbeats 0
open PySem PySem.W PyProof.Rows
namespace Mn
noncomputable section
noncomputable def g0:List Stmt:=(bod.drop 0).take 13
theorem p0 (w:World) (os:OsState):PySem.W.Fast.tw10110043849684766642 PySem.W.Fast.tw14364793385576792824 PR w 11 (some (vR 6)) 1 2323 (s0 w os) (piecesOf g0 env9 cod9 ⟨0,0,0,0⟩ B9)=some (.next,s1 w os,cod9,⟨54,0,58,12⟩):=by kernel_rfl
end
end Mn
end
section
set_option maxHeartbeats 0
open PySem PySem.W PyProof.Rows
namespace Mn
noncomputable section
noncomputable def g1:List Stmt:=(bod.drop 13).take 8
theorem p1 (w:World) (os:OsState):PySem.W.Fast.tw10110043849684766642 PySem.W.Fast.tw14364793385576792824 PR w 11 (some (vR 6)) 1 2640 (s1 w os) (piecesOf g1 env9 cod9 ⟨54,0,58,12⟩ B9)=some (.next,s2 w os,cod9,⟨374,0,376,51⟩):=by kernel_rfl
end
end Mn
end
section
set_option maxHeartbeats 0
open PySem PySem.W PyProof.Rows
namespace Mn
noncomputable section
noncomputable def g2:List Stmt:=(bod.drop 21).take 14
theorem p2 (w:World) (os:OsState):PySem.W.Fast.tw10110043849684766642 PySem.W.Fast.tw14364793385576792824 PR w 11 (some (vR 6)) 1 2981 (s2 w os) (piecesOf g2 env9 cod9 ⟨374,0,376,51⟩ B9)=some (.next,s3 w os,cod9,⟨554,0,566,15⟩):=by kernel_rfl
end
end Mn
end
section
set_option maxHeartbeats 0
open PySem PySem.W PyProof.Rows
namespace Mn
noncomputable section
noncomputable def g3:List Stmt:=(bod.drop 35).take 1
theorem p3 (w:World) (os:OsState):PySem.W.Fast.tw10110043849684766642 PySem.W.Fast.tw14364793385576792824 PR w 11 (some (vR 6)) 1 27 (s3 w os) (piecesOf g3 env9 cod9 ⟨554,0,566,15⟩ B9)=some (.next,s4 w os,cod9,⟨567,0,636,23⟩):=by kernel_rfl
end
end Mn
end
section
set_option maxHeartbeats 0
open PySem PySem.W PyProof.Rows
namespace Mn
noncomputable section
theorem Zmv:∀ w:World,(fencedOpening treeTable PR w 20000).map (fun s=>(s.heap,s.gens,s.drawn,s.toks))=some (boot_heap w.params,Array.mk [],boot_drawn,boot_toks):=
 boot_open (by kernel_rfl) (by decide) (fun s=>by kernel_rfl)
theorem Zmw:∀ w:World,((boot_heap w.params).isNs mainGlobals&&(Array.mk []:Array GenState).size==0,(boot_heap w.params).objs.size,(boot_heap w.params).nsMap mainGlobals "__annotations__")=(true,11,some (vR 6)):=fun w=>by kernel_rfl
theorem pre9 (w:World) (os:OsState):topGo treeTable PR w 11 (some (vR 6)) 12 ⟨boot_heap w.params,Array.mk [],boot_drawn,boot_toks,os⟩ (topStub PR)=some ((s0 w os).abs,⟨denote treeTable cod9,cod9,⟨0,0,0,0⟩,B9⟩):=by
 have h:PySem.W.Fast.tw15667345088766844465 PySem.W.Fast.tw14364793385576792824 PR w 11 (some (vR 6)) 12 ⟨boot_heap w.params,Array.mk [],boot_drawn,boot_toks,os⟩ (topStub PR)=some ((s0 w os).abs,⟨PySem.W.Fast.tw11892475500146522536 PySem.W.Fast.tw14364793385576792824 cod9,cod9,⟨0,0,0,0⟩,B9⟩):=by kernel_rfl
 rw[← PySem.W.Fast.te15667345088766844465,← PySem.W.Fast.te14364793385576792824,← PySem.W.Fast.te11892475500146522536] at h
 exact h
theorem Zln (w:World) (os:OsState):segRun treeTable PR w 11 (some (vR 6)) 1 1 (s0 w os).abs (blockOf bod env9 cod9 ⟨0,0,0,0⟩ B9)=some (.next,(s0 w os).abs,cod9,⟨0,0,0,0⟩):=by kernel_rfl
theorem fin9 (w:World) (os:OsState):topRun treeTable PR w 11 (some (vR 6)) 2 (s4 w os).abs ⟨doneF .next,cod9,⟨567,0,636,23⟩,B9⟩=some (s4 w os).abs:=by kernel_rfl
theorem seg9 {w:World} {n:Nat} {s s':SharedT} {l:List Stmt} {q q':Pos} (h:PySem.W.Fast.tw10110043849684766642 PySem.W.Fast.tw14364793385576792824 PR w 11 (some (vR 6)) 1 n s (piecesOf l env9 cod9 q B9)=some (.next,s',cod9,q')) :
  segRun treeTable PR w 11 (some (vR 6)) 1 n s.abs (piecesOf l env9 cod9 q [topFrame q9])=some (.next,s'.abs,cod9,q'):=by
 rw[← PySem.W.Fast.te10110043849684766642,← PySem.W.Fast.te14364793385576792824] at h
 exact segRun_of h
theorem bod9:bod=g0++(g1++(g2++(g3 ++ []))):=by kernel_rfl
theorem Zmx (w:World) (os:OsState):topRun treeTable PR w 11 (some (vR 6)) (Nat.add 2323 (Nat.add 2640 (Nat.add 2981 (Nat.add 27 2)))) (s0 w os).abs (restOf (g0++(g1++(g2++(g3 ++ [])))) env9 cod9 ⟨0,0,0,0⟩ [topFrame q9])=some (s4 w os).abs:=
 piece_app (n:=2323) (N:=(Nat.add 2640 (Nat.add 2981 (Nat.add 27 2)))) (seg9 (p0 w os)) (piece_app (n:=2640) (N:=(Nat.add 2981 (Nat.add 27 2))) (seg9 (p1 w os)) (piece_app (n:=2981) (N:=(Nat.add 27 2)) (seg9 (p2 w os)) (piece_app (n:=27) (N:=2) (seg9 (p3 w os)) (piece_nil (fin9 w os)))))
theorem run9 (w:World) (os:OsState):topRun treeTable PR w 11 (some (vR 6)) (Nat.add 12 (Nat.add 1 (Nat.add 2323 (Nat.add 2640 (Nat.add 2981 (Nat.add 27 2)))))) ⟨boot_heap w.params,Array.mk [],boot_drawn,boot_toks,os⟩ (topStub PR)=some (s4 w os).abs:=
 go_top (n:=12) (N:=Nat.add 1 (Nat.add 2323 (Nat.add 2640 (Nat.add 2981 (Nat.add 27 2))))) (pre9 w os) (piece_block (n:=1) (N:=Nat.add 2323 (Nat.add 2640 (Nat.add 2981 (Nat.add 27 2)))) (Zln w os) (bod9 ▸ Zmx w os))
end
end Mn
end
section
set_option maxHeartbeats 0
open PySem PySem.W PyProof.Rows
namespace Mn
noncomputable section
noncomputable def ZfB (ss:List Stmt):List Nat→List Stmt
 | []=>[]
 | i :: l=>match ss.drop i with
  | s :: _=>s :: ZfB ss l
  | []=>ZfB ss l
noncomputable def v9:Program:={ PR with main:={ PR.main with body:=ZfB PR.main.body [0,2,3,4,5,6,7,9,11,12,13,14,15,16,17,18,20,21,23,24,25,26,27,28,29,31,32,33,34,35] } }
noncomputable def Yq0:Nat:=nat_lit 1936026726
noncomputable def Yq1:Nat:=nat_lit 2003329396
noncomputable def Yq2:Nat:=nat_lit 140775542147331319923306350
noncomputable def Yq3:Nat:=nat_lit 7825519
noncomputable def Yq4:Nat:=nat_lit 1684108385
noncomputable def Yq5:Nat:=nat_lit 126943688422771
noncomputable def Yq6:Nat:=nat_lit 2128398480679109226100
noncomputable def Yq7:Nat:=nat_lit 1886151022
noncomputable def Yq8:Nat:=nat_lit 121352798352988344213267826
noncomputable def Yq9:Nat:=nat_lit 1601468526
noncomputable def Yq10:Nat:=nat_lit 508440638821
noncomputable def Yq11:Nat:=nat_lit 126875750512347155809665095274821084536
noncomputable def Yq12:Nat:=nat_lit 450735055006189557605747
noncomputable def Yq13:Nat:=nat_lit 1684366692
noncomputable def Yq14:Nat:=nat_lit 491327153273
noncomputable def Yq15:Nat:=nat_lit 1935977732173518618579374054929011
noncomputable def Yq16:Nat:=nat_lit 7106407
noncomputable def Yq17:Nat:=nat_lit 7311717605962901876
noncomputable def Yq18:Nat:=nat_lit 26867088167757939
noncomputable def Yq19:Nat:=nat_lit 7038329
noncomputable def Yq20:Nat:=nat_lit 104962280678756
noncomputable def Yq21:Nat:=nat_lit 30787899169924466
noncomputable def Yq22:Nat:=nat_lit 1871800825351571599214
noncomputable def Yq23:Nat:=nat_lit 409706001505
noncomputable def Yq24:Nat:=nat_lit 1801810036
noncomputable def Yq25:Nat:=nat_lit 6876259332773078386
noncomputable def Yq26:Nat:=nat_lit 8310505447449725773751056955548980834558827
noncomputable def Yq27:Nat:=nat_lit 1934624654096025064992657556466036
noncomputable def Yq28:Nat:=nat_lit 7557127555062597910118760673908
noncomputable def Yq29:Nat:=nat_lit 7556819344907257814725648279924
noncomputable def Yq30:Nat:=nat_lit 29518825566043975829964157556
noncomputable def Yq31:Nat:=nat_lit 115392822874443623558968435
noncomputable def Yq32:Nat:=nat_lit 126875750512347155809665144752844334456
noncomputable def Yq33:Nat:=nat_lit 1759458528257374515827
noncomputable def Yq34:Nat:=nat_lit 32492159689778553
noncomputable def Yq35:Nat:=nat_lit 6872327479327219551
noncomputable def Yq36:Nat:=nat_lit 26845041950351199
noncomputable def Yq37:Nat:=nat_lit 6872319787140931423
noncomputable def Yq38:Nat:=nat_lit 27995157100326516
noncomputable def Yq39:Nat:=nat_lit 1937007984
noncomputable def Yq40:Nat:=nat_lit 107135549927012
noncomputable def Yq41:Nat:=nat_lit 35717030763453732090855846521
noncomputable def Yq42:Nat:=nat_lit 1852796517
noncomputable def Yq43:Nat:=nat_lit 91759316333939
noncomputable def Yq44:Nat:=nat_lit 418263298676
noncomputable def Yq45:Nat:=nat_lit 1281500229926868578158
noncomputable def Yq46:Nat:=nat_lit 7093017055122780793
noncomputable def Yq47:Nat:=nat_lit 427020345714
noncomputable def Yq48:Nat:=nat_lit 122558743933555
noncomputable def Yq49:Nat:=nat_lit 422607680115
noncomputable def Yq50:Nat:=nat_lit 474080961907
noncomputable def Yq51:Nat:=nat_lit 121450625394034
noncomputable def Yq52:Nat:=nat_lit 109330228406644
noncomputable def Yq53:Nat:=nat_lit 8390315367451292773
noncomputable def Yq54:Nat:=nat_lit 112568566572388
noncomputable def Yq55:Nat:=nat_lit 478745093490
noncomputable def Yq56:Nat:=nat_lit 526257103290866718763363
noncomputable def Yq57:Nat:=nat_lit 505730822920424394434647860299001710
noncomputable def Yq58:Nat:=nat_lit 20831365845682075456708035908
noncomputable def Yq59:Nat:=nat_lit 130790843205143095770222669499520872302
noncomputable def Yq60:Nat:=nat_lit 31595298631057253506289914052433291605197731470143346
noncomputable def Yq61:Nat:=nat_lit 2239104031621709104457510162100078
noncomputable def Yq62:Nat:=nat_lit 115317264292093372031527795
noncomputable def Yq63:Nat:=nat_lit 5432881864672178034
noncomputable def Yq64:Nat:=nat_lit 31351884260406369
noncomputable def Yq65:Nat:=nat_lit 2147920733981462980974
noncomputable def Yq66:Nat:=nat_lit 549867707903669866951528
noncomputable def Yq67:Nat:=nat_lit 9141263661952799396995126481584685026256553158512502116
noncomputable def Yq68:Nat:=nat_lit 2147920733977118208628
noncomputable def Yq69:Nat:=nat_lit 9148819826609928304385182757491
noncomputable def Yq70:Nat:=nat_lit 1760250341483069399396
noncomputable def Yq71:Nat:=nat_lit 407920666966016633499506
noncomputable def Yq72:Nat:=nat_lit 153320918417576668024637872118851952889292218323514526081643635
noncomputable def Yq73:Nat:=nat_lit 7558381206229337516734123828594
noncomputable def Yq74:Nat:=nat_lit 135939912076598867261548403
noncomputable def Yq75:Nat:=nat_lit 599153791708171079594918583915812092988080606083225322942322
noncomputable def Yq76:Nat:=nat_lit 139410018249995902865064372543089068733950042532723
noncomputable def Yq77:Nat:=nat_lit 102089915919663186332708718
noncomputable def Yq78:Nat:=nat_lit 102856447252904163468209319642181234292
noncomputable def Yq79:Nat:=nat_lit 1749155640485175396956345769472567820117700212
noncomputable def Yq80:Nat:=nat_lit 139410018249997226617601886984199842600228236520307
noncomputable def Yq81:Nat:=nat_lit 544570383789046495566657695562046570513740819315
noncomputable def Yq82:Nat:=nat_lit 39266142893386699872577540384190904136887121767098814392526073714
noncomputable def Yq83:Nat:=nat_lit 126683916715517355969773608976980996723
noncomputable def Yq84:Nat:=nat_lit 23287323821922980346139391251401040031598
noncomputable def Yq85:Nat:=nat_lit 35688964671999290014106083070434364852340860941986675
noncomputable def Yq86:Nat:=nat_lit 126792957005759027847357530352155583859
noncomputable def Yq87:Nat:=nat_lit 146706531211415255425460937829301089051599748820596
noncomputable def Yq88:Nat:=nat_lit 1326155475366722702694292256288372
noncomputable def Yq89:Nat:=nat_lit 170187187672156289891462891532629231780911089544820
noncomputable def Yq90:Nat:=nat_lit 6214251602118707298111211532142
noncomputable def Yq91:Nat:=nat_lit 373502845883562961323696403379901295006520536942
noncomputable def Yq92:Nat:=nat_lit 126849870235068998456344130475734429550
noncomputable def Yq93:Nat:=nat_lit 599171874068412092271310491068819055
noncomputable def Yq94:Nat:=nat_lit 9063393529955754149783446381416
noncomputable def Yq95:Nat:=nat_lit 7356353716705286294755040216468242878129522
noncomputable def Yq96:Nat:=nat_lit 25834057133411990239811626354
noncomputable def Yq97:Nat:=nat_lit 31196428371908832563253914007477151614575687673079140
noncomputable def Yq98:Nat:=nat_lit 451582522511471928892571073831417153683813847170565836577506399366178148
noncomputable def Yq99:Nat:=nat_lit 13483618162735202759969387812661446151998476957986353603028261230725431747766644
noncomputable def Yq100:Nat:=nat_lit 41742528159104553840016376651185628110786630944525115441571722611
noncomputable def Yk:E:=.k 6 0
noncomputable def lo9:List Str:=["Status","_NoSynchronizers","Transaction","Savepoint","PlainManager","_law_last"]
noncomputable def h9 (P:Params):Heap:=absHeap (t4 P) 1012 ZbY
noncomputable abbrev rr9:RowW:=OpenRow.toRowW PySem.Challenge.rw_jg0043_06.row
noncomputable def xt9 (s:Shared):Bool:=xlAt v9 [] s&&recOk (RowW.records rr9) s
end
end Mn
end
section
set_option maxHeartbeats 0
open PySem PySem.W PyProof.Rows
namespace Mn
noncomputable section
theorem Zlo (w:World) (os:OsState):openSeen v9 lo9 (importedModules PR.main.body) xt9 true ⟨h9 w.params,#[],ZV,1489,os⟩=openGood v9 lo9:=by
 have h:PySem.W.Fast.tw4187177175401517315 v9 lo9 (importedModules PR.main.body) xt9 true ⟨h9 w.params,#[],ZV,1489,os⟩=openGood v9 lo9:=by kernel_rfl
 rw[← PySem.W.Fast.te4187177175401517315] at h
 exact h
theorem Zlp (w:World) (os:OsState):(staticsOk (importedModules PR.main.body) (boot_heap w.params) (h9 w.params)&&namesBound PR (h9 w.params)&&gensDone ⟨h9 w.params,#[],ZV,1489,os⟩ && laidKept (boot_heap w.params) (h9 w.params))=true:=by
 have h1:staticsOk (importedModules PR.main.body) (boot_heap w.params) (h9 w.params)=true:=by kernel_rfl
 have h2:namesBound PR (h9 w.params)=true:=by kernel_rfl
 have h3:gensDone ⟨h9 w.params,#[],ZV,1489,os⟩=true:=by kernel_rfl
 have h4:laidKept (boot_heap w.params) (h9 w.params)=true:=by kernel_rfl
 rw[h1,h2,h3,h4]; rfl
noncomputable def ZdX (w:World) (h:Heap):Prop:=∀ a o,(h9 w.params).get? a=some o→h.get? a=some o
theorem Zmy (w:World) (os:OsState):topRun treeTable PR w 11 (some (vR 6)) (Nat.add 12 (Nat.add 1 (Nat.add 2323 (Nat.add 2640 (Nat.add 2981 (Nat.add 27 2)))))) ⟨boot_heap w.params,Array.mk [],boot_drawn,boot_toks,os⟩ (topStub PR)=some ⟨h9 w.params,#[],ZV,1489,os⟩:=
 (run9 w os).trans (congrArg some (by kernel_rfl))
theorem le9:Nat.ble (Nat.add 12 (Nat.add 1 (Nat.add 2323 (Nat.add 2640 (Nat.add 2981 (Nat.add 27 2)))))) 20000=true:=by kernel_rfl
theorem Zmz {α β γ : Type} {a a' : α} {b b' : β} {c c' : γ} (x:a=a') (y:b=b') (z:c=c'):(a,b,c)=(a',b',c'):=by subst x; subst y; subst z; rfl
theorem Zlq (w:World):(fun os=>((staticsOk (importedModules PR.main.body) (boot_heap w.params) (h9 w.params)&&namesBound PR (h9 w.params)&&gensDone ⟨h9 w.params,#[],ZV,1489,os⟩ && laidKept (boot_heap w.params) (h9 w.params)),
    openSeen v9 lo9 (importedModules PR.main.body) xt9 true ⟨h9 w.params,#[],ZV,1489,os⟩,(fun s:Shared=>s.heap) ⟨h9 w.params,#[],ZV,1489,os⟩))=fun _=>(true,openGood v9 lo9,(fun w:World=>h9 w.params) w):=
 funext fun os=>Zmz (Zlp w os) (Zlo w os) rfl
theorem ZmA:LeftO PR v9 lo9 xt9 (fun s=>s.heap) (fun w=>h9 w.params) 20000:=
 LeftO.of_pieces (p:=PR) (q:=v9) (loose:=lo9) (Xt:=xt9) (Yf:=fun s=>s.heap) (Ya:=fun w=>h9 w.params) (N:=20000) (g0:=true) (H₀:=boot_heap) (H₁:=h9) (gs₀:=Array.mk []) (gs₁:=#[]) (d₀:=boot_drawn) (d₁:=ZV) (k₀:=boot_toks) (k₁:=1489) (m₀:=11) (ann:=some (vR 6)) (M:=Nat.add 12 (Nat.add 1 (Nat.add 2323 (Nat.add 2640 (Nat.add 2981 (Nat.add 27 2))))))
  Zmv Zmw Zmy le9 Zlq
theorem ws9:PySem.Challenge.rw_jg0043_06.wellSaid=true:=by
 rw[PySem.W.Fast.te9446332074065402090]
 kernel_rfl
noncomputable def d9:DefRec:=((defOf v9 "law").getD (⟨"",default,[],default,default⟩,[])).1
theorem ZmS (walk:WalkO v9 lo9 (XL v9 []) ZdX rr9 d9 [] fun f vs=>PySem.call f vs):PySem.Challenge.rw_jg0043_06.Holds:=
 holds_law ws9 fun said=>holds_open (r:=PySem.Challenge.rw_jg0043_06.row) (q:=v9) (loose:=lo9) (Xt:=xt9) (XP:=XL v9 []) (Yf:=fun s=>s.heap) (Ya:=fun w=>h9 w.params) (YP:=ZdX) (d:=d9) (kwd:=[]) (N:=20000)
  ZmA (fun w s e a o h=>by rw[e]; exact h) (fun w h h' x k a o e=>k _ _ (x a o e)) (fun s e=>xl_of s (Yb e).1) XL.keeps
  (by kernel_rfl) (by kernel_rfl) (by kernel_rfl) (fun s e=>recFacts_of (Yb e).2) (by kernel_rfl) said (by decide +kernel) ⟨rfl,rfl,rfl,rfl,rfl,by decide +kernel⟩ ⟨[.list []],by decide +kernel,by decide +kernel⟩ walk
end
end Mn
end
section
set_option maxHeartbeats 0
open PySem PySem.W PyProof.Rows
namespace Mn
noncomputable section
noncomputable def fns9:BT E:=(.node none (.node none (.node none (.node none (.node none (.node none .nil (.node none .nil (.node none .nil (.node none .nil (.node (some (.f ⟨0,0,[],[],[],[]⟩ (.b 8 0 (.u 7 0 (.u 2 0 (.b 5 0 (.c (.str 97)) (.b 5 0 (.c (.str 98)) (.b 5 0 (.c (.str 24930)) Yk))))) Yk))) .nil .nil))))) (.node none (.node none (.node (some (.f ⟨0,0,[Yq0],[],[],[]⟩ (.b 8 0 (.u 6 0 (.t 2 Yq47 (.u 1 Yq4 (.k 1 Yq0)) Yk Yk)) Yk))) .nil (.node none .nil (.node (some (.f ⟨0,0,[Yq0],[],[],[]⟩ (.b 8 0 (.u 6 0 (.t 2 Yq39 (.k 1 Yq0) (.b 5 0 (.c (.str Yq6)) (.b 5 0 (.c V.none) Yk)) Yk)) (.b 8 0 (.u 7 0 (.t 1 0 (.k 3 Yq78) (.b 5 0 (.k 1 Yq0) (.b 5 0 (.u 1 Yq10 (.k 1 Yq0)) Yk)) Yk)) Yk)))) .nil .nil))) .nil) .nil)) (.node none (.node none (.node none .nil (.node none .nil (.node (some (.f ⟨0,0,[Yq0,28514],[],[],[]⟩ (.b 8 0 (.b 9 0 (.b 5 0 (.k 4 Yq4) Yk) (.u 1 Yq23 (.k 1 Yq0))) (.b 8 0 (.t 6 0 (.b 3 2 (.k 1 Yq4) (.c V.none)) (.b 8 0 (.u 8 0 (.t 1 0 (.k 3 Yq63) (.b 5 0 (.k 1 28514) Yk) Yk)) Yk) Yk) (.b 8 0 (.t 7 0 (.u 10 2 (.b 5 0 (.k 4 7302757) (.b 5 0 (.k 4 Yq64) Yk))) (.k 1 Yq4) (.b 8 0 (.t 6 0 (.b 3 2 (.k 1 7302757) (.k 1 28514)) (.b 8 0 (.u 7 0 (.k 1 Yq64)) Yk) Yk) Yk)) (.b 8 0 (.u 8 0 (.t 1 0 (.k 3 Yq63) (.b 5 0 (.k 1 28514) Yk) Yk)) Yk)))))) .nil .nil))) (.node none .nil (.node none (.node none .nil (.node (some (.f ⟨0,0,[Yq0,Yq2],[],[],[]⟩ (.b 8 0 (.u 6 0 (.t 2 Yq39 (.k 1 Yq0) (.b 5 0 (.c (.str Yq52)) (.b 5 0 (.k 1 Yq2) Yk)) Yk)) (.b 8 0 (.b 9 0 (.b 5 0 (.u 9 Yq14 (.k 1 Yq0)) Yk) (.u 2 0 (.b 5 0 (.u 1 Yq10 (.k 1 Yq0)) Yk))) Yk)))) .nil .nil)) (.node none .nil (.node (some (.f ⟨0,0,[444150998382,Yq48],[],[],[]⟩ (.b 8 0 (.b 9 0 (.b 5 0 (.k 4 439956631140) Yk) (.u 2 0 Yk)) (.b 8 0 (.t 7 0 (.k 4 Yq55) (.k 1 Yq48) (.b 8 0 (.q 1 0 (.b 8 0 (.u 6 0 (.t 2 Yq40 (.k 1 439956631140) (.b 5 0 (.u 3 0 (.b 5 0 (.c (.str 499967685221)) (.b 5 0 (.t 2 Yq4 (.k 1 444150998382) (.b 5 0 (.k 1 Yq55) Yk) Yk) Yk))) Yk) Yk)) Yk) (.t 5 0 (.k 3 Yq63) (.b 8 0 (.u 6 0 (.t 2 Yq40 (.k 1 439956631140) (.b 5 0 (.u 3 0 (.b 5 0 (.c (.str Yq42)) (.b 5 0 (.c (.int 0)) Yk))) Yk) Yk)) Yk) Yk) Yk Yk) Yk)) (.b 8 0 (.u 7 0 (.k 1 439956631140)) Yk))))) .nil .nil))))) (.node none .nil (.node none (.node none (.node (some (.f ⟨0,0,[Yq0],[],[],[]⟩ (.b 8 0 (.b 9 0 (.b 5 0 (.u 9 Yq5 (.k 1 Yq0)) Yk) (.u 1 Yq58 (.k 3 Yq43))) (.b 8 0 (.b 9 0 (.b 5 0 (.u 9 Yq26 (.k 1 Yq0)) Yk) (.c (.str Yq54))) Yk)))) (.node (some (.f ⟨0,0,[Yq0,Yq8,Yq2],[],[],[]⟩ (.b 8 0 (.b 9 0 (.b 5 0 (.u 9 Yq8 (.k 1 Yq0)) Yk) (.k 1 Yq8)) (.b 8 0 (.b 9 0 (.b 5 0 (.u 9 Yq2 (.k 1 Yq0)) Yk) (.k 1 Yq2)) Yk)))) .nil .nil) .nil) .nil) (.node none (.node none (.node (some (.f ⟨0,0,[Yq0,Yq17],[(.bool false)],[],[]⟩ (.b 8 0 (.b 9 0 (.b 5 0 (.u 9 Yq17 (.k 1 Yq0)) Yk) (.k 1 Yq17)) (.b 8 0 (.b 9 0 (.b 5 0 (.u 9 Yq9 (.k 1 Yq0)) Yk) (.c V.none)) (.b 8 0 (.b 9 0 (.b 5 0 (.u 9 Yq18 (.k 1 Yq0)) Yk) (.t 1 0 (.k 3 24599792060687732) Yk Yk)) Yk))))) .nil .nil) .nil) .nil))))) (.node none (.node none .nil (.node none (.node none (.node none (.node none (.node (some (.f ⟨0,0,[Yq0,Yq2,Yq56,2110239133573262304627],[],[],[]⟩ (.b 8 0 (.b 9 0 (.b 5 0 (.u 9 Yq2 (.k 1 Yq0)) Yk) (.k 1 Yq2)) (.b 8 0 (.b 9 0 (.b 5 0 (.u 9 Yq31 (.k 1 Yq0)) (.b 5 0 (.k 4 544870011053851961881715) Yk)) (.u 2 0 Yk)) (.b 8 0 (.t 7 0 (.k 4 Yq8) (.k 1 2110239133573262304627) (.b 8 0 (.t 6 0 (.u 0 0 (.t 1 0 (.k 3 29380545762063474) (.b 5 0 (.k 1 Yq8) (.b 5 0 (.c (.str Yq6)) Yk)) Yk)) (.b 8 0 (.t 6 0 (.u 0 0 (.k 1 Yq56)) (.b 8 0 (.u 8 0 (.t 1 0 (.k 3 1558277107616530460530) (.b 5 0 (.c (.str Yq97)) (.b 5 0 (.k 1 Yq8) Yk)) Yk)) Yk) Yk) (.b 8 0 (.b 9 0 (.b 5 0 (.k 4 Yq6) Yk) (.t 1 0 (.k 3 Yq79) (.b 5 0 (.k 1 Yq8) Yk) Yk)) Yk)) (.b 8 0 (.b 9 0 (.b 5 0 (.k 4 Yq6) Yk) (.t 2 Yq6 (.k 1 Yq8) Yk Yk)) Yk)) (.b 8 0 (.u 6 0 (.t 2 Yq40 (.k 1 544870011053851961881715) (.b 5 0 (.k 1 Yq6) Yk) Yk)) Yk))) Yk))))) .nil .nil) .nil) (.node none (.node (some (.f ⟨0,0,[Yq0,7633006],[],[],[]⟩ (.b 8 0 (.t 6 0 (.b 3 3 (.k 1 7633006) (.u 1 Yq9 (.k 1 Yq0))) (.b 8 0 (.u 8 0 (.t 1 0 (.k 3 Yq71) (.b 5 0 (.c (.str 1570760554624714552024118968476804231207677806)) Yk) Yk)) Yk) Yk) (.b 8 0 (.b 9 0 (.b 5 0 (.u 9 Yq9 (.k 1 Yq0)) Yk) (.c V.none)) Yk)))) .nil .nil) .nil)) (.node none (.node none (.node (some (.f ⟨0,0,[Yq0,Yq8],[],[],[]⟩ (.b 8 0 (.b 9 0 (.b 5 0 (.u 9 Yq8 (.k 1 Yq0)) Yk) (.k 1 Yq8)) Yk))) .nil .nil) .nil) (.node (some (.f ⟨0,0,[Yq0],[],[Yq0],[]⟩ (.b 8 0 (.q 1 0 (.b 8 0 (.b 9 0 (.b 5 0 (.k 4 118) Yk) (.c V.none)) (.b 8 0 (.u 6 0 (.t 2 Yq80 (.k 2 Yq0) Yk Yk)) (.b 8 0 (.t 6 0 (.u 1 Yq11 (.k 2 Yq0)) (.b 8 0 (.u 6 0 (.t 2 Yq72 (.k 2 Yq0) Yk Yk)) Yk) Yk) (.b 8 0 (.q 1 0 (.b 8 0 (.u 6 0 (.t 2 7168368 (.u 1 Yq15 (.k 2 Yq0)) (.b 5 0 (.u 5 0 (.f ⟨302,40,[115],[],[],[Yq0]⟩ (.t 2 Yq59 (.k 1 115) (.b 5 0 (.k 2 Yq0) Yk) Yk))) Yk) Yk)) Yk) (.t 5 6649955 (.k 3 Yq45) (.b 8 0 (.b 9 0 (.b 5 0 (.k 4 118) Yk) (.k 1 6649955)) Yk) Yk) Yk Yk) (.b 8 0 (.t 7 0 (.k 4 29293) (.u 1 Yq12 (.k 2 Yq0)) (.b 8 0 (.q 1 0 (.b 8 0 (.u 6 0 (.t 2 Yq44 (.k 1 29293) (.b 5 0 (.k 2 Yq0) Yk) Yk)) Yk) (.t 5 6649955 (.k 3 Yq45) (.b 8 0 (.t 6 0 (.b 3 2 (.k 1 118) (.c V.none)) (.b 8 0 (.b 9 0 (.b 5 0 (.k 4 118) Yk) (.k 1 6649955)) Yk) Yk) Yk) Yk) Yk Yk) Yk)) (.b 8 0 (.u 6 0 (.t 2 Yq81 (.k 2 Yq0) Yk Yk)) (.b 8 0 (.u 6 0 (.t 2 Yq73 (.k 2 Yq0) Yk Yk)) (.b 8 0 (.u 6 0 (.t 2 7168368 (.u 1 Yq15 (.k 2 Yq0)) (.b 5 0 (.u 5 0 (.f ⟨313,36,[115],[],[],[Yq0]⟩ (.t 2 Yq57 (.k 1 115) (.b 5 0 (.k 2 Yq0) Yk) Yk))) Yk) Yk)) (.b 8 0 (.t 6 0 (.b 3 3 (.k 1 118) (.c V.none)) (.b 8 0 (.u 8 0 (.k 1 118)) Yk) Yk) Yk))))))))) Yk Yk (.b 8 0 (.u 6 0 (.t 2 409740666213 (.k 2 Yq0) Yk Yk)) Yk)) Yk))) .nil (.node (some (.f ⟨0,0,[Yq0,Yq2],[],[],[]⟩ (.b 8 0 (.u 6 0 (.t 2 Yq39 (.k 1 Yq0) (.b 5 0 (.c (.str Yq57)) (.b 5 0 (.k 1 Yq2) Yk)) Yk)) Yk))) .nil .nil)))) (.node (some (.f ⟨0,0,[Yq0],[],[],[]⟩ (.b 8 0 (.u 7 0 (.t 1 0 (.k 3 7103854) (.b 5 0 (.u 1 Yq4 (.k 1 Yq0)) Yk) Yk)) Yk))) .nil .nil))) (.node none (.node none (.node none .nil (.node none (.node none .nil (.node (some (.f ⟨0,0,[Yq0,Yq3,Yq19,Yq7,Yq16,Yq13],[V.none],[],[]⟩ (.b 8 0 (.b 9 0 (.b 5 0 (.u 9 Yq3 (.k 1 Yq0)) Yk) (.k 1 Yq3)) (.b 8 0 (.b 9 0 (.b 5 0 (.u 9 Yq19 (.k 1 Yq0)) Yk) (.k 1 Yq19)) (.b 8 0 (.b 9 0 (.b 5 0 (.u 9 Yq7 (.k 1 Yq0)) Yk) (.k 1 Yq7)) (.b 8 0 (.b 9 0 (.b 5 0 (.u 9 Yq16 (.k 1 Yq0)) Yk) (.k 1 Yq16)) (.b 8 0 (.b 9 0 (.b 5 0 (.u 9 Yq13 (.k 1 Yq0)) Yk) (.k 1 Yq13)) (.b 8 0 (.b 9 0 (.b 5 0 (.u 9 Yq24 (.k 1 Yq0)) Yk) (.c (.int 0))) (.b 8 0 (.b 9 0 (.b 5 0 (.u 9 Yq10 (.k 1 Yq0)) Yk) (.c (.int 0))) (.b 8 0 (.b 9 0 (.b 5 0 (.u 9 Yq14 (.k 1 Yq0)) Yk) (.c V.none)) Yk)))))))))) .nil .nil)) (.node none (.node (some (.f ⟨0,0,[Yq0],[],[],[]⟩ (.b 8 0 (.u 7 0 (.t 2 Yq44 (.t 2 6776180 (.k 1 Yq0) Yk Yk) Yk Yk)) Yk))) .nil .nil) .nil))) (.node none (.node none .nil (.node (some (.f ⟨0,0,[Yq0],[],[Yq0],[]⟩ (.b 8 0 (.b 9 0 (.b 5 0 (.k 4 76) Yk) (.t 1 0 (.k 3 1818850164) (.b 5 0 (.u 1 Yq12 (.k 2 Yq0)) Yk) Yk)) (.b 8 0 (.u 6 0 (.t 2 1936683636 (.k 1 76) Yk (.b 6 Yq19 (.k 3 125814077875577) Yk))) (.b 8 0 (.q 1 0 (.b 8 0 (.t 7 0 (.k 4 29293) (.k 1 76) (.b 8 0 (.u 6 0 (.t 2 Yq65 (.k 1 29293) (.b 5 0 (.k 2 Yq0) Yk) Yk)) Yk)) (.b 8 0 (.t 7 0 (.k 4 29293) (.k 1 76) (.b 8 0 (.u 6 0 (.t 2 Yq52 (.k 1 29293) (.b 5 0 (.k 2 Yq0) Yk) Yk)) Yk)) (.b 8 0 (.t 7 0 (.k 4 29293) (.k 1 76) (.b 8 0 (.u 6 0 (.t 2 Yq53 (.k 1 29293) (.b 5 0 (.k 2 Yq0) Yk) Yk)) (.b 8 0 (.b 9 0 (.b 5 0 (.u 9 Yq20 (.k 2 Yq0)) Yk) (.b 2 0 (.u 1 Yq20 (.k 2 Yq0)) (.u 2 0 (.b 5 0 (.k 1 29293) Yk)))) Yk))) (.b 8 0 (.t 7 0 (.k 4 29293) (.k 1 76) (.b 8 0 (.u 6 0 (.t 2 Yq66 (.k 1 29293) (.b 5 0 (.k 2 Yq0) Yk) Yk)) Yk)) Yk)))) (.t 5 118 (.k 3 Yq45) (.b 8 0 (.q 1 0 (.b 8 0 (.u 6 0 (.t 2 6873456638979634544 (.k 2 Yq0) (.b 5 0 (.k 1 76) Yk) Yk)) Yk) Yk Yk (.b 8 0 (.u 6 0 (.t 2 7168368 (.u 1 Yq15 (.k 2 Yq0)) (.b 5 0 (.u 5 0 (.f ⟨244,40,[115],[],[],[Yq0]⟩ (.t 2 Yq57 (.k 1 115) (.b 5 0 (.k 2 Yq0) Yk) Yk))) Yk) Yk)) Yk)) (.b 8 0 (.u 8 0 (.k 1 118)) Yk)) Yk) Yk Yk) Yk))))) .nil .nil)) .nil)) (.node none (.node none (.node none (.node (some (.f ⟨0,0,[Yq0,Yq56],[(.bool false)],[],[]⟩ (.b 8 0 (.t 6 0 (.b 3 0 (.u 1 Yq5 (.k 1 Yq0)) (.u 1 Yq58 (.k 3 Yq43))) (.b 8 0 (.u 6 0 (.t 2 Yq67 (.k 1 Yq0) Yk Yk)) Yk) Yk) (.b 8 0 (.q 1 0 (.b 8 0 (.b 9 0 (.b 5 0 (.k 4 Yq6) Yk) (.t 1 0 (.k 3 1538102670320403574388) (.b 5 0 (.k 1 Yq0) (.b 5 0 (.k 1 Yq56) (.b 5 0 (.t 1 0 (.k 3 1818850164) (.b 5 0 (.u 1 Yq12 (.k 1 Yq0)) Yk) Yk) Yk))) Yk)) Yk) (.t 5 118 (.k 3 Yq45) (.b 8 0 (.u 6 0 (.t 2 6873456638979634544 (.k 1 Yq0) (.b 5 0 (.u 1 Yq12 (.k 1 Yq0)) Yk) Yk)) (.b 8 0 (.u 6 0 (.t 2 Yq82 (.k 1 Yq0) (.b 5 0 (.k 1 118) Yk) Yk)) Yk)) Yk) Yk Yk) (.b 8 0 (.t 6 0 (.b 3 2 (.u 1 Yq11 (.k 1 Yq0)) (.c V.none)) (.b 8 0 (.b 9 0 (.b 5 0 (.u 9 Yq11 (.k 1 Yq0)) Yk) (.u 2 0 Yk)) Yk) Yk) (.b 8 0 (.t 8 0 (.k 1 Yq0) (.k 1 Yq32) (.c (.int 1))) (.b 8 0 (.u 6 0 (.t 2 Yq40 (.u 1 Yq11 (.k 1 Yq0)) (.b 5 0 (.u 3 0 (.b 5 0 (.k 1 Yq6) (.b 5 0 (.u 1 Yq32 (.k 1 Yq0)) Yk))) Yk) Yk)) (.b 8 0 (.u 7 0 (.k 1 Yq6)) Yk)))))))) .nil .nil) .nil) .nil) .nil)))) (.node none (.node none (.node none (.node none (.node none (.node (some (.f ⟨0,0,[Yq0,7299690],[],[],[]⟩ (.b 8 0 (.t 7 0 (.k 4 7302757) (.u 1 Yq4 (.k 1 Yq0)) (.b 8 0 (.t 6 0 (.b 3 2 (.k 1 7302757) (.k 1 7299690)) (.b 8 0 (.k 10 0) Yk) Yk) Yk)) (.b 8 0 (.u 6 0 (.t 2 Yq40 (.u 1 Yq4 (.k 1 Yq0)) (.b 5 0 (.k 1 7299690) Yk) Yk)) Yk)))) .nil .nil) .nil) .nil) .nil) (.node none (.node none .nil (.node none (.node none (.node (some (.f ⟨0,0,[Yq0],[],[],[]⟩ (.b 8 0 (.t 7 0 (.u 10 2 (.b 5 0 (.k 4 Yq6) (.b 5 0 (.k 4 104906428278136) Yk))) (.u 1 Yq11 (.k 1 Yq0)) (.b 8 0 (.b 9 0 (.b 5 0 (.u 9 Yq2 (.k 1 Yq6)) Yk) (.c V.none)) Yk)) (.b 8 0 (.u 6 0 (.t 2 Yq47 (.u 1 Yq11 (.k 1 Yq0)) Yk Yk)) Yk)))) .nil .nil) (.node none .nil (.node (some (.f ⟨0,0,[Yq0,Yq21,Yq10],[],[],[]⟩ (.b 8 0 (.b 9 0 (.b 5 0 (.u 9 Yq21 (.k 1 Yq0)) Yk) (.k 1 Yq21)) (.b 8 0 (.b 9 0 (.b 5 0 (.u 9 Yq10 (.k 1 Yq0)) Yk) (.k 1 Yq10)) Yk)))) .nil .nil))) (.node none .nil (.node (some (.f ⟨0,0,[Yq0,1851878757,Yq10],[],[],[]⟩ (.b 8 0 (.b 9 0 (.b 5 0 (.b 7 0 (.u 1 Yq22 (.k 1 Yq0)) (.k 1 1851878757)) Yk) (.k 1 Yq10)) Yk))) .nil .nil)))) (.node none (.node none .nil (.node none (.node none .nil (.node (some (.f ⟨0,0,[Yq0,Yq2],[],[],[]⟩ (.b 8 0 (.b 9 0 (.b 5 0 (.u 9 Yq10 (.k 1 Yq0)) Yk) (.u 1 Yq24 (.k 1 Yq0))) (.b 8 0 (.b 9 0 (.b 5 0 (.u 9 Yq14 (.k 1 Yq0)) Yk) (.c V.none)) (.b 8 0 (.u 6 0 (.t 2 Yq39 (.k 1 Yq0) (.b 5 0 (.c (.str Yq44)) (.b 5 0 (.k 1 Yq2) Yk)) Yk)) Yk))))) .nil .nil)) .nil)) (.node none (.node (some (.f ⟨0,0,[24422],[],[],[]⟩ (.b 8 0 (.k 7 0) Yk))) .nil (.node (some (.f ⟨0,0,[Yq0],[],[],[]⟩ (.b 8 0 (.q 1 0 (.b 8 0 (.t 6 0 (.u 1 Yq25 (.k 1 Yq0)) (.b 8 0 (.u 6 0 (.t 2 1718773093 (.u 1 Yq25 (.k 1 Yq0)) (.b 5 0 (.k 1 Yq0) Yk) Yk)) Yk) Yk) Yk) Yk Yk (.b 8 0 (.b 9 0 (.b 5 0 (.u 9 Yq25 (.k 1 Yq0)) Yk) (.c V.none)) Yk)) Yk))) .nil .nil)) .nil)))) (.node none (.node (some (.f ⟨0,0,[107],[],[],[]⟩ (.b 8 0 (.k 0 0) Yk))) (.node none (.node none (.node none (.node (some (.f ⟨0,0,[Yq0],[],[],[]⟩ (.b 8 0 (.t 6 0 (.b 3 3 (.u 1 Yq26 (.k 1 Yq0)) (.c V.none)) Yk (.k 0 0)) (.b 8 0 (.u 8 0 (.t 1 0 (.k 3 Yq60) (.b 5 0 (.c (.str Yq98)) Yk) Yk)) Yk)))) (.node (some (.f ⟨0,0,[1919907699,29293],[],[],[]⟩ (.b 8 0 (.t 7 0 (.k 4 7302757) (.k 1 1919907699) (.b 8 0 (.t 6 0 (.b 3 2 (.k 1 7302757) (.k 1 29293)) (.b 8 0 (.u 7 0 (.c (.bool true))) Yk) Yk) Yk)) (.b 8 0 (.u 7 0 (.c (.bool false))) Yk)))) .nil .nil) .nil) .nil) (.node none .nil (.node none .nil (.node (some (.f ⟨0,0,[Yq0,Yq2],[],[],[]⟩ (.b 8 0 (.u 6 0 (.t 2 Yq39 (.k 1 Yq0) (.b 5 0 (.c (.str Yq61)) (.b 5 0 (.k 1 Yq2) Yk)) Yk)) Yk))) .nil .nil)))) .nil) (.node none (.node none .nil (.node none (.node (some (.f ⟨0,0,[Yq0],[],[],[]⟩ (.b 8 0 (.u 6 0 (.t 2 Yq62 (.k 1 Yq0) (.b 5 0 (.u 1 Yq27 (.k 1 Yq0)) Yk) Yk)) Yk))) .nil .nil) .nil)) (.node none (.node none (.node none .nil (.node (some (.f ⟨0,0,[Yq0,Yq1,Yq2],[],[],[]⟩ (.b 8 0 (.u 6 0 (.t 2 Yq40 (.u 1 Yq16 (.k 1 Yq0)) (.b 5 0 (.u 3 0 (.b 5 0 (.k 1 Yq1) (.b 5 0 (.u 1 Yq3 (.k 1 Yq0)) Yk))) Yk) Yk)) (.b 8 0 (.t 6 0 (.b 3 3 (.u 1 Yq13 (.k 1 Yq0)) (.c V.none)) (.b 8 0 (.u 6 0 (.t 2 Yq13 (.k 1 Yq0) (.b 5 0 (.u 1 Yq3 (.k 1 Yq0)) (.b 5 0 (.k 1 Yq1) (.b 5 0 (.k 1 Yq2) Yk))) Yk)) Yk) Yk) (.b 8 0 (.b 9 0 (.b 5 0 (.k 4 1802071652) Yk) (.t 2 6776180 (.u 1 Yq7 (.k 1 Yq0)) (.b 5 0 (.k 1 Yq1) (.b 5 0 (.c (.int 0)) Yk)) Yk)) (.b 8 0 (.t 6 0 (.b 3 0 (.k 1 1802071652) (.c (.int 1))) (.b 8 0 (.u 8 0 (.t 1 0 (.k 3 23192438821839212) (.b 5 0 (.u 1 Yq3 (.k 1 Yq0)) (.b 5 0 (.k 1 Yq1) Yk)) Yk)) Yk) Yk) (.b 8 0 (.t 6 0 (.b 3 0 (.k 1 1802071652) (.c (.int 2))) (.b 8 0 (.u 8 0 (.t 1 0 (.k 3 22625146622275175) (.b 5 0 (.u 1 Yq3 (.k 1 Yq0)) (.b 5 0 (.k 1 Yq1) Yk)) Yk)) Yk) Yk) Yk))))))) .nil .nil)) .nil) (.node none (.node none .nil (.node (some (.f ⟨0,0,[Yq0,Yq2],[],[],[]⟩ (.b 8 0 (.u 6 0 (.t 2 Yq39 (.k 1 Yq0) (.b 5 0 (.c (.str Yq66)) (.b 5 0 (.k 1 Yq2) Yk)) Yk)) (.b 8 0 (.t 6 0 (.b 3 3 (.u 1 Yq14 (.k 1 Yq0)) (.c V.none)) (.b 8 0 (.b 9 0 (.b 5 0 (.u 9 Yq24 (.k 1 Yq0)) Yk) (.b 4 0 (.u 1 Yq14 (.k 1 Yq0)) (.c (.int 0)))) (.b 8 0 (.b 9 0 (.b 5 0 (.u 9 Yq14 (.k 1 Yq0)) Yk) (.c V.none)) Yk)) Yk) Yk)))) .nil .nil)) .nil)))) (.node none (.node none (.node none (.node none .nil (.node (some (.f ⟨0,0,[Yq0],[],[],[]⟩ (.b 8 0 (.u 6 0 (.t 2 Yq62 (.k 1 Yq0) (.b 5 0 (.u 1 Yq28 (.k 1 Yq0)) Yk) (.b 6 6649955 (.c (.bool false)) Yk))) Yk))) .nil .nil)) .nil) (.node none .nil (.node none (.node (some (.f ⟨0,0,[Yq0,Yq5],[(.bool true)],[],[]⟩ (.b 8 0 (.u 6 0 (.t 2 Yq62 (.k 1 Yq0) (.b 5 0 (.u 1 Yq29 (.k 1 Yq0)) Yk) (.b 6 6649955 (.c (.bool false)) (.b 6 427020345710 (.c (.bool true)) (.b 6 Yq74 (.u 3 0 (.b 5 0 (.k 1 Yq5) Yk)) Yk))))) Yk))) .nil .nil) .nil))) .nil)))) (.node none (.node none (.node none (.node none (.node none (.node none .nil (.node none .nil (.node (some (.f ⟨0,0,[Yq0],[],[],[]⟩ (.b 8 0 (.u 6 0 (.t 2 Yq73 (.k 1 Yq0) Yk Yk)) (.b 8 0 (.b 9 0 (.b 5 0 (.u 9 Yq23 (.k 1 Yq0)) Yk) (.c V.none)) (.b 8 0 (.u 6 0 (.t 2 Yq47 (.u 1 Yq12 (.k 1 Yq0)) Yk Yk)) (.b 8 0 (.u 6 0 (.t 2 Yq47 (.u 1 Yq27 (.k 1 Yq0)) Yk Yk)) (.b 8 0 (.u 6 0 (.t 2 Yq47 (.u 1 Yq29 (.k 1 Yq0)) Yk Yk)) (.b 8 0 (.u 6 0 (.t 2 Yq47 (.u 1 Yq28 (.k 1 Yq0)) Yk Yk)) (.b 8 0 (.u 6 0 (.t 2 Yq47 (.u 1 Yq30 (.k 1 Yq0)) Yk Yk)) (.b 8 0 (.b 9 0 (.b 5 0 (.u 9 Yq15 (.k 1 Yq0)) Yk) (.t 1 0 (.k 3 Yq83) Yk Yk)) (.b 8 0 (.b 9 0 (.b 5 0 (.u 9 Yq33 (.k 1 Yq0)) Yk) (.c V.none)) (.b 8 0 (.b 9 0 (.b 5 0 (.u 9 Yq20 (.k 1 Yq0)) Yk) (.c V.none)) (.b 8 0 (.b 9 0 (.b 5 0 (.u 9 Yq22 (.k 1 Yq0)) Yk) (.c V.none)) Yk))))))))))))) .nil .nil))) (.node none .nil (.node none (.node none .nil (.node (some (.f ⟨0,0,[Yq0,Yq2],[],[],[]⟩ (.b 8 0 (.u 6 0 (.t 2 Yq39 (.k 1 Yq0) (.b 5 0 (.c (.str Yq65)) (.b 5 0 (.k 1 Yq2) Yk)) Yk)) Yk))) .nil .nil)) .nil))) (.node none .nil (.node none (.node none (.node (some (.f ⟨0,0,[Yq0],[],[Yq0],[]⟩ (.b 8 0 (.t 6 0 (.b 3 0 (.u 1 Yq5 (.k 2 Yq0)) (.u 1 75107423569220 (.k 3 Yq43))) (.b 8 0 (.u 8 0 (.t 1 0 (.k 3 Yq84) (.b 5 0 (.c (.str Yq99)) Yk) Yk)) Yk) Yk) (.b 8 0 (.t 6 0 (.u 1 Yq11 (.k 2 Yq0)) (.b 8 0 (.u 6 0 (.t 2 Yq72 (.k 2 Yq0) Yk Yk)) Yk) Yk) (.b 8 0 (.t 6 0 (.b 3 0 (.u 1 Yq5 (.k 2 Yq0)) (.u 1 Yq58 (.k 3 Yq43))) (.b 8 0 (.u 6 0 (.t 2 Yq67 (.k 2 Yq0) Yk Yk)) Yk) Yk) (.b 8 0 (.u 6 0 (.t 2 Yq85 (.k 2 Yq0) Yk Yk)) (.b 8 0 (.u 6 0 (.t 2 7168368 (.u 1 Yq15 (.k 2 Yq0)) (.b 5 0 (.u 5 0 (.f ⟨150,32,[115],[],[],[Yq0]⟩ (.t 2 Yq59 (.k 1 115) (.b 5 0 (.k 2 Yq0) Yk) Yk))) Yk) Yk)) (.b 8 0 (.b 9 0 (.b 5 0 (.u 9 Yq5 (.k 2 Yq0)) Yk) (.u 1 317861417323029951237703 (.k 3 Yq43))) (.b 8 0 (.q 1 0 (.b 8 0 (.u 6 0 (.t 2 Yq86 (.k 2 Yq0) Yk Yk)) (.b 8 0 (.b 9 0 (.b 5 0 (.u 9 Yq5 (.k 2 Yq0)) Yk) (.u 1 1241646161418085745988 (.k 3 Yq43))) Yk)) (.t 5 118 (.k 3 Yq45) (.b 8 0 (.u 6 0 (.t 2 Yq75 (.k 2 Yq0) Yk Yk)) (.b 8 0 (.u 6 0 (.t 2 Yq76 (.k 2 Yq0) Yk (.b 6 Yq5 (.c (.bool false)) Yk))) (.b 8 0 (.u 8 0 (.k 1 118)) Yk))) Yk) (.b 8 0 (.u 6 0 (.t 2 7168368 (.u 1 Yq15 (.k 2 Yq0)) (.b 5 0 (.u 5 0 (.f ⟨160,36,[115],[],[],[Yq0]⟩ (.t 2 Yq57 (.k 1 115) (.b 5 0 (.k 2 Yq0) Yk) Yk))) Yk) Yk)) (.b 8 0 (.u 6 0 (.t 2 Yq76 (.k 2 Yq0) Yk (.b 6 Yq5 (.c (.bool true)) Yk))) (.b 8 0 (.u 6 0 (.t 2 409740666213 (.k 2 Yq0) Yk Yk)) Yk))) Yk) Yk))))))))) .nil .nil) .nil) .nil))) (.node none (.node none .nil (.node none .nil (.node none (.node none (.node (some (.f ⟨0,0,[7633006,126965380245619],[],[7633006],[]⟩ (.b 8 0 (.t 6 0 (.k 1 126965380245619) (.b 8 0 (.u 6 0 (.t 2 7168368 (.k 1 126965380245619) (.b 5 0 (.u 5 0 (.f ⟨376,19,[115],[],[],[7633006]⟩ (.t 2 Yq61 (.k 1 115) (.b 5 0 (.k 2 7633006) Yk) Yk))) Yk) Yk)) Yk) Yk) Yk))) .nil .nil) .nil) .nil))) .nil)) (.node none (.node none (.node none (.node none .nil (.node none .nil (.node none (.node (some (.f ⟨0,0,[Yq0],[],[],[]⟩ (.b 8 0 (.u 7 0 (.t 2 Yq52 (.t 2 6776180 (.k 1 Yq0) Yk Yk) Yk Yk)) Yk))) .nil .nil) .nil))) (.node none (.node none .nil (.node (some (.f ⟨0,0,[Yq0],[],[],[]⟩ (.b 8 0 (.u 6 0 (.t 2 Yq62 (.k 1 Yq0) (.b 5 0 (.u 1 Yq30 (.k 1 Yq0)) Yk) (.b 6 427020345710 (.c (.bool true)) Yk))) Yk))) .nil .nil)) .nil)) .nil) (.node none (.node none (.node none (.node none (.node (some (.f ⟨0,0,[Yq0,8243121615520555877],[],[],[]⟩ (.b 8 0 (.t 6 0 (.b 3 0 (.u 1 Yq5 (.k 1 Yq0)) (.u 1 Yq58 (.k 3 Yq43))) (.b 8 0 (.u 6 0 (.t 2 Yq67 (.k 1 Yq0) Yk Yk)) Yk) Yk) (.b 8 0 (.t 6 0 (.b 0 0 (.b 3 1 (.u 1 Yq5 (.k 1 Yq0)) (.u 1 71757432706629 (.k 3 Yq43))) (.b 3 1 (.u 1 Yq5 (.k 1 Yq0)) (.u 1 75107423569220 (.k 3 Yq43)))) (.b 8 0 (.u 8 0 (.t 1 0 (.k 3 Yq71) (.b 5 0 (.c (.str Yq100)) Yk) Yk)) Yk) Yk) (.b 8 0 (.u 6 0 (.t 2 Yq40 (.u 1 Yq12 (.k 1 Yq0)) (.b 5 0 (.k 1 8243121615520555877) Yk) Yk)) (.b 8 0 (.t 6 0 (.u 1 Yq11 (.k 1 Yq0)) (.b 8 0 (.b 9 0 (.b 5 0 (.k 4 Yq87) Yk) (.t 1 0 (.k 3 Yq88) (.b 5 0 (.k 1 8243121615520555877) (.b 5 0 (.k 1 Yq0) Yk)) Yk)) (.b 8 0 (.t 7 0 (.u 10 2 (.b 5 0 (.k 4 Yq89) (.b 5 0 (.k 4 104906428278136) Yk))) (.u 1 Yq11 (.k 1 Yq0)) (.b 8 0 (.u 6 0 (.t 2 Yq40 (.u 1 Yq31 (.k 1 Yq89)) (.b 5 0 (.k 1 Yq87) Yk) Yk)) Yk)) Yk)) Yk) Yk)))))) .nil .nil) (.node none (.node (some (.f ⟨0,0,[Yq0],[],[],[]⟩ (.b 8 0 (.t 6 0 (.b 3 2 (.u 1 Yq9 (.k 1 Yq0)) (.c V.none)) (.b 8 0 (.t 6 0 (.u 1 Yq17 (.k 1 Yq0)) (.b 8 0 (.u 8 0 (.t 1 0 (.k 3 Yq90) Yk Yk)) Yk) Yk) (.b 8 0 (.b 9 0 (.b 5 0 (.u 9 Yq9 (.k 1 Yq0)) Yk) (.t 1 0 (.k 3 Yq77) (.b 5 0 (.u 1 Yq18 (.k 1 Yq0)) (.b 5 0 (.k 1 Yq0) Yk)) Yk)) Yk)) Yk) (.b 8 0 (.u 7 0 (.u 1 Yq9 (.k 1 Yq0))) Yk)))) .nil .nil) .nil)) (.node none .nil (.node (some (.f ⟨0,0,[Yq0,28514,Yq64],[],[28514],[]⟩ (.b 8 0 (.b 9 0 (.b 5 0 (.k 4 Yq4) Yk) (.u 1 Yq23 (.k 1 Yq0))) (.b 8 0 (.t 6 0 (.b 3 2 (.k 1 Yq4) (.c V.none)) (.b 8 0 (.b 9 0 (.b 5 0 (.k 4 Yq4) Yk) (.u 2 0 Yk)) Yk) Yk) (.b 8 0 (.b 9 0 (.b 5 0 (.u 9 Yq23 (.k 1 Yq0)) Yk) (.b 2 0 (.q 0 0 (.f ⟨0,0,[],[],[],[28514]⟩ (.k 1 7499639)) (.k 4 7499639) (.k 1 Yq4) (.b 5 0 (.b 3 3 (.b 4 0 (.k 1 7499639) (.c (.int 0))) (.k 2 28514)) Yk)) (.u 2 0 (.b 5 0 (.u 3 0 (.b 5 0 (.k 2 28514) (.b 5 0 (.k 1 Yq64) Yk))) Yk)))) Yk))))) .nil (.node (some (.f ⟨0,0,[Yq0,Yq2],[],[],[]⟩ (.b 8 0 (.u 6 0 (.t 2 Yq39 (.k 1 Yq0) (.b 5 0 (.c (.str Yq59)) (.b 5 0 (.k 1 Yq2) Yk)) Yk)) Yk))) .nil .nil)))) (.node (some (.f ⟨0,0,[Yq0],[],[],[]⟩ (.b 8 0 (.b 9 0 (.b 5 0 (.u 9 Yq4 (.k 1 Yq0)) Yk) (.u 2 0 Yk)) Yk))) .nil .nil)) (.node none .nil (.node none .nil (.node none (.node none .nil (.node (some (.f ⟨0,0,[Yq0,Yq2],[],[],[]⟩ (.b 8 0 (.b 9 0 (.b 5 0 (.u 9 Yq10 (.k 1 Yq0)) Yk) (.u 1 Yq24 (.k 1 Yq0))) (.b 8 0 (.b 9 0 (.b 5 0 (.u 9 Yq14 (.k 1 Yq0)) Yk) (.c V.none)) (.b 8 0 (.u 6 0 (.t 2 Yq39 (.k 1 Yq0) (.b 5 0 (.c (.str Yq68)) (.b 5 0 (.k 1 Yq2) Yk)) Yk)) Yk))))) .nil .nil)) .nil)))))) (.node none (.node none (.node none .nil (.node none (.node none .nil (.node (some (.f ⟨0,0,[Yq0,Yq69,Yq21],[V.none,V.none],[],[]⟩ (.b 8 0 (.b 9 0 (.b 5 0 (.u 9 Yq5 (.k 1 Yq0)) Yk) (.u 1 71757432706629 (.k 3 Yq43))) (.b 8 0 (.b 9 0 (.b 5 0 (.u 9 Yq12 (.k 1 Yq0)) Yk) (.u 2 0 Yk)) (.b 8 0 (.t 6 0 (.b 3 2 (.k 1 Yq69) (.c V.none)) (.b 8 0 (.b 9 0 (.b 5 0 (.k 4 Yq69) Yk) (.t 1 0 (.k 3 24599792060687732) Yk Yk)) Yk) Yk) (.b 8 0 (.b 9 0 (.b 5 0 (.u 9 Yq15 (.k 1 Yq0)) Yk) (.k 1 Yq69)) (.b 8 0 (.b 9 0 (.b 5 0 (.u 9 Yq25 (.k 1 Yq0)) Yk) (.k 1 Yq21)) (.b 8 0 (.b 9 0 (.b 5 0 (.u 9 Yq33 (.k 1 Yq0)) Yk) (.u 4 0 Yk)) (.b 8 0 (.b 9 0 (.b 5 0 (.u 9 Yq20 (.k 1 Yq0)) Yk) (.u 2 0 Yk)) (.b 8 0 (.b 9 0 (.b 5 0 (.u 9 Yq22 (.k 1 Yq0)) Yk) (.u 4 0 Yk)) (.b 8 0 (.b 9 0 (.b 5 0 (.u 9 Yq26 (.k 1 Yq0)) Yk) (.c V.none)) (.b 8 0 (.b 9 0 (.b 5 0 (.u 9 Yq27 (.k 1 Yq0)) Yk) (.u 2 0 Yk)) (.b 8 0 (.b 9 0 (.b 5 0 (.u 9 Yq29 (.k 1 Yq0)) Yk) (.u 2 0 Yk)) (.b 8 0 (.b 9 0 (.b 5 0 (.u 9 Yq28 (.k 1 Yq0)) Yk) (.u 2 0 Yk)) (.b 8 0 (.b 9 0 (.b 5 0 (.u 9 Yq30 (.k 1 Yq0)) Yk) (.u 2 0 Yk)) Yk))))))))))))))) (.node none .nil (.node (some (.f ⟨0,0,[Yq0],[],[],[]⟩ (.b 8 0 (.u 7 0 (.u 1 Yq19 (.k 1 Yq0))) Yk))) .nil .nil)) .nil)) (.node none (.node none .nil (.node (some (.f ⟨0,0,[Yq0,76],[],[],[]⟩ (.b 8 0 (.t 7 0 (.k 4 29293) (.k 1 76) (.b 8 0 (.t 6 0 (.u 0 0 (.t 1 0 (.k 3 104902150612083) (.b 5 0 (.u 1 Yq20 (.k 1 Yq0)) (.b 5 0 (.k 1 29293) Yk)) Yk)) (.b 8 0 (.q 1 0 (.b 8 0 (.u 6 0 (.t 2 Yq44 (.k 1 29293) (.b 5 0 (.k 1 Yq0) Yk) Yk)) Yk) (.t 5 0 (.k 3 Yq45) (.b 8 0 (.k 7 0) Yk) Yk) Yk Yk) Yk) Yk) Yk)) (.b 8 0 (.t 7 0 (.k 4 29293) (.k 1 76) (.b 8 0 (.q 1 0 (.b 8 0 (.u 6 0 (.t 2 Yq68 (.k 1 29293) (.b 5 0 (.k 1 Yq0) Yk) Yk)) Yk) (.t 5 0 (.k 3 Yq45) (.b 8 0 (.k 7 0) Yk) Yk) Yk Yk) Yk)) Yk)))) .nil .nil)) .nil))) (.node none .nil (.node none (.node none (.node none (.node none .nil (.node (some (.f ⟨0,0,[Yq0,Yq3,Yq1],[],[],[]⟩ (.b 8 0 (.b 9 0 (.b 5 0 (.u 9 Yq3 (.k 1 Yq0)) Yk) (.k 1 Yq3)) (.b 8 0 (.b 9 0 (.b 5 0 (.u 9 Yq1 (.k 1 Yq0)) Yk) (.k 1 Yq1)) Yk)))) .nil .nil)) (.node none (.node (some (.f ⟨0,0,[Yq0,495958516584],[],[],[]⟩ (.b 8 0 (.u 6 0 (.t 2 6382692 (.u 1 Yq18 (.k 1 Yq0)) (.b 5 0 (.k 1 495958516584) Yk) Yk)) (.b 8 0 (.t 6 0 (.b 3 3 (.u 1 Yq9 (.k 1 Yq0)) (.c V.none)) (.b 8 0 (.u 6 0 (.t 2 Yq61 (.k 1 495958516584) (.b 5 0 (.u 1 Yq9 (.k 1 Yq0)) Yk) Yk)) Yk) Yk) Yk)))) .nil .nil) .nil)) (.node none .nil (.node none (.node (some (.f ⟨0,0,[Yq0,Yq56],[(.bool false)],[],[]⟩ (.b 8 0 (.u 7 0 (.t 2 Yq6 (.t 2 6776180 (.k 1 Yq0) Yk Yk) (.b 5 0 (.k 1 Yq56) Yk) Yk)) Yk))) .nil .nil) .nil))) (.node (some (.f ⟨0,0,[Yq0,7299690],[],[],[]⟩ (.b 8 0 (.t 7 0 (.k 4 7302757) (.u 1 Yq4 (.k 1 Yq0)) (.b 8 0 (.t 6 0 (.b 3 2 (.k 1 7302757) (.k 1 7299690)) (.b 8 0 (.u 7 0 (.c (.bool true))) Yk) Yk) Yk)) (.b 8 0 (.u 7 0 (.c (.bool false))) Yk)))) .nil .nil)))) (.node none (.node none (.node none (.node none (.node none (.node none .nil (.node (some (.f ⟨0,0,[Yq0,Yq3,Yq1],[],[],[]⟩ (.b 8 0 (.b 9 0 (.b 5 0 (.u 9 Yq3 (.k 1 Yq0)) Yk) (.k 1 Yq3)) (.b 8 0 (.b 9 0 (.b 5 0 (.u 9 Yq1 (.k 1 Yq0)) Yk) (.k 1 Yq1)) Yk)))) .nil .nil)) .nil) .nil) .nil) (.node none (.node none (.node (some (.f ⟨0,0,[Yq0,102],[],[],[]⟩ (.b 8 0 (.t 7 0 (.k 4 6646900) (.t 1 0 (.k 3 1818850164) (.b 5 0 (.u 1 Yq4 (.k 1 Yq0)) Yk) Yk) (.b 8 0 (.u 6 0 (.t 1 0 (.k 1 102) (.b 5 0 (.k 1 6646900) Yk) Yk)) Yk)) Yk))) .nil .nil) .nil) (.node none .nil (.node none (.node (some (.f ⟨0,0,[Yq0,448546171763,6649955,427020345710,Yq74],[(.bool true),(.bool false),(.unk 0)],[],[]⟩ (.b 8 0 (.t 6 0 (.u 0 0 (.k 1 448546171763)) (.b 8 0 (.k 10 0) Yk) Yk) (.b 8 0 (.q 1 0 (.b 8 0 (.t 7 0 (.u 10 3 (.b 5 0 (.k 4 1752133483) (.b 5 0 (.k 4 1634887539) (.b 5 0 (.k 4 7042931) Yk)))) (.k 1 448546171763) (.b 8 0 (.q 1 0 (.b 8 0 (.u 6 0 (.t 1 0 (.k 1 1752133483) (.b 5 0 (.b 2 0 (.k 1 Yq74) (.k 1 1634887539)) (.b 5 0 (.k 1 7042931) Yk)) Yk)) Yk) (.t 5 0 (.k 3 Yq45) (.b 8 0 (.t 6 0 (.k 1 6649955) (.b 8 0 (.k 0 0) Yk) Yk) Yk) Yk) Yk Yk) Yk)) Yk) Yk Yk (.b 8 0 (.u 6 0 (.t 2 Yq47 (.k 1 448546171763) Yk Yk)) (.b 8 0 (.t 6 0 (.k 1 427020345710) (.b 8 0 (.t 7 0 (.k 4 29293) (.u 1 Yq12 (.k 1 Yq0)) (.b 8 0 (.q 1 0 (.b 8 0 (.u 6 0 (.t 2 Yq44 (.k 1 29293) (.b 5 0 (.k 1 Yq0) Yk) Yk)) Yk) (.t 5 0 (.k 3 Yq45) (.b 8 0 (.k 7 0) Yk) Yk) Yk Yk) Yk)) Yk) Yk) Yk))) Yk)))) .nil .nil) .nil)))) (.node none (.node none .nil (.node none (.node none (.node none .nil (.node (some (.f ⟨0,0,[Yq0,Yq3,Yq7,Yq16,Yq13],[V.none],[],[]⟩ (.b 8 0 (.b 9 0 (.b 5 0 (.u 9 Yq3 (.k 1 Yq0)) Yk) (.k 1 Yq3)) (.b 8 0 (.b 9 0 (.b 5 0 (.u 9 Yq7 (.k 1 Yq0)) Yk) (.k 1 Yq7)) (.b 8 0 (.b 9 0 (.b 5 0 (.u 9 Yq16 (.k 1 Yq0)) Yk) (.k 1 Yq16)) (.b 8 0 (.b 9 0 (.b 5 0 (.u 9 Yq13 (.k 1 Yq0)) Yk) (.k 1 Yq13)) Yk)))))) .nil .nil)) .nil) (.node none (.node none .nil (.node (some (.f ⟨0,0,[Yq0,Yq2],[],[],[]⟩ (.b 8 0 (.u 6 0 (.t 2 Yq39 (.k 1 Yq0) (.b 5 0 (.c (.str Yq53)) (.b 5 0 (.k 1 Yq2) Yk)) Yk)) Yk))) .nil .nil)) (.node none .nil (.node (some (.f ⟨0,0,[Yq46,Yq1],[],[],[]⟩ (.b 8 0 (.q 1 0 (.b 8 0 (.t 6 0 (.b 3 0 (.k 1 Yq1) (.c (.int 4))) (.b 8 0 (.u 6 0 (.t 2 422608071022 (.k 1 Yq46) Yk Yk)) Yk) (.b 8 0 (.t 6 0 (.b 3 0 (.k 1 Yq1) (.c (.int 5))) (.b 8 0 (.u 6 0 (.t 2 Yq52 (.k 1 Yq46) Yk Yk)) Yk) (.b 8 0 (.u 6 0 (.t 2 Yq44 (.k 1 Yq46) Yk Yk)) Yk)) Yk)) Yk) (.t 5 435711799154 (.k 3 23192438821839212) (.b 8 0 (.u 7 0 (.u 1 Yq1 (.k 1 435711799154))) Yk) (.t 5 0 (.k 3 Yq60) (.b 8 0 (.u 7 0 (.c (.str Yq60))) Yk) Yk)) Yk Yk) (.b 8 0 (.u 7 0 (.c (.str 28523))) Yk)))) .nil .nil))))) (.node none .nil (.node none (.node none (.node (some (.f ⟨0,0,[Yq0,118],[],[],[]⟩ (.b 8 0 (.u 6 0 (.t 2 Yq75 (.k 1 Yq0) Yk Yk)) (.b 8 0 (.u 8 0 (.k 1 118)) Yk)))) .nil .nil) .nil) (.node none (.node none (.node (some (.f ⟨0,0,[Yq0],[],[],[]⟩ (.b 8 0 (.t 6 0 (.b 3 3 (.u 1 Yq9 (.k 1 Yq0)) (.c V.none)) (.b 8 0 (.t 6 0 (.u 1 Yq17 (.k 1 Yq0)) (.b 8 0 (.u 8 0 (.t 1 0 (.k 3 Yq91) Yk Yk)) Yk) Yk) (.b 8 0 (.u 6 0 (.t 2 Yq44 (.u 1 Yq9 (.k 1 Yq0)) Yk Yk)) Yk)) Yk) (.b 8 0 (.b 9 0 (.b 5 0 (.k 4 7633006) (.b 5 0 (.u 9 Yq9 (.k 1 Yq0)) Yk)) (.t 1 0 (.k 3 Yq77) (.b 5 0 (.u 1 Yq18 (.k 1 Yq0)) (.b 5 0 (.k 1 Yq0) Yk)) Yk)) (.b 8 0 (.u 6 0 (.t 1 0 (.k 3 Yq92) (.b 5 0 (.k 1 7633006) (.b 5 0 (.u 1 Yq18 (.k 1 Yq0)) Yk)) Yk)) (.b 8 0 (.u 7 0 (.k 1 7633006)) Yk)))))) .nil .nil) .nil) (.node (some (.f ⟨0,0,[29293],[],[],[]⟩ (.b 8 0 (.t 6 0 (.t 1 0 (.k 3 29380545762063474) (.b 5 0 (.k 1 29293) (.b 5 0 (.c (.str Yq34)) Yk)) Yk) (.b 8 0 (.u 7 0 (.t 2 Yq34 (.k 1 29293) Yk Yk)) Yk) Yk) Yk))) .nil .nil)))))))))
noncomputable def ZmB:BT ClsI:=(.node none (.node none (.node none (.node none (.node none (.node (some ⟨false,1,true,[10,31],false,[]⟩) (.node none (.node none .nil (.node none .nil (.node (some ⟨true,0,false,[],false,[(Yq4,.no),(Yq5,.no),(Yq12,.no),(Yq15,.no),(Yq25,.no),(Yq33,.no),(Yq20,.no),(Yq22,.no),(Yq26,.no),(Yq27,.no),(Yq29,.no),(Yq28,.no),(Yq30,.no),(Yq11,.no),(Yq31,.no),(Yq32,.no),(Yq2,.no),(Yq44,(.fn 857)),(Yq65,(.fn 864)),(Yq52,(.fn 871)),(Yq53,(.fn 878)),(Yq66,(.fn 885)),(Yq68,(.fn 892)),(Yq23,.no),(Yq34,(.fn 850)),(Yq6,.no),(Yq8,.no),(Yq17,.no),(Yq9,.no),(Yq18,.no),(Yq3,.no),(Yq1,.no),(Yq7,.no),(Yq16,.no),(Yq13,.no),(Yq19,.no),(Yq24,.no),(Yq10,.no),(Yq14,.no),(Yq39,(.fn 821)),(Yq21,.no),(Yq35,(.fn 843)),(Yq36,.no),(Yq37,.no),(Yq41,.no)]⟩) .nil .nil))) (.node (some ⟨true,0,false,[],true,[(Yq4,.no),(Yq5,.no),(Yq12,.no),(Yq15,.no),(Yq25,.no),(Yq33,.no),(Yq20,.no),(Yq22,.no),(Yq26,.no),(Yq27,.no),(Yq29,.no),(Yq28,.no),(Yq30,.no),(Yq11,.no),(Yq31,.no),(Yq32,.no),(Yq2,.no),(7168368,(.st 185)),(Yq23,.no),(Yq34,.no),(Yq6,.no),(Yq8,.no),(Yq17,.no),(Yq9,.no),(Yq18,.no),(Yq3,.no),(Yq1,.no),(Yq7,.no),(Yq16,.no),(Yq13,.no),(Yq19,.no),(Yq24,.no),(Yq10,.no),(Yq14,.no),(Yq21,.no),(Yq35,.oi),(Yq36,.no),(Yq37,.no),(Yq41,.no)]⟩) .nil .nil)) .nil) .nil) (.node none (.node none .nil (.node none (.node (some ⟨true,0,false,[],true,[(Yq4,.no),(Yq5,.no),(71757432706629,(.val (.str 71895410636389))),(Yq12,.no),(Yq15,.no),(Yq25,.no),(Yq33,.no),(Yq20,.no),(Yq22,.no),(Yq26,.no),(Yq27,.no),(Yq29,.no),(Yq28,.no),(Yq30,.no),(Yq58,(.val (.str 5342772014143440477182990509412))),(75107423569220,(.val (.str 75245401498980))),(Yq11,.no),(Yq31,.no),(Yq32,.no),(Yq2,.no),(317861417323029951237703,(.val (.str 318454028018919475342951))),(1241646161418085745988,(.val (.str 1243961046948904199524))),(Yq23,.no),(Yq34,.no),(Yq6,.no),(Yq8,.no),(Yq17,.no),(Yq9,.no),(Yq18,.no),(Yq3,.no),(Yq1,.no),(Yq7,.no),(Yq16,.no),(Yq13,.no),(Yq19,.no),(Yq24,.no),(Yq10,.no),(Yq14,.no),(Yq21,.no),(Yq35,.oi),(Yq36,.no),(Yq37,.no),(Yq41,.no)]⟩) .nil .nil) .nil)) .nil)) (.node (some ⟨false,0,true,[10,11],false,[]⟩) (.node none .nil (.node none .nil (.node none (.node none .nil (.node none .nil (.node (some ⟨true,0,false,[],true,[(Yq4,.no),(Yq5,.no),(Yq12,.no),(Yq15,.no),(Yq25,.no),(Yq33,.no),(Yq20,.no),(Yq22,.no),(Yq26,.no),(Yq27,.no),(Yq29,.no),(Yq28,.no),(Yq30,.no),(Yq11,.no),(Yq31,.no),(Yq32,.no),(Yq2,.no),(Yq23,.no),(Yq34,.no),(Yq6,.no),(Yq8,.no),(Yq17,.no),(Yq9,.no),(Yq18,.no),(Yq3,.no),(Yq1,.no),(Yq7,.no),(Yq16,.no),(Yq13,.no),(Yq19,.no),(Yq24,.no),(Yq10,.no),(Yq14,.no),(Yq21,.no),(Yq35,(.fn 937)),(Yq36,.no),(Yq37,.no),(Yq41,.no)]⟩) .nil .nil))) (.node none .nil (.node (some ⟨true,0,false,[],true,[(Yq4,(.fn 455)),(Yq5,.no),(Yq12,.no),(Yq15,.no),(Yq25,.no),(Yq33,.no),(Yq20,.no),(Yq22,.no),(Yq26,.no),(Yq27,.no),(Yq29,.no),(Yq28,.no),(Yq30,.no),(Yq67,(.fn 261)),(Yq11,(.val V.none)),(Yq31,.no),(6873456638979634544,(.fn 434)),(Yq82,(.fn 318)),(Yq32,(.val (.int 0))),(Yq2,.no),(Yq72,(.fn 297)),(Yq85,(.fn 341)),(Yq86,(.fn 427)),(Yq75,(.fn 311)),(Yq76,(.fn 365)),(409740666213,(.fn 448)),(Yq62,(.fn 374)),(Yq44,(.fn 467)),(Yq52,(.fn 304)),(Yq73,(.fn 441)),(Yq23,(.val V.none)),(Yq80,(.fn 397)),(Yq81,(.fn 420)),(Yq34,.no),(Yq6,(.fn 283)),(Yq8,.no),(Yq17,.no),(Yq9,.no),(Yq18,.no),(Yq3,.no),(Yq1,.no),(Yq7,.no),(Yq16,.no),(Yq13,.no),(Yq19,.no),(Yq24,.no),(Yq10,.no),(Yq14,.no),(Yq21,.no),(8315180240064312417,(.fn 460)),(Yq93,(.fn 489)),(1785686382,(.fn 268)),(Yq35,(.fn 210)),(Yq36,.no),(Yq37,.no),(Yq41,.no)]⟩) .nil .nil))))) .nil)) (.node none (.node none (.node none (.node none (.node none .nil (.node none (.node none (.node (some ⟨true,0,false,[],true,[(Yq4,.no),(Yq5,.no),(Yq12,.no),(Yq15,.no),(Yq25,.no),(Yq33,.no),(Yq20,.no),(Yq22,.no),(Yq26,.no),(Yq27,.no),(Yq29,.no),(Yq28,.no),(Yq30,.no),(Yq11,.no),(Yq31,.no),(Yq32,.no),(Yq2,.no),(Yq23,.no),(Yq34,.no),(Yq6,.no),(Yq8,.no),(Yq17,.no),(Yq9,.no),(Yq18,.no),(Yq3,.no),(Yq1,.no),(Yq7,.no),(Yq16,.no),(Yq13,.no),(Yq19,.no),(Yq24,.no),(Yq10,.no),(Yq14,.no),(Yq21,.no),(Yq35,(.fn 567)),(Yq36,.no),(Yq37,.no),(Yq41,.no)]⟩) .nil .nil) .nil) .nil)) .nil) .nil) (.node none (.node none (.node none (.node none (.node none .nil (.node (some ⟨false,2,true,[10,777],false,[(Yq4,.no),(Yq5,.no),(Yq12,.no),(Yq15,.no),(Yq25,.no),(Yq33,.no),(Yq20,.no),(Yq22,.no),(Yq26,.no),(Yq27,.no),(Yq29,.no),(Yq28,.no),(Yq30,.no),(Yq11,.no),(Yq31,.no),(Yq32,.no),(Yq2,.no),(Yq23,.no),(Yq34,.no),(Yq6,.no),(Yq8,.no),(Yq17,.no),(Yq9,.no),(Yq18,.no),(Yq3,.no),(Yq1,.no),(Yq7,.no),(Yq16,.no),(Yq13,.no),(Yq19,.no),(Yq24,.no),(Yq10,.no),(Yq14,.no),(Yq21,.no),(Yq35,(.fn 774)),(Yq36,.no),(Yq37,.no),(Yq41,.no)]⟩) .nil .nil)) .nil) .nil) .nil) (.node none (.node none (.node (some ⟨true,0,false,[],true,[(Yq4,.no),(Yq47,(.fn 143)),(Yq5,.no),(Yq12,.no),(Yq15,.no),(Yq25,.no),(Yq33,.no),(Yq20,.no),(Yq22,.no),(Yq26,.no),(Yq27,.no),(Yq29,.no),(Yq28,.no),(Yq30,.no),(Yq11,.no),(Yq31,.no),(Yq32,.no),(Yq2,.no),(7168368,(.fn 150)),(Yq23,.no),(Yq34,.no),(Yq6,.no),(Yq8,.no),(Yq17,.no),(Yq9,.no),(Yq18,.no),(6382692,(.fn 129)),(Yq3,.no),(Yq1,.no),(Yq7,.no),(Yq16,.no),(Yq13,.no),(Yq19,.no),(Yq24,.no),(Yq10,.no),(Yq14,.no),(Yq21,.no),(Yq35,(.fn 108)),(Yq36,(.fn 115)),(Yq37,.no),(Yq41,.no)]⟩) .nil (.node none .nil (.node (some ⟨true,0,false,[],false,[(Yq4,.no),(Yq5,.no),(Yq12,.no),(Yq15,.no),(Yq25,.no),(Yq33,.no),(Yq20,.no),(Yq22,.no),(Yq26,.no),(Yq27,.no),(Yq29,.no),(Yq28,.no),(Yq30,.no),(Yq11,.no),(Yq31,.no),(Yq32,.no),(Yq2,.no),(Yq44,(.fn 857)),(Yq65,(.fn 864)),(Yq52,(.fn 871)),(Yq53,(.fn 878)),(Yq66,(.fn 885)),(Yq68,(.fn 892)),(Yq23,.no),(Yq34,(.fn 850)),(Yq6,(.fn 911)),(Yq8,.no),(Yq17,.no),(Yq9,.no),(Yq18,.no),(Yq3,.no),(Yq1,.no),(Yq7,.no),(Yq16,.no),(Yq13,.no),(Yq19,.no),(Yq24,.no),(Yq10,.no),(Yq14,.no),(Yq39,(.fn 821)),(Yq21,.no),(Yq35,(.fn 843)),(Yq36,.no),(Yq37,.no)]⟩) .nil .nil))) .nil) .nil))) (.node (some ⟨false,0,true,[10,13],false,[]⟩) (.node none (.node none .nil (.node none (.node none (.node none (.node (some ⟨true,0,false,[],true,[(Yq4,.no),(Yq5,.no),(Yq12,.no),(Yq15,.no),(Yq25,.no),(Yq33,.no),(Yq20,.no),(Yq22,.no),(Yq26,.no),(Yq27,.no),(Yq29,.no),(Yq28,.no),(Yq30,.no),(Yq11,.no),(Yq31,.no),(Yq32,.no),(Yq2,.no),(Yq23,.no),(Yq34,.no),(Yq6,.no),(Yq8,.no),(Yq17,.no),(Yq9,.no),(Yq18,.no),(Yq3,.no),(Yq1,.no),(Yq7,.no),(Yq16,.no),(Yq13,.no),(Yq19,.no),(Yq24,.no),(Yq10,.no),(Yq14,.no),(Yq21,.no),(Yq35,(.fn 531)),(Yq36,.no),(Yq37,.no),(Yq41,.no)]⟩) .nil .nil) .nil) .nil) .nil)) .nil) (.node none .nil (.node none (.node none (.node none (.node none .nil (.node (some ⟨false,2,true,[10,31,68,797],false,[(Yq4,.no),(Yq5,.no),(Yq12,.no),(Yq15,.no),(Yq25,.no),(Yq33,.no),(Yq20,.no),(Yq22,.no),(Yq26,.no),(Yq27,.no),(Yq29,.no),(Yq28,.no),(Yq30,.no),(Yq11,.no),(Yq31,.no),(Yq32,.no),(Yq2,.no),(Yq23,.no),(Yq34,.no),(Yq6,.no),(Yq8,.no),(Yq17,.no),(Yq9,.no),(Yq18,.no),(Yq3,.no),(Yq1,.no),(Yq7,.no),(Yq16,.no),(Yq13,.no),(Yq19,.no),(Yq24,.no),(Yq10,.no),(Yq14,.no),(Yq21,.no),(Yq35,(.fn 794)),(Yq36,.no),(Yq37,.no),(Yq41,.no)]⟩) .nil .nil)) .nil) (.node none (.node none (.node (some ⟨true,0,false,[],true,[(Yq4,.no),(Yq5,.no),(Yq12,.no),(Yq15,.no),(Yq25,.no),(Yq33,.no),(Yq20,.no),(Yq22,.no),(Yq26,.no),(Yq27,.no),(Yq29,.no),(Yq28,.no),(Yq30,.no),(Yq11,.no),(Yq31,.no),(Yq32,.no),(Yq2,.no),(Yq23,.no),(Yq34,.no),(Yq6,.no),(Yq8,.no),(Yq17,.no),(Yq9,.no),(Yq18,.no),(Yq3,.no),(Yq1,.no),(Yq7,.no),(Yq16,.no),(Yq13,.no),(Yq19,.no),(Yq24,.no),(Yq10,.no),(Yq14,.no),(Yq21,.no),(Yq35,(.fn 595)),(Yq36,.no),(Yq37,.no),(Yq41,.no)]⟩) .nil .nil) .nil) .nil)) .nil))))) (.node none (.node none (.node none (.node none .nil (.node none (.node (some ⟨false,1,true,[10,31,80],false,[]⟩) .nil .nil) .nil)) (.node none .nil (.node (some ⟨false,1,true,[10,31,56],false,[]⟩) .nil (.node none (.node none (.node none .nil (.node (some ⟨true,0,false,[],true,[(Yq4,.no),(Yq5,.no),(Yq12,.no),(Yq15,.no),(Yq25,.no),(Yq33,.no),(Yq20,.no),(Yq22,.no),(Yq26,.no),(Yq27,.no),(Yq29,.no),(Yq28,.no),(Yq30,.no),(Yq11,.no),(Yq31,.no),(Yq32,.no),(Yq2,.no),(Yq23,.no),(Yq34,.no),(Yq6,.no),(Yq8,.no),(Yq17,.no),(Yq9,.no),(Yq18,.no),(Yq3,.no),(Yq1,.no),(Yq7,.no),(Yq16,.no),(Yq13,.no),(Yq19,.no),(Yq24,.no),(Yq10,.no),(Yq14,.no),(Yq39,(.fn 821)),(Yq21,.no),(Yq35,(.fn 814)),(Yq36,.no),(Yq37,.no),(Yq41,.no)]⟩) .nil .nil)) .nil) .nil)))) (.node (some ⟨false,0,true,[10,12],false,[]⟩) (.node none (.node none (.node (some ⟨false,1,true,[10,31,68],false,[]⟩) .nil .nil) .nil) (.node none .nil (.node none .nil (.node none .nil (.node none (.node (some ⟨true,0,false,[],true,[(Yq4,.no),(Yq5,.no),(Yq12,.no),(Yq15,.no),(Yq25,.no),(Yq33,.no),(Yq20,.no),(Yq22,.no),(Yq26,.no),(Yq27,.no),(Yq29,.no),(Yq28,.no),(Yq30,.no),(Yq11,.no),(Yq31,.no),(Yq32,.no),(Yq2,.no),(Yq44,(.fn 715)),(Yq52,(.fn 708)),(1718773093,(.fn 659)),(Yq23,.no),(Yq34,.no),(Yq6,(.fn 730)),(Yq8,.no),(Yq17,.no),(Yq9,.no),(Yq18,.no),(6776180,(.fn 652)),(Yq3,.no),(Yq1,.no),(Yq7,.no),(Yq16,.no),(Yq13,.no),(Yq19,.no),(Yq24,.no),(Yq10,.no),(Yq14,.no),(Yq21,.no),(422608071022,(.fn 638)),(Yq94,(.fn 666)),(Yq35,(.fn 631)),(Yq36,.no),(Yq37,.no),(Yq41,.no)]⟩) .nil .nil) .nil))))) (.node none (.node (some ⟨false,1,true,[10,31,44],false,[]⟩) .nil .nil) (.node none (.node (some ⟨false,1,true,[10,31,92],false,[]⟩) .nil .nil) .nil)))) (.node none (.node (some ⟨false,0,true,[10],false,[]⟩) .nil .nil) (.node none (.node none .nil (.node none (.node none .nil (.node none .nil (.node none .nil (.node (some ⟨true,0,false,[],false,[(Yq4,.no),(Yq5,.no),(Yq12,.no),(Yq15,.no),(Yq25,.no),(Yq33,.no),(Yq20,.no),(Yq22,.no),(Yq26,.no),(Yq27,.no),(Yq29,.no),(Yq28,.no),(Yq30,.no),(Yq11,.no),(Yq31,.no),(Yq32,.no),(Yq2,.no),(Yq59,(.fn 972)),(Yq57,(.fn 979)),(Yq23,.no),(Yq34,.no),(Yq6,.no),(Yq8,.no),(Yq61,(.fn 965)),(Yq17,.no),(Yq9,.no),(Yq18,.no),(Yq3,.no),(Yq1,.no),(Yq7,.no),(Yq16,.no),(Yq13,.no),(Yq19,.no),(Yq24,.no),(Yq10,.no),(Yq14,.no),(Yq39,(.fn 821)),(Yq21,.no),(Yq35,(.fn 814)),(Yq36,.no),(Yq37,.no),(Yq41,.no)]⟩) .nil .nil)))) .nil)) .nil))))
noncomputable def Zlr:List (Nat × V):=[(7103854,(.bi 1)),(1818850164,(.bi 2)),(Yq43,(.top 167)),(24599792060687732,(.top 153)),(Yq60,(.top 44)),(Yq71,(.bi 12)),(Yq88,(.top 577)),(1538102670320403574388,(.top 549)),(Yq45,(.bi 10)),(Yq84,(.top 56)),(125814077875577,(.top 510)),(104902150612083,(.top 517)),(Yq83,(.top 191)),(Yq63,(.bi 11)),(29380545762063474,(.bi 7)),(1558277107616530460530,(.bi 13)),(Yq79,(.top 605)),(Yq91,(.top 92)),(Yq77,(.top 499)),(Yq92,(.top 616)),(Yq90,(.top 80)),(23192438821839212,(.top 777)),(22625146622275175,(.top 797)),(Yq78,(.top 947)),(Yq95,(.top 756)),(Yq70,(.top 999)),(1684628340,(.bi 14)),(Yq96,(.top 982)),(21780699915183474,(.top 921)),(491260897125,(.bi 3)),(450624087419648520054131,(.top 991)),(1760250341483103612004,(.top 1006)),(1760250341482968478580,(.top 992))]
noncomputable def tabs9:List (Addr × Addr × Str):=[(1010,1008,"law.<locals>."),(303,299,"Transaction.commit.<locals>."),(426,422,"Transaction._commitResources.<locals>."),(466,462,"Transaction.abort.<locals>."),(615,611,"_new_transaction.<locals>.")]
noncomputable def P9:Prg:=⟨fns9,ZmB,Zlr,[304,427,467,616],[(573,(4,1751474546))]⟩
noncomputable def Zjo:E:=(.b 8 0 (.b 9 0 (.b 5 0 (.k 4 Yq46) Yk) (.t 1 0 (.k 3 Yq95) Yk Yk)) (.b 8 0 (.b 9 0 (.b 5 0 (.k 5 Yq48) Yk) (.u 2 0 (.b 5 0 (.u 2 0 (.b 5 0 (.c (.int 1)) Yk)) (.b 5 0 (.u 2 0 (.b 5 0 (.c (.int 1)) Yk)) (.b 5 0 (.u 2 0 Yk) (.b 5 0 (.u 2 0 (.b 5 0 (.c (.int 2)) (.b 5 0 (.c (.int 1)) Yk))) Yk)))))) (.b 8 0 (.b 9 0 (.b 5 0 (.k 4 Yq42) Yk) (.u 2 0 (.b 5 0 (.u 3 0 (.b 5 0 (.c (.str Yq42)) (.b 5 0 (.c (.int 0)) Yk))) (.b 5 0 (.u 3 0 (.b 5 0 (.c (.str Yq42)) (.b 5 0 (.c (.int 0)) Yk))) (.b 5 0 (.u 3 0 (.b 5 0 (.c (.str Yq42)) (.b 5 0 (.c (.int 0)) Yk))) (.b 5 0 (.u 3 0 (.b 5 0 (.c (.str Yq42)) (.b 5 0 (.c (.int 0)) Yk))) Yk)))))) (.b 8 0 (.b 9 0 (.b 5 0 (.k 5 448377483876) Yk) (.u 2 0 Yk)) (.b 8 0 (.b 10 1751474546 (.k 4 1751474546) (.f ⟨573,4,[Yq3,Yq1,444150998382],[],[],[448377483876,Yq48]⟩ (.b 8 0 (.u 6 0 (.t 2 Yq40 (.k 2 448377483876) (.b 5 0 (.u 3 0 (.b 5 0 (.k 1 Yq1) (.b 5 0 (.t 1 0 (.k 3 Yq70) (.b 5 0 (.k 1 444150998382) (.b 5 0 (.k 2 Yq48) Yk)) Yk) (.b 5 0 (.t 1 0 (.k 3 1684628340) (.b 5 0 (.u 1 Yq22 (.k 1 444150998382)) Yk) Yk) Yk)))) Yk) Yk)) Yk))) (.b 8 0 (.u 6 0 (.t 2 Yq94 (.k 1 Yq46) (.b 5 0 (.t 1 0 (.k 3 Yq96) (.b 5 0 (.c (.int 9)) (.b 5 0 (.u 4 0 Yk) (.b 5 0 (.u 2 0 Yk) (.b 5 0 (.k 1 1751474546) Yk)))) Yk) Yk) Yk)) (.b 8 0 (.b 9 0 (.b 5 0 (.k 4 Yq7) Yk) (.u 4 0 Yk)) (.b 8 0 (.b 9 0 (.b 5 0 (.k 4 495874699877) Yk) (.t 1 0 (.k 3 21780699915183474) (.b 5 0 (.c (.int 1)) (.b 5 0 (.c (.str 97)) (.b 5 0 (.k 1 Yq7) (.b 5 0 (.u 2 0 Yk) Yk)))) Yk)) (.b 8 0 (.b 9 0 (.b 5 0 (.k 4 6583653) Yk) (.u 2 0 Yk)) (.b 8 0 (.b 9 0 (.b 5 0 (.k 4 435643770212) Yk) (.u 2 0 Yk)) (.b 8 0 (.b 9 0 (.b 5 0 (.k 4 Yq38) Yk) (.c V.none)) (.b 8 0 (.b 9 0 (.b 5 0 (.k 4 Yq54) Yk) (.c (.bool false))) (.b 8 0 (.b 9 0 (.b 5 0 (.k 5 Yq49) Yk) (.k 1 Yq42)) (.b 8 0 (.b 9 0 (.b 5 0 (.k 4 Yq50) Yk) (.u 4 0 Yk)) Yk))))))))))))))
noncomputable def ZfC:E:=(.b 8 0 (.b 9 0 (.b 5 0 (.k 4 Yq1) Yk) (.b 2 3 (.k 2 Yq51) (.c (.int 8)))) (.b 8 0 (.t 6 0 (.b 3 0 (.k 1 Yq1) (.c (.int 7))) (.b 8 0 (.b 9 0 (.b 5 0 (.b 7 0 (.k 1 Yq7) (.c (.str Yq53))) Yk) (.b 2 1 (.c (.int 1)) (.t 2 6776180 (.k 1 Yq7) (.b 5 0 (.c (.str Yq53)) (.b 5 0 (.c (.int 0)) Yk)) Yk))) (.b 8 0 (.k 9 0) Yk)) Yk) (.b 8 0 (.t 6 0 (.b 0 0 (.b 3 2 (.k 1 Yq38) (.c V.none)) (.b 3 1 (.k 1 Yq1) (.c (.int 4)))) (.b 8 0 (.b 9 0 (.b 5 0 (.k 4 Yq38) Yk) (.t 2 6776180 (.k 1 Yq46) Yk Yk)) (.b 8 0 (.b 9 0 (.b 5 0 (.k 4 Yq54) Yk) (.c (.bool false))) (.b 8 0 (.b 9 0 (.b 5 0 (.k 5 Yq49) Yk) (.k 1 Yq42)) (.b 8 0 (.b 9 0 (.b 5 0 (.k 4 Yq50) Yk) (.u 4 0 Yk)) Yk)))) Yk) (.b 8 0 (.t 6 0 (.b 0 0 (.b 3 1 (.k 1 Yq1) (.c (.int 4))) (.b 3 3 (.t 2 6776180 (.k 1 Yq46) Yk Yk) (.k 1 Yq38))) (.b 8 0 (.u 7 0 (.c (.bool false))) Yk) Yk) (.b 8 0 (.t 6 0 (.b 3 4 (.k 1 Yq1) (.u 2 0 (.b 5 0 (.c (.int 0)) (.b 5 0 (.c (.int 1)) Yk)))) (.b 8 0 (.b 9 0 (.b 5 0 (.k 5 Yq55) Yk) (.b 2 3 (.b 2 4 (.k 2 Yq51) (.c (.int 8))) (.c (.int 4)))) (.b 8 0 (.b 9 0 (.b 5 0 (.k 5 Yq49) Yk) (.q 0 0 (.f ⟨0,0,[],[],[],[Yq49,Yq51,Yq55]⟩ (.t 0 0 (.b 3 0 (.k 1 107) (.k 2 Yq55)) (.u 3 0 (.b 5 0 (.c (.str 499967685221)) (.b 5 0 (.b 2 3 (.b 2 4 (.k 2 Yq51) (.c (.int 32))) (.c (.int 5))) Yk))) (.b 4 0 (.k 2 Yq49) (.k 1 107)))) (.k 4 107) (.t 1 0 (.k 3 491260897125) (.b 5 0 (.c (.int 4)) Yk) Yk) Yk)) (.b 8 0 (.u 6 0 (.t 2 8315180240064312417 (.k 1 Yq38) (.b 5 0 (.b 4 0 (.k 2 Yq48) (.k 2 Yq55)) (.b 5 0 (.b 2 3 (.b 2 4 (.k 2 Yq51) (.c (.int 32))) (.c (.int 5))) Yk)) Yk)) Yk))) (.b 8 0 (.t 6 0 (.b 3 0 (.k 1 Yq1) (.c (.int 2))) (.b 8 0 (.b 9 0 (.b 5 0 (.k 4 1851878757) Yk) (.b 4 0 (.t 1 0 (.k 3 450624087419648520054131) Yk Yk) (.b 2 3 (.b 2 4 (.k 2 Yq51) (.c (.int 8))) (.c (.int 3))))) (.b 8 0 (.b 9 0 (.b 5 0 (.k 4 Yq50) Yk) (.t 1 0 (.k 3 1684628340) (.b 5 0 (.k 1 Yq50) Yk) Yk)) (.b 8 0 (.b 9 0 (.b 5 0 (.b 7 0 (.k 1 Yq50) (.k 1 1851878757)) Yk) (.b 2 3 (.b 2 4 (.k 2 Yq51) (.c (.int 24))) (.c (.int 5)))) (.b 8 0 (.u 6 0 (.t 2 Yq93 (.k 1 Yq38) (.b 5 0 (.k 1 1851878757) (.b 5 0 (.b 2 3 (.b 2 4 (.k 2 Yq51) (.c (.int 24))) (.c (.int 5))) Yk)) Yk)) Yk)))) (.b 8 0 (.t 6 0 (.b 3 0 (.k 1 Yq1) (.c (.int 3))) (.b 8 0 (.u 6 0 (.t 2 Yq40 (.b 4 0 (.k 2 Yq48) (.b 2 3 (.b 2 4 (.k 2 Yq51) (.c (.int 8))) (.c (.int 4)))) (.b 5 0 (.c (.int 1)) Yk) Yk)) Yk) (.b 8 0 (.t 6 0 (.b 0 0 (.b 3 0 (.k 1 Yq1) (.c (.int 5))) (.u 0 0 (.k 1 Yq54))) (.b 8 0 (.u 6 0 (.t 2 1785686382 (.k 1 Yq38) (.b 5 0 (.k 1 495874699877) Yk) Yk)) Yk) Yk) (.b 8 0 (.b 9 0 (.b 5 0 (.k 4 107127011501426) Yk) (.c (.str 28523))) (.b 8 0 (.t 6 0 (.b 0 0 (.b 3 0 (.k 1 Yq1) (.c (.int 5))) (.k 1 Yq54)) (.b 8 0 (.b 9 0 (.b 5 0 (.k 4 107127011501426) Yk) (.c (.str Yq60))) Yk) (.b 8 0 (.t 6 0 (.b 3 3 (.k 1 Yq38) (.c V.none)) (.b 8 0 (.u 6 0 (.t 2 Yq40 (.k 1 6583653) (.b 5 0 (.u 3 0 (.b 5 0 (.c (.str Yq59)) (.b 5 0 (.k 2 Yq49) (.b 5 0 (.k 1 Yq50) Yk)))) Yk) Yk)) (.b 8 0 (.u 6 0 (.t 2 Yq40 (.k 1 6583653) (.b 5 0 (.u 3 0 (.b 5 0 (.c (.str Yq57)) (.b 5 0 (.k 2 Yq49) (.b 5 0 (.k 1 Yq50) Yk)))) Yk) Yk)) (.b 8 0 (.t 6 0 (.b 0 0 (.b 3 0 (.k 1 Yq1) (.c (.int 5))) (.b 3 0 (.t 2 6776180 (.k 1 Yq7) (.b 5 0 (.c (.str Yq53)) (.b 5 0 (.c (.int 0)) Yk)) Yk) (.c (.int 1)))) (.b 8 0 (.b 9 0 (.b 5 0 (.k 4 107127011501426) Yk) (.c (.str Yq53))) (.b 8 0 (.b 9 0 (.b 5 0 (.k 4 Yq54) Yk) (.c (.bool true))) Yk)) (.b 8 0 (.u 6 0 (.t 2 Yq40 (.k 1 435643770212) (.b 5 0 (.k 1 Yq38) Yk) Yk)) (.b 8 0 (.b 9 0 (.b 5 0 (.k 4 Yq38) Yk) (.c V.none)) Yk))) Yk))) Yk) Yk)) (.b 8 0 (.t 6 0 (.b 3 0 (.k 1 Yq1) (.c (.int 4))) (.b 8 0 (.u 6 0 (.t 2 Yq40 (.k 1 6583653) (.b 5 0 (.u 3 0 (.b 5 0 (.c (.str Yq61)) (.b 5 0 (.k 1 Yq42) (.b 5 0 (.u 4 0 Yk) Yk)))) Yk) Yk)) Yk) Yk) (.b 8 0 (.t 6 0 (.b 3 1 (.t 1 0 (.k 3 1760250341483103612004) (.b 5 0 (.k 1 Yq46) (.b 5 0 (.k 1 Yq1) Yk)) Yk) (.k 1 107127011501426)) (.b 8 0 (.u 7 0 (.c (.bool false))) Yk) Yk) (.b 8 0 (.t 6 0 (.b 3 0 (.k 1 Yq1) (.c (.int 4))) (.b 8 0 (.b 9 0 (.b 5 0 (.k 4 Yq38) Yk) (.t 2 6776180 (.k 1 Yq46) Yk Yk)) (.b 8 0 (.b 9 0 (.b 5 0 (.k 4 Yq54) Yk) (.c (.bool false))) (.b 8 0 (.b 9 0 (.b 5 0 (.k 5 Yq49) Yk) (.k 1 Yq42)) (.b 8 0 (.b 9 0 (.b 5 0 (.k 4 Yq50) Yk) (.u 4 0 Yk)) Yk)))) Yk) Yk))))))) Yk)) Yk)) (.b 8 0 (.t 6 0 (.b 0 0 (.b 3 3 (.k 1 Yq38) (.c V.none)) (.b 1 0 (.b 3 1 (.t 1 0 (.k 3 Yq70) (.b 5 0 (.k 1 Yq38) (.b 5 0 (.k 2 Yq48) Yk)) Yk) (.k 2 Yq49)) (.b 3 1 (.u 1 Yq22 (.k 1 Yq38)) (.k 1 Yq50)))) (.b 8 0 (.u 7 0 (.c (.bool false))) Yk) Yk) Yk))))))
noncomputable def Zjp:E:=(.k 5 121450625394034)
noncomputable def ZmP:E:=(.b 8 0 (.t 7 0 (.k 4 7302757) (.k 1 435643770212) (.b 8 0 (.t 6 0 (.b 1 0 (.b 3 2 (.k 1 7302757) (.k 1 Yq38)) (.b 3 1 (.t 1 0 (.k 3 Yq70) (.b 5 0 (.k 1 7302757) (.b 5 0 (.k 2 Yq48) Yk)) Yk) (.k 1 Yq42))) (.b 8 0 (.u 7 0 (.c (.bool false))) Yk) Yk) Yk)) (.b 8 0 (.u 7 0 (.b 3 0 (.k 2 448377483876) (.k 1 6583653))) Yk))
end
end Mn
end
section
set_option maxHeartbeats 0
open PySem PySem.W PyProof.Rows
namespace Mn
noncomputable section
noncomputable def seqK (f:Nat→Obj):Nat→Nat→Frag→Frag
 | 0,_,r=>r
 | n + 1,a,r=>(a,f a) :: seqK f n (a + 1) r
noncomputable def frs (f:Nat→Obj):List (Nat × Nat)→Frag
 | []=>[]
 | (a,n) :: l=>seqK f n a (frs f l)
noncomputable def K9 (P:Params):Frag:=frs (fun a=>((t4 P).get a).getD default) kr9
end
end Mn
end
section
set_option maxHeartbeats 0
open PySem PySem.W PyProof.Rows
namespace Mn
noncomputable section
theorem kg9 (P:Params):P9.globs.all (ZeT (K9 P))=true:=by kernel_rfl
theorem kc9 (P:Params):(P9.clss.toL 1 0).all (clsB (K9 P))=true:=by kernel_rfl
theorem kf9 (P:Params):(P9.fns.toL 1 0).map (fun p=>fnE (K9 P) P9.mks tabs9 p.1)=(P9.fns.toL 1 0).map fun p=>some (Zjm p.2):=by kernel_rfl
theorem kl9:(P9.fns.toL 1 0).all (fun p=>ZgY P9 p.2)=true:=by kernel_rfl
theorem kx9 (P:Params):exmB (K9 P) (P9.clss.toL 1 0)=true:=by kernel_rfl
theorem kd9:P9.defs.all (fun p=>Zbd p.2.2)=true:=by kernel_rfl
theorem kt9:ZM (tabs9.map fun q=>q.2.1)=true:=by kernel_rfl
theorem pok9 (P:Params):POK P9 (K9 P) tabs9 (dnOf P9):=Zlj rfl rfl (kg9 P) (kc9 P) (kf9 P) kl9 (kx9 P) kd9 kt9
theorem kh9 (P:Params):((K9 P).map (·.1)).map (h9 P).get? = (K9 P).map fun p=>some p.2:=by kernel_rfl
theorem kin9 {w:World} {h:Heap} (Y:ZdX w h):(K9 w.params).In h:=fun a o e=>Y a o (Frag.in_of rfl (kh9 w.params) a o e)
theorem ZmC (P:Params):(tabs9.map fun q=>(h9 P).get? q.2.1)=tabs9.map fun _=>some (tabObj #[]):=by kernel_rfl
theorem Zh7 {w:World} {h:Heap} (Y:ZdX w h):∀ q ∈ tabs9,h.get? q.2.1=some (tabObj #[]):=fun q hq=>Y _ _ (List.map_inj_left.mp (ZmC w.params) q hq)
end
end Mn
end
section
set_option maxHeartbeats 0
open PySem PySem.W PyProof.Rows PySem.Calls PySem.Spec
namespace Mn
noncomputable section
noncomputable def N6:Nat:=300
noncomputable def cs6:Cs:=[(enc "owners",4),(enc "heard",3),(enc "owner",2),(enc "number",1),(enc "bears",0)]
noncomputable def mkH (l:List (Nat × O)):H:=l.foldl (fun h p=>hp h p.1 p.2) .nil
noncomputable def noR:V→KS:=fun _ _ _ _=>false
noncomputable def noX:Nat→KS:=fun _ _ _ _=>false
noncomputable def clo6:E:=.f ⟨573,4,[enc "who",enc "what",enc "given"],[],[],[enc "heard",enc "owners"]⟩ (.b 8 0 (.u 6 0 (.t 2 (enc "append") (.k 2 (enc "heard")) (.b 5 0 (.u 3 0 (.b 5 0 (.k 1 (enc "what")) (.b 5 0 (.t 1 0 (.k 3 (enc "_law_read")) (.b 5 0 (.k 1 (enc "given")) (.b 5 0 (.k 2 (enc "owners")) (.k 6 0))) (.k 6 0)) (.b 5 0 (.t 1 0 (.k 3 (enc "dict")) (.b 5 0 (.u 1 (enc "extension") (.k 1 (enc "given"))) (.k 6 0)) (.k 6 0)) (.k 6 0))))) (.k 6 0)) (.k 6 0))) (.k 6 0))
noncomputable def ZdY:V:=.tup [.str (enc "none"),.int 0]
noncomputable def Zjq:V:=.fr 0 [] [ZdY,ZdY,ZdY,ZdY]
noncomputable def Zls (k:Nat):V:=.tup [.str (enc "there"),.sint (70 + k)]
noncomputable def Zlt (js:List Nat):V:=.fr 0 [] ([0,1,2,3].map fun k=>bif mem js k then Zls k else ZdY)
noncomputable def st6 (cur failed:Bool) (js:List Nat):H:=mkH ([(0,.cell (bif cur then some (Zlt js) else none)),(1,.cell none),(2,.cell none),(3,.cell (some (.ref 14))),(4,.cell (some (.ref 12))),
 (5,.inst 756 [(enc "explicit",.bool false),(enc "_txn",bif cur then .ref 27 else .none),(enc "_synchs",.ref 6)]),(6,.inst 153 [(enc "data",.ref 7)]),(7,.list [.ref 18]),(8,.elist 0 []),(9,.elist 0 []),(10,.elist 0 []),(11,.elist 0 []),(12,.list [.ref 8,.ref 9,.ref 10,.ref 11]),
 (14,.elist 2 []),(15,.clos clo6 [(enc "owners",4),(enc "heard",3)]),(16,.dict []),(17,.elist 0 []),(18,.inst 982 [(enc "who",.int 9),(enc "plan",.ref 16),(enc "log",.ref 17),(enc "deed",.ref 15)]),(19,.pmap 0 []),(20,.elist 0 []),
 (21,.inst 921 [(enc "who",.int 1),(enc "key",.str 97),(enc "plan",.ref 19),(enc "log",.ref 20),(enc "deed",.none),(enc "kept",.int 0),(enc "value",.int 0),(enc "ready",.none)]),(22,.elist 2 []),(23,.elist 3 [])] ++
 bif cur then[(27,.inst 499 ([(enc "status",.str (bif failed then enc "Commit failed" else enc "Active")),(enc "_resources",.ref 28),(enc "_synchronizers",.ref 6),(enc "_manager",.ref 5),(enc "_adapters",.ref 29),(enc "_voted",.ref 30),(enc "extension",.ref 31),
  (enc "_failure_traceback",bif failed then .str (enc "failed") else .none),(enc "_before_commit",.ref 32),(enc "_after_commit",.ref 33),(enc "_before_abort",.ref 34),(enc "_after_abort",.ref 35)]++bif js.isEmpty then[] else[(enc "_data",.ref 36)])),
  (28,.list (bif failed then[.ref 21] else[])),(29,.dict []),(30,.list []),(31,.gdict []),(32,.list []),(33,.list []),(34,.list []),(35,.list [])]++(bif js.isEmpty then[] else[(36,.list (js.map fun k=>.tup [.ref (8 + k),.sint (70 + k)]))]) else[])
noncomputable def lo6 (cur failed:Bool):Lo:=[(enc "boundary",.ref 5),(enc "none",Zjq),(enc "plan",.ref 19),(enc "store",.ref 21),(enc "due",.ref 22),(enc "ended",.ref 23),(enc "current",bif cur then .ref 27 else .none)]++bif cur then[(enc "failed",.bool failed),(enc "names",.fr 2 [] [])] else[]
noncomputable def Zg0 (k:Nat):List Nat:=[enc "tpc_vote"]
noncomputable def Zcg (k:Nat):List Nat:=[enc "tpc_begin",enc "commit",enc "tpc_finish",enc "abort",enc "tpc_abort"]
noncomputable def pmO6:List (Nat × Nat × Int × V):=(9,0,Int.ofNat (enc "tpc_vote"),.tup [.int 0,.int 1]) :: (Zcg 0).map fun s=>(9,0,Int.ofNat s,.int 0)
noncomputable def ora6 (what o:Nat):List (Nat × Nat × Int × V):=
 [(3,51,8,.int (.ofNat what)),(4,51,8,.sint 52),(4,51,24,.sint 53),(4,51,32,.sint 54),(3,52,4,bif Nat.beq what 2||Nat.blt 3 what then .sint 57 else .int (.ofNat o)),(3,52,3,bif Nat.beq what 2 then .int (.ofNat o) else .sint 58),(3,53,5,.sint 56),(3,54,5,.sint 55)]++pmO6
noncomputable def hd6 (ora:List (Nat × Nat × Int × V)):Hd:=⟨cs6,none,ora,true⟩
noncomputable def run6 (cur failed:Bool) (js:List Nat) (ora:List (Nat × Nat × Int × V)) (k:KS):Bool:=(rec P9 N6).asg Zjp (.sint 51) (hd6 ora) (st6 cur failed js) 37 (lo6 cur failed) (fun h nx lo=>(rec P9 N6).ex ZfC (hd6 ora) h nx lo k (fun _ _ _=>false) k noR noX) noX
noncomputable def nth (l:List V) (i:Nat):V:=(l[i]?).getD .none
noncomputable def fld (f:Lo) (s:Nat):V:=(look f s).getD .none
noncomputable def elOf (h:H) (a:Nat):List V:=(ZcL h a).elim [] fun p=>p.2
noncomputable def pmOf (h:H) (a:Nat):Lo:=(Zdt h a).elim [] fun p=>p.2
noncomputable def isT (v:V):Bool:=og (Zbo v) id
noncomputable def ZdZ (v:V):List Nat:=@Option.rec Nat (fun _=>List Nat) [] (fun a=>[a]) (vRef v)
noncomputable def Zjr (v:V):List Nat:=@Option.rec (List V) (fun _=>List Nat) (ZdZ v) (fun vs=>vs.flatMap ZdZ) (vTup v)
noncomputable def ks6:List Nat:=[enc "status",enc "_resources",enc "_synchronizers",enc "_manager",enc "_adapters",enc "_voted",enc "extension",enc "_failure_traceback",enc "_before_commit",enc "_after_commit",enc "_before_abort",enc "_after_abort",enc "_data"]
noncomputable def end6:V:=.fr 502 ks6 [.unk 0,.unk 0,.unk 0,.unk 0,.unk 0,.unk 0,.unk 0,.unk 0,.unk 0,.unk 0,.unk 0,.unk 0,.none]
noncomputable def txn6 (h:H) (lo:Lo):Option (Nat × Lo):=Zj (vRef (fld lo (enc "current"))) fun t=>Zj (ZbE h t) fun p=>some (t,p.2)
noncomputable def Zjs (h:H) (f:Lo):List V:=@Option.rec Nat (fun _=>List V) [] (fun d=>(Zg h d).getD []) (vRef (fld f (enc "_data")))
noncomputable def own6 (v:V):Nat:=@Option.rec (List V) (fun _=>Nat) 99 (fun l=>@Option.rec Nat (fun _=>Nat) 99 (fun a=>a - 8) (vRef (nth l 0))) (vTup v)
noncomputable def val6 (v:V):V:=@Option.rec (List V) (fun _=>V) .none (fun l=>nth l 1) (vTup v)
noncomputable def slots6:List Nat:=[0,1,2,3,4,5,6,7,8,9,10,11,12,14,15,16,17,18,19,20,21,22,23]
noncomputable def at6 (k:Nat) (v:V) (z:List (Nat × Nat)):List (Nat × Nat):=@Option.rec Nat (fun _=>List (Nat × Nat)) z (fun a=>(k,a) :: z) (vRef v)
noncomputable def map6 (t:Nat) (f:Lo):List (Nat × Nat):=(27,t) :: at6 28 (fld f (enc "_resources")) (at6 29 (fld f (enc "_adapters")) (at6 30 (fld f (enc "_voted")) (at6 31 (fld f (enc "extension")) (at6 32 (fld f (enc "_before_commit")) (at6 33 (fld f (enc "_after_commit"))
 (at6 34 (fld f (enc "_before_abort")) (at6 35 (fld f (enc "_after_abort")) (at6 36 (fld f (enc "_data")) (slots6.map fun a=>(a,a))))))))))
noncomputable def num6 (rows:List V) (v:V) (k:Nat):Bool:=rows.any fun r=>Nat.beq k (70 + own6 r)&&(Zy v&&beqS v (val6 r))
noncomputable def q6 (h:H) (lo:Lo) (cur:Bool) (ext:V):SmP:=
 let fz:=(bif cur then ZdZ ((Zbf h 0).elim .none fun v=>v.getD .none)++ZdZ (fld lo (enc "names")) else[])++((elOf h 14).flatMap Zjr++((elOf h 22).flatMap Zjr++(elOf h 23).flatMap ZdZ))
 ⟨0,(elOf h 22).map (cl h fz 5),fun k=>bif Nat.beq k 0 then pmOf h 19 else[],(elOf h 23).map fun _=>end6,fz,@Option.rec Nat (fun _=>Nat × Lo) (1,[]) (fun a=>(ZaK h a).getD (1,[])) (vRef ext)⟩
noncomputable def Zg1 (l:Lo):Bool:=l.all fun p=>og (vInt p.2) fun i=>bif mem (Zcg 0) p.1 then decide (i=0) else decide (0≤i)&&decide (i < 2)
noncomputable def all6:List (List Nat):=[[],[0],[1],[2],[3],[0,1],[0,2],[0,3],[1,0],[1,2],[1,3],[2,0],[2,1],[2,3],[3,0],[3,1],[3,2],[0,1,2],[0,1,3],[0,2,1],[0,2,3],[0,3,1],[0,3,2],[1,0,2],[1,0,3],[1,2,0],[1,2,3],[1,3,0],[1,3,2],[2,0,1],[2,0,3],[2,1,0],[2,1,3],[2,3,0],[2,3,1],[3,0,1],[3,0,2],[3,1,0],[3,1,2],[3,2,0],[3,2,1],[0,1,2,3],[0,1,3,2],[0,2,1,3],[0,2,3,1],[0,3,1,2],[0,3,2,1],[1,0,2,3],[1,0,3,2],[1,2,0,3],[1,2,3,0],[1,3,0,2],[1,3,2,0],[2,0,1,3],[2,0,3,1],[2,1,0,3],[2,1,3,0],[2,3,0,1],[2,3,1,0],[3,0,1,2],[3,0,2,1],[3,1,0,2],[3,1,2,0],[3,2,0,1],[3,2,1,0]]
noncomputable def okJ6 (js:List Nat):Bool:=all6.any (beqN js)
noncomputable def Zd0 (h:H) (lo:Lo) (cur failed:Bool) (ext:V) (rows:List V) (f:List (Nat × Nat)):Bool:=okJ6 (rows.map own6)&&(Zg1 (pmOf h 19)&&(Nat.ble (q6 h lo cur ext).gn.2.length 5&&(Nat.ble (elOf h 23).length 1&&simB (q6 h lo cur ext) (num6 rows) f h lo cs6 (st6 cur failed (rows.map own6)) 37 (lo6 cur failed))))
noncomputable def ZaN (h:H) (_:Nat) (lo:Lo):Bool:=@Option.rec (Nat × Lo) (fun _=>Bool) (ZS (fld lo (enc "current"))&&Zd0 h lo false false .none [] (slots6.map fun a=>(a,a)))
 (fun p=>Zd0 h lo true (isT (fld lo (enc "failed"))) (fld p.2 (enc "extension")) (Zjs h p.2) (map6 p.1 p.2)) (txn6 h lo)
noncomputable def Zv (cur failed:Bool) (js:List Nat) (what o:Nat):Bool:=run6 cur failed js (ora6 what o) ZaN
noncomputable def Zd (cur failed:Bool) (js:List Nat):Bool:=(Zv cur failed js 0 0&&(Zv cur failed js 0 1&&(Zv cur failed js 0 2&&Zv cur failed js 0 3)))&&((Zv cur failed js 1 0&&(Zv cur failed js 1 1&&(Zv cur failed js 1 2&&Zv cur failed js 1 3))) &&
 ((Zv cur failed js 2 0&&(Zv cur failed js 2 1&&Zv cur failed js 2 2))&&((Zv cur failed js 3 0&&(Zv cur failed js 3 1&&(Zv cur failed js 3 2&&Zv cur failed js 3 3)))&&(Zv cur failed js 4 0&&(Zv cur failed js 5 0&&(Zv cur failed js 6 0&&Zv cur failed js 7 0))))))
end
end Mn
end
section
set_option maxHeartbeats 0
open PySem PySem.W PyProof.Rows PySem.Calls PySem.Spec
namespace Mn
noncomputable section
structure Pr6 where
 x:Int
 d:Nat→Int
 gh:Nat→List V
 pm:Nat→Nat→Int
 cap:Nat
 fz:List (Addr × Obj)
 gd:List (Nat × Int)
noncomputable def Zbx (ds:List Int) (p:Pr6) (k:Nat):Int:=
 if k=50 then 0 else if k=51 then p.x else if k=52 then p.x.fdiv 8 else if k=53 then p.x.fdiv 24 else if k=54 then p.x.fdiv 32 else if k=55 then(p.x.fdiv 32).fmod 5 else if k=56 then(p.x.fdiv 24).fmod 5
 else if k=57 then(p.x.fdiv 8).fmod 4 else if k=58 then(p.x.fdiv 8).fmod 3 else if k < 100 then p.d (k - 70) else ds.getD (k - 100) 0
noncomputable def pk6 (k:Nat):List Nat:=Zg0 k++Zcg k
noncomputable def g6 (w:World) (mg mb:Str→Option Value) (mean:ExcName→Option Value) (s₁:Shared) (sa:Addr) (ds:List Int) (p:Pr6):Gl:=
 ZgZ rr9.prog w (K9 w.params) P9 (looseW v9 lo9++(recsOf v9).map (·.name)++(litsOf v9).map (·.1)++(clssOf v9 (looseW v9 lo9)).map (·.name)) mean mg mb s₁ tabs9 (fun k v=>k=1→v=.ref sa) (fun _=>"") (Zbx ds p) p.gh (fun _ _=>False) p.pm pk6 p.cap p.fz p.gd
noncomputable def ZeW (pm:Nat→Nat→Int):Prop:=∀ n,(mem (Zg0 0) n=true→0≤pm 0 n∧pm 0 n < 2)∧(mem (Zcg 0) n=true→pm 0 n=0)
section
variable {w:World} {mg mb:Str→Option Value} {mean:ExcName→Option Value} {s₁:Shared} {sa:Addr} {ds:List Int} {p:Pr6}
theorem hU6:∀ v,(g6 w mg mb mean s₁ sa ds p).unk 0 v:=fun v h=>by cases h
theorem ZcF (m:Nat):AllS (g6 w mg mb mean s₁ sa ds p) (rec P9 m) m:=Zmp (g:=g6 w mg mb mean s₁ sa ds p) (pok9 w.params) hU6 m m (Nat.le_refl _)
theorem nn {a b:Nat} {P:Prop} (h:Nat.beq a b=false) (e:a=b):P:=by subst e; rw[Nat.beq_refl] at h; cases h
section
variable {g:Gl} {j:Nat} {c:Int} {v:V}
theorem ZbZ (x:NumC g v ((g.sint j).fmod c)):OraOK g (3,j,c,v):=⟨fun _ _=>x,fun e=>nn rfl e,fun e=>nn rfl e,fun e=>nn rfl e,fun e=>nn rfl e,fun e=>nn rfl e,fun e=>nn rfl e,fun e=>nn rfl e,fun e=>nn rfl e,fun e=>nn rfl e,fun e=>nn rfl e⟩
theorem Zen (x:NumC g v ((g.sint j).fdiv c)):OraOK g (4,j,c,v):=⟨fun e=>nn rfl e,fun _ _=>x,fun e=>nn rfl e,fun e=>nn rfl e,fun e=>nn rfl e,fun e=>nn rfl e,fun e=>nn rfl e,fun e=>nn rfl e,fun e=>nn rfl e,fun e=>nn rfl e,fun e=>nn rfl e⟩
theorem Zh8 (x:mem (g.pk j) c.toNat=true∧(g.pk j).length≤1000∧NumC g v (g.pm j c.toNat)):OraOK g (9,j,c,v):=⟨fun e=>nn rfl e,fun e=>nn rfl e,fun e=>nn rfl e,fun e=>nn rfl e,fun e=>nn rfl e,fun e=>nn rfl e,fun _=>x,fun e=>nn rfl e,fun e=>nn rfl e,fun e=>nn rfl e,fun e=>nn rfl e⟩
theorem ZaI {i:Nat} {z:Int} (e:g.sint i=z):NumIs g (.sint i) z:=.inr ⟨_,rfl,e⟩
theorem Zeo {z:Int} {m:Nat} (hm : 0 < m):NumIs g (.int (.ofNat (z.fmod (m:Nat)).toNat)) (z.fmod (m:Nat)):=.inl ⟨_,rfl,by
 rw[Int.fmod_eq_emod_of_nonneg _ (Int.natCast_nonneg _)]
 exact Int.toNat_of_nonneg (Int.emod_nonneg _ (by omega))⟩
theorem c01 {z:Int} (h : 0≤z∧z < 2):NumC g (.tup [.int 0,.int 1]) z:=by
 have:z=0∨z=1:=by omega
 have key:∀ k:V→Bool,Zdz (.tup [.int 0,.int 1]) k=true→k (.int 0)=true∧k (.int 1)=true:=fun k hk=>by
  have hk:(bif k (.int 0) then(bif k (.int 1) then true else false) else false)=true:=hk
  obtain⟨a,hk⟩:=Ze6 hk
  exact⟨a,(Ze6 hk).1⟩
 rcases this with rfl | rfl
 ·exact⟨.int 0,.inl ⟨_,rfl,rfl⟩,fun k hk=>(key k hk).1⟩
 ·exact⟨.int 1,.inl ⟨_,rfl,rfl⟩,fun k hk=>(key k hk).2⟩
end
theorem Zkm {z:Int} {m:Nat} (hm : 0 < m) : 0≤z.fmod (m:Nat)∧z.fmod (m:Nat) < (m:Nat):=by
 rw[Int.fmod_eq_emod_of_nonneg _ (Int.natCast_nonneg _)]
 exact⟨Int.emod_nonneg _ (by omega),Int.emod_lt_of_pos _ (by omega)⟩
theorem Zds {z:Int} {m:Nat} (hm : 0 < m):(z.fmod (m:Nat)).toNat < m:=by
 have:=Zkm (z:=z) hm
 omega
theorem ZiP (hp:ZeW p.pm):∀ e ∈ pmO6,OraOK (g6 w mg mb mean s₁ sa ds p) e:=fun e he=>by
 have hl:(pk6 0).length≤1000:=by decide
 rcases List.mem_cons.mp he with rfl | he
 ·exact Zh8 ⟨by kernel_rfl,hl,c01 ((hp (enc "tpc_vote")).1 (by kernel_rfl))⟩
 ·obtain⟨s,hs,rfl⟩:=List.mem_map.mp he
  exact Zh8 ⟨ZcE (List.mem_append_right _ hs),hl,NumIs.c (.inl ⟨0,rfl,((hp s).2 (ZcE hs)).symm⟩)⟩
noncomputable abbrev Zax (p:Pr6):Nat:=(p.x.fmod 8).toNat
noncomputable abbrev Zch (p:Pr6):Nat:=bif Nat.beq (Zax p) 2 then((p.x.fdiv 8).fmod 3).toNat else bif Nat.blt 3 (Zax p) then 0 else((p.x.fdiv 8).fmod 4).toNat
theorem ZiQ (hp:ZeW p.pm):∀ e ∈ ora6 (Zax p) (Zch p),OraOK (g6 w mg mb mean s₁ sa ds p) e:=fun e he=>by
 have s51:(g6 w mg mb mean s₁ sa ds p).sint 51=p.x:=rfl
 have s52:(g6 w mg mb mean s₁ sa ds p).sint 52=p.x.fdiv 8:=rfl
 have s53:(g6 w mg mb mean s₁ sa ds p).sint 53=p.x.fdiv 24:=rfl
 have s54:(g6 w mg mb mean s₁ sa ds p).sint 54=p.x.fdiv 32:=rfl
 have s55:(g6 w mg mb mean s₁ sa ds p).sint 55=(p.x.fdiv 32).fmod 5:=rfl
 have s56:(g6 w mg mb mean s₁ sa ds p).sint 56=(p.x.fdiv 24).fmod 5:=rfl
 have s57:(g6 w mg mb mean s₁ sa ds p).sint 57=(p.x.fdiv 8).fmod 4:=rfl
 have s58:(g6 w mg mb mean s₁ sa ds p).sint 58=(p.x.fdiv 8).fmod 3:=rfl
 rcases List.mem_append.mp he with he | he
 ·rcases List.mem_cons.mp he with rfl | he
  ·exact ZbZ (NumIs.c (by rw[s51]; exact Zeo (m:=8) (by decide)))
  rcases List.mem_cons.mp he with rfl | he
  ·exact Zen (NumIs.c (ZaI (by rw[s52,s51])))
  rcases List.mem_cons.mp he with rfl | he
  ·exact Zen (NumIs.c (ZaI (by rw[s53,s51])))
  rcases List.mem_cons.mp he with rfl | he
  ·exact Zen (NumIs.c (ZaI (by rw[s54,s51])))
  rcases List.mem_cons.mp he with rfl | he
  ·refine ZbZ ?_
   rw[s52]
   unfold Zch
   cases Nat.beq (Zax p) 2 with
   | true=>exact NumIs.c (ZaI s57)
   | false=>
    cases Nat.blt 3 (Zax p) with
    | true=>exact NumIs.c (ZaI s57)
    | false=>exact NumIs.c (Zeo (m:=4) (by decide))
  rcases List.mem_cons.mp he with rfl | he
  ·refine ZbZ ?_
   rw[s52]
   unfold Zch
   cases Nat.beq (Zax p) 2 with
   | true=>exact NumIs.c (Zeo (m:=3) (by decide))
   | false=>exact NumIs.c (ZaI s58)
  rcases List.mem_cons.mp he with rfl | he
  ·exact ZbZ (NumIs.c (ZaI (by rw[s56,s53])))
  rcases List.mem_cons.mp he with rfl | he
  ·exact ZbZ (NumIs.c (ZaI (by rw[s55,s54])))
  cases he
 ·exact ZiP hp e he
end
end
end Mn
end
section
set_option maxHeartbeats 0
open PySem PySem.W PyProof.Rows PySem.Calls PySem.Spec
namespace Mn
noncomputable section
noncomputable def okS6 (cur failed:Bool) (js:List Nat):Bool:=bif cur then okJ6 js else !failed&&js.isEmpty
theorem Zkn:(all6.all fun js=>ZM js&&js.all fun k=>Nat.blt k 4)=true:=by kernel_rfl
theorem Zko {js:List Nat} (h:okJ6 js=true):js ∈ all6∧js.Nodup∧∀ k ∈ js,k < 4:=by
 obtain⟨l,hl,e⟩:=List.any_eq_true.mp h
 obtain rfl:=Zad e
 obtain⟨a,b⟩:=Yb (List.all_eq_true.mp Zkn js hl)
 exact⟨hl,Zak a,fun k hk=>Nat.blt_eq.mp (List.all_eq_true.mp b k hk)⟩
theorem ZiR {l:Lo} (h:Zg1 l=true) {n:Nat} {v:V} (e:look l n=some v):(mem (Zg0 0) n=true→0≤(vInt v).getD 0∧(vInt v).getD 0 < 2)∧(mem (Zcg 0) n=true→(vInt v).getD 0=0):=by
 refine Zc (List.all_eq_true.mp h _ (ZX _ _ _ e)) fun i hi h=>?_
 have hi:vInt v=some i:=hi
 rw[hi]
 have h:(bif mem (Zcg 0) n then decide (i=0) else decide (0≤i)&&decide (i < 2))=true:=h
 cases q:mem (Zcg 0) n with
 | true=>
  rw[q] at h
  have:=of_decide_eq_true h
  subst this
  exact⟨fun _=>by decide,fun _=>rfl⟩
 | false=>
  rw[q] at h
  obtain⟨a,b⟩:=Yb h
  exact⟨fun _=>⟨of_decide_eq_true a,of_decide_eq_true b⟩,fun q2=>by cases q2⟩
structure Cl6 (h:H) (lo:Lo) (cur failed:Bool) (rows:List V) (f:List (Nat × Nat)) (q:SmP):Prop where
 ok:okS6 cur failed (rows.map own6)=true
 js:okJ6 (rows.map own6)=true
 pm:Zg1 (pmOf h 19)=true
 ln:q.gn.2.length≤5
 px:q.px=fun k=>bif Nat.beq k 0 then pmOf h 19 else[]
 dr:q.dr=0
 gy:q.gy.length≤1∧∀ v ∈ q.gy,v=end6
 sim:simB q (num6 rows) f h lo cs6 (st6 cur failed (rows.map own6)) 37 (lo6 cur failed)=true
theorem ZfD {h:H} {lo:Lo} {cur failed:Bool} {ext:V} {rows:List V} {f:List (Nat × Nat)} (e:Zd0 h lo cur failed ext rows f=true) (hc:cur=false→failed=false∧rows = []):∃ q,Cl6 h lo cur failed rows f q:=by
 obtain⟨e1,e⟩:=Yb e
 obtain⟨e2,e⟩:=Yb e
 obtain⟨e3,e⟩:=Yb e
 obtain⟨e5,e4⟩:=Yb e
 refine⟨_,?_,e1,e2,Nat.le_of_ble_eq_true e3,rfl,rfl,⟨?_,fun v hv=>?_⟩,e4⟩
 rotate_left
 ·show ((elOf h 23).map fun _=>end6).length≤1
  rw[List.length_map]
  exact Nat.le_of_ble_eq_true e5
 ·obtain⟨_,_,e⟩:=List.mem_map.mp (show v ∈ (elOf h 23).map fun _=>end6 from hv)
  exact e.symm
 cases cur with
 | true=>exact e1
 | false=>obtain⟨rfl,rfl⟩:=hc rfl; rfl
theorem Zh9 {h:H} {nx:Nat} {lo:Lo} (e:ZaN h nx lo=true):∃ cur failed rows f q,Cl6 h lo cur failed rows f q:=by
 unfold ZaN at e
 cases ht:txn6 h lo with
 | none=>
  rw[ht] at e
  obtain⟨_,e⟩:=Yb (show (ZS (fld lo (enc "current"))&&Zd0 h lo false false .none [] (slots6.map fun a=>(a,a)))=true from e)
  obtain⟨q,C⟩:=ZfD e fun _=>⟨rfl,rfl⟩
  exact⟨_,_,_,_,q,C⟩
 | some p=>
  rw[ht] at e
  obtain⟨q,C⟩:=ZfD (show Zd0 h lo true (isT (fld lo (enc "failed"))) (fld p.2 (enc "extension")) (Zjs h p.2) (map6 p.1 p.2)=true from e) nofun
  exact⟨_,_,_,_,q,C⟩
theorem ZfE:∀ {rows:List V} {r:V},(rows.map own6).Nodup→r ∈ rows→rows.find? (fun x=>Nat.beq (own6 x) (own6 r))=some r
 | x :: rows,r,nd,h=>by
  obtain⟨n1,n2⟩:=List.nodup_cons.mp nd
  rw[List.find?_cons]
  rcases List.mem_cons.mp h with rfl | h
  ·rw[Nat.beq_refl]
  ·have:Nat.beq (own6 x) (own6 r)=false:=by
    rw[← Bool.not_eq_true,Nat.beq_eq]
    exact fun e=>n1 (e ▸ List.mem_map_of_mem h)
   rw[this]
   exact ZfE n2 h
section
variable {w:World} {mg mb:Str→Option Value} {mean:ExcName→Option Value} {s₁:Shared} {sa:Addr} {ds:List Int}
noncomputable def Zg2 (g:Gl) (σ : St) (p:Pr6) (q:SmP) (rows:List V) (x:Int):Pr6:=
 ⟨x,fun k=>evI g (val6 ((rows.find? fun r=>Nat.beq (own6 r) k).getD .none)),fun i=>bif Nat.beq i 0 then p.gh 0++q.gx.map (insV g) else p.gh 1++q.gy,fun k n=>@Option.rec V (fun _=>Int) (p.pm k n) (fun v=>(vInt v).getD 0) (look (q.px k) n),p.cap + 1000,p.fz++Zar σ q.fz,
  bif Nat.beq q.gn.1 1 then q.gn.2.map (evP g) else gdUp g q.gn.2⟩
theorem Zkp {p:Pr6} {σ : St} {q:SmP} {rows:List V} {x:Int} (hj:okJ6 (rows.map own6)=true):ZaW (g6 w mg mb mean s₁ sa ds p) (g6 w mg mb mean s₁ sa ds (Zg2 (g6 w mg mb mean s₁ sa ds p) σ p q rows x)) (num6 rows):=fun v k h σ' rv vr=>by
 obtain⟨_,nd,lt⟩:=Zko hj
 obtain⟨r,hr,h⟩:=List.any_eq_true.mp h
 obtain⟨h1,h⟩:=Yb h
 obtain⟨h2,h3⟩:=Yb h
 obtain rfl:=Yn h1
 obtain rfl:=Zei h3
 obtain⟨t,e⟩:=Zfi h2 vr
 refine⟨t,?_⟩
 have hl:=lt _ (List.mem_map_of_mem hr)
 rw[e]
 congr 1
 show evI _ (val6 r)=Zbx ds _ (70 + own6 r)
 unfold Zbx
 rw[if_neg (by omega),if_neg (by omega),if_neg (by omega),if_neg (by omega),if_neg (by omega),if_neg (by omega),if_neg (by omega),if_neg (by omega),if_neg (by omega),if_pos (by omega),Nat.add_sub_cancel_left]
 show _=evI _ (val6 ((rows.find? fun x=>Nat.beq (own6 x) (own6 r)).getD .none))
 rw[ZfE nd hr]
 rfl
structure At6 (w:World) (mg mb:Str→Option Value) (mean:ExcName→Option Value) (s₁:Shared) (sa:Addr) (ds:List Int) (env:Env) (L:Addr) (i:Nat) (p:Pr6) (cur failed:Bool) (js:List Nat) (σ : St):Prop where
 R:∀ ora,Rel (g6 w mg mb mean s₁ sa ds p) (Zo env L cs6 ora) σ
 h : σ.h=st6 cur failed js
 nx : σ.nx=37
 lo : σ.lo=lo6 cur failed
 ok:okS6 cur failed js=true
 pm:ZeW p.pm
 cap:p.cap=2000 + 1000 * i
 gl:p.gd.length≤5 * i
 ge:(p.gh 1).length≤i∧∀ v ∈ p.gh 1,v=end6
variable {env:Env} {L:Addr} {p:Pr6} {σ : St} {ora:List (Nat × Nat × Int × V)} {i:Nat}
theorem Zia (hl:env.locals=L) (R:Rel (g6 w mg mb mean s₁ sa ds p) (Zo env L cs6 ora) σ) (hpm:ZeW p.pm) (hcap:p.cap=2000 + 1000 * i) (hgl:p.gd.length≤5 * i) (hge:(p.gh 1).length≤i∧∀ v ∈ p.gh 1,v=end6) (hi:i≤25) (hk:ZaN σ.h σ.nx σ.lo=true) (x:Int) :
  ∃ p' cur failed js σ',p'.x=x∧At6 w mg mb mean s₁ sa ds env L (i + 1) p' cur failed js σ'∧σ'.s = σ.s∧(∀ a o,Pin0 (g6 w mg mb mean s₁ sa ds p) σ a o→Pin0 (g6 w mg mb mean s₁ sa ds p') σ' a o)∧∀ q ∈ p.fz,q ∈ p'.fz:=by
 obtain⟨cur,failed,rows,f,q,C⟩:=Zh9 hk
 have sim:=C.sim
 have N:=Zkp (w:=w) (mg:=mg) (mb:=mb) (mean:=mean) (s₁:=s₁) (sa:=sa) (ds:=ds) (p:=p) (σ:=σ) (q:=q) (x:=x) C.js
 have hgd:(bif Nat.beq q.gn.1 1 then q.gn.2.map (evP (g6 w mg mb mean s₁ sa ds p)) else gdUp (g6 w mg mb mean s₁ sa ds p) q.gn.2).length≤5 * (i + 1):=by
  have ln:=C.ln
  cases Nat.beq q.gn.1 1 with
  | true=>show (q.gn.2.map _).length≤_; rw[List.length_map]; omega
  | false=>
   have:=Zdk (g:=g6 w mg mb mean s₁ sa ds p) q.gn.2 (g6 w mg mb mean s₁ sa ds p).gd
   have e:(g6 w mg mb mean s₁ sa ds p).gd=p.gd:=rfl
   rw[e] at this
   show (gdUp (g6 w mg mb mean s₁ sa ds p) q.gn.2).length≤_
   unfold gdUp
   rw[e]
   omega
 generalize hpe:Zg2 (g6 w mg mb mean s₁ sa ds p) σ p q rows x=p' at N
 have G:GlSame q σ (g6 w mg mb mean s₁ sa ds p) (g6 w mg mb mean s₁ sa ds p'):=by
  subst hpe
  refine⟨rfl,fun _ _=>rfl,rfl,rfl,rfl,rfl,Nat.le_trans hgd (by omega),⟨Nat.le_refl _,?_⟩,⟨?_,?_⟩,rfl,rfl,rfl,rfl,rfl,rfl,rfl,rfl,rfl,rfl,rfl⟩
  ·show p.cap + 1000≤900000
   omega
  ·rw[C.dr]; rfl
  ·show (0:Int)≤60
   decide
 refine⟨p',cur,failed,rows.map own6,reSt f (st6 cur failed (rows.map own6)) 37 (lo6 cur failed) σ,by subst hpe; rfl,⟨fun ora'=>?_,rfl,rfl,rfl,C.ok,?_,?_,?_,?_⟩,rfl,fun a o y=>(Za3 sim).pin G y,fun z hz=>?_⟩
 ·exact R.canon (hd':=⟨cs6,none,ora',true⟩) G N hU6 hl rfl rfl sim
 ·subst hpe
  intro n
  have e:(Zg2 (g6 w mg mb mean s₁ sa ds p) σ p q rows x).pm 0 n=(@Option.rec V (fun _=>Int) (p.pm 0 n) (fun v=>(vInt v).getD 0) (look (pmOf σ.h 19) n)):=by
   show @Option.rec V (fun _=>Int) (p.pm 0 n) (fun v=>(vInt v).getD 0) (look (q.px 0) n) = _
   rw[C.px]; rfl
  rw[e]
  cases hl:look (pmOf σ.h 19) n with
  | none=>exact hpm n
  | some v=>exact ZiR C.pm hl
 ·subst hpe
  show p.cap + 1000=2000 + 1000 * (i + 1)
  omega
 ·subst hpe
  exact hgd
 ·subst hpe
  refine⟨?_,fun v hv=>?_⟩
  ·show (p.gh 1++q.gy).length≤_
   rw[List.length_append]
   exact Nat.add_le_add hge.1 C.gy.1
  ·rcases List.mem_append.mp (show v ∈ p.gh 1++q.gy from hv) with hv | hv
   ·exact hge.2 v hv
   ·exact C.gy.2 v hv
 ·subst hpe
  exact List.mem_append_left _ hz
end
end
end Mn
end
section
set_option maxHeartbeats 0
open PySem PySem.W PyProof.Rows PySem.Calls PySem.Spec
namespace Mn
noncomputable section
noncomputable def ksA:List Nat:=[enc "status",enc "_resources",enc "_synchronizers",enc "_manager",enc "_adapters",enc "_voted",enc "extension",enc "_failure_traceback",enc "_before_commit",enc "_after_commit",enc "_before_abort",enc "_after_abort"]
noncomputable def eh (d:Nat):H:=mkH ([(3,.cell (some (.ref 14))),(4,.cell (some (.ref 12))),(8,.elist 0 []),(9,.elist 0 []),(10,.elist 0 []),(11,.elist 0 []),(12,.list [.ref 8,.ref 9,.ref 10,.ref 11]),(14,.elist 2 []),(22,.elist 2 [])] ++
 bif Nat.beq d 0 then[] else[(27,.inst 499 ((ksA++bif Nat.beq d 1 then[] else[enc "_data"]).map fun k=>(k,.unk 0)))])
noncomputable def loE (d:Nat):Lo:=[(enc "none",Zjq),(enc "due",.ref 22),(enc "current",bif Nat.beq d 0 then .none else .ref 27)]
noncomputable def fE (d:Nat):List (Nat × Nat):=bif Nat.beq d 0 then slots6.dropLast.map fun a=>(a,a) else(27,27) :: slots6.dropLast.map fun a=>(a,a)
noncomputable def qE (z:List Nat):SmP:=⟨0,[],fun _=>[],[],z,(2,[])⟩
noncomputable def numE (_:V) (_:Nat):Bool:=false
noncomputable def isE (d:Nat) (h:H) (_:Nat) (lo:Lo):Bool:=simB (qE []) numE (fE d) h lo cs6 (eh d) 37 (loE d)
noncomputable def Zbe:PySem.Expr:=match (d9.body[15]? : Option Stmt) with | some (.For t _ _ _ _)=>t | _=>.Constant .none 0 ⟨0,0,0,0⟩
noncomputable def Zci:PySem.Expr:=match (d9.body[15]? : Option Stmt) with | some (.For _ i _ _ _)=>i | _=>.Constant .none 0 ⟨0,0,0,0⟩
noncomputable def Zby:List Stmt:=match (d9.body[15]? : Option Stmt) with | some (.For _ _ b _ _)=>b | _=>[]
noncomputable def Zc1:List Stmt:=d9.body.drop 16
noncomputable def ln9:List (Str × NameKind):=d9.scope.names
noncomputable def one6 (d:Nat):Bool:=(rec P9 N6).asg (cT F ln9 Zbe) end6 (hd6 []) (eh d) 37 (loE d) (fun h nx lo=>(rec P9 N6).ex (cSs F ln9 Zby) (hd6 []) h nx lo (isE d) (fun _ _ _=>false) (isE d) noR noX) noX
noncomputable def ret6 (d:Nat):Bool:=(rec P9 N6).ex (cSs F ln9 Zc1) (hd6 []) (eh d) 37 (loE d) (fun _ _ _=>false) (fun _ _ _=>false) (fun _ _ _=>false) (fun v _ _ _=>Zq v (.bool true)) noX
noncomputable def endd (cur:Bool) (js:List Nat):Nat:=bif cur then(bif js.isEmpty then 1 else 2) else 0
noncomputable def chkE (cur failed:Bool) (js:List Nat):Bool:=simB (qE [23]) numE (fE (endd cur js)) (st6 cur failed js) (lo6 cur failed) cs6 (eh (endd cur js)) 37 (loE (endd cur js))
theorem Zlu:ret6 0=true:=by kernel_rfl
theorem Zlv:ret6 1=true:=by kernel_rfl
theorem Zlw:ret6 2=true:=by kernel_rfl
theorem Zlx:one6 0=true:=by kernel_rfl
theorem Zly:one6 1=true:=by kernel_rfl
theorem Zlz:one6 2=true:=by kernel_rfl
theorem ZlA:chkE false false []=true:=by kernel_rfl
theorem ZiS:(all6.all fun js=>chkE true false js&&chkE true true js)=true:=by kernel_rfl
end
end Mn
end
section
set_option maxHeartbeats 0
open PySem PySem.W PyProof.Rows PySem.Calls PySem.Spec
namespace Mn
noncomputable section
structure Fr6 (w:World) (mg mb:Str→Option Value) (mean:ExcName→Option Value) (s₁:Shared) (env:Env) (L:Addr):Prop where
 scope:env.scope=d9.scope
 frame:env.frame=some L
 glob:env.globals=mainGlobals
 blt:env.builtins=builtinsNs
 code:env.code=.ref 1010
 qual:env.qual = "law.<locals>."
 frames:(callerA.deeper env).frames=some [env]
 loc:env.locals=L
 hd:CodeHd (ghostOf s₁.heap (ZI tabs9)) 1010 1008
 T:Top topProg (looseW v9 lo9++(recsOf v9).map (·.name)++(litsOf v9).map (·.1)++(clssOf v9 (looseW v9 lo9)).map (·.name)) mean mg mb (ghostOf s₁.heap (ZI tabs9))
 K:(K9 w.params).In (ghostOf s₁.heap (ZI tabs9))
noncomputable def ZfF:List Stmt:=d9.body.take 14
noncomputable def ZmQ:List Stmt:=d9.body.drop 15
noncomputable def forB:List Stmt:=match (d9.body[14]? : Option Stmt) with | some (.For _ _ b _ _)=>b | _=>[]
noncomputable def forT:PySem.Expr:=match (d9.body[14]? : Option Stmt) with | some (.For t _ _ _ _)=>t | _=>.Constant .none 0 ⟨0,0,0,0⟩
theorem lcB:cSs F ln9 forB=ZfC:=by kernel_rfl
theorem lcT:cT F ln9 forT=Zjp:=by kernel_rfl
theorem ZlB (it:Value) (rv:Value):letOwnedTupleGo forT it rv=pure ():=by kernel_rfl
theorem lts1 {P:Nat→Bool} (h:P 0=true):∀ o,o < 1→P o=true
 | 0,_=>h
theorem lts3 {P:Nat→Bool} (h:(P 0&&(P 1&&P 2))=true):∀ o,o < 3→P o=true
 | 0,_=>(Yb h).1
 | 1,_=>(Yb (Yb h).2).1
 | 2,_=>(Yb (Yb h).2).2
theorem lts4 {P:Nat→Bool} (h:(P 0&&(P 1&&(P 2&&P 3)))=true):∀ o,o < 4→P o=true
 | 0,_=>(Yb h).1
 | n + 1,l=>lts3 (P:=fun n=>P (n + 1)) (Yb h).2 n (Nat.lt_of_succ_lt_succ l)
theorem Zib {cur failed:Bool} {js:List Nat} (h:Zd cur failed js=true) {what o:Nat} (h1:what < 8) (h2:o < bif Nat.beq what 2 then 3 else bif Nat.blt 3 what then 1 else 4):Zv cur failed js what o=true:=by
 obtain⟨a0,h⟩:=Yb h
 obtain⟨a1,h⟩:=Yb h
 obtain⟨a2,h⟩:=Yb h
 obtain⟨a3,h⟩:=Yb h
 obtain⟨a4,h⟩:=Yb h
 obtain⟨a5,h⟩:=Yb h
 obtain⟨a6,a7⟩:=Yb h
 have:what=0∨what=1∨what=2∨what=3∨what=4∨what=5∨what=6∨what=7:=by omega
 rcases this with rfl | rfl | rfl | rfl | rfl | rfl | rfl | rfl
 ·exact lts4 (P:=Zv cur failed js 0) a0 o h2
 ·exact lts4 (P:=Zv cur failed js 1) a1 o h2
 ·exact lts3 (P:=Zv cur failed js 2) a2 o h2
 ·exact lts4 (P:=Zv cur failed js 3) a3 o h2
 ·exact lts1 (P:=Zv cur failed js 4) a4 o h2
 ·exact lts1 (P:=Zv cur failed js 5) a5 o h2
 ·exact lts1 (P:=Zv cur failed js 6) a6 o h2
 ·exact lts1 (P:=Zv cur failed js 7) a7 o h2
theorem ZiT (p:Pr6):Zch p < bif Nat.beq (Zax p) 2 then 3 else bif Nat.blt 3 (Zax p) then 1 else 4:=by
 unfold Zch
 cases Nat.beq (Zax p) 2 with
 | true=>exact Zds (m:=3) (by decide)
 | false=>
  cases Nat.blt 3 (Zax p) with
  | true=>exact Nat.one_pos
  | false=>exact Zds (m:=4) (by decide)
theorem ZiU {vs:List Value} {ns:List Int} (h:IntsAre vs ns):∀ {i:Nat} {v:Value},vs[i]? = some v→∃ t,v=.int (ns.getD i 0) t:=by
 induction h with
 | nil=>intro i v e; cases e
 | cons n t h ih=>
  intro i v e
  cases i with
  | zero=>exact⟨t,(Option.some.inj e).symm⟩
  | succ i=>exact ih e
section
variable {w:World} {mg mb:Str→Option Value} {mean:ExcName→Option Value} {s₁:Shared} {sa:Addr} {ds:List Int} {env:Env} {L:Addr} {p:Pr6} {σ : St} {i:Nat}
theorem Zc2 (X:Fr6 w mg mb mean s₁ env L) {ora:List (Nat × Nat × Int × V)} (ho:∀ e ∈ ora,OraOK (g6 w mg mb mean s₁ sa ds p) e):CxOK (g6 w mg mb mean s₁ sa ds p) (Zo env L cs6 ora) N6 where
 fr:=X.frames
 ff:=X.frame
 fk:=by show env.scope.kind = _; rw[X.scope]; kernel_rfl
 ek:=by show env.scope.kind = _; rw[X.scope]; kernel_rfl
 eg:=X.glob
 eb:=X.blt
 ef:=X.frame
 Kb:=X.K
 Tb:=X.T
 dep:=by show callerA.depth + 1 + N6≤950; decide
 uni:=by show callerA.units + 3 + 12 * N6≤9000; decide
 hn:=rfl
 mkk:=fun _=>⟨1010,1008,X.code,by show (1010,1008,env.qual) ∈ tabs9; rw[X.qual]; exact .head _,X.hd⟩
 ora:=ho
noncomputable def It6 (g:Gl) (σ : St) (it la:Addr) (i:Nat):Prop:=∃ o,Pin0 g σ it o∧o.cls=.type "list_iterator"∧o.data=.fields #[.ref la,.int i 0]
theorem It6.ito {g:Gl} {σ : St} {it la:Addr} {i:Nat} (h:It6 g σ it la i):∃ o,Pin0 g σ it o∧ItO o:=
 let ⟨o,p,c,d⟩:=h
 ⟨o,p,"list_iterator",_,_,[],c,by decide,by decide,d,by decide,nofun⟩
theorem It6.mono {g:Gl} {c:Cx} {σ σ':St} {it la:Addr} {i:Nat} (X:Ext g c σ σ') (R:Rel g c σ) (h:It6 g σ it la i):It6 g σ' it la i:=by
 obtain⟨o,p,q⟩:=h.ito
 obtain⟨q1,q2,q3⟩:=q.no
 obtain⟨o',p',c,d⟩:=h
 obtain rfl:=Zn R.N p.1 p'.1
 exact⟨o,X.pin _ _ p (R.pin_ne p q3) q2,c,d⟩
structure Lp6 (w:World) (mg mb:Str→Option Value) (mean:ExcName→Option Value) (s₁:Shared) (sa:Addr) (ds:List Int) (env:Env) (L it la:Addr) (lo:Obj) (i:Nat) (p:Pr6) (cur failed:Bool) (js:List Nat) (σ : St):Prop where
 A:At6 w mg mb mean s₁ sa ds env L i p cur failed js σ
 x:p.x=ds.getD i 0
 fz:(la,lo) ∈ p.fz
 I:It6 (g6 w mg mb mean s₁ sa ds p) σ it la i
theorem ZmD (X:Fr6 w mg mb mean s₁ env L) (hds:ds.length≤20) (hr:∀ cur failed js,okS6 cur failed js=true→Zd cur failed js=true)
  {it la:Addr} {its:List Value} {n:Nat} (hI:IntsAre its ds) {cur failed:Bool} {js:List Nat} (hA:Lp6 w mg mb mean s₁ sa ds env L it la (listOf its.toArray n) i p cur failed js σ) (hi:i≤ds.length)
  {R:Result→Shared→Prop} (hR:∀ p cur failed js σ,Rel (g6 w mg mb mean s₁ sa ds p) (Zo env L cs6 []) σ→σ.h=st6 cur failed js→σ.nx=37→σ.lo=lo6 cur failed→okS6 cur failed js=true→p.cap≤22000→p.gd.length≤100→(p.gh 1).length≤20→(∀ v ∈ p.gh 1,v=end6)→R (.ok .next) σ.s) :
  codeAny (model rr9.prog w) (callerA.deeper env) (.forLoop forT (.ref it) forB [] env) R σ.s:=by
 refine codeAny_forLoop_any (fun m s=>∃ i p cur failed js σ,s = σ.s∧m + i=ds.length∧Lp6 w mg mb mean s₁ sa ds env L it la (listOf its.toArray n) i p cur failed js σ) ?_ (ds.length - i) ⟨i,p,cur,failed,js,σ,rfl,Nat.sub_add_cancel hi,hA⟩
 clear hA hi
 rintro m s ⟨i,p,cur,failed,js,σ,rfl,hm,A,hx,hfz,o,p0,hc0,hd0⟩
 have esc:∀ ora,(Zo env L cs6 ora).env.scope.names=ln9:=fun ora=>by show env.scope.names = _; rw[X.scope]; rfl
 have il:∀ ora,Rel (g6 w mg mb mean s₁ sa ds p) (Zo env L cs6 ora) σ→σ.s.heap.IsList la its.toArray:=fun ora R0=>⟨_,(R0.N _ (R0.tab.2 _ hfz).1).1,rfl,n,rfl⟩
 cases m with
 | zero=>
  have R0:=A.R []
  have hn:its[i]? = none:=List.getElem?_eq_none (by rw[hI.length]; omega)
  refine ZcW R0 p0 hc0 hd0 (il _ R0) (fun _=>.inl rfl) (fun ry e=>by rw[hn] at e; cases e) fun _ σ' R' qt=>?_
  have hcap:=A.cap
  have hgl:=A.gl
  have hge:=A.ge.1
  exact wpAny_execs_nil (hR p cur failed js σ' R' (by rw[qt.1]; exact A.h) (by rw[qt.2.1]; exact A.nx) (by rw[qt.2.2.1]; exact A.lo) A.ok (by omega) (by omega) (by omega) A.ge.2)
 | succ m=>
  have hlt:i < ds.length:=by omega
  have ho:=ZiQ (w:=w) (mg:=mg) (mb:=mb) (mean:=mean) (s₁:=s₁) (sa:=sa) (ds:=ds) (p:=p) A.pm
  generalize hora:ora6 (Zax p) (Zch p)=ora at ho
  have R0:=A.R ora
  have hc:=Zc2 X ho
  have HA:=ZcF (w:=w) (mg:=mg) (mb:=mb) (mean:=mean) (s₁:=s₁) (sa:=sa) (ds:=ds) (p:=p) N6
  have hn:its[i]?≠none:=fun e=>by have:=List.getElem?_eq_none_iff.mp e; rw[hI.length] at this; omega
  refine ZcW R0 p0 hc0 hd0 (il _ R0) (fun e=>absurd e hn) (fun ry e σ' o' R' qt X0 p1 hc1 hd1 _=>?_) fun e=>absurd e hn
  obtain⟨t,rfl⟩:=ZiU hI e
  show wpAny _ _ (letOwnedTupleGo forT (.ref it) (.int (ds.getD i 0) t)) _ _ _
  rw[ZlB]
  refine wpAny_pure ?_
  have run:Zv cur failed js (Zax p) (Zch p)=true:=Zib (hr _ _ _ A.ok) (Zds (m:=8) (by decide)) (ZiT p)
  have hb:(rec P9 N6).asg (cT F (Zo env L cs6 ora).env.scope.names forT) (.sint 51) ⟨cs6,none,ora,true⟩ σ'.h σ'.nx σ'.lo (fun h nx lo=>(rec P9 N6).ex ZfC ⟨cs6,none,ora,true⟩ h nx lo ZaN (fun _ _ _=>false) ZaN noR noX) (fun _ _ _ _=>false)=true:=by
   rw[esc,lcT,qt.1,qt.2.1,qt.2.2.1,A.h,A.nx,A.lo,← hora]
   exact run
  have I1:It6 (g6 w mg mb mean s₁ sa ds p) σ' it la (i + 1):=⟨o',p1,hc1,hd1⟩
  refine HA.asg _ hc F forT σ' R' (.sint 51) _ ⟨t,by rw[← hx]; rfl⟩ _ _ hb _ _ (fun σ2 R2 X2 hk=>?_) PX.no
  have I2:=I1.mono X2 R'
  have hk:(rec P9 N6).ex (cSs F (Zo env L cs6 ora).env.scope.names forB) ⟨cs6,none,ora,true⟩ σ2.h σ2.nx σ2.lo ZaN (fun _ _ _=>false) ZaN noR noX=true:=by rw[esc,lcB]; exact hk
  have next:∀ σ3,Rel (g6 w mg mb mean s₁ sa ds p) (Zo env L cs6 ora) σ3→Ext (g6 w mg mb mean s₁ sa ds p) (Zo env L cs6 ora) σ2 σ3→ZaN σ3.h σ3.nx σ3.lo=true→
    ∃ m',m' < m + 1∧∃ i p cur failed js σ,σ3.s = σ.s∧m' + i=ds.length∧Lp6 w mg mb mean s₁ sa ds env L it la (listOf its.toArray n) i p cur failed js σ:=fun σ3 R3 X3 hk3=>by
   obtain⟨p',cur',failed',js',σ',e1,A',e2,pin,fz⟩:=Zia X.loc R3 A.pm A.cap A.gl A.ge (by omega) hk3 (ds.getD (i + 1) 0)
   obtain⟨o3,q3,c3,d3⟩:=I2.mono X3 R2
   exact⟨m,Nat.lt_succ_self _,i + 1,p',cur',failed',js',σ',e2.symm,by omega,A',e1,fz _ hfz,o3,pin _ _ q3,c3,d3⟩
  exact HA.ex _ hc rfl F forB σ2 R2 _ _ _ _ _ hk (fun f s₃=>match f with
     | .next | .cont=>∃ m',m' < m + 1∧∃ i p cur failed js σ,s₃ = σ.s∧m' + i=ds.length∧Lp6 w mg mb mean s₁ sa ds env L it la (listOf its.toArray n) i p cur failed js σ
     | .brk=>R (.ok .next) s₃
     | .ret v=>R (.ok (.ret v)) s₃) _
   (fun σ3 R3 X3 hk=>next σ3 R3 X3 hk) (fun _ _ _ h=>by cases h) (fun σ3 R3 X3 hk=>next σ3 R3 X3 hk) (fun _ _ _ _ _ _ h=>by cases h) PX.no
end
end
end Mn
end
section
set_option maxHeartbeats 0
open PySem PySem.W PyProof.Rows PySem.Calls PySem.Spec
namespace Mn
noncomputable section
theorem lcJ:cE F ln9 Zci=.k 1 (enc "ended"):=by kernel_rfl
theorem Zkq (it:Value) (rv:Value):letOwnedTupleGo Zbe it rv=pure ():=by kernel_rfl
theorem Zey:ZN end6=true:=by kernel_rfl
theorem Zic (cur failed:Bool):look (lo6 cur failed) (enc "ended")=some (.ref 23):=by cases cur <;> kernel_rfl
theorem Zez (cur failed:Bool) (js:List Nat):(st6 cur failed js).get 23=some (.elist 3 []):=by cases cur <;> cases js <;> kernel_rfl
theorem Zkr {α : Type} (x : α) (q : α→Bool):og (some x) q=q x:=rfl
section
variable {P:Prg} {m:Nat} {hd:Hd} {h:H} {nx:Nat} {lo:Lo} {n:Nat} {ko:V→KS} {ke:Nat→KS}
theorem ZlC:(rec P (m + 1)).ev (.k 1 n) hd h nx lo ko ke=og (look lo n) fun v=>ko v h nx lo:=rfl
theorem Zks:(rec P (m + 1)).ev (.k 3 n) hd h nx lo ko ke=og (look P.globs n) fun v=>ko v h nx lo:=rfl
end
theorem Zkt {cur failed:Bool} {js:List Nat} (h:okS6 cur failed js=true):chkE cur failed js=true:=by
 cases cur with
 | true=>
  obtain⟨l,hl,e⟩:=List.any_eq_true.mp (show all6.any (beqN js)=true from h)
  obtain rfl:=Zad e
  obtain⟨a,b⟩:=Yb (List.all_eq_true.mp ZiS js hl)
  cases failed <;> assumption
 | false=>
  obtain⟨a,b⟩:=Yb (show (!failed&&js.isEmpty)=true from h)
  obtain rfl:=List.isEmpty_iff.mp b
  cases failed with
  | true=>cases a
  | false=>exact ZlA
theorem Zgh (cur:Bool) (js:List Nat):endd cur js < 3:=by
 unfold endd
 cases cur <;> cases js.isEmpty <;> decide
theorem Zku:∀ d,d < 3→one6 d=true
 | 0,_=>Zlx
 | 1,_=>Zly
 | 2,_=>Zlz
theorem Zkv:∀ d,d < 3→ret6 d=true
 | 0,_=>Zlu
 | 1,_=>Zlv
 | 2,_=>Zlw
section
variable {w:World} {mg mb:Str→Option Value} {mean:ExcName→Option Value} {s₁:Shared} {sa:Addr} {ds:List Int} {env:Env} {L:Addr} {p:Pr6} {σ : St} {i d:Nat}
noncomputable def Zjt (p:Pr6) (z:List (Addr × Obj)):Pr6:=⟨p.x,p.d,fun i=>p.gh i ++ [],p.pm,p.cap + 1000,p.fz++z,p.gd⟩
theorem Zd1 {z:List Nat} (hcap:p.cap + 1000≤900000) (hgd:p.gd.length≤100):GlSame (qE z) σ (g6 w mg mb mean s₁ sa ds p) (g6 w mg mb mean s₁ sa ds (Zjt p (Zar σ z))):=
 ⟨rfl,fun _ _=>rfl,rfl,rfl,rfl,rfl,Nat.le_trans hgd (by decide),⟨Nat.le_refl _,hcap⟩,⟨rfl,show (0:Int)≤60 by decide⟩,rfl,rfl,rfl,rfl,rfl,rfl,rfl,rfl,rfl,rfl,rfl⟩
theorem Zc3 {g g':Gl}:ZaW g g' numE:=fun v k h=>by cases h
theorem Zgi {g:Gl} {v:V}:∀ {vs:List V} {ws:List Value},VRs g σ vs ws→(∀ x ∈ vs,x=v)→∀ y ∈ ws,VR g σ v y
 | [],[],_,_,y,hy=>by cases hy
 | x :: vs,y :: ws,h,e,z,hz=>by
  rcases List.mem_cons.mp hz with rfl | hz
  ·exact e x (.head _) ▸ h.1
  ·exact Zgi h.2 (fun x hx=>e x (.tail _ hx)) z hz
 | [],_ :: _,h,_,_,_=>h.elim
 | _ :: _,[],h,_,_,_=>h.elim
structure Le6 (w:World) (mg mb:Str→Option Value) (mean:ExcName→Option Value) (s₁:Shared) (sa:Addr) (ds:List Int) (env:Env) (L it la:Addr) (pre:List Value) (n d i:Nat) (p:Pr6) (σ : St):Prop where
 R:Rel (g6 w mg mb mean s₁ sa ds p) (Zo env L cs6 []) σ
 h : σ.h=eh d
 nx : σ.nx=37
 lo : σ.lo=loE d
 cap:p.cap≤23000 + 1000 * i
 gd:p.gd.length≤100
 fz:(la,listOf pre.toArray n) ∈ p.fz
 I:It6 (g6 w mg mb mean s₁ sa ds p) σ it la i
 V:∀ v ∈ pre,VR (g6 w mg mb mean s₁ sa ds p) σ end6 v
theorem ZmE (X:Fr6 w mg mb mean s₁ env L) (hd:d < 3) {it la:Addr} {pre:List Value} {n:Nat} (hpre:pre.length≤20) (hA:Le6 w mg mb mean s₁ sa ds env L it la pre n d i p σ) (hi:i≤pre.length)
  {R:Result→Shared→Prop} (hR:∀ p σ,Rel (g6 w mg mb mean s₁ sa ds p) (Zo env L cs6 []) σ→σ.h=eh d→σ.nx=37→σ.lo=loE d→R (.ok .next) σ.s) :
  codeAny (model rr9.prog w) (callerA.deeper env) (.forLoop Zbe (.ref it) Zby [] env) R σ.s:=by
 refine codeAny_forLoop_any (fun m s=>∃ i p σ,s = σ.s∧m + i=pre.length∧Le6 w mg mb mean s₁ sa ds env L it la pre n d i p σ) ?_ (pre.length - i) ⟨i,p,σ,rfl,Nat.sub_add_cancel hi,hA⟩
 clear hA hi
 rintro m s ⟨i,p,σ,rfl,hm,A⟩
 obtain⟨o,p0,hc0,hd0⟩:=A.I
 have esc:(Zo env L cs6 []).env.scope.names=ln9:=by show env.scope.names = _; rw[X.scope]; rfl
 have R0:=A.R
 have il : σ.s.heap.IsList la pre.toArray:=⟨_,(R0.N _ (R0.tab.2 _ A.fz).1).1,rfl,n,rfl⟩
 cases m with
 | zero=>
  have hn:pre[i]? = none:=List.getElem?_eq_none (by omega)
  refine ZcW R0 p0 hc0 hd0 il (fun _=>.inl rfl) (fun ry e=>by rw[hn] at e; cases e) fun _ σ' R' qt=>?_
  exact wpAny_execs_nil (hR p σ' R' (by rw[qt.1]; exact A.h) (by rw[qt.2.1]; exact A.nx) (by rw[qt.2.2.1]; exact A.lo))
 | succ m=>
  have hlt:i < pre.length:=by omega
  have hc:=Zc2 (sa:=sa) (ds:=ds) (p:=p) X (ora:=[]) (fun e he=>absurd he List.not_mem_nil)
  have HA:=ZcF (w:=w) (mg:=mg) (mb:=mb) (mean:=mean) (s₁:=s₁) (sa:=sa) (ds:=ds) (p:=p) N6
  have hn:pre[i]?≠none:=fun e=>by have:=List.getElem?_eq_none_iff.mp e; omega
  refine ZcW R0 p0 hc0 hd0 il (fun e=>absurd e hn) (fun ry e σ' o' R' qt X0 p1 hc1 hd1 _=>?_) fun e=>absurd e hn
  have vy:=(A.V ry (List.mem_of_getElem? e)).mono0 X0
  show wpAny _ _ (letOwnedTupleGo Zbe (.ref it) ry) _ _ _
  rw[Zkq]
  refine wpAny_pure ?_
  have hb:(rec P9 N6).asg (cT F (Zo env L cs6 []).env.scope.names Zbe) end6 ⟨cs6,none,[],true⟩ σ'.h σ'.nx σ'.lo (fun h nx lo=>(rec P9 N6).ex (cSs F ln9 Zby) ⟨cs6,none,[],true⟩ h nx lo (isE d) (fun _ _ _=>false) (isE d) noR noX) (fun _ _ _ _=>false)=true:=by
   rw[esc,qt.1,qt.2.1,qt.2.2.1,A.h,A.nx,A.lo]
   exact Zku d hd
  have I1:It6 (g6 w mg mb mean s₁ sa ds p) σ' it la (i + 1):=⟨o',p1,hc1,hd1⟩
  refine HA.asg _ hc F Zbe σ' R' end6 _ vy _ _ hb _ _ (fun σ2 R2 X2 hk=>?_) PX.no
  have I2:=I1.mono X2 R'
  have hk:(rec P9 N6).ex (cSs F (Zo env L cs6 []).env.scope.names Zby) ⟨cs6,none,[],true⟩ σ2.h σ2.nx σ2.lo (isE d) (fun _ _ _=>false) (isE d) noR noX=true:=by rw[esc]; exact hk
  have V2:∀ v ∈ pre,VR (g6 w mg mb mean s₁ sa ds p) σ2 end6 v:=fun v hv=>((A.V v hv).mono0 X0).mono0 (X2.z R')
  have next:∀ σ3,Rel (g6 w mg mb mean s₁ sa ds p) (Zo env L cs6 []) σ3→Ext (g6 w mg mb mean s₁ sa ds p) (Zo env L cs6 []) σ2 σ3→isE d σ3.h σ3.nx σ3.lo=true→
    ∃ m',m' < m + 1∧∃ i p σ,σ3.s = σ.s∧m' + i=pre.length∧Le6 w mg mb mean s₁ sa ds env L it la pre n d i p σ:=fun σ3 R3 X3 hk3=>by
   have hcap:=A.cap
   have G:=Zd1 (w:=w) (mg:=mg) (mb:=mb) (mean:=mean) (s₁:=s₁) (sa:=sa) (ds:=ds) (p:=p) (σ:=σ3) (z:=[]) (by omega) A.gd
   have S:=Za3 hk3
   obtain⟨o3,q3,c3,d3⟩:=I2.mono X3 R2
   refine⟨m,Nat.lt_succ_self _,i + 1,_,reSt (fE d) (eh d) 37 (loE d) σ3,rfl,by omega,R3.canon (hd':=⟨cs6,none,[],true⟩) G Zc3 hU6 X.loc rfl rfl hk3,rfl,rfl,rfl,?_,A.gd,List.mem_append_left _ A.fz,⟨o3,S.pin G q3,c3,d3⟩,fun v hv=>Zem S G end6 Zey ((V2 v hv).mono0 (X3.z R2))⟩
   show p.cap + 1000≤_
   omega
  exact HA.ex _ hc rfl F Zby σ2 R2 _ _ _ _ _ hk (fun f s₃=>match f with
     | .next | .cont=>∃ m',m' < m + 1∧∃ i p σ,s₃ = σ.s∧m' + i=pre.length∧Le6 w mg mb mean s₁ sa ds env L it la pre n d i p σ
     | .brk=>R (.ok .next) s₃
     | .ret v=>R (.ok (.ret v)) s₃) _
   (fun σ3 R3 X3 hk=>next σ3 R3 X3 hk) (fun _ _ _ h=>by cases h) (fun σ3 R3 X3 hk=>next σ3 R3 X3 hk) (fun _ _ _ _ _ _ h=>by cases h) PX.no
noncomputable def Zg3:Pos:=match (d9.body[15]? : Option Stmt) with | some (.For _ _ _ _ p)=>p | _=>⟨0,0,0,0⟩
theorem ZmF (X:Fr6 w mg mb mean s₁ env L) {cur failed:Bool} {js:List Nat} (R:Rel (g6 w mg mb mean s₁ sa ds p) (Zo env L cs6 []) σ) (hh : σ.h=st6 cur failed js) (hn : σ.nx=37) (hlo : σ.lo=lo6 cur failed) (hok:okS6 cur failed js=true) (hcap:p.cap≤22000) (hgd:p.gd.length≤100) (hge:(p.gh 1).length≤20) (hgv:∀ v ∈ p.gh 1,v=end6) {Q:Flow→Shared→Prop} {E:Value→Shared→Prop}
  (hQ:∀ p σ d,d < 3→Rel (g6 w mg mb mean s₁ sa ds p) (Zo env L cs6 []) σ→σ.h=eh d→σ.nx=37→σ.lo=loE d→Q .next σ.s) :
  wpAny (model rr9.prog w) (callerA.deeper env) (exec (.For Zbe Zci Zby [] Zg3) env) Q E σ.s:=by
 have hc:=Zc2 (sa:=sa) (ds:=ds) (p:=p) X (ora:=[]) (fun e he=>absurd he List.not_mem_nil)
 have HA:=ZcF (w:=w) (mg:=mg) (mb:=mb) (mean:=mean) (s₁:=s₁) (sa:=sa) (ds:=ds) (p:=p) N6
 have esc:(Zo env L cs6 []).env.scope.names=ln9:=by show env.scope.names = _; rw[X.scope]; rfl
 have run:(rec P9 N6).ev (cE F (Zo env L cs6 []).env.scope.names Zci) ⟨cs6,none,[],true⟩ σ.h σ.nx σ.lo (fun v h nx lo=>@decide (v=.ref 23∧h = σ.h∧nx = σ.nx∧lo = σ.lo) (Classical.propDecidable _)) (fun _ _ _ _=>false)=true:=by
  rw[esc,lcJ,show N6=299 + 1 from rfl,ZlC,hlo,Zic,Zkr]
  exact @decide_eq_true _ (Classical.propDecidable _) ⟨rfl,rfl,rfl,rfl⟩
 refine wpAny_For (HA.ev _ hc F Zci σ R _ _ run _ _ (fun σ1 v rv R1 X1 vr hk=>?_) PX.no) (fun x=>Zbn (r:=rec P9 299) (show evG P9 (rec P9 299) (cE F _ Zci) _ _ _ _ _ _=true from run) env x)
 obtain⟨rfl,h1,n1,l1⟩:=@of_decide_eq_true _ (Classical.propDecidable _) hk
 obtain⟨rfl,_⟩:=vr
 have e23 : σ1.h.get 23=some (.elist 3 []):=by rw[h1,hh]; exact Zez _ _ _
 obtain⟨pre,its,n,m,⟨b1,_⟩,z,vi⟩:EListR _ σ1 _ 3 []:=R1.trk 23 _ e23
 have b1:VRs (g6 w mg mb mean s₁ sa ds p) σ1 (p.gh 1) pre:=b1
 cases its with
 | cons _ _=>exact vi.elim
 | nil=>
 rw[List.append_nil] at m
 have il : σ1.s.heap.IsList (σ1.ρ (2 * 23)) pre.toArray:=⟨_,(R1.N _ m).1,rfl,n,rfl⟩
 have hpl:pre.length≤20:=by rw[← b1.length]; exact hge
 have hpv:∀ v ∈ pre,VR (g6 w mg mb mean s₁ sa ds p) σ1 end6 v:=Zgi b1 hgv
 refine wpAny_pyIter_list il ?_
 obtain⟨R2,X2,q2⟩:=R1.alloc (tk:=σ1.s.toks) (R1.F.push { cls:=.type "list_iterator",data:=.fields #[.ref (σ1.ρ (2 * 23)),.int 0 0] }) (R1.N.push R1.F _ rfl) R1.top
 generalize hσ : σ1.led ((σ1.s.heap.objs.size,{ cls:=.type "list_iterator",data:=.fields #[.ref (σ1.ρ (2 * 23)),.int 0 0] }) :: σ1.news) (σ1.s.heap.push { cls:=.type "list_iterator",data:=.fields #[.ref (σ1.ρ (2 * 23)),.int 0 0] }) σ1.s.toks = σ2 at R2 X2 q2
 have hs : σ2.s = { σ1.s with heap:=σ1.s.heap.push { cls:=.type "list_iterator",data:=.fields #[.ref (σ1.ρ (2 * 23)),.int 0 0] } }:=by subst hσ; rfl
 have eh2 : σ2.h=st6 cur failed js:=by subst hσ; exact h1.trans hh
 have el2 : σ2.lo=lo6 cur failed:=by subst hσ; exact l1.trans hlo
 have m2:(σ2.ρ (2 * 23),listOf pre.toArray n) ∈ σ2.news:=by subst hσ; exact .tail _ m
 have sim:simB (qE [23]) numE (fE (endd cur js)) σ2.h σ2.lo cs6 (eh (endd cur js)) 37 (loE (endd cur js))=true:=by rw[eh2,el2]; exact Zkt hok
 have G:=Zd1 (w:=w) (mg:=mg) (mb:=mb) (mean:=mean) (s₁:=s₁) (sa:=sa) (ds:=ds) (p:=p) (σ:=σ2) (z:=[23]) (by omega) hgd
 have S:=Za3 sim
 have fz:(σ2.ρ (2 * 23),listOf pre.toArray n) ∈ Zar σ2 [23]:=ZaC (.head _) (by rw[eh2]; exact Zez _ _ _) m2
 have hρ : σ2.ρ (2 * 23) = σ1.ρ (2 * 23):=by subst hσ; rfl
 rw[← hs]
 refine ZmE (p:=Zjt p (Zar σ2 [23])) (σ:=reSt (fE (endd cur js)) (eh (endd cur js)) 37 (loE (endd cur js)) σ2) (it:=σ1.s.heap.objs.size) (la:=σ2.ρ (2 * 23)) (n:=n) (i:=0) X (Zgh cur js) hpl
  ⟨R2.canon (hd':=⟨cs6,none,[],true⟩) G Zc3 hU6 X.loc rfl rfl sim,rfl,rfl,rfl,?_,hgd,List.mem_append_right _ fz,⟨_,S.pin G q2,rfl,by rw[hρ]; rfl⟩,fun v hv=>Zem S G end6 Zey ((hpv v hv).mono0 (X2.z R1))⟩ (Nat.zero_le _) fun p σ R h n l=>hQ p σ _ (Zgh cur js) R h n l
 show p.cap + 1000≤_
 omega
end
end
end Mn
end
section
set_option maxHeartbeats 0
open PySem PySem.W PyProof.Rows PySem.Calls PySem.Spec
namespace Mn
noncomputable section
noncomputable def heapA:H:=hp (hp (hp (hp (st6 false false []) 14 (.list [])) 19 (.dict [])) 22 (.list [])) 23 (.list [])
noncomputable def loA:Lo:=(enc "script",.unk 1) :: lo6 false false
noncomputable def idA:List (Nat × Nat):=slots6.map fun a=>(a,a)
noncomputable def qA (z:List Nat):SmP:=⟨0,[],fun _=>[],[],z,(1,[])⟩
noncomputable def isA (h:H) (_:Nat) (lo:Lo):Bool:=simB (qA [13]) numE idA h lo cs6 heapA 24 loA
noncomputable def ZlD:Bool:=ZbH [] (ZG d9.scope.names) .nil 0 [] fun h nx cs=>Bool.and (decide (cs=cs6)) ((rec P9 N6).ex Zjo ⟨cs,none,[],true⟩ h nx [(enc "script",.unk 1)] isA noK noK noR noX)
theorem Zid:ZlD=true:=by kernel_rfl
noncomputable def Zcj (l l':List V):H:=hp (hp heapA 24 (.list l)) 25 (.list l')
noncomputable def Zg4 (l l':List V):H:=hp (hp (hp (hp (Zcj l l') 14 (.elist 2 [])) 22 (.elist 2 [])) 23 (.elist 3 [])) 19 (.pmap 0 [])
theorem simI (l l':List V):simB (qA [25]) numE idA (Zg4 l l') loA cs6 (st6 false false []) 37 (lo6 false false)=true:=by kernel_rfl
end
end Mn
end
section
set_option maxHeartbeats 0
open PySem PySem.W PyProof.Rows PySem.Calls PySem.Spec
namespace Mn
noncomputable section
noncomputable def ZO:Nat→Nat→List V
 | 0,_=>[]
 | n + 1,a=>.sint a :: ZO n (a + 1)
theorem ZcG:∀ n a,(ZO n a).length=n
 | 0,_=>rfl
 | n + 1,a=>congrArg Nat.succ (ZcG n (a + 1))
theorem ZcH {g:Gl} {σ : St}:∀ (zs:List Int) (vs:List Value) (a:Nat),IntsAre vs zs→(∀ j,j < zs.length→g.sint (a + j)=zs.getD j 0)→VRs g σ (ZO zs.length a) vs
 | [],_,a,h,_=>by cases h; trivial
 | z :: zs,_,a,h,e=>by
  cases h with
  | cons n t h=>
   refine⟨⟨t,by rw[show g.sint a=z from e 0 (Nat.succ_pos _)]⟩,ZcH zs _ (a + 1) h fun j hj=>?_⟩
   have:=e (j + 1) (Nat.succ_lt_succ hj)
   rwa [show a + 1 + j=a + (j + 1) by omega]
theorem Zep {g:Gl} {σ : St}:∀ (zs:List Int) (vs:List Value) (a:Nat),VRs g σ (ZO zs.length a) vs→(∀ j,j < zs.length→g.sint (a + j)=zs.getD j 0)→IntsAre vs zs
 | [],[],_,_,_=>.nil
 | [],_ :: _,_,h,_=>h.elim
 | _ :: _,[],_,h,_=>h.elim
 | z :: zs,v :: vs,a,h,e=>by
  obtain⟨⟨t,ht⟩,h⟩:=h
  have e0:g.sint a=z:=e 0 (Nat.succ_pos _)
  rw[e0] at ht
  subst ht
  exact .cons _ t (Zep zs vs (a + 1) h fun j hj=>by
   have:=e (j + 1) (Nat.succ_lt_succ hj)
   rwa [show a + 1 + j=a + (j + 1) by omega])
noncomputable def forI:PySem.Expr:=match (d9.body[14]? : Option Stmt) with | some (.For _ i _ _ _)=>i | _=>.Constant .none 0 ⟨0,0,0,0⟩
noncomputable def forP:Pos:=match (d9.body[14]? : Option Stmt) with | some (.For _ _ _ _ p)=>p | _=>⟨0,0,0,0⟩
noncomputable def forX:PySem.Expr:=match forI with | .BinOp a _ _ _=>a | _=>.Constant .none 0 ⟨0,0,0,0⟩
noncomputable def forY:PySem.Expr:=match forI with | .BinOp _ _ b _=>b | _=>.Constant .none 0 ⟨0,0,0,0⟩
noncomputable def forQ:Pos:=match forI with | .BinOp _ _ _ p=>p | _=>⟨0,0,0,0⟩
theorem ZmG:d9.body=ZfF++(.For forT (.BinOp forX .Add forY forQ) forB [] forP :: .For Zbe Zci Zby [] Zg3 :: Zc1):=by kernel_rfl
theorem lcH:cSs F ln9 ZfF=Zjo:=by kernel_rfl
theorem lcA:cE F ln9 forX=.t 3 2 (.k 1 (enc "script")) (.k 6 0) (.c (.int 16)):=by kernel_rfl
theorem lcL:cE F ln9 forY=.k 3 (enc "_law_last"):=by kernel_rfl
noncomputable def Zc4:Nat:=((look P9.globs (enc "_law_last")).bind vTop).getD 0
theorem glL:look P9.globs (enc "_law_last")=some (.top Zc4):=by kernel_rfl
noncomputable def ZeX:List Value→List Int→Bool
 | [],[]=>true
 | .int i _ :: vs,n :: ns=>decide (i=n)&&ZeX vs ns
 | _,_=>false
theorem ZfG:∀ {vs:List Value} {ns:List Int},ZeX vs ns=true→IntsAre vs ns
 | [],[],_=>.nil
 | .int i t :: vs,n :: ns,h=>by
  obtain⟨a,b⟩:=Yb (show (decide (i=n)&&ZeX vs ns)=true from h)
  rw[of_decide_eq_true a]
  exact .cons _ t (ZfG b)
noncomputable def Zg5 (o:Obj):Bool:=(match o.cls with | .type s=>s == "list" | _=>false)&&(match o.data with | .seq its _=>ZeX its.toList [0,5,24,4] | _=>false)
theorem ZiV {o:Obj} (h:Zg5 o=true):∃ its n,o.cls=.type "list"∧o.data=.seq its n∧IntsAre its.toList [0,5,24,4]:=by
 obtain⟨a,b⟩:=Yb h
 obtain⟨cl,di,da,sl⟩:=o
 dsimp only at a b ⊢
 cases cl <;> first | exact absurd a Bool.false_ne_true | skip
 cases da <;> first | exact absurd b Bool.false_ne_true | skip
 exact⟨_,_,by rw[eq_of_beq a],rfl,ZfG b⟩
theorem ZmH (P:Params):(((K9 P).lookup Zc4).any Zg5)=true:=by kernel_rfl
section
variable {w:World} {mg mb:Str→Option Value} {mean:ExcName→Option Value} {s₁:Shared} {sa:Addr} {ns:List Int} {env:Env} {L:Addr} {p:Pr6} {σ : St}
noncomputable def Zl (ns:List Int):List Int:=ns.take 16 ++ [0,5,24,4]
noncomputable def oraB (ns:List Int):List (Nat × Nat × Int × V):=[(7,1,16,.tup (ZO (ns.take 16).length 100))]
theorem Zbz {ds:List Int} {j:Nat}:Zbx ds p (100 + j)=ds.getD j 0:=by
 unfold Zbx
 rw[if_neg (by omega),if_neg (by omega),if_neg (by omega),if_neg (by omega),if_neg (by omega),if_neg (by omega),if_neg (by omega),if_neg (by omega),if_neg (by omega),if_neg (by omega),Nat.add_sub_cancel_left]
theorem Zkw {vs:List Value} (hL:(g6 w mg mb mean s₁ sa (Zl ns) p).base.IsList sa vs.toArray) (hI:IntsAre vs ns) (hz:vs.length≤1000):∀ e ∈ oraB ns,OraOK (g6 w mg mb mean s₁ sa (Zl ns) p) e:=fun e he=>by
 obtain rfl:=List.mem_singleton.mp he
 refine⟨fun e=>nn rfl e,fun e=>nn rfl e,fun e=>nn rfl e,fun e=>nn rfl e,fun e=>nn rfl e,fun e=>nn rfl e,fun e=>nn rfl e,fun e=>nn rfl e,fun e=>nn rfl e,fun e=>nn rfl e,fun _ v hv=>⟨sa,vs.toArray,hv rfl,hL,by rw[List.size_toArray]; omega,fun us hus σ=>?_⟩⟩
 obtain rfl:=Option.some.inj hus
 refine ZcH (ns.take 16) _ 100 (hI.take 16) fun j hj=>?_
 show Zbx (Zl ns) p (100 + j) = _
 rw[Zbz]
 unfold Zl
 rw[List.getD_eq_getElem?_getD,List.getD_eq_getElem?_getD,List.getElem?_append_left hj]
theorem ZlE (X:Fr6 w mg mb mean s₁ env L) (ho:∀ e ∈ oraB ns,OraOK (g6 w mg mb mean s₁ sa (Zl ns) p) e) (R:Rel (g6 w mg mb mean s₁ sa (Zl ns) p) (Zo env L cs6 (oraB ns)) σ) (hh : σ.h=heapA) (hn : σ.nx=24) (hlo : σ.lo=loA) {Q:Value→Shared→Prop} {E:Value→Shared→Prop}
  (hQ:∀ σ',Rel (g6 w mg mb mean s₁ sa (Zl ns) p) (Zo env L cs6 (oraB ns)) σ'→σ'.h=Zcj (ZO (ns.take 16).length 100) (ZO (Zl ns).length 100)→σ'.nx=26→σ'.lo=loA→Q (.ref (σ'.ρ (2 * 25))) σ'.s) :
  wpAny (model rr9.prog w) (callerA.deeper env) (eval (.BinOp forX .Add forY forQ) env) Q E σ.s:=by
 have hc:=Zc2 (p:=p) X ho
 have HA:=ZcF (w:=w) (mg:=mg) (mb:=mb) (mean:=mean) (s₁:=s₁) (sa:=sa) (ds:=Zl ns) (p:=p) N6
 have esc:(Zo env L cs6 (oraB ns)).env.scope.names=ln9:=by show env.scope.names = _; rw[X.scope]; rfl
 have hl18:(ns.take 16).length≤16:=List.length_take_le _ _
 refine wpAny_BinOp ?_
 have run:(rec P9 N6).ev (cE F (Zo env L cs6 (oraB ns)).env.scope.names forX) ⟨cs6,none,oraB ns,true⟩ σ.h σ.nx σ.lo (fun v h nx lo=>@decide (v=.ref 24∧h=hp heapA 24 (.list (ZO (ns.take 16).length 100))∧nx=25∧lo=loA) (Classical.propDecidable _)) (fun _ _ _ _=>false)=true:=by
  rw[esc,lcA,hh,hn,hlo]
  show (bif decide ((0:Int)≤16)&&Nat.blt (ZO (ns.take 16).length 100).length 1000 then @decide _ (Classical.propDecidable _) else false)=true
  rw[ZcG,Nat.blt_eq.mpr (show (ns.take 16).length < 1000 by omega)]
  exact @decide_eq_true _ (Classical.propDecidable _) ⟨rfl,rfl,rfl,rfl⟩
 refine HA.ev _ hc F forX σ R _ _ run _ _ (fun σ1 v rv R1 X1 vr hk=>?_) PX.no
 obtain⟨rfl,h1,n1,l1⟩:=@of_decide_eq_true _ (Classical.propDecidable _) hk
 obtain⟨rfl,_⟩:=vr
 have run2:(rec P9 N6).ev (cE F (Zo env L cs6 (oraB ns)).env.scope.names forY) ⟨cs6,none,oraB ns,true⟩ σ1.h σ1.nx σ1.lo (fun v h nx lo=>@decide (v=.top Zc4∧h = σ1.h∧nx = σ1.nx∧lo = σ1.lo) (Classical.propDecidable _)) (fun _ _ _ _=>false)=true:=by
  rw[esc,lcL]
  rw[show N6=299 + 1 from rfl,Zks,glL]
  exact @decide_eq_true _ (Classical.propDecidable _) ⟨rfl,rfl,rfl,rfl⟩
 refine HA.ev _ hc F forY σ1 R1 _ _ run2 _ _ (fun σ2 v rv R2 X2 vr2 hk=>?_) PX.no
 obtain⟨rfl,h2,n2,l2⟩:=@of_decide_eq_true _ (Classical.propDecidable _) hk
 obtain⟨rfl,_⟩:=vr2
 rw[← X2.ρ 24 (by rw[n1]; decide)]
 obtain⟨its,il,_,vl⟩:=R2.isList (i:=24) (xs:=ZO (ns.take 16).length 100) (by unfold Zg onO; rw[h2,h1,Zm,if_pos rfl]; rfl)
 obtain⟨o,ho1,ho2⟩:∃ o,(K9 w.params).lookup Zc4=some o∧Zg5 o=true:=by
  have:=ZmH w.params
  cases q:(K9 w.params).lookup Zc4 with
  | none=>rw[q] at this; cases this
  | some o=>rw[q] at this; exact⟨o,rfl,this⟩
 obtain⟨jts,m,lc,ld,lI⟩:=ZiV ho2
 have im : σ2.s.heap.IsList Zc4 jts.toList.toArray:=⟨o,hc.X R2 _ _ ho1,lc,m,ld⟩
 have hI1:IntsAre its (ns.take 16):=Zep (ns.take 16) its 100 vl fun j hj=>by
  show Zbx (Zl ns) p (100 + j) = _
  rw[Zbz]
  unfold Zl
  rw[List.getD_eq_getElem?_getD,List.getD_eq_getElem?_getD,List.getElem?_append_left hj]
 have vall:VRs (g6 w mg mb mean s₁ sa (Zl ns) p) σ2 (ZO (Zl ns).length 100) (its++jts.toList):=ZcH (Zl ns) _ 100 (hI1.append lI) fun j _=>Zbz
 have hdl:(Zl ns).length≤20:=by unfold Zl; rw[List.length_append]; exact Nat.add_le_add hl18 (Nat.le_refl 4)
 refine add_lists R2.F R2.N il im (fun h' F' N'=>?_) ?_
 ·obtain⟨σ3,R3,X3,v3,e1,e2,e3,e4⟩:=R2.new1 (tk:=σ2.s.toks) (o:=.list (ZO (Zl ns).length 100)) F' N' R2.top rfl fun σ'' m Z=>⟨its++jts.toList,_,m,by rw[ZcG]; omega,vall.mono0 Z⟩
  have n27 : σ2.nx=25:=n2.trans n1
  rw[n27] at e1 e2 v3
  have e4 : σ3.s = { σ2.s with heap:=h' }:=e4
  rw[← e4]
  obtain⟨ev3,_⟩:=v3
  have:=hQ σ3 R3 (by rw[e1,h2,h1]; rfl) e2 (by rw[e3,l2,l1])
  rw[← ev3] at this
  exact this
 ·show its.length + jts.toList.length≤sizeLine
  rw[hI1.length,lI.length]
  exact Nat.le_trans (Nat.add_le_add hl18 (Nat.le_refl 4)) (by decide)
end
end
end Mn
end
section
set_option maxHeartbeats 0
open PySem PySem.W PyProof.Rows PySem.Calls PySem.Spec
namespace Mn
noncomputable section
theorem Zju (l l':List V):(Zcj l l').get 25=some (.list l'):=by unfold Zcj; rw[Zm,if_pos rfl]
theorem geA (i:Nat) (h1:i≠25) (h2:i≠24) (l l':List V):(Zcj l l').get i=heapA.get i:=by unfold Zcj; rw[Zm,if_neg h1,Zm,if_neg h2]
theorem gA14:heapA.get 14=some (.list []):=by kernel_rfl
theorem gA22:heapA.get 22=some (.list []):=by kernel_rfl
theorem gA23:heapA.get 23=some (.list []):=by kernel_rfl
theorem gA19:heapA.get 19=some (.dict []):=by kernel_rfl
section
variable {g:Gl} {c:Cx} {σ : St} {i:Nat}
structure Re (g:Gl) (c:Cx) (σ σ':St) (i:Nat) (o:O):Prop where
 R:Rel g c σ'
 X:Ext g c σ σ'
 h : σ'.h=hp σ.h i o
 nx : σ'.nx = σ.nx
 lo : σ'.lo = σ.lo
 s : σ'.s = σ.s
theorem Zie (R:Rel g c σ) (e : σ.h.get i=some (.list [])) (hg:g.gh 0 = []) (hc:g.cap≤900000):∃ σ',Re g c σ σ' i (.elist 2 []):=by
 obtain⟨its,k,m,z,vr⟩:ListR g σ _ []:=R.trk i _ e
 cases its with
 | cons _ _=>exact vr.elim
 | nil=>
  obtain⟨σ',R',X',e1,e2,e3,e4⟩:=R.redesc (tk:=σ.s.toks) (o2:=.elist 2 []) e rfl m fun σ' er en Z=>by
   show ORa g σ' (σ'.ρ (2 * i)) _ _
   rw[er]
   exact⟨[],[],k,by rw[en]; exact m,⟨by rw[hg]; trivial,by rw[hg]; nofun⟩,⟨Nat.zero_le _,hc,Nat.zero_le _⟩,trivial⟩
  exact⟨σ',R',X',e1,e2,e3,e4⟩
theorem ZlF (R:Rel g c σ) (e : σ.h.get i=some (.list [])) (hg:g.gh 1 = []) (hc:g.cap≤900000):∃ σ',Re g c σ σ' i (.elist 3 []):=by
 obtain⟨its,k,m,z,vr⟩:ListR g σ _ []:=R.trk i _ e
 cases its with
 | cons _ _=>exact vr.elim
 | nil=>
  obtain⟨σ',R',X',e1,e2,e3,e4⟩:=R.redesc (tk:=σ.s.toks) (o2:=.elist 3 []) e rfl m fun σ' er en Z=>by
   show ORa g σ' (σ'.ρ (2 * i)) _ _
   rw[er]
   exact⟨[],[],k,by rw[en]; exact m,⟨by rw[hg]; trivial,by rw[hg]; nofun⟩,⟨Nat.zero_le _,hc,Nat.zero_le _⟩,trivial⟩
  exact⟨σ',R',X',e1,e2,e3,e4⟩
theorem ZmI {k:Nat} (R:Rel g c σ) (e : σ.h.get i=some (.dict [])) (hg:∀ n,g.pm k n=0):∃ σ',Re g c σ σ' i (.pmap k []):=by
 obtain⟨ob,kvs,m,d,z,sr⟩:DictR g σ _ []:=R.trk i _ e
 cases kvs with
 | cons _ _=>exact sr.elim
 | nil=>
  obtain⟨σ',R',X',e1,e2,e3,e4⟩:=R.redesc (tk:=σ.s.toks) (o2:=.pmap k []) e rfl m fun σ' er en Z=>by
   show ORa g σ' (σ'.ρ (2 * i)) _ _
   rw[er]
   exact⟨ob,[],by rw[en]; exact m,d,z,nofun,fun x _=>⟨nofun,fun _=>by rw[hg]; rfl⟩⟩
  exact⟨σ',R',X',e1,e2,e3,e4⟩
end
section
variable {w:World} {mg mb:Str→Option Value} {mean:ExcName→Option Value} {s₁:Shared} {sa:Addr} {ns:List Int} {env:Env} {L:Addr} {σ : St} {fz:List (Addr × Obj)}
noncomputable def pI (fz:List (Addr × Obj)):Pr6:=⟨0,fun _=>0,fun _=>[],fun _ _=>0,1000,fz,[]⟩
noncomputable def pJ (x:Int) (fz:List (Addr × Obj)):Pr6:=⟨x,fun _=>0,fun _=>[],fun _ _=>0,2000,fz,[]⟩
theorem for6 (X:Fr6 w mg mb mean s₁ env L) (ho:∀ e ∈ oraB ns,OraOK (g6 w mg mb mean s₁ sa (Zl ns) (pI fz)) e)
  (hr:∀ cur failed js,okS6 cur failed js=true→Zd cur failed js=true)
  (R:Rel (g6 w mg mb mean s₁ sa (Zl ns) (pI fz)) (Zo env L cs6 (oraB ns)) σ) (hh : σ.h=heapA) (hn : σ.nx=24) (hlo : σ.lo=loA) {Q:Flow→Shared→Prop} {E:Value→Shared→Prop}
  (hQ:∀ p cur failed js σ,Rel (g6 w mg mb mean s₁ sa (Zl ns) p) (Zo env L cs6 []) σ→σ.h=st6 cur failed js→σ.nx=37→σ.lo=lo6 cur failed→okS6 cur failed js=true→p.cap≤22000→p.gd.length≤100→(p.gh 1).length≤20→(∀ v ∈ p.gh 1,v=end6)→Q .next σ.s) :
  wpAny (model rr9.prog w) (callerA.deeper env) (exec (.For forT (.BinOp forX .Add forY forQ) forB [] forP) env) Q E σ.s:=by
 have hl18:(ns.take 16).length≤16:=List.length_take_le _ _
 have hdl:(Zl ns).length≤20:=by unfold Zl; rw[List.length_append]; exact Nat.add_le_add hl18 (Nat.le_refl 4)
 refine wpAny_For (ZlE X ho R hh hn hlo fun σ1 R1 h1 n1 l1=>?_) (fun x=>rfl)
 have hx:Zas σ1.h (.ref 25) 0=some (ZO (Zl ns).length 100)[0]?:=by
  show @Option.rec (List V) (fun _=>Option (Option V)) none (fun l=>some l[0]?) (Zg σ1.h 25) = _
  rw[show Zg σ1.h 25=some (ZO (Zl ns).length 100) by unfold Zg onO; rw[h1,Zju]; rfl]
 refine Zfw R1 (v:=.ref 25) ⟨rfl,by rw[n1]; decide⟩ hx _ fun σ2 ita R2 X2 qt I2 fresh=>?_
 have H2 : σ2.h=Zcj (ZO (ns.take 16).length 100) (ZO (Zl ns).length 100):=qt.1.trans h1
 have N2 : σ2.nx=26:=qt.2.1.trans n1
 have L2 : σ2.lo=loA:=qt.2.2.1.trans l1
 obtain⟨σ3,S3⟩:=Zie (i:=14) R2 (by rw[H2,geA 14 (by decide) (by decide)]; exact gA14) rfl (show 1000≤900000 by decide)
 obtain⟨σ4,S4⟩:=Zie (i:=22) S3.R (by rw[S3.h,H2,Zm,if_neg (by decide),geA 22 (by decide) (by decide)]; exact gA22) rfl (show 1000≤900000 by decide)
 obtain⟨σ5,S5⟩:=ZlF (i:=23) S4.R (by rw[S4.h,S3.h,H2,Zm,if_neg (by decide),Zm,if_neg (by decide),geA 23 (by decide) (by decide)]; exact gA23) rfl (show 1000≤900000 by decide)
 obtain⟨σ6,S6⟩:=ZmI (i:=19) (k:=0) S5.R (by rw[S5.h,S4.h,S3.h,H2,Zm,if_neg (by decide),Zm,if_neg (by decide),Zm,if_neg (by decide),geA 19 (by decide) (by decide)]; exact gA19) fun _=>rfl
 have H6 : σ6.h=Zg4 (ZO (ns.take 16).length 100) (ZO (Zl ns).length 100):=by rw[S6.h,S5.h,S4.h,S3.h,H2]; rfl
 have L6 : σ6.lo=loA:=by rw[S6.lo,S5.lo,S4.lo,S3.lo,L2]
 have s6 : σ6.s = σ2.s:=by rw[S6.s,S5.s,S4.s,S3.s]
 have I6:=(((I2.mono S3.X R2).mono S4.X S3.R).mono S5.X S4.R).mono S6.X S5.R
 have sim:simB (qA [25]) numE idA σ6.h σ6.lo cs6 (st6 false false []) 37 (lo6 false false)=true:=by rw[H6,L6]; exact simI _ _
 have G:GlSame (qA [25]) σ6 (g6 w mg mb mean s₁ sa (Zl ns) (pI fz)) (g6 w mg mb mean s₁ sa (Zl ns) (pJ ((Zl ns).getD 0 0) (fz++Zar σ6 [25]))):=
  ⟨rfl,fun _ _=>rfl,rfl,rfl,rfl,rfl,show 0≤1000 by decide,⟨Nat.le_refl _,show 2000≤900000 by decide⟩,⟨rfl,show (0:Int)≤60 by decide⟩,rfl,rfl,rfl,rfl,rfl,rfl,rfl,rfl,rfl,rfl,rfl⟩
 have A:At6 w mg mb mean s₁ sa (Zl ns) env L 0 (pJ ((Zl ns).getD 0 0) (fz++Zar σ6 [25])) false false [] (reSt idA (st6 false false []) 37 (lo6 false false) σ6):=
  ⟨fun ora'=>S6.R.canon (hd':=⟨cs6,none,ora',true⟩) G Zc3 hU6 X.loc rfl rfl sim,rfl,rfl,rfl,rfl,fun _=>⟨fun _=>⟨Int.le_refl _,show (0:Int) < 2 by decide⟩,fun _=>rfl⟩,rfl,Nat.zero_le _,⟨Nat.zero_le _,nofun⟩⟩
 have e25 : σ6.h.get 25=some (.list (ZO (Zl ns).length 100)):=by rw[H6]; unfold Zg4; rw[Zm,if_neg (by decide),Zm,if_neg (by decide),Zm,if_neg (by decide),Zm,if_neg (by decide)]; exact Zju _ _
 obtain⟨its,k,m,z,vr3⟩:ListR _ σ6 _ _:=S6.R.trk 25 _ e25
 have hI:IntsAre its (Zl ns):=Zep (Zl ns) its 100 vr3 fun j _=>Zbz
 have fzm:(σ6.ρ (2 * 25),listOf its.toArray k) ∈ Zar σ6 [25]:=ZaC (.head _) e25 m
 have I:It6 (g6 w mg mb mean s₁ sa (Zl ns) (pJ ((Zl ns).getD 0 0) (fz++Zar σ6 [25]))) (reSt idA (st6 false false []) 37 (lo6 false false) σ6) ita (σ6.ρ (2 * 25)) 0:=by
  cases I6 with
  | list l i o hl q hc hd=>exact⟨o,(Za3 sim).pin G q,hc,hd⟩
 rw[← s6]
 exact ZmD X hdl hr hI ⟨A,rfl,List.mem_append_right _ fzm,I⟩ (Nat.zero_le _) hQ
end
end
end Mn
end
section
set_option maxHeartbeats 0
open PySem PySem.W PyProof.Rows PySem.Calls PySem.Spec
namespace Mn
noncomputable section
theorem Zif {env:Env} (l rest:List Stmt):execs (l++rest) env=(do match ← execs l env with | .next=>execs rest env | f=>pure f):=by
 induction l with
 | nil=>show execs rest env=(pure Flow.next >>= _); rw[pure_bind]
 | cons s l ih=>
  rw[List.cons_append,execs_cons,execs_cons,bind_assoc]
  refine congrArg (exec s env >>= ·) (funext fun f=>?_)
  cases f <;> first
   | exact ih
   | (show _=(pure _ >>= _); rw[pure_bind])
theorem Zd2 {M:Model} {A:Around} {env:Env} {l rest:List Stmt} {Q:Flow→Shared→Prop} {E:Value→Shared→Prop} {s:Shared}
  (h:wpAny M A (execs l env) (fun f s'=>match f with | .next=>wpAny M A (execs rest env) Q E s' | f=>Q f s') E s):wpAny M A (execs (l++rest) env) Q E s:=by
 rw[Zif]
 refine wpAny_bind (wpAny_mono h (fun f s' h'=>?_) fun _ _ x=>x)
 cases f <;> first | exact h' | exact wpAny_pure h'
theorem hgn9:(d9.scope.names.all fun y=>gd y.1)=true:=by kernel_rfl
theorem hnd9:ZM (d9.scope.names.map fun p=>enc p.1)=true:=by kernel_rfl
theorem hnc9:ZM ((cellsFrom 0 d9.scope.names []).map fun p=>enc p.1)=true:=by kernel_rfl
theorem hcd9 (P:Params):(tabs9.all fun q=>codeHdIn (K9 P) q.1 q.2.1)=true:=by kernel_rfl
theorem hnt9:ZM (tabs9.map (·.2.1))=true:=by kernel_rfl
theorem ZmJ (P:Params):noTabs (K9 P)=true:=by kernel_rfl
theorem Zkx (P:Params):tabIn (K9 P) "law" = some (1010,1008):=by kernel_rfl
theorem ZmK:(1010,1008,d9.name ++ ".<locals>.") ∈ tabs9:=by
 have e:((1010,1008,d9.name ++ ".<locals>."):Addr × Addr × Str)=(1010,1008,("law.<locals>." : Str)):=by kernel_rfl
 rw[e]; exact .head _
theorem hnm9:d9.name++(".<locals>." : Str) = "law.<locals>.":=by kernel_rfl
theorem ZlG:d9.name=("law" : Str):=by kernel_rfl
theorem hgx9:gd ("script" : Str)=true:=by kernel_rfl
theorem hlk9:d9.scope.names.lookup ("script" : Str)=some NameKind.local:=by kernel_rfl
theorem ZlH (pm cd doc v:Value):bindArgs (Calls.docDef d9.name d9.params d9.body d9.scope pm cd doc) ⟨[v],[]⟩=pure [(("script" : Str),v)]:=by kernel_rfl
theorem hdf9:d9.params.defaults = []:=by kernel_rfl
noncomputable def pA:Pr6:=⟨0,fun _=>0,fun _=>[],fun _ _=>0,0,[],[]⟩
theorem ZmT (hr:∀ cur failed js,okS6 cur failed js=true→Zd cur failed js=true):WalkO v9 lo9 (XL v9 []) ZdX rr9 d9 [] fun f vs=>PySem.call f vs:=by
 intro w s₀ s₁ mg mb G Y fa o pm cd doc dV kV ho hd hcd hD hmg hg args vals as hpre hlay hrd hwl hlo
 have X:=(Ground.X G).1
 refine Ground.open G ?_
 intro T B D TE TW
 clear G
 wrow_args hpre hlay hrd hwl hlo
 rename_i ns hs hlay0 hL1 hr1 hl2 as4 as3 sa vs as0 hL ra w1 r0 hI hr2 hcond hc2
 clear hs hlay0 hL1 hr1 hl2 ra w1 r0 hr2 hc2 D TE TW B X
 have he:=Dflts.none hD hdf9
 subst he
 have he:=Dflts.noKw hD
 subst he
 have hK:(K9 w.params).In s₁.heap:=kin9 Y
 have he:cd=.ref 1010:=law_code (x:="law") (c:=1010) (P:=1008) hK T.g (Zkx w.params) (by rw[← ZlG]; exact hmg) ho hd
 subst he
 have hlen:ns.length=vs.length:=hI.length.symm
 have h63:vs.length≤63:=by omega
 refine enter_call ?_
 refine Zms (prog:=rr9.prog) (w:=w) (K:=K9 w.params) (P:=P9) (p:=v9) (loose:=looseW v9 lo9) (mean:=ExcName.means s₀.heap) (mg:=mg) (mb:=mb) (tabs:=tabs9) (unk:=fun k v=>k=1→v=.ref sa) (sv:=fun _=>"") (sint:=Zbx (Zl ns) pA) (gh:=fun _=>[]) (abs:=fun _ _=>False) (pm':=fun _ _=>0) (pk:=pk6) (cap:=0) (x:="script") (Q:=1008)
  hK (ZmJ w.params) T rfl ho (fd_plain hd) hcd (ZlH pm (.ref 1010) doc (.ref sa)) hgx9 hlk9 (fun y hy=>List.all_eq_true.mp hgn9 y hy) (Za1 (by rw[List.map_map]; exact hnd9)) (Za1 (by rw[List.map_map]; exact hnc9)) (by kernel_rfl) (by kernel_rfl) (by kernel_rfl)
  (Zh7 Y) (fun q hq=>List.all_eq_true.mp (hcd9 w.params) q hq) (Zak hnt9) ZmK (fun _=>rfl) rfl (fun _ _=>rfl) hg
  (fun h=>⟨.bool true,.bool true,[],rfl,fun _=>rfl,.bool true,by kernel_rfl,fun _=>⟨List.nodup_nil,fun _ h=>nomatch h⟩⟩) Zid (fun env L cs σ escope eframe eglob eblt ecode equal hfr eloc hhd T0 K0 R hk hlo1=>?_)
 obtain⟨hcs,hk⟩:=Yb hk
 have hcs:=of_decide_eq_true hcs
 subst hcs
 have X:Fr6 w mg mb (ExcName.means s₀.heap) s₁ env L:=⟨escope,eframe,eglob,eblt,ecode,by rw[equal]; exact hnm9,hfr,eloc,hhd,T0,K0⟩
 have R:Rel (g6 w mg mb (ExcName.means s₀.heap) s₁ sa (Zl ns) pA) (Zo env L cs6 []) σ:=R
 have hTabs:TabsAt (ZI tabs9) s₁.heap:=fun q hq=>by
  obtain⟨q',hq',rfl⟩:=List.mem_map.mp hq
  exact⟨codeHd_of_K hK (List.all_eq_true.mp (hcd9 w.params) q' hq'),Zh7 Y q' hq'⟩
 have hLg:∀ fz,(g6 w mg mb (ExcName.means s₀.heap) s₁ sa (Zl ns) (pI fz)).base.IsList sa vs.toArray:=fun _=>ghost_list hTabs hL
 have hoB:∀ fz,∀ e ∈ oraB ns,OraOK (g6 w mg mb (ExcName.means s₀.heap) s₁ sa (Zl ns) (pI fz)) e:=fun fz=>Zkw (hLg fz) hI (by omega)
 have hc:=Zc2 (sa:=sa) (ds:=Zl ns) (p:=pA) X (ora:=[]) (fun e he=>absurd he List.not_mem_nil)
 have esc:∀ ora,(Zo env L cs6 ora).env.scope.names=ln9:=fun ora=>by show env.scope.names = _; rw[escope]; rfl
 have HA:∀ p,AllS (g6 w mg mb (ExcName.means s₀.heap) s₁ sa (Zl ns) p) (rec P9 N6) N6:=fun p=>ZcF N6
 rw[ZmG]
 refine Zd2 ?_
 rw[← hlo1] at hk
 refine(HA pA).ex _ hc rfl F ZfF σ R _ _ _ _ _ (by rw[esc,lcH]; exact hk) _ _ (fun σ1 R1 X1 hk1=>?_) (fun _ _ _ h=>by cases h) (fun _ _ _ h=>by cases h) (fun _ _ _ _ _ _ h=>by cases h) PX.no
 have sim:simB (qA [13]) numE idA σ1.h σ1.lo cs6 heapA 24 loA=true:=hk1
 have G:GlSame (qA [13]) σ1 (g6 w mg mb (ExcName.means s₀.heap) s₁ sa (Zl ns) pA) (g6 w mg mb (ExcName.means s₀.heap) s₁ sa (Zl ns) (pI (Zar σ1 [13]))):=
  ⟨rfl,fun _ _=>rfl,rfl,rfl,rfl,rfl,show 0≤1000 by decide,⟨Nat.le_refl _,show 1000≤900000 by decide⟩,⟨rfl,show (0:Int)≤60 by decide⟩,rfl,rfl,rfl,rfl,rfl,rfl,rfl,rfl,rfl,rfl,rfl⟩
 have R2:=R1.canon (hd':=⟨cs6,none,oraB ns,true⟩) G Zc3 hU6 eloc rfl rfl sim
 rw[execs_cons]
 refine wpAny_bind (for6 X (hoB _) hr R2 rfl rfl rfl fun p cur failed js σ3 R3 h3 n3 l3 ok3 cap3 gd3 ge3 gv3=>?_)
 show wpAny _ _ (execs (.For Zbe Zci Zby [] Zg3 :: Zc1) env) _ _ _
 rw[execs_cons]
 refine wpAny_bind (ZmF X R3 h3 n3 l3 ok3 cap3 gd3 ge3 gv3 fun p σ4 d hd R4 h4 n4 l4=>?_)
 show wpAny _ _ (execs Zc1 env) _ _ _
 have hb:(rec P9 N6).ex (cSs F (Zo env L cs6 []).env.scope.names Zc1) ⟨cs6,none,[],true⟩ σ4.h σ4.nx σ4.lo (fun _ _ _=>false) (fun _ _ _=>false) (fun _ _ _=>false) (fun v _ _ _=>Zq v (.bool true)) noX=true:=by
  rw[esc,h4,n4,l4]
  exact Zkv d hd
 refine(HA p).ex _ (Zc2 X (ora:=[]) (fun e he=>absurd he List.not_mem_nil)) rfl F Zc1 σ4 R4 _ _ _ _ _ hb _ _ PU.no PU.no PU.no (fun σ5 v rv R5 X5 vr hk5=>?_) PX.no
 obtain rfl:=ZaG hk5
 obtain rfl:rv=.bool true:=vr
 exact⟨rfl,_,_,σ5,R5,rfl,rfl,rfl,rfl,rfl⟩
end
end Mn
end
section
set_option maxHeartbeats 0
namespace Mn
theorem r42:Zd true false [0,1,2,3]=true:=by kernel_rfl
theorem r46:Zd true false [0,3,1,2]=true:=by kernel_rfl
theorem r50:Zd true false [1,2,0,3]=true:=by kernel_rfl
theorem r54:Zd true false [2,0,1,3]=true:=by kernel_rfl
theorem r58:Zd true false [2,3,0,1]=true:=by kernel_rfl
theorem r62:Zd true false [3,1,0,2]=true:=by kernel_rfl
theorem r107:Zd true true [0,1,2,3]=true:=by kernel_rfl
theorem r111:Zd true true [0,3,1,2]=true:=by kernel_rfl
theorem r115:Zd true true [1,2,0,3]=true:=by kernel_rfl
theorem r119:Zd true true [2,0,1,3]=true:=by kernel_rfl
theorem r123:Zd true true [2,3,0,1]=true:=by kernel_rfl
theorem r127:Zd true true [3,1,0,2]=true:=by kernel_rfl
theorem r18:Zd true false [0,1,2]=true:=by kernel_rfl
theorem r22:Zd true false [0,3,1]=true:=by kernel_rfl
theorem r26:Zd true false [1,2,0]=true:=by kernel_rfl
theorem r30:Zd true false [2,0,1]=true:=by kernel_rfl
theorem r34:Zd true false [2,3,0]=true:=by kernel_rfl
theorem r38:Zd true false [3,1,0]=true:=by kernel_rfl
theorem r83:Zd true true [0,1,2]=true:=by kernel_rfl
theorem r87:Zd true true [0,3,1]=true:=by kernel_rfl
theorem r91:Zd true true [1,2,0]=true:=by kernel_rfl
theorem r95:Zd true true [2,0,1]=true:=by kernel_rfl
theorem r99:Zd true true [2,3,0]=true:=by kernel_rfl
theorem r103:Zd true true [3,1,0]=true:=by kernel_rfl
theorem r6:Zd true false [0,1]=true:=by kernel_rfl
theorem r10:Zd true false [1,2]=true:=by kernel_rfl
theorem r14:Zd true false [2,3]=true:=by kernel_rfl
theorem r71:Zd true true [0,1]=true:=by kernel_rfl
theorem r75:Zd true true [1,2]=true:=by kernel_rfl
theorem r79:Zd true true [2,3]=true:=by kernel_rfl
theorem r2:Zd true false [0]=true:=by kernel_rfl
theorem r67:Zd true true [0]=true:=by kernel_rfl
theorem r0:Zd false false []=true:=by kernel_rfl
end Mn
end
section
set_option maxHeartbeats 0
namespace Mn
theorem r43:Zd true false [0,1,3,2]=true:=by kernel_rfl
theorem r47:Zd true false [0,3,2,1]=true:=by kernel_rfl
theorem r51:Zd true false [1,2,3,0]=true:=by kernel_rfl
theorem r55:Zd true false [2,0,3,1]=true:=by kernel_rfl
theorem r59:Zd true false [2,3,1,0]=true:=by kernel_rfl
theorem r63:Zd true false [3,1,2,0]=true:=by kernel_rfl
theorem r108:Zd true true [0,1,3,2]=true:=by kernel_rfl
theorem r112:Zd true true [0,3,2,1]=true:=by kernel_rfl
theorem r116:Zd true true [1,2,3,0]=true:=by kernel_rfl
theorem r120:Zd true true [2,0,3,1]=true:=by kernel_rfl
theorem r124:Zd true true [2,3,1,0]=true:=by kernel_rfl
theorem r128:Zd true true [3,1,2,0]=true:=by kernel_rfl
theorem r19:Zd true false [0,1,3]=true:=by kernel_rfl
theorem r23:Zd true false [0,3,2]=true:=by kernel_rfl
theorem r27:Zd true false [1,2,3]=true:=by kernel_rfl
theorem r31:Zd true false [2,0,3]=true:=by kernel_rfl
theorem r35:Zd true false [2,3,1]=true:=by kernel_rfl
theorem r39:Zd true false [3,1,2]=true:=by kernel_rfl
theorem r84:Zd true true [0,1,3]=true:=by kernel_rfl
theorem r88:Zd true true [0,3,2]=true:=by kernel_rfl
theorem r92:Zd true true [1,2,3]=true:=by kernel_rfl
theorem r96:Zd true true [2,0,3]=true:=by kernel_rfl
theorem r100:Zd true true [2,3,1]=true:=by kernel_rfl
theorem r104:Zd true true [3,1,2]=true:=by kernel_rfl
theorem r7:Zd true false [0,2]=true:=by kernel_rfl
theorem r11:Zd true false [1,3]=true:=by kernel_rfl
theorem r15:Zd true false [3,0]=true:=by kernel_rfl
theorem r72:Zd true true [0,2]=true:=by kernel_rfl
theorem r76:Zd true true [1,3]=true:=by kernel_rfl
theorem r80:Zd true true [3,0]=true:=by kernel_rfl
theorem r3:Zd true false [1]=true:=by kernel_rfl
theorem r68:Zd true true [1]=true:=by kernel_rfl
theorem r1:Zd true false []=true:=by kernel_rfl
end Mn
end
section
set_option maxHeartbeats 0
namespace Mn
theorem r44:Zd true false [0,2,1,3]=true:=by kernel_rfl
theorem r48:Zd true false [1,0,2,3]=true:=by kernel_rfl
theorem r52:Zd true false [1,3,0,2]=true:=by kernel_rfl
theorem r56:Zd true false [2,1,0,3]=true:=by kernel_rfl
theorem r60:Zd true false [3,0,1,2]=true:=by kernel_rfl
theorem r64:Zd true false [3,2,0,1]=true:=by kernel_rfl
theorem r109:Zd true true [0,2,1,3]=true:=by kernel_rfl
theorem r113:Zd true true [1,0,2,3]=true:=by kernel_rfl
theorem r117:Zd true true [1,3,0,2]=true:=by kernel_rfl
theorem r121:Zd true true [2,1,0,3]=true:=by kernel_rfl
theorem r125:Zd true true [3,0,1,2]=true:=by kernel_rfl
theorem r129:Zd true true [3,2,0,1]=true:=by kernel_rfl
theorem r20:Zd true false [0,2,1]=true:=by kernel_rfl
theorem r24:Zd true false [1,0,2]=true:=by kernel_rfl
theorem r28:Zd true false [1,3,0]=true:=by kernel_rfl
theorem r32:Zd true false [2,1,0]=true:=by kernel_rfl
theorem r36:Zd true false [3,0,1]=true:=by kernel_rfl
theorem r40:Zd true false [3,2,0]=true:=by kernel_rfl
theorem r85:Zd true true [0,2,1]=true:=by kernel_rfl
theorem r89:Zd true true [1,0,2]=true:=by kernel_rfl
theorem r93:Zd true true [1,3,0]=true:=by kernel_rfl
theorem r97:Zd true true [2,1,0]=true:=by kernel_rfl
theorem r101:Zd true true [3,0,1]=true:=by kernel_rfl
theorem r105:Zd true true [3,2,0]=true:=by kernel_rfl
theorem r8:Zd true false [0,3]=true:=by kernel_rfl
theorem r12:Zd true false [2,0]=true:=by kernel_rfl
theorem r16:Zd true false [3,1]=true:=by kernel_rfl
theorem r73:Zd true true [0,3]=true:=by kernel_rfl
theorem r77:Zd true true [2,0]=true:=by kernel_rfl
theorem r81:Zd true true [3,1]=true:=by kernel_rfl
theorem r4:Zd true false [2]=true:=by kernel_rfl
theorem r69:Zd true true [2]=true:=by kernel_rfl
theorem r66:Zd true true []=true:=by kernel_rfl
end Mn
end
section
set_option maxHeartbeats 0
namespace Mn
theorem r45:Zd true false [0,2,3,1]=true:=by kernel_rfl
theorem r49:Zd true false [1,0,3,2]=true:=by kernel_rfl
theorem r53:Zd true false [1,3,2,0]=true:=by kernel_rfl
theorem r57:Zd true false [2,1,3,0]=true:=by kernel_rfl
theorem r61:Zd true false [3,0,2,1]=true:=by kernel_rfl
theorem r65:Zd true false [3,2,1,0]=true:=by kernel_rfl
theorem r110:Zd true true [0,2,3,1]=true:=by kernel_rfl
theorem r114:Zd true true [1,0,3,2]=true:=by kernel_rfl
theorem r118:Zd true true [1,3,2,0]=true:=by kernel_rfl
theorem r122:Zd true true [2,1,3,0]=true:=by kernel_rfl
theorem r126:Zd true true [3,0,2,1]=true:=by kernel_rfl
theorem r130:Zd true true [3,2,1,0]=true:=by kernel_rfl
theorem r21:Zd true false [0,2,3]=true:=by kernel_rfl
theorem r25:Zd true false [1,0,3]=true:=by kernel_rfl
theorem r29:Zd true false [1,3,2]=true:=by kernel_rfl
theorem r33:Zd true false [2,1,3]=true:=by kernel_rfl
theorem r37:Zd true false [3,0,2]=true:=by kernel_rfl
theorem r41:Zd true false [3,2,1]=true:=by kernel_rfl
theorem r86:Zd true true [0,2,3]=true:=by kernel_rfl
theorem r90:Zd true true [1,0,3]=true:=by kernel_rfl
theorem r94:Zd true true [1,3,2]=true:=by kernel_rfl
theorem r98:Zd true true [2,1,3]=true:=by kernel_rfl
theorem r102:Zd true true [3,0,2]=true:=by kernel_rfl
theorem r106:Zd true true [3,2,1]=true:=by kernel_rfl
theorem r9:Zd true false [1,0]=true:=by kernel_rfl
theorem r13:Zd true false [2,1]=true:=by kernel_rfl
theorem r17:Zd true false [3,2]=true:=by kernel_rfl
theorem r74:Zd true true [1,0]=true:=by kernel_rfl
theorem r78:Zd true true [2,1]=true:=by kernel_rfl
theorem r82:Zd true true [3,2]=true:=by kernel_rfl
theorem r5:Zd true false [3]=true:=by kernel_rfl
theorem r70:Zd true true [3]=true:=by kernel_rfl
end Mn
end
section
set_option maxHeartbeats 0
open PySem PySem.W PyProof.Rows PySem.Calls PySem.Spec
namespace Mn
noncomputable section
theorem all_cons {α : Type} {P : α→Prop} {x : α} {l:List α} (h:P x) (t:∀ y ∈ l,P y):∀ y ∈ x :: l,P y:=fun y hy=>by
 rcases List.mem_cons.mp hy with rfl | hy
 ·exact h
 ·exact t y hy
theorem Zg6:∀ js ∈ all6,Zd true false js=true:=all_cons r1 (all_cons r2 (all_cons r3 (all_cons r4 (all_cons r5 (all_cons r6 (all_cons r7 (all_cons r8 (all_cons r9 (all_cons r10 (all_cons r11 (all_cons r12 (all_cons r13 (all_cons r14 (all_cons r15 (all_cons r16 (all_cons r17 (all_cons r18 (all_cons r19 (all_cons r20 (all_cons r21 (all_cons r22 (all_cons r23 (all_cons r24 (all_cons r25 (all_cons r26 (all_cons r27 (all_cons r28 (all_cons r29 (all_cons r30 (all_cons r31 (all_cons r32 (all_cons r33 (all_cons r34 (all_cons r35 (all_cons r36 (all_cons r37 (all_cons r38 (all_cons r39 (all_cons r40 (all_cons r41 (all_cons r42 (all_cons r43 (all_cons r44 (all_cons r45 (all_cons r46 (all_cons r47 (all_cons r48 (all_cons r49 (all_cons r50 (all_cons r51 (all_cons r52 (all_cons r53 (all_cons r54 (all_cons r55 (all_cons r56 (all_cons r57 (all_cons r58 (all_cons r59 (all_cons r60 (all_cons r61 (all_cons r62 (all_cons r63 (all_cons r64 (all_cons r65 (nofun)))))))))))))))))))))))))))))))))))))))))))))))))))))))))))))))))
theorem Zig:∀ js ∈ all6,Zd true true js=true:=all_cons r66 (all_cons r67 (all_cons r68 (all_cons r69 (all_cons r70 (all_cons r71 (all_cons r72 (all_cons r73 (all_cons r74 (all_cons r75 (all_cons r76 (all_cons r77 (all_cons r78 (all_cons r79 (all_cons r80 (all_cons r81 (all_cons r82 (all_cons r83 (all_cons r84 (all_cons r85 (all_cons r86 (all_cons r87 (all_cons r88 (all_cons r89 (all_cons r90 (all_cons r91 (all_cons r92 (all_cons r93 (all_cons r94 (all_cons r95 (all_cons r96 (all_cons r97 (all_cons r98 (all_cons r99 (all_cons r100 (all_cons r101 (all_cons r102 (all_cons r103 (all_cons r104 (all_cons r105 (all_cons r106 (all_cons r107 (all_cons r108 (all_cons r109 (all_cons r110 (all_cons r111 (all_cons r112 (all_cons r113 (all_cons r114 (all_cons r115 (all_cons r116 (all_cons r117 (all_cons r118 (all_cons r119 (all_cons r120 (all_cons r121 (all_cons r122 (all_cons r123 (all_cons r124 (all_cons r125 (all_cons r126 (all_cons r127 (all_cons r128 (all_cons r129 (all_cons r130 (nofun)))))))))))))))))))))))))))))))))))))))))))))))))))))))))))))))))
theorem ZmR (cur failed:Bool) (js:List Nat) (h:okS6 cur failed js=true):Zd cur failed js=true:=by
 cases cur with
 | true=>
  obtain⟨l,hl,e⟩:=List.any_eq_true.mp (show all6.any (beqN js)=true from h)
  obtain rfl:=Zad e
  cases failed with
  | true=>exact Zig js hl
  | false=>exact Zg6 js hl
 | false=>
  obtain⟨a,b⟩:=Yb (show (!failed&&js.isEmpty)=true from h)
  obtain rfl:=List.isEmpty_iff.mp b
  cases failed with
  | true=>cases a
  | false=>exact r0
end
end Mn
end
set_option maxHeartbeats 4000000 in
theorem PySem.Challenge.cw_jg0043_06_holds : PySem.Challenge.rw_jg0043_06.Holds :=
 Mn.ZmS (Mn.ZmT Mn.ZmR)
